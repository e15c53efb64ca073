import JvmDerived
import JvmDerived.Pilot.@@N@@Statement
import JvmDerived.Pilot.@@N@@Code
set_option linter.unusedVariables false
set_option linter.unusedSimpArgs false
namespace Jvm.RoadKit
open Sem ClassFile Op Lib Jvm.Stand Jvm.Free Jvm.LawKit
section New
variable {p : Program} {l : Launch} {e : Env} {R : Room} {s : State} {m : MethodId} {args : Array Value} {below : List Frame} {meth : Method} {c : Code} {T : State} {locs : List Loc} {cells slots : Nat}
theorem retI (X : Stand p l e R s m args below meth c T locs cells slots) (hx : p.tables.exec = Jvm.exec) {pc : Nat} {Ls : Array Slot} {z : Int32} {rest : List Value} (hret : meth.sig.returnType = some .int) (hd : decode c.code pc = .ok (.ireturn, 1)) {fs : List Frame}
    (hl : ∀ (f : JFrame) (acts : List Action), f.method = m → f.locked = none → f.entered = [] → (doReturn e (T.setTop f) acts (some (.int z))).1 = T.setFrames fs) : Steps p.tables e below (T.setTop (mkF m pc Ls (.int z :: rest))) (T.setFrames fs) := by
  have hm' : T.vm.method? m = some meth := X.method'
  have hn : narrow .int (.int z) = .int z := rfl
  show Steps p.tables e below (T.setTop { method := m, pc := pc, locals := Ls, stack := _ :: rest, locked := none }) _
  jvm_step X.here [X.here.top, hx, hd, hm', hret, hn]
  first | (intro acts; rw [hl _ acts rfl rfl rfl]) | rw [hl _ _ rfl rfl rfl]
  exact Steps.refl _
end New
end Jvm.RoadKit
/- laws to paste: Road.backV, Road.lenW, Road.chN, Road.empW, Road.codOf (cut by pick.py; bodies as the Statement names them) -/
namespace Jvm.Pilot.@@N@@
namespace StrChars
open Jvm Sem ClassFile Op Lib Jvm.Stand Jvm.Free.XT Jvm.Free.ALB Jvm.Free.JM Jvm.Free
open Jvm.Lib.Cold (StaticIs)
/-- a char array whose places are chars -/
def Ch (a : Addr) (A : Cell) (U : State) : Prop := Arr .char a A U ∧ Typed .char A
theorem Ch.mv {a : Addr} {A : Cell} {U U' : State} (h : Ch a A U) (hal : U.vm.Alike U'.vm) (hh : U'.heap = U.heap) : Ch a A U' := ⟨h.1.mv hal hh, h.2⟩
theorem Ch.keep {a : Addr} {A : Cell} {U U' : State} (h : Ch a A U) (hal : U.vm.Alike U'.vm) (hk : U'.heap[a]? = some A) : Ch a A U' := ⟨h.1.keep hal hk, h.2⟩
/-- what place i of a char[]'s cell holds -/
def cv (A : Cell) (i : Nat) : Int32 := match A.slots[i]? with | some (.int x) => x | _ => 0
theorem Ch.get {a : Addr} {A : Cell} {U : State} (h : Ch a A U) {i : Nat} (hi : i < A.slots.size) : A.slots[i]? = some (.int (cv A i)) := by
  have e := Array.getElem?_eq_getElem hi
  have f := h.2 i _ e
  unfold cv; rw [e]
  generalize A.slots[i] = v at f
  cases v <;> simp [fits] at f ⊢
/-- the byte that i2b leaves of a char -/
def lo8 (x : Int32) : Int32 := x.toInt8.toInt32
theorem fits_lo8 (y : Int32) : fits .byte (.int (lo8 y)) = true := by
  have h1 := y.toInt8.le_toInt
  have h2 := y.toInt8.toInt_lt
  simp only [lo8, fits, Bool.and_eq_true, decide_eq_true_eq, Int32.le_iff_toInt_le, Int8.toInt_toInt32, show (-128 : Int32).toInt = -128 from by decide, show (127 : Int32).toInt = 127 from by decide]
  omega
/-- A' is A but that each place j of lo .. hi - 1 holds f j -/
def Laid (A A' : Cell) (lo hi : Nat) (f : Nat → Value) : Prop := A'.cls = A.cls ∧ A'.vm = A.vm ∧ A'.slots.size = A.slots.size ∧ ∀ i, A'.slots[i]? = if lo ≤ i ∧ i < hi then some (f i) else A.slots[i]?
theorem Laid.zero (A : Cell) (lo : Nat) (f : Nat → Value) : Laid A A lo (lo + 0) f := ⟨rfl, rfl, rfl, fun i => by rw [if_neg (by omega)]⟩
theorem Laid.step {A Ak : Cell} {lo k : Nat} {f : Nat → Value} {v : Value} (h : Laid A Ak lo k f) (hlo : lo ≤ k) (hk : k < Ak.slots.size) (hv : v = f k) : Laid A (Ak.setSlot k v) lo (k + 1) f := by
  refine ⟨h.1, h.2.1, by simpa [Cell.setSlot] using h.2.2.1, fun i => ?_⟩
  by_cases e : k = i
  · subst e; rw [Cell.slots_setSlot_self v hk, if_pos (by omega), hv]
  · rw [Cell.slots_setSlot_ne v e, h.2.2.2 i]
    by_cases q : lo ≤ i ∧ i < k
    · rw [if_pos q, if_pos (by omega)]
    · rw [if_neg q, if_neg (by omega)]
def U16 : String := "java/lang/StringUTF16"
namespace Cmp5
def yN : MethodName := ⟨"java/lang/StringUTF16", "compress", "([CI[BII)I"⟩
abbrev yB : ByteArray := jdk_52_method_21_code
theorem d0 : decode yB 0 = .ok (.iconst 0, 1) := by decide +kernel
theorem d1 : decode yB 1 = .ok (.istore 5, 2) := by decide +kernel
theorem d3 : decode yB 3 = .ok (.iload 5, 2) := by decide +kernel
theorem d5 : decode yB 5 = .ok (.iload 4, 2) := by decide +kernel
theorem d7 : decode yB 7 = .ok (.if_icmp (.ge) 37, 3) := by decide +kernel
theorem d10 : decode yB 10 = .ok (.aload_n 0, 1) := by decide +kernel
theorem d11 : decode yB 11 = .ok (.iload_n 1, 1) := by decide +kernel
theorem d12 : decode yB 12 = .ok (.caload, 1) := by decide +kernel
theorem d13 : decode yB 13 = .ok (.istore 6, 2) := by decide +kernel
theorem d15 : decode yB 15 = .ok (.iload 6, 2) := by decide +kernel
theorem d17 : decode yB 17 = .ok (.sipush 255, 3) := by decide +kernel
theorem d20 : decode yB 20 = .ok (.if_icmp (.le) 6, 3) := by decide +kernel
theorem d26 : decode yB 26 = .ok (.aload_n 2, 1) := by decide +kernel
theorem d27 : decode yB 27 = .ok (.iload_n 3, 1) := by decide +kernel
theorem d28 : decode yB 28 = .ok (.iload 6, 2) := by decide +kernel
theorem d30 : decode yB 30 = .ok (.i2b, 1) := by decide +kernel
theorem d31 : decode yB 31 = .ok (.bastore, 1) := by decide +kernel
theorem d32 : decode yB 32 = .ok (.iinc 1 1, 3) := by decide +kernel
theorem d35 : decode yB 35 = .ok (.iinc 3 1, 3) := by decide +kernel
theorem d38 : decode yB 38 = .ok (.iinc 5 1, 3) := by decide +kernel
theorem d41 : decode yB 41 = .ok (.goto (-38), 3) := by decide +kernel
theorem d44 : decode yB 44 = .ok (.iload 4, 2) := by decide +kernel
theorem d46 : decode yB 46 = .ok (.ireturn, 1) := by decide +kernel
def site : List Cond := []
def tab : Cond := tabOf yN yB 7 (some .int) site
def P (b : Addr) (A : Cell) (d : Addr) (B : Cell) (o q len : Nat) (args : Array Value) (s : State) : Prop := args = #[.ref b, .int (Int32.ofNat o), .ref d, .int (Int32.ofNat q), .int (Int32.ofNat len)] ∧ Ch b A s ∧ Arr .byte d B s ∧ b ≠ d ∧ o + len ≤ A.slots.size ∧ q + len ≤ B.slots.size ∧ ∀ i, i < len → ¬ 255 < cv A (o + i)
def E (b : Addr) (A : Cell) (d : Addr) (B : Cell) (o q len : Nat) (r : Option Value) (s u : State) : Prop := r = some (.int (Int32.ofNat len)) ∧ ∃ B', Put d B' s u ∧ Laid B B' q (q + len) (fun j => Value.int (lo8 (cv A (o + (j - q)))))
/-- no char of the range above 255: len; the places written hold each char's low byte -/
theorem law (l : Launch) (b : Addr) (A : Cell) (d : Addr) (B : Cell) (o q len : Nat) : Law l yN 5 5 0 0 yB 7 (some .int) site (P b A d B o q len) (E b A d B o q len) (copyLocs d q len) 0 0 := by
  refine Law.of_walk (plainFor_of_name (by decide +kernel)) (by decide +kernel) (by decide +kernel) (by decide) (fun _ _ h => by rw [h.1]; rfl) (fun _ U U' hal hh h => ⟨h.1, h.2.1.mv hal hh, h.2.2.1.mv hal hh, h.2.2.2⟩) (fun r U U' V V' h1 hal h2 h => ⟨h.1, h.2.elim fun B' q => ⟨B', q.1.mv h1 h2, q.2⟩⟩) ?_
  intro p e s m args below meth c s₁ X0 hexec hbytes hml hret hlk hnm hown hh0 W hP
  obtain ⟨rfl, hA, hB, hne, l1, l2, hp⟩ := hP
  have c1 : Steps p.tables e below (s₁.setTop (entryFrame m #[.ref b, .int (Int32.ofNat o), .ref d, .int (Int32.ofNat q), .int (Int32.ofNat len)] 7)) (s₁.setTop (mkF m 0 #[.val (.ref b), .val (.int (Int32.ofNat o)), .val (.ref d), .val (.int (Int32.ofNat q)), .val (.int (Int32.ofNat len)), .unset, .unset] [])) := entry rfl
  have hA0 := hA.1.mv X0.warmed.alike hh0
  have hB0 := hB.mv X0.warmed.alike hh0
  have a31 := hA.1.2.2.2
  have c2 : Steps p.tables e below (s₁.setTop (entryFrame m #[.ref b, .int (Int32.ofNat o), .ref d, .int (Int32.ofNat q), .int (Int32.ofNat len)] 7)) (s₁.setTop (mkF m 3 #[.val (.ref b), .val (.int (Int32.ofNat o)), .val (.ref d), .val (.int (Int32.ofNat q)), .val (.int (Int32.ofNat len)), .val (.int 0), .unset] [])) := c1.trans (by
    refine iconstV X0.here hexec rfl 0 (hb hbytes d0) (by decide) ?_
    refine XS.istore X0.here hexec rfl (hb hbytes d1) rfl rfl ?_
    exact Steps.refl _)
  have loop : ∀ (r i : Nat), i + r = len → ∀ (z : Slot), (z = .unset ∨ ∃ w, z = .val w ∧ w.category = 1) → ∀ (Tl : State) (Bk : Cell), Stand p l e { frames := 0, locals := 0, cells := 0, slots := 0 } s m #[.ref b, .int (Int32.ofNat o), .ref d, .int (Int32.ofNat q), .int (Int32.ofNat len)] below meth c Tl ([] ++ copyLocs d q i) 0 0 → Put d Bk s₁ Tl → Laid B Bk q (q + i) (fun j => Value.int (lo8 (cv A (o + (j - q))))) →
      Steps p.tables e below (s₁.setTop (entryFrame m #[.ref b, .int (Int32.ofNat o), .ref d, .int (Int32.ofNat q), .int (Int32.ofNat len)] 7)) (Tl.setTop (mkF m 3 #[.val (.ref b), .val (.int (Int32.ofNat (o + i))), .val (.ref d), .val (.int (Int32.ofNat (q + i))), .val (.int (Int32.ofNat len)), .val (.int (Int32.ofNat i)), z] [])) → ∃ (T' : State) (B' : Cell) (z' : Slot), Stand p l e { frames := 0, locals := 0, cells := 0, slots := 0 } s m #[.ref b, .int (Int32.ofNat o), .ref d, .int (Int32.ofNat q), .int (Int32.ofNat len)] below meth c T' ([] ++ copyLocs d q len) 0 0 ∧ Put d B' s₁ T' ∧ Laid B B' q (q + len) (fun j => Value.int (lo8 (cv A (o + (j - q))))) ∧
      Steps p.tables e below (s₁.setTop (entryFrame m #[.ref b, .int (Int32.ofNat o), .ref d, .int (Int32.ofNat q), .int (Int32.ofNat len)] 7)) (T'.setTop (mkF m 3 #[.val (.ref b), .val (.int (Int32.ofNat (o + len))), .val (.ref d), .val (.int (Int32.ofNat (q + len))), .val (.int (Int32.ofNat len)), .val (.int (Int32.ofNat len)), z'] [])) := by
    intro r
    induction r with
    | zero =>
      intro i hi z hz Tl Bk Xl pl fl cl
      have hil : i = len := by omega
      rw [hil] at Xl fl cl
      exact ⟨Tl, Bk, z, Xl, pl, fl, cl⟩
    | succ r ih =>
      intro i hi z hz Tl Bk Xl pl fl cl
      have all := X0.warmed.alike.symm.trans Xl.warmed.alike
      have hAl := hA0.keep all (pl.other hne hA0.1)
      have hBk := hB0.like all pl.1 fl.1 fl.2.1 fl.2.2.1
      have hlt : q + i < Bk.slots.size := by rw [fl.2.2.1]; omega
      have c3 : Steps p.tables e below (s₁.setTop (entryFrame m #[.ref b, .int (Int32.ofNat o), .ref d, .int (Int32.ofNat q), .int (Int32.ofNat len)] 7)) (Tl.setTop (mkF m 12 #[.val (.ref b), .val (.int (Int32.ofNat (o + i))), .val (.ref d), .val (.int (Int32.ofNat (q + i))), .val (.int (Int32.ofNat len)), .val (.int (Int32.ofNat i)), z] [.int (Int32.ofNat (o + i)), .ref b])) := cl.trans (by
        refine XS.iload Xl.here hexec rfl (hb hbytes d3) rfl ?_
        refine XS.iload Xl.here hexec rfl (hb hbytes d5) rfl ?_
        refine XS.icmpNo Xl.here hexec rfl (hb hbytes d7) rfl (ii_ge_f (lt32 (by omega) (by omega))) ?_
        refine XS.aloadN Xl.here hexec rfl (hb hbytes d10) rfl rfl ?_
        refine XS.iloadN Xl.here hexec rfl (hb hbytes d11) rfl ?_
        exact Steps.refl _)
      have c4 : Steps p.tables e below (s₁.setTop (entryFrame m #[.ref b, .int (Int32.ofNat o), .ref d, .int (Int32.ofNat q), .int (Int32.ofNat len)] 7)) (Tl.setTop (mkF m 13 #[.val (.ref b), .val (.int (Int32.ofNat (o + i))), .val (.ref d), .val (.int (Int32.ofNat (q + i))), .val (.int (Int32.ofNat len)), .val (.int (Int32.ofNat i)), z] [.int (cv A (o + i))])) := c3.trans (by
        refine Xl.aget hexec hAl rfl (hA.get (i := o + i) (by omega)) rfl rfl (hb hbytes d12) ?_
        exact Steps.refl _)
      have c5 : Steps p.tables e below (s₁.setTop (entryFrame m #[.ref b, .int (Int32.ofNat o), .ref d, .int (Int32.ofNat q), .int (Int32.ofNat len)] 7)) (Tl.setTop (mkF m 15 #[.val (.ref b), .val (.int (Int32.ofNat (o + i))), .val (.ref d), .val (.int (Int32.ofNat (q + i))), .val (.int (Int32.ofNat len)), .val (.int (Int32.ofNat i)), .val (.int (cv A (o + i)))] [])) := c4.trans (by
        refine XS.istoreS Xl.here hexec rfl (hb hbytes d13) rfl rfl hz ?_
        exact Steps.refl _)
      have c6 : Steps p.tables e below (s₁.setTop (entryFrame m #[.ref b, .int (Int32.ofNat o), .ref d, .int (Int32.ofNat q), .int (Int32.ofNat len)] 7)) (Tl.setTop (mkF m 31 #[.val (.ref b), .val (.int (Int32.ofNat (o + i))), .val (.ref d), .val (.int (Int32.ofNat (q + i))), .val (.int (Int32.ofNat len)), .val (.int (Int32.ofNat i)), .val (.int (cv A (o + i)))] [.int (lo8 (cv A (o + i))), .int (Int32.ofNat (q + i)), .ref d])) := c5.trans (by
        refine XS.iload Xl.here hexec rfl (hb hbytes d15) rfl ?_
        refine sipushV Xl.here hexec rfl 255 (hb hbytes d17) (by decide) ?_
        refine XS.icmpYes Xl.here hexec rfl (pc0 := 20) rfl (hb hbytes d20) rfl (ii_le_t (hp i (by omega))) (by decide) rfl ?_
        refine XS.aloadN Xl.here hexec rfl (hb hbytes d26) rfl rfl ?_
        refine XS.iloadN Xl.here hexec rfl (hb hbytes d27) rfl ?_
        refine XS.iload Xl.here hexec rfl (hb hbytes d28) rfl ?_
        refine i2b Xl.here hexec rfl (hb hbytes d30) rfl ?_
        exact Steps.refl _)
      obtain ⟨T7, X7, p7, st7⟩ := Xl.aput hexec hBk rfl hlt rfl (fits_lo8 (cv A (o + i))) (g := (mkF m 31 #[.val (.ref b), .val (.int (Int32.ofNat (o + i))), .val (.ref d), .val (.int (Int32.ofNat (q + i))), .val (.int (Int32.ofNat len)), .val (.int (Int32.ofNat i)), .val (.int (cv A (o + i)))] [.int (lo8 (cv A (o + i))), .int (Int32.ofNat (q + i)), .ref d])) rfl (rest := []) rfl (hb hbytes d31)
      have c8 : Steps p.tables e below (s₁.setTop (entryFrame m #[.ref b, .int (Int32.ofNat o), .ref d, .int (Int32.ofNat q), .int (Int32.ofNat len)] 7)) (T7.setTop (mkF m 32 #[.val (.ref b), .val (.int (Int32.ofNat (o + i))), .val (.ref d), .val (.int (Int32.ofNat (q + i))), .val (.int (Int32.ofNat len)), .val (.int (Int32.ofNat i)), .val (.int (cv A (o + i)))] [])) := c6.trans (st7 _ (Steps.refl _))
      have c9 : Steps p.tables e below (s₁.setTop (entryFrame m #[.ref b, .int (Int32.ofNat o), .ref d, .int (Int32.ofNat q), .int (Int32.ofNat len)] 7)) (T7.setTop (mkF m 3 #[.val (.ref b), .val (.int (Int32.ofNat (o + i) + 1)), .val (.ref d), .val (.int (Int32.ofNat (q + i) + 1)), .val (.int (Int32.ofNat len)), .val (.int (Int32.ofNat i + 1)), .val (.int (cv A (o + i)))] [])) := c8.trans (by
        refine iincV X7.here hexec rfl 1 (hb hbytes d32) (by decide) rfl rfl ?_
        refine iincV X7.here hexec rfl 1 (hb hbytes d35) (by decide) rfl rfl ?_
        refine iincV X7.here hexec rfl 1 (hb hbytes d38) (by decide) rfl rfl ?_
        refine XS.goto X7.here hexec rfl (pc0 := 41) rfl (hb hbytes d41) (by decide) rfl ?_
        exact Steps.refl _)
      have c10 : Steps p.tables e below (s₁.setTop (entryFrame m #[.ref b, .int (Int32.ofNat o), .ref d, .int (Int32.ofNat q), .int (Int32.ofNat len)] 7)) (T7.setTop (mkF m 3 #[.val (.ref b), .val (.int (Int32.ofNat (o + (i + 1)))), .val (.ref d), .val (.int (Int32.ofNat (q + (i + 1)))), .val (.int (Int32.ofNat len)), .val (.int (Int32.ofNat (i + 1))), .val (.int (cv A (o + i)))] [])) := by
        have := c9
        rw [succ32, succ32, succ32] at this
        exact this
      exact ih (i + 1) (by omega) _ (Or.inr ⟨_, rfl, rfl⟩) T7 _ (by rw [copyLocs_step, ← List.append_assoc]; exact X7) (pl.trans p7) (fl.step (by omega) hlt (by simp)) c10
  obtain ⟨T9, B9, z9, X9, p9, f9, g9⟩ := loop len 0 (by omega) .unset (Or.inl rfl) s₁ B (by simpa [copyLocs] using X0) ⟨hB0.1, fun _ _ => rfl, rfl⟩ (Laid.zero _ _ _) c2
  have c11 : Steps p.tables e below (s₁.setTop (entryFrame m #[.ref b, .int (Int32.ofNat o), .ref d, .int (Int32.ofNat q), .int (Int32.ofNat len)] 7)) (T9.setTop (mkF m 46 #[.val (.ref b), .val (.int (Int32.ofNat (o + len))), .val (.ref d), .val (.int (Int32.ofNat (q + len))), .val (.int (Int32.ofNat len)), .val (.int (Int32.ofNat len)), z9] [.int (Int32.ofNat len)])) := g9.trans (by
    refine XS.iload X9.here hexec rfl (hb hbytes d3) rfl ?_
    refine XS.iload X9.here hexec rfl (hb hbytes d5) rfl ?_
    refine XS.icmpYes X9.here hexec rfl (pc0 := 7) rfl (hb hbytes d7) rfl (ii_ge_t (nlt32 (by omega) (Nat.le_refl _))) (by decide) rfl ?_
    refine XS.iload X9.here hexec rfl (hb hbytes d44) rfl ?_
    exact Steps.refl _)
  exact ⟨T9, some (.int (Int32.ofNat len)), _, _, _, X9, by simp, rfl, rfl, (fun h => by cases h), ⟨rfl, B9, p9.from hh0, f9⟩, fun fs hl => c11.trans (X9.ireturnOut hexec hret rfl (Or.inl rfl) (hb hbytes d46) hl)⟩
end Cmp5
namespace Cmp3
def yN : MethodName := ⟨"java/lang/StringUTF16", "compress", "([CII)[B"⟩
abbrev yB : ByteArray := jdk_52_method_16_code
theorem d0 : decode yB 0 = .ok (.iload_n 2, 1) := by decide +kernel
theorem d1 : decode yB 1 = .ok (.newarray .byte, 2) := by decide +kernel
theorem d3 : decode yB 3 = .ok (.astore_n 3, 1) := by decide +kernel
theorem d4 : decode yB 4 = .ok (.aload_n 0, 1) := by decide +kernel
theorem d5 : decode yB 5 = .ok (.iload_n 1, 1) := by decide +kernel
theorem d6 : decode yB 6 = .ok (.aload_n 3, 1) := by decide +kernel
theorem d7 : decode yB 7 = .ok (.iconst 0, 1) := by decide +kernel
theorem d8 : decode yB 8 = .ok (.iload_n 2, 1) := by decide +kernel
theorem d9 : decode yB 9 = .ok (.invokestatic 115, 3) := by decide +kernel
theorem d12 : decode yB 12 = .ok (.istore 4, 2) := by decide +kernel
theorem d14 : decode yB 14 = .ok (.iload 4, 2) := by decide +kernel
theorem d16 : decode yB 16 = .ok (.iload_n 2, 1) := by decide +kernel
theorem d17 : decode yB 17 = .ok (.if_icmp (.eq) 40, 3) := by decide +kernel
theorem d57 : decode yB 57 = .ok (.aload_n 3, 1) := by decide +kernel
theorem d58 : decode yB 58 = .ok (.areturn, 1) := by decide +kernel
def site : List Cond := [.arrayClass .byte, Cmp5.tab] ++ staticW U16 115 Cmp5.yN
def tab : Cond := tabOf yN yB 6 (some (.array .byte)) site
def P (b : Addr) (A : Cell) (o len : Nat) (args : Array Value) (s : State) : Prop := args = #[.ref b, .int (Int32.ofNat o), .int (Int32.ofNat len)] ∧ Ch b A s ∧ o + len ≤ A.slots.size ∧ len ≤ 536870912 ∧ ∀ i, i < len → ¬ 255 < cv A (o + i)
def E (b : Addr) (A : Cell) (o len : Nat) (r : Option Value) (s u : State) : Prop := NewArr .byte "[B" len (fun j => .int (lo8 (cv A (o + j)))) r s u ∧ u.heap.size = s.heap.size + 1
/-- no char of the range above 255: a new byte[] of their low bytes -/
theorem law (l : Launch) (b : Addr) (A : Cell) (o len : Nat) : Law l yN 3 3 1 18 yB 6 (some (.array .byte)) site (P b A o len) (E b A o len) [] 1 len := by
  refine Law.of_walk (plainFor_of_name (by decide +kernel)) (by decide +kernel) (by decide +kernel) (by decide) (fun _ _ h => by rw [h.1]; rfl) (fun _ U U' hal hh h => ⟨h.1, h.2.1.mv hal hh, h.2.2⟩) (fun r U U' V V' h1 hal h2 h => ⟨NewArr.mv r U U' V V' h1 hal h2 h.1, by rw [h1, h2]; exact h.2⟩) ?_
  intro p e s m args below meth c s₁ X0 hexec hbytes hml hret hlk hnm hown hh0 W hP
  obtain ⟨rfl, hA, l1, l2, hp⟩ := hP
  have a31 := hA.1.2.2.2
  have c1 : Steps p.tables e below (s₁.setTop (entryFrame m #[.ref b, .int (Int32.ofNat o), .int (Int32.ofNat len)] 6)) (s₁.setTop (mkF m 0 #[.val (.ref b), .val (.int (Int32.ofNat o)), .val (.int (Int32.ofNat len)), .unset, .unset, .unset] [])) := entry rfl
  have c2 : Steps p.tables e below (s₁.setTop (entryFrame m #[.ref b, .int (Int32.ofNat o), .int (Int32.ofNat len)] 6)) (s₁.setTop (mkF m 1 #[.val (.ref b), .val (.int (Int32.ofNat o)), .val (.int (Int32.ofNat len)), .unset, .unset, .unset] [.int (Int32.ofNat len)])) := c1.trans (by
    refine XS.iloadN X0.here hexec rfl (hb hbytes d0) rfl ?_
    exact Steps.refl _)
  obtain ⟨T3, B3, X3, ba3, bs3, bv3, bh3, bf3, st3⟩ := X0.anew hexec (atype := .byte) (wk W (.arrayClass .byte)) rfl (by show len * 1 ≤ _; omega) (by omega) (g := (mkF m 1 #[.val (.ref b), .val (.int (Int32.ofNat o)), .val (.int (Int32.ofNat len)), .unset, .unset, .unset] [.int (Int32.ofNat len)])) rfl (hb hbytes d1) (rest := []) rfl (Nat.le_refl _) (by show 0 + len ≤ len; omega)
  rw [hh0] at ba3 st3
  have kp3 : XT.Kept s T3 := (XT.Kept.of_eq hh0).push bh3
  have hA3 := hA.keep X3.warmed.alike (kp3 _ _ hA.1.1)
  have hne : b ≠ s.heap.size := hA.1.ne
  have c4 : Steps p.tables e below (s₁.setTop (entryFrame m #[.ref b, .int (Int32.ofNat o), .int (Int32.ofNat len)] 6)) (T3.setTop (mkF m 3 #[.val (.ref b), .val (.int (Int32.ofNat o)), .val (.int (Int32.ofNat len)), .unset, .unset, .unset] [.ref s.heap.size])) := c2.trans (st3 _ (Steps.refl _))
  have c5 : Steps p.tables e below (s₁.setTop (entryFrame m #[.ref b, .int (Int32.ofNat o), .int (Int32.ofNat len)] 6)) (T3.setTop (mkF m 9 #[.val (.ref b), .val (.int (Int32.ofNat o)), .val (.int (Int32.ofNat len)), .val (.ref s.heap.size), .unset, .unset] [.int (Int32.ofNat len), .int 0, .ref s.heap.size, .int (Int32.ofNat o), .ref b])) := c4.trans (by
    refine XS.astoreN X3.here hexec rfl (hb hbytes d3) rfl rfl rfl ?_
    refine XS.aloadN X3.here hexec rfl (hb hbytes d4) rfl rfl ?_
    refine XS.iloadN X3.here hexec rfl (hb hbytes d5) rfl ?_
    refine XS.aloadN X3.here hexec rfl (hb hbytes d6) rfl rfl ?_
    refine iconstV X3.here hexec rfl 0 (hb hbytes d7) (by decide) ?_
    refine XS.iloadN X3.here hexec rfl (hb hbytes d8) rfl ?_
    exact Steps.refl _)
  obtain ⟨v6, T6, X6, E6, g6⟩ := X3.callS hexec (Cmp5.law l b A s.heap.size B3 o 0 len) hown (wks W (staticW U16 115 Cmp5.yN)) (wk W Cmp5.tab) (W := 0) (Nat.le_of_ble_eq_true rfl) (Nat.le_of_ble_eq_true rfl) (Nat.le_refl _) (by show 0 + len + 0 ≤ len; omega) (g := (mkF m 9 #[.val (.ref b), .val (.int (Int32.ofNat o)), .val (.int (Int32.ofNat len)), .val (.ref s.heap.size), .unset, .unset] [.int (Int32.ofNat len), .int (Int32.ofNat 0), .ref s.heap.size, .int (Int32.ofNat o), .ref b])) rfl (by rw [hml]; rfl) c5 (argsL := [.ref b, .int (Int32.ofNat o), .ref s.heap.size, .int (Int32.ofNat 0), .int (Int32.ofNat len)]) (rest := []) rfl rfl (by show 2 * 0 + 0 ≤ _; decide) (hb hbytes d9) (⟨rfl, hA3, ba3, hne, l1, by rw [bs3]; simp, hp⟩)
  obtain ⟨rfl, B6, p6, f6⟩ := E6
  have c7 : Steps p.tables e below (s₁.setTop (entryFrame m #[.ref b, .int (Int32.ofNat o), .int (Int32.ofNat len)] 6)) (T6.setTop (mkF m 12 #[.val (.ref b), .val (.int (Int32.ofNat o)), .val (.int (Int32.ofNat len)), .val (.ref s.heap.size), .unset, .unset] [.int (Int32.ofNat len)])) := g6
  have c8 : Steps p.tables e below (s₁.setTop (entryFrame m #[.ref b, .int (Int32.ofNat o), .int (Int32.ofNat len)] 6)) (T6.setTop (mkF m 58 #[.val (.ref b), .val (.int (Int32.ofNat o)), .val (.int (Int32.ofNat len)), .val (.ref s.heap.size), .val (.int (Int32.ofNat len)), .unset] [.ref s.heap.size])) := c7.trans (by
    refine XS.istore X6.here hexec rfl (hb hbytes d12) rfl rfl ?_
    refine XS.iload X6.here hexec rfl (hb hbytes d14) rfl ?_
    refine XS.iloadN X6.here hexec rfl (hb hbytes d16) rfl ?_
    refine XS.icmpYes X6.here hexec rfl (pc0 := 17) rfl (hb hbytes d17) rfl (ii_eq_t rfl) (by decide) rfl ?_
    refine XS.aloadN X6.here hexec rfl (hb hbytes d57) rfl rfl ?_
    exact Steps.refl _)
  have X8 := X6.wide (L' := []) (cells' := 1) (slots' := len) (fun x hx hlt => by
    simp only [List.nil_append, copyLocs, List.mem_map, List.mem_range] at hx
    obtain ⟨i, -, rfl⟩ := hx
    exact absurd hlt (Nat.lt_irrefl _)) (Nat.le_refl _) (by omega)
  exact ⟨T6, some (.ref s.heap.size), _, _, _, X8, rfl, rfl, rfl, (fun h => by cases h), ⟨⟨rfl, B6, ba3.like (X3.warmed.alike.symm.trans X6.warmed.alike) p6.1 f6.1 f6.2.1 f6.2.2.1, f6.2.1.trans bv3, by rw [X6.warmed.alike.findClass, f6.1]; exact bf3, by rw [f6.2.2.1, bs3]; simp, fun j hj => by rw [f6.2.2.2 j, if_pos (by omega)]; rfl, kp3.put p6 (Nat.le_refl _)⟩, by rw [p6.2.2, bh3, hh0]; simp⟩, fun fs hl => c8.trans (X8.areturnOut hexec rfl hret rfl (hb hbytes d58) hl)⟩
end Cmp3
namespace CodL
def yN : MethodName := ⟨"java/lang/StringUTF16", "coderFromArrayLen", "([BI)B"⟩
abbrev yB : ByteArray := jdk_52_method_15_code
theorem d0 : decode yB 0 = .ok (.iload_n 1, 1) := by decide +kernel
theorem d1 : decode yB 1 = .ok (.aload_n 0, 1) := by decide +kernel
theorem d2 : decode yB 2 = .ok (.arraylength, 1) := by decide +kernel
theorem d3 : decode yB 3 = .ok (.isub, 1) := by decide +kernel
theorem d4 : decode yB 4 = .ok (.bipush 31, 2) := by decide +kernel
theorem d6 : decode yB 6 = .ok (.iushr, 1) := by decide +kernel
theorem d7 : decode yB 7 = .ok (.i2b, 1) := by decide +kernel
theorem d8 : decode yB 8 = .ok (.ireturn, 1) := by decide +kernel
def site : List Cond := []
def tab : Cond := tabOf yN yB 2 (some .byte) site
def P (d : Addr) (B : Cell) (args : Array Value) (s : State) : Prop := args = #[.ref d, .int (Int32.ofNat B.slots.size)] ∧ Arr .byte d B s
def E (r : Option Value) (s u : State) : Prop := XT.PureE (some (.int 0)) r s u
/-- an array as long as the number of chars: LATIN1 -/
theorem law (l : Launch) (d : Addr) (B : Cell) : Law l yN 2 2 0 0 yB 2 (some .byte) site (P d B) E [] 0 0 := by
  refine Law.of_walk (plainFor_of_name (by decide +kernel)) (by decide +kernel) (by decide +kernel) (by decide) (fun _ _ h => by rw [h.1]; rfl) (fun _ U U' hal hh h => ⟨h.1, h.2.mv hal hh⟩) (fun r U U' V V' h1 hal h2 h => XT.PureE.mv r U U' V V' h1 hal h2 h) ?_
  intro p e s m args below meth c s₁ X0 hexec hbytes hml hret hlk hnm hown hh0 W hP
  obtain ⟨rfl, hB⟩ := hP
  have hB0 := hB.mv X0.warmed.alike hh0
  have c1 : Steps p.tables e below (s₁.setTop (entryFrame m #[.ref d, .int (Int32.ofNat B.slots.size)] 2)) (s₁.setTop (mkF m 0 #[.val (.ref d), .val (.int (Int32.ofNat B.slots.size))] [])) := entry rfl
  have c2 : Steps p.tables e below (s₁.setTop (entryFrame m #[.ref d, .int (Int32.ofNat B.slots.size)] 2)) (s₁.setTop (mkF m 2 #[.val (.ref d), .val (.int (Int32.ofNat B.slots.size))] [.ref d, .int (Int32.ofNat B.slots.size)])) := c1.trans (by
    refine XS.iloadN X0.here hexec rfl (hb hbytes d0) rfl ?_
    refine XS.aloadN X0.here hexec rfl (hb hbytes d1) rfl rfl ?_
    exact Steps.refl _)
  have c3 : Steps p.tables e below (s₁.setTop (entryFrame m #[.ref d, .int (Int32.ofNat B.slots.size)] 2)) (s₁.setTop (mkF m 8 #[.val (.ref d), .val (.int (Int32.ofNat B.slots.size))] [.int (lo8 (ushr (Int32.ofNat B.slots.size - Int32.ofNat B.slots.size) 31))])) := c2.trans (by
    refine X0.alen hexec hB0 rfl rfl (hb hbytes d2) ?_
    refine XS.isub X0.here hexec rfl (hb hbytes d3) rfl ?_
    refine bipushV X0.here hexec rfl 31 (hb hbytes d4) (by decide) ?_
    refine iushr X0.here hexec rfl (hb hbytes d6) rfl ?_
    refine i2b X0.here hexec rfl (hb hbytes d7) rfl ?_
    exact Steps.refl _)
  have e0 : lo8 (ushr (Int32.ofNat B.slots.size - Int32.ofNat B.slots.size) 31) = 0 := by rw [Int32.sub_self]; decide
  rw [e0] at c3
  exact ⟨s₁, some (.int 0), _, _, _, X0, rfl, rfl, rfl, (fun h => by cases h), ⟨rfl, hh0⟩, fun fs hl => c3.trans (X0.ireturnOut hexec hret rfl (Or.inr (Or.inr (Or.inl rfl))) (hb hbytes d8) hl)⟩
end CodL
/-- the String at a is Latin-1 over a new byte[] (the heap's one new cell): the low bytes of the len chars of A from o on; every cell but a is kept -/
def Got (a : Addr) (D : Cell) (fV fC : Field) (A : Cell) (o len : Nat) (r : Option Value) (s u : State) : Prop := r = none ∧ ∃ D' V : Cell, Blank "java/lang/String" a D' u ∧ Same D D' [fV.slot, fC.slot] ∧ D'.slots[fV.slot]? = some (.ref s.heap.size) ∧ D'.slots[fC.slot]? = some (.int 0) ∧ Arr .byte s.heap.size V u ∧ V.vm = .none ∧ u.vm.findClass "[B" = some V.cls ∧ V.slots.size = len ∧ (∀ j, j < len → V.slots[j]? = some (.int (lo8 (cv A (o + j))))) ∧ (∀ (y : Addr) (c : Cell), y ≠ a → s.heap[y]? = some c → u.heap[y]? = some c) ∧ u.heap.size = s.heap.size + 1
theorem Got.mv {a : Addr} {D A : Cell} {fV fC : Field} {o len : Nat} : ∀ r (U U' V V' : State), U'.heap = U.heap → V.vm.Alike V'.vm → V'.heap = V.heap → Got a D fV fC A o len r U V → Got a D fV fC A o len r U' V' :=
  fun r U U' V V' h1 hal h2 ⟨e0, D', X, a1, a2, a3, a4, a5, a6, a7, a8, a9, a10, a11⟩ => ⟨e0, D', X, a1.mv hal h2, a2, by rw [h1]; exact a3, a4, by rw [h1]; exact a5.mv hal h2, a6, by rw [hal.findClass]; exact a7, a8, a9, by rw [h1, h2]; exact a10, by rw [h1, h2]; exact a11⟩
namespace New4
def yN : MethodName := ⟨"java/lang/String", "<init>", "([CIILjava/lang/Void;)V"⟩
abbrev yB : ByteArray := jdk_42_method_149_code
theorem d0 : decode yB 0 = .ok (.aload_n 0, 1) := by decide +kernel
theorem d1 : decode yB 1 = .ok (.invokespecial 1, 3) := by decide +kernel
theorem d4 : decode yB 4 = .ok (.iload_n 3, 1) := by decide +kernel
theorem d5 : decode yB 5 = .ok (.ifCond (.ne) 22, 3) := by decide +kernel
theorem d27 : decode yB 27 = .ok (.getstatic 38, 3) := by decide +kernel
theorem d30 : decode yB 30 = .ok (.ifCond (.eq) 28, 3) := by decide +kernel
theorem d33 : decode yB 33 = .ok (.aload_n 1, 1) := by decide +kernel
theorem d34 : decode yB 34 = .ok (.iload_n 2, 1) := by decide +kernel
theorem d35 : decode yB 35 = .ok (.iload_n 3, 1) := by decide +kernel
theorem d36 : decode yB 36 = .ok (.invokestatic 177, 3) := by decide +kernel
theorem d39 : decode yB 39 = .ok (.astore 5, 2) := by decide +kernel
theorem d41 : decode yB 41 = .ok (.aload_n 0, 1) := by decide +kernel
theorem d42 : decode yB 42 = .ok (.aload 5, 2) := by decide +kernel
theorem d44 : decode yB 44 = .ok (.iload_n 3, 1) := by decide +kernel
theorem d45 : decode yB 45 = .ok (.invokestatic 47, 3) := by decide +kernel
theorem d48 : decode yB 48 = .ok (.putfield 15, 3) := by decide +kernel
theorem d51 : decode yB 51 = .ok (.aload_n 0, 1) := by decide +kernel
theorem d52 : decode yB 52 = .ok (.aload 5, 2) := by decide +kernel
theorem d54 : decode yB 54 = .ok (.putfield 9, 3) := by decide +kernel
theorem d57 : decode yB 57 = .ok (.return_, 1) := by decide +kernel
def site : List Cond := [.fieldLink "java/lang/String" 38 "java/lang/String" "COMPACT_STRINGS" "Z", Cmp3.tab, CodL.tab, .laysFinal "java/lang/String" "java/lang/String" "value" "[B", .fieldLink "java/lang/String" 9 "java/lang/String" "value" "[B", .laysFinal "java/lang/String" "java/lang/String" "coder" "B", .fieldLink "java/lang/String" 15 "java/lang/String" "coder" "B"] ++ objW "java/lang/String" 1 ++ staticW "java/lang/String" 177 Cmp3.yN ++ staticW "java/lang/String" 47 CodL.yN
def tab : Cond := tabOf yN yB 6 none site
def P (a : Addr) (D : Cell) (fV fC : Field) (b : Addr) (A : Cell) (z : Int32) (o len : Nat) (args : Array Value) (s : State) : Prop := args = #[.ref a, .ref b, .int (Int32.ofNat o), .int (Int32.ofNat len), .null] ∧ Blank "java/lang/String" a D s ∧ Found "java/lang/String" "value" "[B" fV s ∧ Found "java/lang/String" "coder" "B" fC s ∧ Ch b A s ∧ StaticIs s "java/lang/String" "COMPACT_STRINGS" "Z" (.int z) ∧ ¬ z = 0 ∧ 0 < len ∧ o + len ≤ A.slots.size ∧ len ≤ 536870912 ∧ ∀ i, i < len → ¬ 255 < cv A (o + i)
def E (a : Addr) (D : Cell) (fV fC : Field) (A : Cell) (o len : Nat) (r : Option Value) (s u : State) : Prop := Got a D fV fC A o len r s u
/-- len > 0, no char of the range above 255: a Latin-1 String of their low bytes -/
theorem law (l : Launch) (a : Addr) (D : Cell) (fV fC : Field) (b : Addr) (A : Cell) (z : Int32) (o len : Nat) : Law l yN 5 4 2 35 yB 6 none site (P a D fV fC b A z o len) (E a D fV fC A o len) [⟨a, fC.slot⟩, ⟨a, fV.slot⟩] 1 len := by
  refine Law.of_walk (plainFor_of_name (by decide +kernel)) (by decide +kernel) (by decide +kernel) (by decide) (fun _ _ h => by rw [h.1]; rfl) (fun _ U U' hal hh h => ⟨h.1, h.2.1.mv hal hh, h.2.2.1.al hal, h.2.2.2.1.al hal, h.2.2.2.2.1.mv hal hh, h.2.2.2.2.2.1.there hal hh, h.2.2.2.2.2.2⟩) (fun r U U' V V' h1 hal h2 h => Got.mv r U U' V V' h1 hal h2 h) ?_
  intro p e s m args below meth c s₁ X0 hexec hbytes hml hret hlk hnm hown hh0 W hP
  obtain ⟨rfl, hB, f1, f2, hA, s1, hz, l0, l1, l2, hp⟩ := hP
  have a31 := hA.1.2.2.2
  have c1 : Steps p.tables e below (s₁.setTop (entryFrame m #[.ref a, .ref b, .int (Int32.ofNat o), .int (Int32.ofNat len), .null] 6)) (s₁.setTop (mkF m 0 #[.val (.ref a), .val (.ref b), .val (.int (Int32.ofNat o)), .val (.int (Int32.ofNat len)), .val .null, .unset] [])) := entry rfl
  have c2 : Steps p.tables e below (s₁.setTop (entryFrame m #[.ref a, .ref b, .int (Int32.ofNat o), .int (Int32.ofNat len), .null] 6)) (s₁.setTop (mkF m 1 #[.val (.ref a), .val (.ref b), .val (.int (Int32.ofNat o)), .val (.int (Int32.ofNat len)), .val .null, .unset] [.ref a])) := c1.trans (by
    refine XS.aloadN X0.here hexec rfl (hb hbytes d0) rfl rfl ?_
    exact Steps.refl _)
  obtain ⟨T3, X3, q3, st3⟩ := X0.oinit hexec hown (wks W (objW "java/lang/String" 1)) (g := (mkF m 1 #[.val (.ref a), .val (.ref b), .val (.int (Int32.ofNat o)), .val (.int (Int32.ofNat len)), .val .null, .unset] [.ref a])) rfl (by rw [hml]; rfl) (rest := []) rfl (hb hbytes d1) (W := 0) (by show 2 * 0 + 0 ≤ _; decide) (Nat.le_of_ble_eq_true rfl) (Nat.le_of_ble_eq_true rfl)
  have hh3 := q3.trans hh0
  have c4 : Steps p.tables e below (s₁.setTop (entryFrame m #[.ref a, .ref b, .int (Int32.ofNat o), .int (Int32.ofNat len), .null] 6)) (T3.setTop (mkF m 27 #[.val (.ref a), .val (.ref b), .val (.int (Int32.ofNat o)), .val (.int (Int32.ofNat len)), .val .null, .unset] [])) := (c2.trans (st3 _ (Steps.refl _))).trans (by
    refine XS.iloadN X3.here hexec rfl (hb hbytes d4) rfl ?_
    refine XS.ifYes X3.here hexec rfl (pc0 := 5) rfl (hb hbytes d5) rfl (i0_ne_t (nz32 (by omega) l0)) (by decide) rfl ?_
    exact Steps.refl _)
  obtain ⟨T5, X5, q5, st5⟩ := X3.sget hexec hown (wk W (.fieldLink "java/lang/String" 38 "java/lang/String" "COMPACT_STRINGS" "Z")) s1 (fun _ _ h => by rw [hh3]; exact h) (g := (mkF m 27 #[.val (.ref a), .val (.ref b), .val (.int (Int32.ofNat o)), .val (.int (Int32.ofNat len)), .val .null, .unset] [])) rfl (hb hbytes d27)
  have hh5 := q5.trans hh3
  have c6 : Steps p.tables e below (s₁.setTop (entryFrame m #[.ref a, .ref b, .int (Int32.ofNat o), .int (Int32.ofNat len), .null] 6)) (T5.setTop (mkF m 30 #[.val (.ref a), .val (.ref b), .val (.int (Int32.ofNat o)), .val (.int (Int32.ofNat len)), .val .null, .unset] [.int z])) := c4.trans (st5 _ (Steps.refl _))
  have c7 : Steps p.tables e below (s₁.setTop (entryFrame m #[.ref a, .ref b, .int (Int32.ofNat o), .int (Int32.ofNat len), .null] 6)) (T5.setTop (mkF m 36 #[.val (.ref a), .val (.ref b), .val (.int (Int32.ofNat o)), .val (.int (Int32.ofNat len)), .val .null, .unset] [.int (Int32.ofNat len), .int (Int32.ofNat o), .ref b])) := c6.trans (by
    refine XS.ifNo X5.here hexec rfl (hb hbytes d30) rfl (i0_eq_f hz) ?_
    refine XS.aloadN X5.here hexec rfl (hb hbytes d33) rfl rfl ?_
    refine XS.iloadN X5.here hexec rfl (hb hbytes d34) rfl ?_
    refine XS.iloadN X5.here hexec rfl (hb hbytes d35) rfl ?_
    exact Steps.refl _)
  obtain ⟨v8, T8, X8, E8, g8⟩ := X5.callS hexec (Cmp3.law l b A o len) hown (wks W (staticW "java/lang/String" 177 Cmp3.yN)) (wk W Cmp3.tab) (W := 0) (Nat.le_of_ble_eq_true rfl) (Nat.le_of_ble_eq_true rfl) (Nat.le_refl _) (by show 0 + len ≤ len; omega) (g := (mkF m 36 #[.val (.ref a), .val (.ref b), .val (.int (Int32.ofNat o)), .val (.int (Int32.ofNat len)), .val .null, .unset] [.int (Int32.ofNat len), .int (Int32.ofNat o), .ref b])) rfl (by rw [hml]; rfl) c7 (argsL := [.ref b, .int (Int32.ofNat o), .int (Int32.ofNat len)]) (rest := []) rfl rfl (by show 2 * 0 + 0 ≤ _; decide) (hb hbytes d36) (⟨rfl, hA.mv X5.warmed.alike hh5, l1, l2, hp⟩)
  obtain ⟨e8, z8⟩ := E8
  obtain ⟨rfl, N, n1, n2, n3, n4, n5, n6⟩ := NewArr.mv _ T5 s _ _ hh5.symm (Vm.Alike.refl _) rfl e8
  rw [hh5] at z8
  have hB1 := hB.keep X8.warmed.alike (n6 _ _ hB.1)
  have hne : s.heap.size ≠ a := (Nat.ne_of_lt (Array.getElem?_eq_some_iff.mp hB.1).1).symm
  have c9 : Steps p.tables e below (s₁.setTop (entryFrame m #[.ref a, .ref b, .int (Int32.ofNat o), .int (Int32.ofNat len), .null] 6)) (T8.setTop (mkF m 39 #[.val (.ref a), .val (.ref b), .val (.int (Int32.ofNat o)), .val (.int (Int32.ofNat len)), .val .null, .unset] [.ref s.heap.size])) := g8
  have c10 : Steps p.tables e below (s₁.setTop (entryFrame m #[.ref a, .ref b, .int (Int32.ofNat o), .int (Int32.ofNat len), .null] 6)) (T8.setTop (mkF m 45 #[.val (.ref a), .val (.ref b), .val (.int (Int32.ofNat o)), .val (.int (Int32.ofNat len)), .val .null, .val (.ref s.heap.size)] [.int (Int32.ofNat N.slots.size), .ref s.heap.size, .ref a])) := by
    have hc : Steps p.tables e below (s₁.setTop (entryFrame m #[.ref a, .ref b, .int (Int32.ofNat o), .int (Int32.ofNat len), .null] 6)) (T8.setTop (mkF m 45 #[.val (.ref a), .val (.ref b), .val (.int (Int32.ofNat o)), .val (.int (Int32.ofNat len)), .val .null, .val (.ref s.heap.size)] [.int (Int32.ofNat len), .ref s.heap.size, .ref a])) := c9.trans (by
      refine XS.astore X8.here hexec rfl (hb hbytes d39) rfl rfl rfl ?_
      refine XS.aloadN X8.here hexec rfl (hb hbytes d41) rfl rfl ?_
      refine XS.aload X8.here hexec rfl (hb hbytes d42) rfl rfl ?_
      refine XS.iloadN X8.here hexec rfl (hb hbytes d44) rfl ?_
      exact Steps.refl _)
    rw [n4]; exact hc
  obtain ⟨v11, T11, X11, E11, g11⟩ := X8.callS hexec (CodL.law l s.heap.size N) hown (wks W (staticW "java/lang/String" 47 CodL.yN)) (wk W CodL.tab) (W := 1) (Nat.le_of_ble_eq_true rfl) (Nat.le_of_ble_eq_true rfl) (Nat.le_refl _) (by show 0 + len + 0 ≤ len; omega) (g := (mkF m 45 #[.val (.ref a), .val (.ref b), .val (.int (Int32.ofNat o)), .val (.int (Int32.ofNat len)), .val .null, .val (.ref s.heap.size)] [.int (Int32.ofNat N.slots.size), .ref s.heap.size, .ref a])) rfl (by rw [hml]; rfl) c10 (argsL := [.ref s.heap.size, .int (Int32.ofNat N.slots.size)]) (rest := [.ref a]) rfl rfl (by show 2 * 0 + (1 + 0) ≤ _; decide) (hb hbytes d45) (⟨rfl, n1⟩)
  obtain ⟨rfl, q11⟩ := E11
  have hB11 := hB1.mv (X8.warmed.alike.symm.trans X11.warmed.alike) q11
  have c12 : Steps p.tables e below (s₁.setTop (entryFrame m #[.ref a, .ref b, .int (Int32.ofNat o), .int (Int32.ofNat len), .null] 6)) (T11.setTop (mkF m 48 #[.val (.ref a), .val (.ref b), .val (.int (Int32.ofNat o)), .val (.int (Int32.ofNat len)), .val .null, .val (.ref s.heap.size)] [.int 0, .ref a])) := g11
  obtain ⟨T13, X13, p13, bl13, sl13, st13⟩ := X11.finit hexec hown (wk W (.fieldLink "java/lang/String" 15 "java/lang/String" "coder" "B")) (Or.inr ⟨_, (wk W (.laysFinal "java/lang/String" "java/lang/String" "coder" "B"))⟩) (Or.inl ⟨rfl, hnm⟩) f2 (Or.inl rfl) hB11 (t := .byte) (by decide +kernel) rfl (g := (mkF m 48 #[.val (.ref a), .val (.ref b), .val (.int (Int32.ofNat o)), .val (.int (Int32.ofNat len)), .val .null, .val (.ref s.heap.size)] [.int 0, .ref a])) rfl (rest := []) rfl (hb hbytes d48)
  have c14 : Steps p.tables e below (s₁.setTop (entryFrame m #[.ref a, .ref b, .int (Int32.ofNat o), .int (Int32.ofNat len), .null] 6)) (T13.setTop (mkF m 54 #[.val (.ref a), .val (.ref b), .val (.int (Int32.ofNat o)), .val (.int (Int32.ofNat len)), .val .null, .val (.ref s.heap.size)] [.ref s.heap.size, .ref a])) := (c12.trans (st13 _ (Steps.refl _))).trans (by
    refine XS.aloadN X13.here hexec rfl (hb hbytes d51) rfl rfl ?_
    refine XS.aload X13.here hexec rfl (hb hbytes d52) rfl rfl ?_
    exact Steps.refl _)
  obtain ⟨T15, X15, p15, bl15, sl15, st15⟩ := X13.finit hexec hown (wk W (.fieldLink "java/lang/String" 9 "java/lang/String" "value" "[B")) (Or.inr ⟨_, (wk W (.laysFinal "java/lang/String" "java/lang/String" "value" "[B"))⟩) (Or.inl ⟨rfl, hnm⟩) f1 (Or.inl rfl) bl13 (t := (.array .byte)) (by decide +kernel) rfl (g := (mkF m 54 #[.val (.ref a), .val (.ref b), .val (.int (Int32.ofNat o)), .val (.int (Int32.ofNat len)), .val .null, .val (.ref s.heap.size)] [.ref s.heap.size, .ref a])) rfl (rest := []) rfl (hb hbytes d54)
  have c16 : Steps p.tables e below (s₁.setTop (entryFrame m #[.ref a, .ref b, .int (Int32.ofNat o), .int (Int32.ofNat len), .null] 6)) (T15.setTop (mkF m 57 #[.val (.ref a), .val (.ref b), .val (.int (Int32.ofNat o)), .val (.int (Int32.ofNat len)), .val .null, .val (.ref s.heap.size)] [])) := c14.trans (st15 _ (Steps.refl _))
  have ap := apart (Or.inr ⟨_, (wk W (.laysFinal "java/lang/String" "java/lang/String" "value" "[B"))⟩) (Or.inr ⟨_, (wk W (.laysFinal "java/lang/String" "java/lang/String" "coder" "B"))⟩) f1 f2 (t₁ := .array .byte) (t₂ := .byte) (by decide +kernel) (by decide +kernel) (by decide)
  have al := X8.warmed.alike.symm.trans X15.warmed.alike
  have n7 : T11.heap[s.heap.size]? = some N := by rw [q11]; exact n1.1
  exact ⟨T15, none, _, _, _, X15, by simp, rfl, by omega, (fun _ => rfl), ⟨rfl, _, N, bl15, ((Same.refl D _).set _ (by simp)).set _ (by simp), sl15, (Cell.slots_setSlot_ne _ ap).trans sl13, n1.keep al (p15.other hne (p13.other hne n7)), n2, by rw [al.findClass]; exact n3, n4, n5, fun y c h1 h2 => p15.other h1 (p13.other h1 (by rw [q11]; exact n6 y c h2)), by rw [p15.2.2, p13.2.2, q11]; exact z8⟩, fun fs hl => c16.trans (X15.returnOut hexec hret (hb hbytes d57) hl)⟩
end New4
namespace New1
def yN : MethodName := ⟨"java/lang/String", "<init>", "([C)V"⟩
abbrev yB : ByteArray := jdk_42_method_3_code
theorem d0 : decode yB 0 = .ok (.aload_n 0, 1) := by decide +kernel
theorem d1 : decode yB 1 = .ok (.aload_n 1, 1) := by decide +kernel
theorem d2 : decode yB 2 = .ok (.iconst 0, 1) := by decide +kernel
theorem d3 : decode yB 3 = .ok (.aload_n 1, 1) := by decide +kernel
theorem d4 : decode yB 4 = .ok (.arraylength, 1) := by decide +kernel
theorem d5 : decode yB 5 = .ok (.aconst_null, 1) := by decide +kernel
theorem d6 : decode yB 6 = .ok (.invokespecial 27, 3) := by decide +kernel
theorem d9 : decode yB 9 = .ok (.return_, 1) := by decide +kernel
def site : List Cond := [New4.tab] ++ initW "java/lang/String" 27 New4.yN
def tab : Cond := tabOf yN yB 2 none site
def P (a : Addr) (D : Cell) (fV fC : Field) (b : Addr) (A : Cell) (z : Int32) (args : Array Value) (s : State) : Prop := args = #[.ref a, .ref b] ∧ Blank "java/lang/String" a D s ∧ Found "java/lang/String" "value" "[B" fV s ∧ Found "java/lang/String" "coder" "B" fC s ∧ Ch b A s ∧ StaticIs s "java/lang/String" "COMPACT_STRINGS" "Z" (.int z) ∧ ¬ z = 0 ∧ 0 < A.slots.size ∧ A.slots.size ≤ 536870912 ∧ ∀ i, i < A.slots.size → ¬ 255 < cv A i
def E (a : Addr) (D : Cell) (fV fC : Field) (A : Cell) (r : Option Value) (s u : State) : Prop := Got a D fV fC A 0 A.slots.size r s u
/-- new String(chars), not empty, no char above 255: a Latin-1 String of their low bytes -/
theorem law (l : Launch) (a : Addr) (D : Cell) (fV fC : Field) (b : Addr) (A : Cell) (z : Int32) : Law l yN 2 1 3 52 yB 2 none site (P a D fV fC b A z) (E a D fV fC A) [⟨a, fC.slot⟩, ⟨a, fV.slot⟩] 1 A.slots.size := by
  refine Law.of_walk (plainFor_of_name (by decide +kernel)) (by decide +kernel) (by decide +kernel) (by decide) (fun _ _ h => by rw [h.1]; rfl) (fun _ U U' hal hh h => ⟨h.1, h.2.1.mv hal hh, h.2.2.1.al hal, h.2.2.2.1.al hal, h.2.2.2.2.1.mv hal hh, h.2.2.2.2.2.1.there hal hh, h.2.2.2.2.2.2⟩) (fun r U U' V V' h1 hal h2 h => Got.mv r U U' V V' h1 hal h2 h) ?_
  intro p e s m args below meth c s₁ X0 hexec hbytes hml hret hlk hnm hown hh0 W hP
  obtain ⟨rfl, hB, f1, f2, hA, s1, hz, l0, l2, hp⟩ := hP
  have c1 : Steps p.tables e below (s₁.setTop (entryFrame m #[.ref a, .ref b] 2)) (s₁.setTop (mkF m 0 #[.val (.ref a), .val (.ref b)] [])) := entry rfl
  have c2 : Steps p.tables e below (s₁.setTop (entryFrame m #[.ref a, .ref b] 2)) (s₁.setTop (mkF m 6 #[.val (.ref a), .val (.ref b)] [.null, .int (Int32.ofNat A.slots.size), .int 0, .ref b, .ref a])) := c1.trans (by
    refine XS.aloadN X0.here hexec rfl (hb hbytes d0) rfl rfl ?_
    refine XS.aloadN X0.here hexec rfl (hb hbytes d1) rfl rfl ?_
    refine iconstV X0.here hexec rfl 0 (hb hbytes d2) (by decide) ?_
    refine XS.aloadN X0.here hexec rfl (hb hbytes d3) rfl rfl ?_
    refine X0.alen hexec (hA.1.mv X0.warmed.alike hh0) rfl rfl (hb hbytes d4) ?_
    refine XS.aconstNull X0.here hexec rfl (hb hbytes d5) ?_
    exact Steps.refl _)
  obtain ⟨v3, T3, X3, E3, g3⟩ := X0.callN hexec (New4.law l a D fV fC b A z 0 A.slots.size) rfl hown (wks W (initW "java/lang/String" 27 New4.yN)) (W New4.tab (by simp only [site, List.mem_cons, List.mem_append, true_or, or_true])) (W := 0) (Nat.le_of_ble_eq_true rfl) (Nat.le_of_ble_eq_true rfl) (Nat.le_refl _) (by show 0 + A.slots.size ≤ A.slots.size; omega) (g := (mkF m 6 #[.val (.ref a), .val (.ref b)] [.null, .int (Int32.ofNat A.slots.size), .int (Int32.ofNat 0), .ref b, .ref a])) rfl (by rw [hml]; rfl) c2 (argsL := [.ref b, .int (Int32.ofNat 0), .int (Int32.ofNat A.slots.size), .null]) (rest := []) rfl rfl (by show 2 * 0 + 0 ≤ _; decide) (hb hbytes d6) (⟨rfl, hB.mv X0.warmed.alike hh0, f1.al X0.warmed.alike, f2.al X0.warmed.alike, hA.mv X0.warmed.alike hh0, s1.there X0.warmed.alike hh0, hz, l0, by omega, l2, fun i hi => by rw [Nat.zero_add]; exact hp i hi⟩)
  have e0 := Got.mv _ s₁ s _ _ hh0.symm (Vm.Alike.refl _) rfl E3
  obtain rfl := e0.1
  have c4 : Steps p.tables e below (s₁.setTop (entryFrame m #[.ref a, .ref b] 2)) (T3.setTop (mkF m 9 #[.val (.ref a), .val (.ref b)] [])) := g3
  exact ⟨T3, none, _, _, _, X3, by simp, rfl, by omega, (fun _ => rfl), e0, fun fs hl => c4.trans (X3.returnOut hexec hret (hb hbytes d9) hl)⟩
theorem pays {l : Launch} {R : Room} {p : Program} {e : Env} {below : List Frame} {s : State} {sargs : Array Value} {len W : Nat} (a : Addr) (D : Cell) (fV fC : Field) (b : Addr) (A : Cell) (z : Int32) (htab : tab.before sargs s = true) (hfr : 4 ≤ R.frames) (hlo : W + 65 ≤ R.locals) :
    Back l R p e below s sargs yN len W (fun A₁ a₁ => A₁.cells + 1 ≤ R.cells ∧ A₁.slots + A.slots.size ≤ R.slots ∧ P a D fV fC b A z a₁ A₁.U) (fun A₁ _ v₁ B₁ => E a D fV fC A v₁ A₁.U B₁.U ∧ B₁.locs = A₁.locs ++ [⟨a, fC.slot⟩, ⟨a, fV.slot⟩] ∧ B₁.cells = A₁.cells + 1 ∧ B₁.slots = A₁.slots + A.slots.size) :=
  (law l a D fV fC b A z).pays htab hfr (by omega)
end New1
/-- the byte, read back as charAt reads it, is the char -/
theorem lo8_mask {x : Int32} (h0 : ¬ x < 0) (h1 : ¬ 255 < x) : lo8 x &&& 255 = x := by
  have t : ∀ k : Fin 256, lo8 (Int32.ofNat k.val) &&& 255 = Int32.ofNat k.val := by decide +kernel
  rw [Int32.lt_iff_toInt_lt] at h0 h1
  have e0 : (0 : Int32).toInt = 0 := rfl
  have e1 : (255 : Int32).toInt = 255 := rfl
  obtain ⟨k, hk⟩ : ∃ k : Nat, x.toInt = k := ⟨x.toInt.toNat, by omega⟩
  have hx : x = Int32.ofNat k := Int32.toInt_inj.mp (by rw [hk, Int32.toInt_ofNat_small (by omega)])
  rw [hx]
  exact t ⟨k, by omega⟩
end StrChars
namespace StrChars.Road
open Jvm Sem ClassFile Op Lib Jvm.Stand Jvm.Free Jvm.Free.XT
open Jvm.Lib.Cold (StaticIs)
abbrev ST : String := "java/lang/String"
/-- every table word that New1's law asks, flat -/
abbrev words : List Jvm.Cond := [.code New1.yN New1.yB 2 none, .initialized ST, .methodLink ST 27 New4.yN, .instanceMethod New4.yN,
  .code New4.yN New4.yB 6 none, .fieldLink ST 38 ST "COMPACT_STRINGS" "Z", .laysFinal ST ST "value" "[B", .fieldLink ST 9 ST "value" "[B", .laysFinal ST ST "coder" "B", .fieldLink ST 15 ST "coder" "B",
  .methodLink ST 1 Lib.objectInit, .instanceMethod Lib.objectInit, .code Lib.objectInit ⟨#[0xb1]⟩ 1 none, .methodLink ST 177 Cmp3.yN, .static Cmp3.yN, .methodLink ST 47 CodL.yN, .static CodL.yN,
  .code Cmp3.yN Cmp3.yB 6 (some (.array .byte)), .initialized U16, .arrayClass .byte, .methodLink U16 115 Cmp5.yN, .static Cmp5.yN, .code Cmp5.yN Cmp5.yB 7 (some .int), .code CodL.yN CodL.yB 2 (some .byte)]
theorem tab_of {a : Array Value} {s : State} (h : ∀ w ∈ words, w.before a s = true) : New1.tab.before a s = true := by
  have h5 : Cmp5.tab.before a s = true := unparts (wk h (.code Cmp5.yN Cmp5.yB 7 (some .int))) (wks h (.initialized Cmp5.yN.cls :: Cmp5.site))
  have hc : CodL.tab.before a s = true := unparts (wk h (.code CodL.yN CodL.yB 2 (some .byte))) (wks h (.initialized CodL.yN.cls :: CodL.site))
  have q5 : ∀ w ∈ Cmp5.tab :: words, w.before a s = true := fun w hw => (List.mem_cons.mp hw).elim (fun e => e ▸ h5) (h w)
  have h3 : Cmp3.tab.before a s = true := unparts (wk q5 (.code Cmp3.yN Cmp3.yB 6 (some (.array .byte)))) (wks q5 (.initialized Cmp3.yN.cls :: Cmp3.site))
  have q3 : ∀ w ∈ Cmp3.tab :: CodL.tab :: words, w.before a s = true := fun w hw => (List.mem_cons.mp hw).elim (fun e => e ▸ h3) fun hw => (List.mem_cons.mp hw).elim (fun e => e ▸ hc) (h w)
  have h4 : New4.tab.before a s = true := unparts (wk q3 (.code New4.yN New4.yB 6 none)) (wks q3 (.initialized New4.yN.cls :: New4.site))
  have q4 : ∀ w ∈ New4.tab :: words, w.before a s = true := fun w hw => (List.mem_cons.mp hw).elim (fun e => e ▸ h4) (h w)
  exact unparts (wk q4 (.code New1.yN New1.yB 2 none)) (wks q4 (.initialized New1.yN.cls :: New1.site))
/-- the words ride from the start Z to the walk's own state -/
theorem moved {Z s : State} {a0 args : Array Value} (hZ : Z.Warmed39 s.vm) (hw : ∀ d ∈ words, d.before a0 Z = true) : ∀ d ∈ words, d.before args s = true := fun d hd => by
  have q := hw d hd
  have t : ∀ d ∈ words, d = .arrayClass .byte ∨ (d.onTables && d.keepsFace) = true := by decide +kernel
  rcases t d hd with rfl | t
  · exact RoadKit.mvA hZ q
  · exact RoadKit.mv hZ q t
/-- WHAT COMES BACK, over the tables of the start Z: h the heap at the call, h' behind it -/
def Q (Z : State) (x : Addr) (A : Cell) (h : Heap) (v : Option Value) (h' : Heap) (L : List Loc) : Prop := v = none ∧ (∀ y ∈ L, y.base = x) ∧ RoadKit.Keep h h' [x] ∧ h'.size = h.size + 1 ∧ RoadKit.Exa Z h' x ST ∧ RoadKit.Fld Z h' x ST "value" "[B" (.ref h.size) ∧ RoadKit.Fld Z h' x ST "coder" "B" (.int 0) ∧
  (∃ V : Cell, RoadKit.Arr Z h' h.size V .byte ∧ V.vm = .none ∧ Z.vm.findClass "[B" = some V.cls ∧ V.slots.size = A.slots.size ∧ ∀ j, j < A.slots.size → V.slots[j]? = some (.int (lo8 (cv A j)))) ∧
  ∀ (O n d : String) (w : Value), RoadKit.Fld Z h x O n d w → RoadKit.slotOf Z O n d ≠ RoadKit.slotOf Z ST "value" "[B" → RoadKit.slotOf Z O n d ≠ RoadKit.slotOf Z ST "coder" "B" → RoadKit.Fld Z h' x O n d w
/-- **new String(chars) AT A CALL, IN THE ROAD'S FORM**: for specialBack behind newO: x the fresh String, b the char[] with the cell A -/
theorem back {p : Program} {l : Launch} {e : Env} {R : Room} {s : State} {args : Array Value} {below : List Frame} {len W : Nat} {Z : State} {a0 : Array Value} {h : Heap} (hZ : Z.Warmed39 s.vm) (hw : ∀ d ∈ words, d.before a0 Z = true) {kI : Nat} (wi : (Jvm.Cond.instantiable ST kI).before a0 Z = true)
    {x b : Addr} {A : Cell} {z : Int32} {v0 c0 : Value} (E : RoadKit.Exa Z h x ST) (V : RoadKit.Fld Z h x ST "value" "[B" v0) (C : RoadKit.Fld Z h x ST "coder" "B" c0) (K : RoadKit.Arr Z h b A .char) (hty : Typed .char A) (S : RoadKit.Sta Z h ST "COMPACT_STRINGS" "Z" (.int z)) (hz : ¬ z = 0)
    (l0 : 0 < A.slots.size) (l2 : A.slots.size ≤ 536870912) (hp : ∀ i, i < A.slots.size → ¬ 255 < cv A i) (hfr : 4 ≤ R.frames) (hlo : W + 65 ≤ R.locals) :
    Back l R p e below s args New1.yN len W (fun P a => a = #[.ref x, .ref b] ∧ P.U.heap = h ∧ P.cells + 1 ≤ R.cells ∧ P.slots + A.slots.size ≤ R.slots)
      (fun P _ v B => ∃ L, Q Z x A h v B.U.heap L ∧ B.locs = P.locs ++ L ∧ B.cells = P.cells + 1 ∧ B.slots = P.slots + A.slots.size) := by
  intro m meth c P g ig mk a X hg hsize hdg hW hn hp'
  obtain ⟨rfl, rfl, r1, r2⟩ := hp'
  have al : Z.vm.Alike P.U.vm := hZ.alike.trans X.warmed.alike
  obtain ⟨D, cfV, kV, iV, fV, hD, gV, stV, knV, obV, asV, slV⟩ := id V
  obtain ⟨D', cfC, kC, iC, fC, hD', gC, stC, -, -, asC, slC⟩ := id C
  cases hD.symm.trans hD'
  obtain ⟨D2, kD, e1, e2, e3, e4, e5⟩ := id E
  cases hD.symm.trans e1
  obtain ⟨c2, k2, i1, i2, i3, -⟩ := Cond.instantiable_spec wi
  cases e2.symm.trans i1
  cases e3.symm.trans i2
  obtain ⟨kU, u1, u2⟩ := al.2.2 _ _ e3
  have hB : Blank ST x D P.U := ⟨hD, ⟨knV, fun q hq => by rw [hq] at obV; cases obV⟩, by rw [al.findClass]; exact e2, kU, u1, by rw [u2]; exact i3, by rw [u2]; exact e5 i3⟩
  have F1 : Found ST "value" "[B" fV P.U := ⟨SBG.found_only al ⟨cfV, kV, iV, gV⟩, stV⟩
  have F2 : Found ST "coder" "B" fC P.U := ⟨SBG.found_only al ⟨cfC, kC, iC, gC⟩, stC⟩
  have hA : Ch b A P.U := ⟨⟨K.1, State.isArrayOf_alike al K.2.1, K.2.2, by omega⟩, hty⟩
  have hS : StaticIs P.U ST "COMPACT_STRINGS" "Z" (.int z) := by
    obtain ⟨cfS, iS, kS, fS, st, cS, t1, t2, t3, t4, t5, t6, t7⟩ := S
    exact StaticIs.there (s := { Z with heap := P.U.heap }) ⟨cfS, iS, kS, fS, st, cS, t1, t2, t3, t4, t5, (fun q => by rw [q] at t6; cases t6), t7⟩ al rfl
  obtain ⟨v, B, X', ⟨⟨hv, E', V', q1, q2, q3, q4, q5, q6, q7, q8, q9, q10, q11⟩, hl, hc, hs⟩, st⟩ := New1.pays x D fV fC b A z (tab_of (moved hZ hw)) hfr hlo m meth c P g ig mk _ X hg hsize hdg hW hn ⟨r1, r2, rfl, hB, F1, F2, hA, hS, hz, l0, l2, hp⟩
  have al' : Z.vm.Alike B.U.vm := hZ.alike.trans X'.warmed.alike
  have hsz : E'.slots.size = D.slots.size := by
    obtain ⟨-, -, -, kB, w1, w2, w3⟩ := q1
    obtain ⟨kB', y1, y2⟩ := al'.2.2 _ _ e3
    rw [q2.2.1] at w1
    cases w1.symm.trans y1
    rw [w3, e5 i3, y2]
  refine ⟨v, B, X', ⟨_, ⟨hv, ?_, ⟨by omega, fun y cy hy hn' => q10 y cy (by simpa using hn') hy, fun y cy hy => ?_⟩, q11, ⟨E', _, q1.1, by rw [q2.2.1]; exact e2, by rw [q2.2.1]; exact e3, by rw [q2.1]; exact obV, fun _ => by rw [hsz]; exact e5 i3⟩,
    ⟨E', cfV, kV, iV, fV, q1.1, gV, stV, by rw [q2.1]; exact knV, by rw [q2.1]; exact obV, by rw [q2.2.1]; exact asV, q3⟩, ⟨E', cfC, kC, iC, fC, q1.1, gC, stC, by rw [q2.1]; exact knV, by rw [q2.1]; exact obV, by rw [q2.2.1]; exact asC, q4⟩,
    ⟨V', ⟨q5.1, State.isArrayOf_alike al'.symm q5.2.1, q5.2.2.1⟩, q6, by rw [← al'.findClass]; exact q7, q8, fun j hj => by have := q9 j hj; rwa [Nat.zero_add] at this⟩, fun O n d w F n1 n2 => ?_⟩, hl, hc, hs⟩, st⟩
  · intro y hy
    simp only [List.mem_cons, List.not_mem_nil, or_false] at hy
    rcases hy with rfl | rfl <;> rfl
  · by_cases q : y = x
    · subst q
      cases hD.symm.trans hy
      exact ⟨E', q1.1, q2.2.1, q2.1, hsz⟩
    · exact ⟨cy, q10 y cy q hy, rfl, rfl, rfl⟩
  · obtain ⟨D3, cf, k, i, f, g1, g2, g3, g4, g5, g6, g7⟩ := F
    cases hD.symm.trans g1
    simp only [RoadKit.slotOf, g2, gV, gC, Option.map_some, Option.getD_some] at n1 n2
    exact ⟨E', cf, k, i, f, q1.1, g2, g3, by rw [q2.1]; exact g4, by rw [q2.1]; exact g5, by rw [q2.2.1]; exact g6, by rw [q2.2.2 f.slot (by simp [n1, n2])]; exact g7⟩
end StrChars.Road
namespace StrChars.Road
open Jvm Sem ClassFile Op Lib Jvm.Stand Jvm.Free Jvm.Free.XT
/-- WHAT COMES BACK, the byte[] as a list of values -/
def QA (Z : State) (x : Addr) (zn : Int32) (cs : List Int32) (h : Heap) (v : Option Value) (h' : Heap) (L : List Loc) : Prop := v = none ∧ (∀ y ∈ L, y.base = x) ∧ RoadKit.Keep h h' [x] ∧ h'.size = h.size + 1 ∧ RoadKit.Exa Z h' x ST ∧ RoadKit.Fld Z h' x ST "value" "[B" (.ref h.size) ∧ RoadKit.Fld Z h' x ST "coder" "B" (.int 0) ∧
  (∃ kb, Z.vm.findClass "[B" = some kb ∧ RoadKit.Arv Z h' h.size kb .byte zn (cs.map fun c => .int (lo8 c)) (.int 0)) ∧
  ∀ (O n d : String) (w : Value), RoadKit.Fld Z h x O n d w → RoadKit.slotOf Z O n d ≠ RoadKit.slotOf Z ST "value" "[B" → RoadKit.slotOf Z O n d ≠ RoadKit.slotOf Z ST "coder" "B" → RoadKit.Fld Z h' x O n d w
/-- **new String(chars) AT A CALL, THE ARRAYS AS LISTS**: the char[] at b holds cs, not empty, no char above 255 -/
theorem backArv {p : Program} {l : Launch} {e : Env} {R : Room} {s : State} {args : Array Value} {below : List Frame} {len W : Nat} {Z : State} {a0 : Array Value} {h : Heap} (hZ : Z.Warmed39 s.vm) (hw : ∀ d ∈ words, d.before a0 Z = true) {kI : Nat} (wi : (Jvm.Cond.instantiable ST kI).before a0 Z = true)
    {x b : Addr} {k : ClassId} {zn z : Int32} {cs : List Int32} {dv v0 c0 : Value} (E : RoadKit.Exa Z h x ST) (V : RoadKit.Fld Z h x ST "value" "[B" v0) (C : RoadKit.Fld Z h x ST "coder" "B" c0) (K : RoadKit.Arv Z h b k .char zn (cs.map Value.int) dv) (S : RoadKit.Sta Z h ST "COMPACT_STRINGS" "Z" (.int z)) (hz : ¬ z = 0)
    (hlen : zn.toNatClampNeg = cs.length) (h0 : 0 < cs.length) (hbig : cs.length ≤ 536870912) (hall : ∀ c ∈ cs, ¬ 255 < c) (hfr : 4 ≤ R.frames) (hlo : W + 65 ≤ R.locals) :
    Back l R p e below s args New1.yN len W (fun P a => a = #[.ref x, .ref b] ∧ P.U.heap = h ∧ P.cells + 1 ≤ R.cells ∧ P.slots + cs.length ≤ R.slots)
      (fun P _ v B => ∃ L, QA Z x zn cs h v B.U.heap L ∧ B.locs = P.locs ++ L ∧ B.cells = P.cells + 1 ∧ B.slots = P.slots + cs.length) := by
  obtain ⟨A, K1, K2, K3, K4, K5, K6⟩ := K
  have e : A.slots.size = cs.length := K3.trans hlen
  have hat : ∀ (i : Nat) (hi : i < cs.length), A.slots[i]? = some (.int cs[i]) := fun i hi => by rw [K5 i (by omega)]; simp [List.getD_eq_getElem?_getD, hi]
  have hcv : ∀ (i : Nat) (hi : i < cs.length), cv A i = cs[i] := fun i hi => by unfold cv; rw [hat i hi]
  have hty : Typed .char A := fun i v hv => by
    have hi : i < A.slots.size := (Array.getElem?_eq_some_iff.mp hv).1
    have q := K5 i hi
    rw [hv] at q
    rw [Option.some.inj q]
    exact K6 i hi
  refine Back.mono (back hZ hw wi E V C K1 hty S hz (by omega) (by omega) (fun i hi => by rw [hcv i (by omega)]; exact hall _ (List.getElem_mem _)) hfr hlo) (fun P a hp => ⟨hp.1, hp.2.1, hp.2.2.1, by rw [e]; exact hp.2.2.2⟩) (fun P a v B hp hq => ?_)
  obtain ⟨L, ⟨q1, q2, q3, q4, q5, q6, q7, ⟨V', v1, v2, v3, v4, v5⟩, q9⟩, hl, hc, hs⟩ := hq
  refine ⟨L, ⟨q1, q2, q3, q4, q5, q6, q7, ⟨V'.cls, v3, V', v1, rfl, by rw [v4, e, hlen], K4, fun i hi => ?_, fun i hi => ?_⟩, q9⟩, hl, hc, by rw [hs, e]⟩
  · have hi' : i < cs.length := by omega
    rw [v5 i (by omega), hcv i hi']; simp [List.getD_eq_getElem?_getD, hi']
  · have hi' : i < cs.length := by omega
    simp only [List.getD_eq_getElem?_getD, List.getElem?_map, List.getElem?_eq_getElem hi', Option.map_some, Option.getD_some]
    exact fits_lo8 _
end StrChars.Road
namespace StrChars.Road
open Jvm Sem ClassFile Op Lib Jvm.Stand Jvm.Free Jvm.Free.XT
/-- WHAT COMES BACK, in the writer's own shape -/
def QV (Z : State) (x : Addr) (N : Int32) (bs : List Int32) (h : Heap) (n0 : Nat) (v : Option Value) (h' : Heap) (L : List Loc) : Prop := v = none ∧ RoadKit.Fr n0 L ∧ RoadKit.Keep h h' [x] ∧ RoadKit.Exa Z h' x ST ∧ RoadKit.Fld Z h' x ST "coder" "B" (.int 0) ∧
  ∃ (t : Addr) (kb : ClassId), n0 ≤ t ∧ h.size ≤ t ∧ ¬ t = x ∧ RoadKit.Fld Z h' x ST "value" "[B" (.ref t) ∧ RoadKit.Arv Z h' t kb .byte N (bs.map Value.int) (.int 0)
/-- **new String(chars) AT A CALL, FOR THE WRITER**: a char[] of n known ints, each 0 to 255 -/
theorem backV {p : Program} {l : Launch} {e : Env} {R : Room} {s : State} {args : Array Value} {below : List Frame} {len W : Nat} {Z : State} {a0 : Array Value} {h : Heap} (hZ : Z.Warmed39 s.vm) (hw : ∀ d ∈ words, d.before a0 Z = true) {kI : Nat} (wi : (Jvm.Cond.instantiable ST kI).before a0 Z = true)
    {x b : Addr} {kC : ClassId} {cs bs : List Int32} {d v0 c0 : Value} {z N : Int32} {n n0 : Nat} (hx0 : n0 ≤ x) (hh0 : n0 ≤ h.size) (E : RoadKit.Exa Z h x ST) (V : RoadKit.Fld Z h x ST "value" "[B" v0) (C : RoadKit.Fld Z h x ST "coder" "B" c0) (K : RoadKit.Arv Z h b kC .char N (cs.map Value.int) d) (S : RoadKit.Sta Z h ST "COMPACT_STRINGS" "Z" (.int z)) (hz : ¬ z = 0)
    (hn : cs.length = n) (hN : N = Int32.ofNat n) (l0 : 0 < n) (l2 : n ≤ 4000) (hp : ∀ c ∈ cs, ¬ c < 0 ∧ ¬ (255 : Int32) < c) (hb : bs = cs.map (fun c => c.toInt8.toInt32)) (hfr : 4 ≤ R.frames) (hlo : W + 65 ≤ R.locals) :
    Back l R p e below s args (⟨"java/lang/String", "<init>", "([C)V"⟩ : MethodName) len W (fun P a => a = #[.ref x, .ref b] ∧ P.U.heap = h ∧ P.cells + 1 ≤ R.cells ∧ P.slots + n ≤ R.slots)
      (fun P _ v B => ∃ L, QV Z x N bs h n0 v B.U.heap L ∧ B.locs = P.locs ++ L ∧ B.cells = P.cells + 1 ∧ B.slots = P.slots + n) := by
  subst hn hN hb
  refine Back.mono (backArv hZ hw wi E V C K S hz (n32 (by omega)) l0 (by omega) (fun c hc => (hp c hc).2) hfr hlo) (fun P a hp => hp) (fun P a v B hp hq => ?_)
  obtain ⟨L, ⟨q1, q2, q3, q4, q5, q6, q7, ⟨kb, v1, v2⟩, q9⟩, hl, hc, hs⟩ := hq
  exact ⟨L, ⟨q1, fun y hy => by rw [q2 y hy]; exact hx0, q3, q5, q7, h.size, kb, hh0, Nat.le_refl _, Nat.ne_of_gt E.lt, q6, by rw [List.map_map]; exact v2⟩, hl, hc, hs⟩
end StrChars.Road
namespace StrChars
open Jvm Sem ClassFile Op Lib Jvm.Stand Jvm.Free.XT Jvm.Free.ALB Jvm.Free.JM Jvm.Free
open Jvm.Lib.Cold (StaticIs)
def hi8 (x : Int32) : Int32 := lo8 (x >>> ((8 : Int32) &&& 31))
/-- what StringUTF16.getChar makes of two bytes -/
def pairCh (u v : Int32) : Int32 := (((u &&& 255) <<< ((0 : Int32) &&& 31)) ||| ((v &&& 255) <<< ((8 : Int32) &&& 31))).toUInt32.toUInt16.toUInt32.toInt32
theorem shr0 (c : Int32) : c >>> ((0 : Int32) &&& 31) = c := by
  have e : ((0 : Int32) &&& 31) = 0 := by decide
  rw [e]
  apply Int32.toBitVec_inj.mp
  rw [Int32.toBitVec_shiftRight]
  have e1 : ((0 : Int32).toBitVec.smod 32) = 0#32 := by decide
  rw [e1, BitVec.sshiftRight_eq']
  exact BitVec.sshiftRight_zero
theorem lo8_and (x : Int32) : (lo8 x &&& 255).toBitVec.toNat = x.toBitVec.toNat % 256 := by
  have h : (lo8 x).toBitVec = (x.toBitVec.signExtend 8).signExtend 32 := by rw [lo8, Int8.toBitVec_toInt32, Int32.toBitVec_toInt8]
  rw [Int32.toBitVec_and, BitVec.toNat_and, h]
  have e : ((x.toBitVec.signExtend 8).signExtend 32).toNat % 256 = x.toBitVec.toNat % 256 := by
    rw [BitVec.toNat_signExtend]
    have hlt := x.toBitVec.isLt
    simp only [BitVec.toNat_setWidth, BitVec.toNat_signExtend]
    split <;> split <;> omega
  rw [← e]
  exact Nat.and_two_pow_sub_one_eq_mod _ 8
theorem pair_says {c : Int32} (h0 : ¬ c < 0) (h1 : ¬ 65535 < c) : pairCh (lo8 c) (hi8 c) = c := by
  rw [Int32.lt_iff_toInt_lt] at h0 h1
  have e0 : (0 : Int32).toInt = 0 := rfl
  have e1 : (65535 : Int32).toInt = 65535 := rfl
  have hc : c.toInt = c.toBitVec.toNat := by
    have := c.toBitVec.isLt
    have e : c.toInt = c.toBitVec.toInt := rfl
    rw [e] at h0 h1
    rw [e]
    rw [BitVec.toInt_eq_toNat_cond] at h0 h1 ⊢
    split at h0 <;> split <;> omega
  have hn : c.toBitVec.toNat < 65536 := by omega
  have a1 := lo8_and c
  have a2 : (hi8 c &&& 255).toBitVec.toNat = c.toBitVec.toNat / 256 := by
    rw [hi8, lo8_and]
    have e : ((8 : Int32) &&& 31) = 8 := by decide
    rw [e, Int32.toBitVec_shiftRight]
    have e2 : ((8 : Int32).toBitVec.smod 32) = 8#32 := by decide
    rw [e2, BitVec.sshiftRight_eq', BitVec.toNat_sshiftRight_of_msb_false (by rw [BitVec.msb_eq_false_iff_two_mul_lt]; omega)]
    show c.toBitVec.toNat >>> 8 % 256 = _
    rw [Nat.shiftRight_eq_div_pow]
    omega
  unfold pairCh
  apply Int32.toBitVec_inj.mp
  apply BitVec.eq_of_toNat_eq
  have f0 : ((0 : Int32) &&& 31) = 0 := by decide
  have f8 : ((8 : Int32) &&& 31) = 8 := by decide
  rw [f0, f8]
  have g : (((lo8 c &&& 255) <<< (0 : Int32)) ||| ((hi8 c &&& 255) <<< (8 : Int32))).toBitVec.toNat = c.toBitVec.toNat := by
    rw [Int32.toBitVec_or, Int32.toBitVec_shiftLeft, Int32.toBitVec_shiftLeft]
    have s0 : ((0 : Int32).toBitVec.smod 32) = 0#32 := by decide
    have s8 : ((8 : Int32).toBitVec.smod 32) = 8#32 := by decide
    rw [s0, s8, BitVec.toNat_or]
    simp only [BitVec.shiftLeft_eq', BitVec.toNat_shiftLeft, a1, a2]
    show (c.toBitVec.toNat % 256) <<< 0 % 2 ^ 32 ||| (c.toBitVec.toNat / 256) <<< 8 % 2 ^ 32 = _
    rw [Nat.shiftLeft_zero, Nat.mod_eq_of_lt (show c.toBitVec.toNat % 256 < 2 ^ 32 by omega), Nat.mod_eq_of_lt (show (c.toBitVec.toNat / 256) <<< 8 < 2 ^ 32 by rw [Nat.shiftLeft_eq]; omega), Nat.or_comm, ← Nat.shiftLeft_add_eq_or_of_lt (by omega), Nat.shiftLeft_eq]
    omega
  show BitVec.toNat (((((lo8 c &&& 255) <<< (0 : Int32)) ||| ((hi8 c &&& 255) <<< (8 : Int32))).toBitVec.setWidth 16).setWidth 32) = _
  rw [BitVec.toNat_setWidth, BitVec.toNat_setWidth, g]
  omega
end StrChars
namespace StrChars
open Jvm Sem ClassFile Op Lib Jvm.Stand Jvm.Free.XT Jvm.Free.ALB Jvm.Free.JM Jvm.Free
open Jvm.Lib.Cold (StaticIs)
theorem shr1 {n : Nat} (h : 2 * n < 2 ^ 31) : Int32.ofNat (2 * n) >>> ((1 : Int32) &&& 31) = Int32.ofNat n := by
  have e : ((1 : Int32) &&& 31) = 1 := by decide
  rw [e]
  apply Int32.toBitVec_inj.mp
  rw [Int32.toBitVec_shiftRight]
  have e1 : ((1 : Int32).toBitVec.smod 32) = 1#32 := by decide
  have hm : (BitVec.ofNat 32 (2 * n)).toNat = 2 * n := by rw [BitVec.toNat_ofNat, Nat.mod_eq_of_lt (by omega)]
  rw [e1, BitVec.sshiftRight_eq']
  apply BitVec.eq_of_toNat_eq
  show ((BitVec.ofNat 32 (2 * n)).sshiftRight 1).toNat = (BitVec.ofNat 32 n).toNat
  rw [BitVec.toNat_sshiftRight_of_msb_false (by rw [BitVec.msb_eq_false_iff_two_mul_lt, hm]; omega), hm, BitVec.toNat_ofNat, Nat.shiftRight_eq_div_pow]
  omega
/-- charAt's cast of a byte read back -/
def chr8 (u : Int32) : Int32 := (u &&& 255).toUInt32.toUInt16.toUInt32.toInt32
theorem chr8_lo8 {c : Int32} (h0 : ¬ c < 0) (h1 : ¬ 255 < c) : chr8 (lo8 c) = c := by
  have t : ∀ k : Fin 256, (Int32.ofNat k.val).toUInt32.toUInt16.toUInt32.toInt32 = Int32.ofNat k.val := by decide +kernel
  unfold chr8
  rw [lo8_mask h0 h1]
  rw [Int32.lt_iff_toInt_lt] at h0 h1
  have e0 : (0 : Int32).toInt = 0 := rfl
  have e1 : (255 : Int32).toInt = 255 := rfl
  obtain ⟨k, hk⟩ : ∃ k : Nat, c.toInt = k := ⟨c.toInt.toNat, by omega⟩
  have hx : c = Int32.ofNat k := Int32.toInt_inj.mp (by rw [hk, Int32.toInt_ofNat_small (by omega)])
  rw [hx]
  exact t ⟨k, by omega⟩
theorem narrow_ch {c : Int32} (h0 : ¬ c < 0) (h1 : ¬ 65535 < c) : narrow .char (.int c) = .int c := by
  have q : narrow .char (.int (pairCh (lo8 c) (hi8 c))) = .int (pairCh (lo8 c) (hi8 c)) := narrow_c _
  rwa [pair_says h0 h1] at q
/-- the array's cell V codes the n chars f 0 .. f (n - 1) by the coder cd, as the JDK does: coder 1 just where some char is above 255 -/
def Cod (cd : Int32) (n : Nat) (f : Nat → Int32) (V : Cell) : Prop := (cd = 0 ∧ V.slots.size = n ∧ ∀ j, j < n → V.slots[j]? = some (.int (lo8 (f j))) ∧ ¬ 255 < f j) ∨ (cd = 1 ∧ V.slots.size = 2 * n ∧ (∀ j, j < n → V.slots[2 * j]? = some (.int (lo8 (f j))) ∧ V.slots[2 * j + 1]? = some (.int (hi8 (f j)))) ∧ ∃ j, j < n ∧ 255 < f j)
theorem Cod.cd {cd : Int32} {n : Nat} {f : Nat → Int32} {V : Cell} (h : Cod cd n f V) : cd = 0 ∨ cd = 1 := h.imp (fun q => q.1) fun q => q.1
theorem Cod.len {cd : Int32} {n : Nat} {f : Nat → Int32} {V : Cell} (h : Cod cd n f V) (hs : V.slots.size < 2 ^ 31) : Int32.ofNat V.slots.size >>> (cd &&& 31) = Int32.ofNat n := by
  rcases h with ⟨rfl, h, -⟩ | ⟨rfl, h, -⟩
  · rw [shr0, h]
  · rw [h, shr1 (by omega)]
/-- **x is a String of the n chars f 0 .. f (n - 1)**, Latin-1 or UTF-16; its array at t has the cell V -/
def Txt (x t : Addr) (V : Cell) (cd : Int32) (n : Nat) (f : Nat → Int32) (U : State) : Prop := Exact "java/lang/String" x U ∧ Has x "java/lang/String" "value" "[B" (.ref t) U ∧ Has x "java/lang/String" "coder" "B" (.int cd) U ∧ XT.Arr .byte t V U ∧ Cod cd n f V ∧ ∀ j, j < n → ¬ f j < 0 ∧ ¬ 65535 < f j
theorem Txt.mv {x t : Addr} {V : Cell} {cd : Int32} {n : Nat} {f : Nat → Int32} {U U' : State} (h : Txt x t V cd n f U) (hal : U.vm.Alike U'.vm) (hh : U'.heap = U.heap) : Txt x t V cd n f U' := ⟨h.1.mv hal hh, h.2.1.mv hal hh, h.2.2.1.mv hal hh, h.2.2.2.1.mv hal hh, h.2.2.2.2⟩
namespace Cdr
def yN : MethodName := ⟨"java/lang/String", "coder", "()B"⟩
abbrev yB : ByteArray := jdk_42_method_152_code
theorem d0 : decode yB 0 = .ok (.getstatic 38, 3) := by decide +kernel
theorem d3 : decode yB 3 = .ok (.ifCond (.eq) 10, 3) := by decide +kernel
theorem d6 : decode yB 6 = .ok (.aload_n 0, 1) := by decide +kernel
theorem d7 : decode yB 7 = .ok (.getfield 15, 3) := by decide +kernel
theorem d10 : decode yB 10 = .ok (.goto 4, 3) := by decide +kernel
theorem d14 : decode yB 14 = .ok (.ireturn, 1) := by decide +kernel
def site : List Cond := [.fieldLink "java/lang/String" 38 "java/lang/String" "COMPACT_STRINGS" "Z", .fieldLink "java/lang/String" 15 "java/lang/String" "coder" "B"]
def tab : Cond := tabOf yN yB 1 (some .byte) site
def P (x : Addr) (cd z : Int32) (args : Array Value) (s : State) : Prop := args = #[.ref x] ∧ Has x "java/lang/String" "coder" "B" (.int cd) s ∧ (cd = 0 ∨ cd = 1) ∧ StaticIs s "java/lang/String" "COMPACT_STRINGS" "Z" (.int z) ∧ ¬ z = 0
def E (cd : Int32) (r : Option Value) (s u : State) : Prop := XT.PureE (some (.int cd)) r s u
theorem law (l : Launch) (x : Addr) (cd z : Int32) : Law l yN 1 0 0 0 yB 1 (some .byte) site (P x cd z) (E cd) [] 0 0 := by
  refine Law.of_walk (plainFor_of_name (by decide +kernel)) (by decide +kernel) (by decide +kernel) (by decide) (fun _ _ h => by rw [h.1]; rfl) (fun _ U U' hal hh h => ⟨h.1, h.2.1.mv hal hh, h.2.2.1, h.2.2.2.1.there hal hh, h.2.2.2.2⟩) (fun r U U' V V' h1 hal h2 h => XT.PureE.mv r U U' V V' h1 hal h2 h) ?_
  intro p e s m args below meth c s₁ X0 hexec hbytes hml hret hlk hnm hown hh0 W hP
  obtain ⟨rfl, hx, hc, s1, hz⟩ := hP
  have c1 : Steps p.tables e below (s₁.setTop (entryFrame m #[.ref x] 1)) (s₁.setTop (mkF m 0 #[.val (.ref x)] [])) := entry rfl
  obtain ⟨T2, X2, q2, st2⟩ := X0.sget hexec hown (wk W (.fieldLink "java/lang/String" 38 "java/lang/String" "COMPACT_STRINGS" "Z")) s1 (fun _ _ h => by rw [hh0]; exact h) (g := (mkF m 0 #[.val (.ref x)] [])) rfl (hb hbytes d0)
  have hh2 := q2.trans hh0
  have c3 : Steps p.tables e below (s₁.setTop (entryFrame m #[.ref x] 1)) (T2.setTop (mkF m 7 #[.val (.ref x)] [.ref x])) := (c1.trans (st2 _ (Steps.refl _))).trans (by
    refine XS.ifNo X2.here hexec rfl (hb hbytes d3) rfl (i0_eq_f hz) ?_
    refine XS.aloadN X2.here hexec rfl (hb hbytes d6) rfl rfl ?_
    exact Steps.refl _)
  obtain ⟨T4, X4, q4, st4⟩ := X2.hget hexec hown (wk W (.fieldLink "java/lang/String" 15 "java/lang/String" "coder" "B")) (hx.mv X2.warmed.alike hh2) (g := (mkF m 7 #[.val (.ref x)] [.ref x])) rfl (rest := []) rfl (hb hbytes d7)
  have c5 : Steps p.tables e below (s₁.setTop (entryFrame m #[.ref x] 1)) (T4.setTop (mkF m 14 #[.val (.ref x)] [.int cd])) := (c3.trans (st4 _ (Steps.refl _))).trans (by
    refine XS.goto X4.here hexec rfl (pc0 := 10) rfl (hb hbytes d10) (by decide) rfl ?_
    exact Steps.refl _)
  exact ⟨T4, some (.int cd), _, _, _, X4, rfl, rfl, rfl, (fun h => by cases h), ⟨rfl, q4.trans hh2⟩, fun fs hl => c5.trans (X4.ireturnOut hexec hret (by rcases hc with rfl | rfl <;> rfl) (Or.inr (Or.inr (Or.inl rfl))) (hb hbytes d14) hl)⟩
end Cdr
namespace Len
def yN : MethodName := ⟨"java/lang/String", "length", "()I"⟩
abbrev yB : ByteArray := jdk_42_method_54_code
theorem d0 : decode yB 0 = .ok (.aload_n 0, 1) := by decide +kernel
theorem d1 : decode yB 1 = .ok (.getfield 9, 3) := by decide +kernel
theorem d4 : decode yB 4 = .ok (.arraylength, 1) := by decide +kernel
theorem d5 : decode yB 5 = .ok (.aload_n 0, 1) := by decide +kernel
theorem d6 : decode yB 6 = .ok (.invokevirtual 335, 3) := by decide +kernel
theorem d9 : decode yB 9 = .ok (.ishr, 1) := by decide +kernel
theorem d10 : decode yB 10 = .ok (.ireturn, 1) := by decide +kernel
def site : List Cond := [.fieldLink "java/lang/String" 9 "java/lang/String" "value" "[B", Cdr.tab] ++ virtW "java/lang/String" 335 "java/lang/String" Cdr.yN Cdr.yN
def tab : Cond := tabOf yN yB 1 (some .int) site
def P (x t : Addr) (V : Cell) (cd : Int32) (n : Nat) (f : Nat → Int32) (z : Int32) (args : Array Value) (s : State) : Prop := args = #[.ref x] ∧ Txt x t V cd n f s ∧ StaticIs s "java/lang/String" "COMPACT_STRINGS" "Z" (.int z) ∧ ¬ z = 0
def E (n : Nat) (r : Option Value) (s u : State) : Prop := XT.PureE (some (.int (Int32.ofNat n))) r s u
/-- length() of a String of n chars, in either coding -/
theorem law (l : Launch) (x t : Addr) (V : Cell) (cd : Int32) (n : Nat) (f : Nat → Int32) (z : Int32) : Law l yN 1 0 1 13 yB 1 (some .int) site (P x t V cd n f z) (E n) [] 0 0 := by
  refine Law.of_walk (plainFor_of_name (by decide +kernel)) (by decide +kernel) (by decide +kernel) (by decide) (fun _ _ h => by rw [h.1]; rfl) (fun _ U U' hal hh h => ⟨h.1, h.2.1.mv hal hh, h.2.2.1.there hal hh, h.2.2.2⟩) (fun r U U' V V' h1 hal h2 h => XT.PureE.mv r U U' V V' h1 hal h2 h) ?_
  intro p e s m args below meth c s₁ X0 hexec hbytes hml hret hlk hnm hown hh0 W hP
  obtain ⟨rfl, hx, s1, hz⟩ := hP
  have v31 := hx.2.2.2.1.2.2.2
  have c1 : Steps p.tables e below (s₁.setTop (entryFrame m #[.ref x] 1)) (s₁.setTop (mkF m 1 #[.val (.ref x)] [.ref x])) := Steps.trans (entry rfl) (by
    show Steps p.tables e below (s₁.setTop (mkF m 0 #[.val (.ref x)] [])) _
    refine XS.aloadN X0.here hexec rfl (hb hbytes d0) rfl rfl ?_
    exact Steps.refl _)
  obtain ⟨T2, X2, q2, st2⟩ := X0.hget hexec hown (wk W (.fieldLink "java/lang/String" 9 "java/lang/String" "value" "[B")) (hx.mv X0.warmed.alike hh0).2.1 (g := (mkF m 1 #[.val (.ref x)] [.ref x])) rfl (rest := []) rfl (hb hbytes d1)
  have hh2 := q2.trans hh0
  have hx2 := hx.mv X2.warmed.alike hh2
  have c3 : Steps p.tables e below (s₁.setTop (entryFrame m #[.ref x] 1)) (T2.setTop (mkF m 6 #[.val (.ref x)] [.ref x, .int (Int32.ofNat V.slots.size)])) := (c1.trans (st2 _ (Steps.refl _))).trans (by
    refine X2.alen hexec hx2.2.2.2.1 rfl rfl (hb hbytes d4) ?_
    refine XS.aloadN X2.here hexec rfl (hb hbytes d5) rfl rfl ?_
    exact Steps.refl _)
  obtain ⟨v4, T4, X4, E4, g4⟩ := X2.callV hexec (Cdr.law l x cd z) hown (wks W (virtW "java/lang/String" 335 "java/lang/String" Cdr.yN Cdr.yN)) rfl (by decide) (wk W Cdr.tab) (W := 1) (Nat.le_of_ble_eq_true rfl) (Nat.le_of_ble_eq_true rfl) (Nat.le_refl _) (Nat.le_refl _) (hx2.1.fc X2.warmed.alike) hx2.1.is (g := (mkF m 6 #[.val (.ref x)] [.ref x, .int (Int32.ofNat V.slots.size)])) rfl (by rw [hml]; rfl) c3 (argsL := []) (rest := [.int (Int32.ofNat V.slots.size)]) rfl rfl (by show 2 * 0 + (1 + 0) ≤ _; decide) (hb hbytes d6) (⟨rfl, hx2.2.2.1, hx.2.2.2.2.1.cd, s1.there X2.warmed.alike hh2, hz⟩)
  obtain ⟨rfl, q4⟩ := E4
  have c5 : Steps p.tables e below (s₁.setTop (entryFrame m #[.ref x] 1)) (T4.setTop (mkF m 10 #[.val (.ref x)] [.int (Int32.ofNat V.slots.size >>> (cd &&& 31))])) := Steps.trans g4 (by
    refine ishr X4.here hexec rfl (hb hbytes d9) rfl ?_
    exact Steps.refl _)
  rw [hx.2.2.2.2.1.len v31] at c5
  exact ⟨T4, some (.int (Int32.ofNat n)), _, _, _, X4, rfl, rfl, rfl, (fun h => by cases h), ⟨rfl, q4.trans hh2⟩, fun fs hl => c5.trans (X4.ireturnOut hexec hret rfl (Or.inl rfl) (hb hbytes d10) hl)⟩
theorem pays {l : Launch} {R : Room} {p : Program} {e : Env} {below : List Frame} {s : State} {sargs : Array Value} {len W : Nat} (x t : Addr) (V : Cell) (cd : Int32) (n : Nat) (f : Nat → Int32) (z : Int32) (htab : tab.before sargs s = true) (hfr : 2 ≤ R.frames) (hlo : W + 25 ≤ R.locals) :
    Back l R p e below s sargs yN len W (fun A₁ a₁ => A₁.cells + 0 ≤ R.cells ∧ A₁.slots + 0 ≤ R.slots ∧ P x t V cd n f z a₁ A₁.U) (fun A₁ _ v₁ B₁ => E n v₁ A₁.U B₁.U ∧ B₁.locs = A₁.locs ++ [] ∧ B₁.cells = A₁.cells + 0 ∧ B₁.slots = A₁.slots + 0) :=
  (law l x t V cd n f z).pays htab hfr (by omega)
end Len
namespace IsL
def yN : MethodName := ⟨"java/lang/String", "isLatin1", "()Z"⟩
abbrev yB : ByteArray := jdk_42_method_154_code
theorem d0 : decode yB 0 = .ok (.getstatic 38, 3) := by decide +kernel
theorem d3 : decode yB 3 = .ok (.ifCond (.eq) 14, 3) := by decide +kernel
theorem d6 : decode yB 6 = .ok (.aload_n 0, 1) := by decide +kernel
theorem d7 : decode yB 7 = .ok (.getfield 15, 3) := by decide +kernel
theorem d10 : decode yB 10 = .ok (.ifCond (.ne) 7, 3) := by decide +kernel
theorem d13 : decode yB 13 = .ok (.iconst 1, 1) := by decide +kernel
theorem d14 : decode yB 14 = .ok (.goto 4, 3) := by decide +kernel
theorem d17 : decode yB 17 = .ok (.iconst 0, 1) := by decide +kernel
theorem d18 : decode yB 18 = .ok (.ireturn, 1) := by decide +kernel
def site : List Cond := [.fieldLink "java/lang/String" 38 "java/lang/String" "COMPACT_STRINGS" "Z", .fieldLink "java/lang/String" 15 "java/lang/String" "coder" "B"]
def tab : Cond := tabOf yN yB 1 (some .boolean) site
def P (x : Addr) (cd z : Int32) (args : Array Value) (s : State) : Prop := args = #[.ref x] ∧ Has x "java/lang/String" "coder" "B" (.int cd) s ∧ (cd = 0 ∨ cd = 1) ∧ StaticIs s "java/lang/String" "COMPACT_STRINGS" "Z" (.int z) ∧ ¬ z = 0
def E (cd : Int32) (r : Option Value) (s u : State) : Prop := XT.PureE (some (.int (1 - cd))) r s u
theorem law (l : Launch) (x : Addr) (cd z : Int32) : Law l yN 1 0 0 0 yB 1 (some .boolean) site (P x cd z) (E cd) [] 0 0 := by
  refine Law.of_walk (plainFor_of_name (by decide +kernel)) (by decide +kernel) (by decide +kernel) (by decide) (fun _ _ h => by rw [h.1]; rfl) (fun _ U U' hal hh h => ⟨h.1, h.2.1.mv hal hh, h.2.2.1, h.2.2.2.1.there hal hh, h.2.2.2.2⟩) (fun r U U' V V' h1 hal h2 h => XT.PureE.mv r U U' V V' h1 hal h2 h) ?_
  intro p e s m args below meth c s₁ X0 hexec hbytes hml hret hlk hnm hown hh0 W hP
  obtain ⟨rfl, hx, hc, s1, hz⟩ := hP
  have c1 : Steps p.tables e below (s₁.setTop (entryFrame m #[.ref x] 1)) (s₁.setTop (mkF m 0 #[.val (.ref x)] [])) := entry rfl
  obtain ⟨T2, X2, q2, st2⟩ := X0.sget hexec hown (wk W (.fieldLink "java/lang/String" 38 "java/lang/String" "COMPACT_STRINGS" "Z")) s1 (fun _ _ h => by rw [hh0]; exact h) (g := (mkF m 0 #[.val (.ref x)] [])) rfl (hb hbytes d0)
  have hh2 := q2.trans hh0
  have c3 : Steps p.tables e below (s₁.setTop (entryFrame m #[.ref x] 1)) (T2.setTop (mkF m 7 #[.val (.ref x)] [.ref x])) := (c1.trans (st2 _ (Steps.refl _))).trans (by
    refine XS.ifNo X2.here hexec rfl (hb hbytes d3) rfl (i0_eq_f hz) ?_
    refine XS.aloadN X2.here hexec rfl (hb hbytes d6) rfl rfl ?_
    exact Steps.refl _)
  obtain ⟨T4, X4, q4, st4⟩ := X2.hget hexec hown (wk W (.fieldLink "java/lang/String" 15 "java/lang/String" "coder" "B")) (hx.mv X2.warmed.alike hh2) (g := (mkF m 7 #[.val (.ref x)] [.ref x])) rfl (rest := []) rfl (hb hbytes d7)
  have c5 : Steps p.tables e below (s₁.setTop (entryFrame m #[.ref x] 1)) (T4.setTop (mkF m 10 #[.val (.ref x)] [.int cd])) := c3.trans (st4 _ (Steps.refl _))
  have c6 : Steps p.tables e below (s₁.setTop (entryFrame m #[.ref x] 1)) (T4.setTop (mkF m 18 #[.val (.ref x)] [.int (1 - cd)])) := by
    rcases hc with rfl | rfl
    · exact c5.trans (by
        refine XS.ifNo X4.here hexec rfl (hb hbytes d10) rfl (i0_ne_f rfl) ?_
        refine iconstV X4.here hexec rfl 1 (hb hbytes d13) (by decide) ?_
        refine XS.goto X4.here hexec rfl (pc0 := 14) rfl (hb hbytes d14) (by decide) rfl ?_
        exact Steps.refl _)
    · exact c5.trans (by
        refine XS.ifYes X4.here hexec rfl (pc0 := 10) rfl (hb hbytes d10) rfl (i0_ne_t (by decide)) (by decide) rfl ?_
        refine iconstV X4.here hexec rfl 0 (hb hbytes d17) (by decide) ?_
        exact Steps.refl _)
  exact ⟨T4, some (.int (1 - cd)), _, _, _, X4, rfl, rfl, rfl, (fun h => by cases h), ⟨rfl, q4.trans hh2⟩, fun fs hl => c6.trans (X4.ireturnOut hexec hret (by rcases hc with rfl | rfl <;> rfl) (Or.inr (Or.inl rfl)) (hb hbytes d18) hl)⟩
end IsL
namespace LChA
def yN : MethodName := ⟨"java/lang/StringLatin1", "charAt", "([BI)C"⟩
abbrev yB : ByteArray := jdk_43_method_2_code
theorem d0 : decode yB 0 = .ok (.iload_n 1, 1) := by decide +kernel
theorem d1 : decode yB 1 = .ok (.aload_n 0, 1) := by decide +kernel
theorem d2 : decode yB 2 = .ok (.arraylength, 1) := by decide +kernel
theorem d3 : decode yB 3 = .ok (.invokestatic 9, 3) := by decide +kernel
theorem d6 : decode yB 6 = .ok (.aload_n 0, 1) := by decide +kernel
theorem d7 : decode yB 7 = .ok (.iload_n 1, 1) := by decide +kernel
theorem d8 : decode yB 8 = .ok (.baload, 1) := by decide +kernel
theorem d9 : decode yB 9 = .ok (.sipush 255, 3) := by decide +kernel
theorem d12 : decode yB 12 = .ok (.iand, 1) := by decide +kernel
theorem d13 : decode yB 13 = .ok (.i2c, 1) := by decide +kernel
theorem d14 : decode yB 14 = .ok (.ireturn, 1) := by decide +kernel
def site : List Cond := [JO.Str_checkIndex.tab] ++ staticW "java/lang/StringLatin1" 9 JO.Str_checkIndex.yN
def tab : Cond := tabOf yN yB 2 (some .char) site
def P (t : Addr) (V : Cell) (i : Nat) (u : Int32) (fm : Value) (args : Array Value) (s : State) : Prop := args = #[.ref t, .int (Int32.ofNat i)] ∧ XT.Arr .byte t V s ∧ V.slots[i]? = some (.int u) ∧ (StaticIs s "jdk/internal/util/Preconditions" "SIOOBE_FORMATTER" "Ljava/util/function/BiFunction;" fm ∧ fm.isRef = true)
def E (u : Int32) (r : Option Value) (s w : State) : Prop := XT.PureE (some (.int (chr8 u))) r s w
theorem law (l : Launch) (t : Addr) (V : Cell) (i : Nat) (u : Int32) (fm : Value) : Law l yN 2 2 2 27 yB 2 (some .char) site (P t V i u fm) (E u) [] 0 0 := by
  refine Law.of_walk (plainFor_of_name (by decide +kernel)) (by decide +kernel) (by decide +kernel) (by decide) (fun _ _ h => by rw [h.1]; rfl) (fun _ U U' hal hh h => ⟨h.1, h.2.1.mv hal hh, h.2.2.1, h.2.2.2.1.there hal hh, h.2.2.2.2⟩) (fun r U U' V V' h1 hal h2 h => XT.PureE.mv r U U' V V' h1 hal h2 h) ?_
  intro p e s m args below meth c s₁ X0 hexec hbytes hml hret hlk hnm hown hh0 W hP
  obtain ⟨rfl, hV, hu, s1, rf⟩ := hP
  have v31 := hV.2.2.2
  have hi : i < V.slots.size := (Array.getElem?_eq_some_iff.mp hu).1
  have c1 : Steps p.tables e below (s₁.setTop (entryFrame m #[.ref t, .int (Int32.ofNat i)] 2)) (s₁.setTop (mkF m 0 #[.val (.ref t), .val (.int (Int32.ofNat i))] [])) := entry rfl
  have c2 : Steps p.tables e below (s₁.setTop (entryFrame m #[.ref t, .int (Int32.ofNat i)] 2)) (s₁.setTop (mkF m 3 #[.val (.ref t), .val (.int (Int32.ofNat i))] [.int (Int32.ofNat V.slots.size), .int (Int32.ofNat i)])) := c1.trans (by
    refine XS.iloadN X0.here hexec rfl (hb hbytes d0) rfl ?_
    refine XS.aloadN X0.here hexec rfl (hb hbytes d1) rfl rfl ?_
    refine X0.alen hexec (hV.mv X0.warmed.alike hh0) rfl rfl (hb hbytes d2) ?_
    exact Steps.refl _)
  obtain ⟨v3, T3, X3, E3, g3⟩ := X0.callS hexec (JO.Str_checkIndex.law l (Int32.ofNat i) (Int32.ofNat V.slots.size) fm) hown (wks W (staticW "java/lang/StringLatin1" 9 JO.Str_checkIndex.yN)) (wk W JO.Str_checkIndex.tab) (W := 0) (Nat.le_of_ble_eq_true rfl) (Nat.le_of_ble_eq_true rfl) (Nat.le_refl _) (Nat.le_refl _) (g := (mkF m 3 #[.val (.ref t), .val (.int (Int32.ofNat i))] [.int (Int32.ofNat V.slots.size), .int (Int32.ofNat i)])) rfl (by rw [hml]; rfl) c2 (argsL := [.int (Int32.ofNat i), .int (Int32.ofNat V.slots.size)]) (rest := []) rfl rfl (by show 2 * 0 + 0 ≤ _; decide) (hb hbytes d3) (⟨rfl, rf, s1.there X0.warmed.alike hh0, Int32.ofNat_not_neg (by omega), lt32 v31 hi⟩)
  obtain ⟨rfl, q3⟩ := E3
  have hh3 := q3.trans hh0
  have c4 : Steps p.tables e below (s₁.setTop (entryFrame m #[.ref t, .int (Int32.ofNat i)] 2)) (T3.setTop (mkF m 14 #[.val (.ref t), .val (.int (Int32.ofNat i))] [.int (chr8 u)])) := Steps.trans g3 (by
    refine XS.aloadN X3.here hexec rfl (hb hbytes d6) rfl rfl ?_
    refine XS.iloadN X3.here hexec rfl (hb hbytes d7) rfl ?_
    refine X3.aget hexec (hV.mv X3.warmed.alike hh3) rfl hu rfl rfl (hb hbytes d8) ?_
    refine sipushV X3.here hexec rfl 255 (hb hbytes d9) (by decide) ?_
    refine XS.iand X3.here hexec rfl (hb hbytes d12) rfl ?_
    refine i2c X3.here hexec rfl (hb hbytes d13) rfl ?_
    exact Steps.refl _)
  exact ⟨T3, some (.int (chr8 u)), _, _, _, X3, rfl, rfl, rfl, (fun h => by cases h), ⟨rfl, hh3⟩, fun fs hl => c4.trans (X3.ireturnOut hexec hret (narrow_c _) (Or.inr (Or.inr (Or.inr (Or.inl rfl)))) (hb hbytes d14) hl)⟩
end LChA
end StrChars
namespace StrChars.Road
open Jvm Sem ClassFile Op Lib Jvm.Stand Jvm.Free Jvm.Free.XT
open Jvm.Lib.Cold (StaticIs)
theorem consq {a : Array Value} {s : State} {c : Jvm.Cond} {L : List Jvm.Cond} (h0 : c.before a s = true) (h : ∀ w ∈ L, w.before a s = true) : ∀ w ∈ c :: L, w.before a s = true := fun w hw => (List.mem_cons.mp hw).elim (fun e => e ▸ h0) (h w)
/-- the words of String.length(), either coding -/
abbrev wordsLen : List Jvm.Cond := [.code Len.yN Len.yB 1 (some .int), .initialized ST, .fieldLink ST 9 ST "value" "[B", .fieldLink ST 38 ST "COMPACT_STRINGS" "Z", .fieldLink ST 15 ST "coder" "B", .code Cdr.yN Cdr.yB 1 (some .byte), .methodLink ST 335 Cdr.yN, .declares Cdr.yN, .selects ST Cdr.yN Cdr.yN, .instanceMethod Cdr.yN]
theorem tabLen_of {a : Array Value} {s : State} (h : ∀ w ∈ wordsLen, w.before a s = true) : Len.tab.before a s = true := by
  have hc : Cdr.tab.before a s = true := unparts (wk h (.code Cdr.yN Cdr.yB 1 (some .byte))) (wks h (.initialized Cdr.yN.cls :: Cdr.site))
  have q := consq hc h
  exact unparts (wk q (.code Len.yN Len.yB 1 (some .int))) (wks q (.initialized Len.yN.cls :: Len.site))
theorem movedLen {Z s : State} {a0 args : Array Value} (hZ : Z.Warmed39 s.vm) (hw : ∀ d ∈ wordsLen, d.before a0 Z = true) : ∀ d ∈ wordsLen, d.before args s = true := fun d hd => by
  have q := hw d hd
  have t : ∀ d ∈ wordsLen, d = .arrayClass .byte ∨ (d.onTables && d.keepsFace) = true := by decide +kernel
  rcases t d hd with rfl | t
  · exact RoadKit.mvA hZ q
  · exact RoadKit.mv hZ q t
/-- the bytes of the chars cs, low before high -/
def wideBytes : List Int32 → List Value
  | [] => []
  | c :: cs => .int (lo8 c) :: .int (hi8 c) :: wideBytes cs
theorem wide_lo (d : Value) : ∀ (cs : List Int32) (j : Nat), j < cs.length → (wideBytes cs).getD (2 * j) d = .int (lo8 (cs.getD j 0))
  | [], j, h => absurd h (Nat.not_lt_zero j)
  | c :: cs, 0, _ => rfl
  | c :: cs, j + 1, h => by
    have q := wide_lo d cs j (by simpa using h)
    rw [show 2 * (j + 1) = 2 * j + 1 + 1 from by omega]
    simpa [wideBytes] using q
theorem wide_hi (d : Value) : ∀ (cs : List Int32) (j : Nat), j < cs.length → (wideBytes cs).getD (2 * j + 1) d = .int (hi8 (cs.getD j 0))
  | [], j, h => absurd h (Nat.not_lt_zero j)
  | c :: cs, 0, _ => rfl
  | c :: cs, j + 1, h => by
    have q := wide_hi d cs j (by simpa using h)
    rw [show 2 * (j + 1) + 1 = 2 * j + 1 + 1 + 1 from by omega]
    simpa [wideBytes] using q
theorem low_at (d : Value) (cs : List Int32) (j : Nat) (h : j < cs.length) : (cs.map fun c => Value.int (lo8 c)).getD j d = .int (lo8 (cs.getD j 0)) := by
  simp [List.getD_eq_getElem?_getD, h]
/-- an array of N2 bytes vs codes the chars cs by the coder cd -/
def CodA (cs : List Int32) (cd N2 : Int32) (vs : List Value) : Prop := (cd = 0 ∧ N2 = Int32.ofNat cs.length ∧ vs = (cs.map fun c => Value.int (lo8 c)) ∧ ∀ c ∈ cs, ¬ 255 < c) ∨ (cd = 1 ∧ N2 = Int32.ofNat (2 * cs.length) ∧ vs = wideBytes cs ∧ ∃ c ∈ cs, 255 < c)
theorem CodA.cod {cs : List Int32} {cd N2 : Int32} {vs : List Value} {V : Cell} (h : CodA cs cd N2 vs) (hn : 2 * cs.length < 2 ^ 31) (hs : V.slots.size = N2.toNatClampNeg) (hv : RoadKit.Has V vs (.int 0)) : Cod cd cs.length (fun j => cs.getD j 0) V := by
  rcases h with ⟨rfl, rfl, rfl, h⟩ | ⟨rfl, rfl, rfl, c, hc, hw⟩
  · rw [n32 (by omega)] at hs
    exact Or.inl ⟨rfl, hs, fun j hj => ⟨by rw [hv j (by omega), low_at _ _ _ hj], by
      have e : cs.getD j 0 = cs[j] := by simp [List.getD_eq_getElem?_getD, hj]
      show ¬ 255 < cs.getD j 0
      rw [e]; exact h _ (List.getElem_mem _)⟩⟩
  · rw [n32 (by omega)] at hs
    obtain ⟨j, hj, rfl⟩ := List.getElem_of_mem hc
    exact Or.inr ⟨rfl, hs, fun j hj => ⟨by rw [hv _ (by omega), wide_lo _ _ _ hj], by rw [hv _ (by omega), wide_hi _ _ _ hj]⟩, j, hj, by
      have e : cs.getD j 0 = cs[j] := by simp [List.getD_eq_getElem?_getD, hj]
      show 255 < cs.getD j 0
      rw [e]; exact hw⟩
/-- an object of exactly java/lang/String, its two fields found: as the laws ask it -/
theorem strObj {Z U : State} {a0 : Array Value} {kI : Nat} (wi : (Jvm.Cond.instantiable ST kI).before a0 Z = true) (al : Z.vm.Alike U.vm) {x : Addr} {v0 c0 : Value} (E : RoadKit.Exa Z U.heap x ST) (V : RoadKit.Fld Z U.heap x ST "value" "[B" v0) (C : RoadKit.Fld Z U.heap x ST "coder" "B" c0) :
    ∃ (D : Cell) (fV fC : Field), Blank ST x D U ∧ Found ST "value" "[B" fV U ∧ Found ST "coder" "B" fC U ∧ D.slots[fV.slot]? = some v0 ∧ D.slots[fC.slot]? = some c0 ∧ RoadKit.slotOf Z ST "value" "[B" = fV.slot ∧ RoadKit.slotOf Z ST "coder" "B" = fC.slot := by
  obtain ⟨D, cfV, kV, iV, fV, hD, gV, stV, knV, obV, asV, slV⟩ := V
  obtain ⟨D', cfC, kC, iC, fC, hD', gC, stC, -, -, asC, slC⟩ := C
  cases hD.symm.trans hD'
  obtain ⟨D2, kD, e1, e2, e3, e4, e5⟩ := E
  cases hD.symm.trans e1
  obtain ⟨c2, k2, i1, i2, i3, -⟩ := Cond.instantiable_spec wi
  cases e2.symm.trans i1
  cases e3.symm.trans i2
  obtain ⟨kU, u1, u2⟩ := al.2.2 _ _ e3
  exact ⟨D, fV, fC, ⟨hD, ⟨knV, fun q hq => by rw [hq] at obV; cases obV⟩, by rw [al.findClass]; exact e2, kU, u1, by rw [u2]; exact i3, by rw [u2]; exact e5 i3⟩, ⟨SBG.found_only al ⟨cfV, kV, iV, gV⟩, stV⟩, ⟨SBG.found_only al ⟨cfC, kC, iC, gC⟩, stC⟩, slV, slC, by simp [RoadKit.slotOf, gV], by simp [RoadKit.slotOf, gC]⟩
theorem sta_is {Z U : State} (al : Z.vm.Alike U.vm) {C n d : String} {v : Value} (S : RoadKit.Sta Z U.heap C n d v) : StaticIs U C n d v := by
  obtain ⟨cfS, iS, kS, fS, st, cS, t1, t2, t3, t4, t5, t6, t7⟩ := S
  exact StaticIs.there (s := { Z with heap := U.heap }) ⟨cfS, iS, kS, fS, st, cS, t1, t2, t3, t4, t5, (fun q => by rw [q] at t6; cases t6), t7⟩ al rfl
/-- **length() OF SUCH A STRING** -/
theorem lenW {p : Program} {l : Launch} {e : Env} {R : Room} {s : State} {args : Array Value} {below : List Frame} {len W : Nat} {Z : State} {a0 : Array Value} {h : Heap} (hZ : Z.Warmed39 s.vm) (hw : ∀ d ∈ wordsLen, d.before a0 Z = true) {kI : Nat} (wi : (Jvm.Cond.instantiable ST kI).before a0 Z = true)
    {x t : Addr} {kb : ClassId} {cs : List Int32} {cd N2 z : Int32} {vs : List Value} (E : RoadKit.Exa Z h x ST) (V : RoadKit.Fld Z h x ST "value" "[B" (.ref t)) (C : RoadKit.Fld Z h x ST "coder" "B" (.int cd)) (K : RoadKit.Arv Z h t kb .byte N2 vs (.int 0)) (hc : CodA cs cd N2 vs) (hb : ∀ c ∈ cs, ¬ c < 0 ∧ ¬ (65535 : Int32) < c)
    (S : RoadKit.Sta Z h ST "COMPACT_STRINGS" "Z" (.int z)) (hz : ¬ z = 0) (l2 : cs.length ≤ 4000) (hfr : 2 ≤ R.frames) (hlo : W + 25 ≤ R.locals) :
    Back l R p e below s args (⟨"java/lang/String", "length", "()I"⟩ : MethodName) len W (fun P a => a = #[.ref x] ∧ P.U.heap = h ∧ P.cells + 0 ≤ R.cells ∧ P.slots + 0 ≤ R.slots)
      (fun P _ v B => ∃ L, (v = some (.int (Int32.ofNat cs.length)) ∧ L = [] ∧ B.U.heap = h) ∧ B.locs = P.locs ++ L ∧ B.cells = P.cells + 0 ∧ B.slots = P.slots + 0) := by
  obtain ⟨A, K1, K2, K3, K4, K5, K6⟩ := K
  have hcod := hc.cod (by omega) K3 K5
  intro m meth c P g ig mk a X hg hsize hdg hW hn hp'
  obtain ⟨rfl, rfl, r1, r2⟩ := hp'
  have al : Z.vm.Alike P.U.vm := hZ.alike.trans X.warmed.alike
  obtain ⟨D, fV, fC, hB, F1, F2, g1, g2, -, -⟩ := strObj wi al E V C
  have hx : Txt x t A cd cs.length (fun j => cs.getD j 0) P.U := ⟨⟨_, hB.2.2.1, D, hB.1, rfl, by cases q : D.vm <;> first | rfl | exact absurd q (hB.2.1.2 _)⟩, Has.of hB F1 g1, Has.of hB F2 g2, ⟨K1.1, State.isArrayOf_alike al K1.2.1, K1.2.2, by rcases hcod with ⟨-, q, -⟩ | ⟨-, q, -⟩ <;> omega⟩, hcod, fun j hj => by
    have e : cs.getD j 0 = cs[j] := by simp [List.getD_eq_getElem?_getD, hj]
    show ¬ cs.getD j 0 < 0 ∧ ¬ 65535 < cs.getD j 0
    rw [e]; exact hb _ (List.getElem_mem _)⟩
  obtain ⟨v, B, X', ⟨⟨hv, hh⟩, hl, hk, hs⟩, st⟩ := Len.pays x t A cd cs.length (fun j => cs.getD j 0) z (tabLen_of (movedLen hZ hw)) hfr hlo m meth c P g ig mk _ X hg hsize hdg hW hn ⟨r1, r2, rfl, hx, sta_is al S, hz⟩
  exact ⟨v, B, X', ⟨[], ⟨hv, rfl, hh⟩, hl, hk, hs⟩, st⟩
end StrChars.Road
namespace StrChars
open Jvm Sem ClassFile Op Lib Jvm.Stand Jvm.Free.XT Jvm.Free.ALB Jvm.Free.JM Jvm.Free
open Jvm.Lib.Cold (StaticIs)
namespace Emp
def yN : MethodName := ⟨"java/lang/String", "isEmpty", "()Z"⟩
abbrev yB : ByteArray := jdk_42_method_55_code
theorem d0 : decode yB 0 = .ok (.aload_n 0, 1) := by decide +kernel
theorem d1 : decode yB 1 = .ok (.getfield 9, 3) := by decide +kernel
theorem d4 : decode yB 4 = .ok (.arraylength, 1) := by decide +kernel
theorem d5 : decode yB 5 = .ok (.ifCond (.ne) 7, 3) := by decide +kernel
theorem d8 : decode yB 8 = .ok (.iconst 1, 1) := by decide +kernel
theorem d9 : decode yB 9 = .ok (.goto 4, 3) := by decide +kernel
theorem d12 : decode yB 12 = .ok (.iconst 0, 1) := by decide +kernel
theorem d13 : decode yB 13 = .ok (.ireturn, 1) := by decide +kernel
def site : List Cond := [.fieldLink "java/lang/String" 9 "java/lang/String" "value" "[B"]
def tab : Cond := tabOf yN yB 1 (some .boolean) site
def P (x t : Addr) (V : Cell) (cd : Int32) (n : Nat) (f : Nat → Int32) (args : Array Value) (s : State) : Prop := args = #[.ref x] ∧ Txt x t V cd n f s
def E (n : Nat) (r : Option Value) (s u : State) : Prop := XT.PureE (some (.int (if n = 0 then 1 else 0))) r s u
/-- isEmpty() of a String of n chars -/
theorem law (l : Launch) (x t : Addr) (V : Cell) (cd : Int32) (n : Nat) (f : Nat → Int32) : Law l yN 1 0 0 0 yB 1 (some .boolean) site (P x t V cd n f) (E n) [] 0 0 := by
  refine Law.of_walk (plainFor_of_name (by decide +kernel)) (by decide +kernel) (by decide +kernel) (by decide) (fun _ _ h => by rw [h.1]; rfl) (fun _ U U' hal hh h => ⟨h.1, h.2.mv hal hh⟩) (fun r U U' V V' h1 hal h2 h => XT.PureE.mv r U U' V V' h1 hal h2 h) ?_
  intro p e s m args below meth c s₁ X0 hexec hbytes hml hret hlk hnm hown hh0 W hP
  obtain ⟨rfl, hx⟩ := hP
  have v31 := hx.2.2.2.1.2.2.2
  have c1 : Steps p.tables e below (s₁.setTop (entryFrame m #[.ref x] 1)) (s₁.setTop (mkF m 1 #[.val (.ref x)] [.ref x])) := Steps.trans (entry rfl) (by
    show Steps p.tables e below (s₁.setTop (mkF m 0 #[.val (.ref x)] [])) _
    refine XS.aloadN X0.here hexec rfl (hb hbytes d0) rfl rfl ?_
    exact Steps.refl _)
  obtain ⟨T2, X2, q2, st2⟩ := X0.hget hexec hown (wk W (.fieldLink "java/lang/String" 9 "java/lang/String" "value" "[B")) (hx.mv X0.warmed.alike hh0).2.1 (g := (mkF m 1 #[.val (.ref x)] [.ref x])) rfl (rest := []) rfl (hb hbytes d1)
  have hh2 := q2.trans hh0
  have hx2 := hx.mv X2.warmed.alike hh2
  have c3 : Steps p.tables e below (s₁.setTop (entryFrame m #[.ref x] 1)) (T2.setTop (mkF m 5 #[.val (.ref x)] [.int (Int32.ofNat V.slots.size)])) := (c1.trans (st2 _ (Steps.refl _))).trans (by
    refine X2.alen hexec hx2.2.2.2.1 rfl rfl (hb hbytes d4) ?_
    exact Steps.refl _)
  have hz : V.slots.size = 0 ↔ n = 0 := by
    rcases hx.2.2.2.2.1 with ⟨-, q, -⟩ | ⟨-, q, -⟩ <;> omega
  by_cases h0 : n = 0
  · have c4 : Steps p.tables e below (s₁.setTop (entryFrame m #[.ref x] 1)) (T2.setTop (mkF m 13 #[.val (.ref x)] [.int 1])) := c3.trans (by
      refine XS.ifNo X2.here hexec rfl (hb hbytes d5) rfl (i0_ne_f (by rw [hz.mpr h0]; rfl)) ?_
      refine iconstV X2.here hexec rfl 1 (hb hbytes d8) (by decide) ?_
      refine XS.goto X2.here hexec rfl (pc0 := 9) rfl (hb hbytes d9) (by decide) rfl ?_
      exact Steps.refl _)
    exact ⟨T2, some (.int 1), _, _, _, X2, rfl, rfl, rfl, (fun h => by cases h), ⟨by rw [if_pos h0], hh2⟩, fun fs hl => c4.trans (X2.ireturnOut hexec hret rfl (Or.inr (Or.inl rfl)) (hb hbytes d13) hl)⟩
  · have c4 : Steps p.tables e below (s₁.setTop (entryFrame m #[.ref x] 1)) (T2.setTop (mkF m 13 #[.val (.ref x)] [.int 0])) := c3.trans (by
      refine XS.ifYes X2.here hexec rfl (pc0 := 5) rfl (hb hbytes d5) rfl (i0_ne_t (nz32 v31 (by omega))) (by decide) rfl ?_
      refine iconstV X2.here hexec rfl 0 (hb hbytes d12) (by decide) ?_
      exact Steps.refl _)
    exact ⟨T2, some (.int 0), _, _, _, X2, rfl, rfl, rfl, (fun h => by cases h), ⟨by rw [if_neg h0], hh2⟩, fun fs hl => c4.trans (X2.ireturnOut hexec hret rfl (Or.inr (Or.inl rfl)) (hb hbytes d13) hl)⟩
theorem pays {l : Launch} {R : Room} {p : Program} {e : Env} {below : List Frame} {s : State} {sargs : Array Value} {len W : Nat} (x t : Addr) (V : Cell) (cd : Int32) (n : Nat) (f : Nat → Int32) (htab : tab.before sargs s = true) (hfr : 1 ≤ R.frames) (hlo : W + 12 ≤ R.locals) :
    Back l R p e below s sargs yN len W (fun A₁ a₁ => A₁.cells + 0 ≤ R.cells ∧ A₁.slots + 0 ≤ R.slots ∧ P x t V cd n f a₁ A₁.U) (fun A₁ _ v₁ B₁ => E n v₁ A₁.U B₁.U ∧ B₁.locs = A₁.locs ++ [] ∧ B₁.cells = A₁.cells + 0 ∧ B₁.slots = A₁.slots + 0) :=
  (law l x t V cd n f).pays htab hfr (by omega)
end Emp
end StrChars
namespace StrChars.Road
open Jvm Sem ClassFile Op Lib Jvm.Stand Jvm.Free Jvm.Free.XT
open Jvm.Lib.Cold (StaticIs)
/-- the words of String.isEmpty() -/
abbrev wordsEmp : List Jvm.Cond := [.code Emp.yN Emp.yB 1 (some .boolean), .initialized ST, .fieldLink ST 9 ST "value" "[B"]
theorem tabEmp_of {a : Array Value} {s : State} (h : ∀ w ∈ wordsEmp, w.before a s = true) : Emp.tab.before a s = true := unparts (wk h (.code Emp.yN Emp.yB 1 (some .boolean))) (wks h (.initialized Emp.yN.cls :: Emp.site))
theorem movedEmp {Z s : State} {a0 args : Array Value} (hZ : Z.Warmed39 s.vm) (hw : ∀ d ∈ wordsEmp, d.before a0 Z = true) : ∀ d ∈ wordsEmp, d.before args s = true := fun d hd => by
  have t : ∀ d ∈ wordsEmp, (d.onTables && d.keepsFace) = true := by decide +kernel
  exact RoadKit.mv hZ (hw d hd) (t d hd)
/-- the road's facts of a String, as the laws ask it -/
theorem txt_of {Z U : State} {a0 : Array Value} {kI : Nat} (wi : (Jvm.Cond.instantiable ST kI).before a0 Z = true) (al : Z.vm.Alike U.vm) {x t : Addr} {kb : ClassId} {cs : List Int32} {cd N2 : Int32} {vs : List Value} (E : RoadKit.Exa Z U.heap x ST) (V : RoadKit.Fld Z U.heap x ST "value" "[B" (.ref t)) (C : RoadKit.Fld Z U.heap x ST "coder" "B" (.int cd)) (K : RoadKit.Arv Z U.heap t kb .byte N2 vs (.int 0)) (hc : CodA cs cd N2 vs) (hb : ∀ c ∈ cs, ¬ c < 0 ∧ ¬ (65535 : Int32) < c) (l2 : cs.length ≤ 4000) :
    ∃ A, Txt x t A cd cs.length (fun j => cs.getD j 0) U := by
  obtain ⟨A, K1, K2, K3, K4, K5, K6⟩ := K
  have hcod := hc.cod (by omega) K3 K5
  obtain ⟨D, fV, fC, hB, F1, F2, g1, g2, -, -⟩ := strObj wi al E V C
  exact ⟨A, ⟨_, hB.2.2.1, D, hB.1, rfl, by cases q : D.vm <;> first | rfl | exact absurd q (hB.2.1.2 _)⟩, Has.of hB F1 g1, Has.of hB F2 g2, ⟨K1.1, State.isArrayOf_alike al K1.2.1, K1.2.2, by rcases hcod with ⟨-, q, -⟩ | ⟨-, q, -⟩ <;> omega⟩, hcod, fun j hj => by
    have e : cs.getD j 0 = cs[j] := by simp [List.getD_eq_getElem?_getD, hj]
    show ¬ cs.getD j 0 < 0 ∧ ¬ 65535 < cs.getD j 0
    rw [e]; exact hb _ (List.getElem_mem _)⟩
/-- **isEmpty() OF SUCH A STRING** -/
theorem empW {p : Program} {l : Launch} {e : Env} {R : Room} {s : State} {args : Array Value} {below : List Frame} {len W : Nat} {Z : State} {a0 : Array Value} {h : Heap} (hZ : Z.Warmed39 s.vm) (hw : ∀ d ∈ wordsEmp, d.before a0 Z = true) {kI : Nat} (wi : (Jvm.Cond.instantiable ST kI).before a0 Z = true)
    {x t : Addr} {kb : ClassId} {cs : List Int32} {cd N2 : Int32} {vs : List Value} (E : RoadKit.Exa Z h x ST) (V : RoadKit.Fld Z h x ST "value" "[B" (.ref t)) (C : RoadKit.Fld Z h x ST "coder" "B" (.int cd)) (K : RoadKit.Arv Z h t kb .byte N2 vs (.int 0)) (hc : CodA cs cd N2 vs) (hb : ∀ c ∈ cs, ¬ c < 0 ∧ ¬ (65535 : Int32) < c) (l2 : cs.length ≤ 4000) (hfr : 1 ≤ R.frames) (hlo : W + 12 ≤ R.locals) :
    Back l R p e below s args (⟨"java/lang/String", "isEmpty", "()Z"⟩ : MethodName) len W (fun P a => a = #[.ref x] ∧ P.U.heap = h ∧ P.cells + 0 ≤ R.cells ∧ P.slots + 0 ≤ R.slots)
      (fun P _ v B => ∃ L, (v = some (.int (if cs.length = 0 then 1 else 0)) ∧ L = [] ∧ B.U.heap = h) ∧ B.locs = P.locs ++ L ∧ B.cells = P.cells + 0 ∧ B.slots = P.slots + 0) := by
  intro m meth c P g ig mk a X hg hsize hdg hW hn hp'
  obtain ⟨rfl, rfl, r1, r2⟩ := hp'
  have al : Z.vm.Alike P.U.vm := hZ.alike.trans X.warmed.alike
  obtain ⟨A, hx⟩ := txt_of wi al E V C K hc hb l2
  obtain ⟨v, B, X', ⟨⟨hv, hh⟩, hl, hk, hs⟩, st⟩ := Emp.pays x t A cd cs.length (fun j => cs.getD j 0) (tabEmp_of (movedEmp hZ hw)) hfr hlo m meth c P g ig mk _ X hg hsize hdg hW hn ⟨r1, r2, rfl, hx⟩
  exact ⟨v, B, X', ⟨[], ⟨hv, rfl, hh⟩, hl, hk, hs⟩, st⟩
end StrChars.Road
namespace StrChars
open Jvm Sem ClassFile Op Lib Jvm.Stand Jvm.Free.XT Jvm.Free.ALB Jvm.Free.JM Jvm.Free
open Jvm.Lib.Cold (StaticIs)
namespace ChN
def yN : MethodName := ⟨"java/lang/String", "charAt", "(I)C"⟩
abbrev yB : ByteArray := jdk_42_method_56_code
theorem d0 : decode yB 0 = .ok (.aload_n 0, 1) := by decide +kernel
theorem d1 : decode yB 1 = .ok (.invokevirtual 492, 3) := by decide +kernel
theorem d4 : decode yB 4 = .ok (.ifCond (.eq) 12, 3) := by decide +kernel
theorem d7 : decode yB 7 = .ok (.aload_n 0, 1) := by decide +kernel
theorem d8 : decode yB 8 = .ok (.getfield 9, 3) := by decide +kernel
theorem d11 : decode yB 11 = .ok (.iload_n 1, 1) := by decide +kernel
theorem d12 : decode yB 12 = .ok (.invokestatic 495, 3) := by decide +kernel
theorem d15 : decode yB 15 = .ok (.ireturn, 1) := by decide +kernel
def site : List Cond := [.fieldLink "java/lang/String" 9 "java/lang/String" "value" "[B", IsL.tab, LChA.tab] ++ virtW "java/lang/String" 492 "java/lang/String" IsL.yN IsL.yN ++ staticW "java/lang/String" 495 LChA.yN
def tab : Cond := tabOf yN yB 2 (some .char) site
def P (x t : Addr) (V : Cell) (n : Nat) (f : Nat → Int32) (z : Int32) (fm : Value) (i : Nat) (args : Array Value) (s : State) : Prop := args = #[.ref x, .int (Int32.ofNat i)] ∧ Txt x t V 0 n f s ∧ i < n ∧ StaticIs s "java/lang/String" "COMPACT_STRINGS" "Z" (.int z) ∧ ¬ z = 0 ∧ StaticIs s "jdk/internal/util/Preconditions" "SIOOBE_FORMATTER" "Ljava/util/function/BiFunction;" fm ∧ fm.isRef = true
def E (f : Nat → Int32) (i : Nat) (r : Option Value) (s u : State) : Prop := XT.PureE (some (.int (f i))) r s u
/-- charAt(i) of a Latin-1 String of n chars, i < n: f i -/
theorem law (l : Launch) (x t : Addr) (V : Cell) (n : Nat) (f : Nat → Int32) (z : Int32) (fm : Value) (i : Nat) : Law l yN 2 1 3 40 yB 2 (some .char) site (P x t V n f z fm i) (E f i) [] 0 0 := by
  refine Law.of_walk (plainFor_of_name (by decide +kernel)) (by decide +kernel) (by decide +kernel) (by decide) (fun _ _ h => by rw [h.1]; rfl) (fun _ U U' hal hh h => ⟨h.1, h.2.1.mv hal hh, h.2.2.1, h.2.2.2.1.there hal hh, h.2.2.2.2.1, h.2.2.2.2.2.1.there hal hh, h.2.2.2.2.2.2⟩) (fun r U U' V V' h1 hal h2 h => XT.PureE.mv r U U' V V' h1 hal h2 h) ?_
  intro p e s m args below meth c s₁ X0 hexec hbytes hml hret hlk hnm hown hh0 W hP
  obtain ⟨rfl, hx, hi, s1, hz, s3, rf⟩ := hP
  have v31 := hx.2.2.2.1.2.2.2
  have hr := hx.2.2.2.2.2 i hi
  have hx0 := hx.mv X0.warmed.alike hh0
  have c1 : Steps p.tables e below (s₁.setTop (entryFrame m #[.ref x, .int (Int32.ofNat i)] 2)) (s₁.setTop (mkF m 1 #[.val (.ref x), .val (.int (Int32.ofNat i))] [.ref x])) := Steps.trans (entry rfl) (by
    show Steps p.tables e below (s₁.setTop (mkF m 0 #[.val (.ref x), .val (.int (Int32.ofNat i))] [])) _
    refine XS.aloadN X0.here hexec rfl (hb hbytes d0) rfl rfl ?_
    exact Steps.refl _)
  obtain ⟨v2, T2, X2, E2, g2⟩ := X0.callV hexec (IsL.law l x 0 z) hown (wks W (virtW "java/lang/String" 492 "java/lang/String" IsL.yN IsL.yN)) rfl (by decide) (wk W IsL.tab) (W := 0) (Nat.le_of_ble_eq_true rfl) (Nat.le_of_ble_eq_true rfl) (Nat.le_refl _) (Nat.le_refl _) (hx0.1.fc X0.warmed.alike) hx0.1.is (g := (mkF m 1 #[.val (.ref x), .val (.int (Int32.ofNat i))] [.ref x])) rfl (by rw [hml]; rfl) c1 (argsL := []) (rest := []) rfl rfl (by show 2 * 0 + 0 ≤ _; decide) (hb hbytes d1) (⟨rfl, hx0.2.2.1, hx.2.2.2.2.1.cd, s1.there X0.warmed.alike hh0, hz⟩)
  obtain ⟨rfl, q2⟩ := E2
  have hh2 := q2.trans hh0
  have hx2 := hx.mv X2.warmed.alike hh2
  obtain ⟨-, k1, k2⟩ | ⟨k0, -⟩ := hx.2.2.2.2.1
  · have c3 : Steps p.tables e below (s₁.setTop (entryFrame m #[.ref x, .int (Int32.ofNat i)] 2)) (T2.setTop (mkF m 8 #[.val (.ref x), .val (.int (Int32.ofNat i))] [.ref x])) := Steps.trans g2 (by
      refine XS.ifNo X2.here hexec rfl (hb hbytes d4) rfl (i0_eq_f (by decide)) ?_
      refine XS.aloadN X2.here hexec rfl (hb hbytes d7) rfl rfl ?_
      exact Steps.refl _)
    obtain ⟨T4, X4, q4, st4⟩ := X2.hget hexec hown (wk W (.fieldLink "java/lang/String" 9 "java/lang/String" "value" "[B")) hx2.2.1 (g := (mkF m 8 #[.val (.ref x), .val (.int (Int32.ofNat i))] [.ref x])) rfl (rest := []) rfl (hb hbytes d8)
    have hh4 := q4.trans hh2
    have c5 : Steps p.tables e below (s₁.setTop (entryFrame m #[.ref x, .int (Int32.ofNat i)] 2)) (T4.setTop (mkF m 12 #[.val (.ref x), .val (.int (Int32.ofNat i))] [.int (Int32.ofNat i), .ref t])) := (c3.trans (st4 _ (Steps.refl _))).trans (by
      refine XS.iloadN X4.here hexec rfl (hb hbytes d11) rfl ?_
      exact Steps.refl _)
    obtain ⟨v6, T6, X6, E6, g6⟩ := X4.callS hexec (LChA.law l t V i (lo8 (f i)) fm) hown (wks W (staticW "java/lang/String" 495 LChA.yN)) (wk W LChA.tab) (W := 0) (Nat.le_of_ble_eq_true rfl) (Nat.le_of_ble_eq_true rfl) (Nat.le_refl _) (Nat.le_refl _) (g := (mkF m 12 #[.val (.ref x), .val (.int (Int32.ofNat i))] [.int (Int32.ofNat i), .ref t])) rfl (by rw [hml]; rfl) c5 (argsL := [.ref t, .int (Int32.ofNat i)]) (rest := []) rfl rfl (by show 2 * 0 + 0 ≤ _; decide) (hb hbytes d12) (⟨rfl, hx.2.2.2.1.mv X4.warmed.alike hh4, (k2 i hi).1, s3.there X4.warmed.alike hh4, rf⟩)
    obtain ⟨rfl, q6⟩ := E6
    rw [chr8_lo8 hr.1 (k2 i hi).2] at g6
    exact ⟨T6, some (.int (f i)), _, _, _, X6, rfl, rfl, rfl, (fun h => by cases h), ⟨rfl, q6.trans hh4⟩, fun fs hl => Steps.trans g6 (X6.ireturnOut hexec hret (narrow_ch hr.1 hr.2) (Or.inr (Or.inr (Or.inr (Or.inl rfl)))) (hb hbytes d15) hl)⟩
  · exact absurd k0 (by decide)
theorem pays {l : Launch} {R : Room} {p : Program} {e : Env} {below : List Frame} {s : State} {sargs : Array Value} {len W : Nat} (x t : Addr) (V : Cell) (n : Nat) (f : Nat → Int32) (z : Int32) (fm : Value) (i : Nat) (htab : tab.before sargs s = true) (hfr : 4 ≤ R.frames) (hlo : W + 53 ≤ R.locals) :
    Back l R p e below s sargs yN len W (fun A₁ a₁ => A₁.cells + 0 ≤ R.cells ∧ A₁.slots + 0 ≤ R.slots ∧ P x t V n f z fm i a₁ A₁.U) (fun A₁ _ v₁ B₁ => E f i v₁ A₁.U B₁.U ∧ B₁.locs = A₁.locs ++ [] ∧ B₁.cells = A₁.cells + 0 ∧ B₁.slots = A₁.slots + 0) :=
  (law l x t V n f z fm i).pays htab hfr (by omega)
end ChN
end StrChars
namespace StrChars.Road
open Jvm Sem ClassFile Op Lib Jvm.Stand Jvm.Free Jvm.Free.XT
open Jvm.Lib.Cold (StaticIs)
/-- the words of String.charAt(int), the Latin-1 road alone -/
abbrev wordsChN : List Jvm.Cond := [.code ChN.yN ChN.yB 2 (some .char), .initialized ST, .fieldLink ST 9 ST "value" "[B", .fieldLink ST 38 ST "COMPACT_STRINGS" "Z", .fieldLink ST 15 ST "coder" "B", .code IsL.yN IsL.yB 1 (some .boolean), .methodLink ST 492 IsL.yN, .declares IsL.yN, .selects ST IsL.yN IsL.yN, .instanceMethod IsL.yN,
  .methodLink ST 495 LChA.yN, .static LChA.yN, .code LChA.yN LChA.yB 2 (some .char), .initialized "java/lang/StringLatin1", .methodLink "java/lang/StringLatin1" 9 JO.Str_checkIndex.yN, .static JO.Str_checkIndex.yN, .code JO.Str_checkIndex.yN JO.Str_checkIndex.yB 2 none,
  .fieldLink ST 1053 "jdk/internal/util/Preconditions" "SIOOBE_FORMATTER" "Ljava/util/function/BiFunction;", .methodLink ST 1059 JC.PreCheck.yN, .static JC.PreCheck.yN, .code JC.PreCheck.yN JC.PreCheck.yB 3 (some .int), .initialized "jdk/internal/util/Preconditions"]
theorem tabChN_of {a : Array Value} {s : State} (h : ∀ w ∈ wordsChN, w.before a s = true) : ChN.tab.before a s = true := by
  have hp : JC.PreCheck.tab.before a s = true := unparts (wk h (.code JC.PreCheck.yN JC.PreCheck.yB 3 (some .int))) (wks h (.initialized JC.PreCheck.yN.cls :: JC.PreCheck.site))
  have qk := consq hp h
  have hk : JO.Str_checkIndex.tab.before a s = true := unparts (wk qk (.code JO.Str_checkIndex.yN JO.Str_checkIndex.yB 2 none)) (wks qk (.initialized JO.Str_checkIndex.yN.cls :: JO.Str_checkIndex.site))
  have ql := consq hk h
  have hl : LChA.tab.before a s = true := unparts (wk ql (.code LChA.yN LChA.yB 2 (some .char))) (wks ql (.initialized LChA.yN.cls :: LChA.site))
  have hi : IsL.tab.before a s = true := unparts (wk h (.code IsL.yN IsL.yB 1 (some .boolean))) (wks h (.initialized IsL.yN.cls :: IsL.site))
  have q := consq hi (consq hl h)
  exact unparts (wk q (.code ChN.yN ChN.yB 2 (some .char))) (wks q (.initialized ChN.yN.cls :: ChN.site))
theorem movedChN {Z s : State} {a0 args : Array Value} (hZ : Z.Warmed39 s.vm) (hw : ∀ d ∈ wordsChN, d.before a0 Z = true) : ∀ d ∈ wordsChN, d.before args s = true := fun d hd => by
  have t : ∀ d ∈ wordsChN, (d.onTables && d.keepsFace) = true := by decide +kernel
  exact RoadKit.mv hZ (hw d hd) (t d hd)
/-- **charAt(i) OF A LATIN-1 STRING**, i < n: the char -/
theorem chN {p : Program} {l : Launch} {e : Env} {R : Room} {s : State} {args : Array Value} {below : List Frame} {len W : Nat} {Z : State} {a0 : Array Value} {h : Heap} (hZ : Z.Warmed39 s.vm) (hw : ∀ d ∈ wordsChN, d.before a0 Z = true) {kI : Nat} (wi : (Jvm.Cond.instantiable ST kI).before a0 Z = true)
    {x t : Addr} {kb : ClassId} {cs : List Int32} {N2 z : Int32} {vs : List Value} {fm : Value} {i : Nat} {j : Int32} (E : RoadKit.Exa Z h x ST) (V : RoadKit.Fld Z h x ST "value" "[B" (.ref t)) (C : RoadKit.Fld Z h x ST "coder" "B" (.int 0)) (K : RoadKit.Arv Z h t kb .byte N2 vs (.int 0)) (hc : CodA cs 0 N2 vs) (hb : ∀ c ∈ cs, ¬ c < 0 ∧ ¬ (65535 : Int32) < c)
    (S : RoadKit.Sta Z h ST "COMPACT_STRINGS" "Z" (.int z)) (hz : ¬ z = 0) (F : RoadKit.Sta Z h "jdk/internal/util/Preconditions" "SIOOBE_FORMATTER" "Ljava/util/function/BiFunction;" fm) (rf : fm.isRef = true) (l2 : cs.length ≤ 4000) (hi : i < cs.length) (hj : j = Int32.ofNat i) (hfr : 4 ≤ R.frames) (hlo : W + 53 ≤ R.locals) :
    Back l R p e below s args (⟨"java/lang/String", "charAt", "(I)C"⟩ : MethodName) len W (fun P a => a = #[.ref x, .int j] ∧ P.U.heap = h ∧ P.cells + 0 ≤ R.cells ∧ P.slots + 0 ≤ R.slots)
      (fun P _ v B => ∃ L, (v = some (.int (cs.getD i 0)) ∧ L = [] ∧ B.U.heap = h) ∧ B.locs = P.locs ++ L ∧ B.cells = P.cells + 0 ∧ B.slots = P.slots + 0) := by
  subst hj
  intro m meth c P g ig mk a X hg hsize hdg hW hn hp'
  obtain ⟨rfl, rfl, r1, r2⟩ := hp'
  have al : Z.vm.Alike P.U.vm := hZ.alike.trans X.warmed.alike
  obtain ⟨A, hx⟩ := txt_of wi al E V C K hc hb l2
  obtain ⟨v, B, X', ⟨⟨hv, hh⟩, hl, hk, hs⟩, st⟩ := ChN.pays x t A cs.length (fun j => cs.getD j 0) z fm i (tabChN_of (movedChN hZ hw)) hfr hlo m meth c P g ig mk _ X hg hsize hdg hW hn ⟨r1, r2, rfl, hx, hi, sta_is al S, hz, sta_is al F, rf⟩
  exact ⟨v, B, X', ⟨[], ⟨hv, rfl, hh⟩, hl, hk, hs⟩, st⟩
/-- what backV says of its String, as the contracts of this text ask it: cs's low bytes, coder 0 -/
theorem codOf {cs : List Int32} {n : Nat} (hn : cs.length = n) (hb : ∀ c ∈ cs, ¬ 255 < c) : CodA cs 0 (Int32.ofNat n) ((cs.map lo8).map Value.int) := Or.inl ⟨rfl, by rw [hn], by simp [List.map_map, Function.comp_def], hb⟩
end StrChars.Road
end Jvm.Pilot.@@N@@
namespace Jvm.Pilot.@@N@@
open Jvm Jvm.ClassFile Sem Op Lib Jvm.Free Jvm.Stand Jvm.LawKit Jvm.RoadKit Bundle Jvm.Pilot.@@N@@.Jvm.D
theorem own_side0 {h0 : Heap} {ws : List Addr} : ∀ x ∈ ([] : List Addr), x ∈ ws ∨ h0.size ≤ x := fun _ q => nomatch q
theorem own_side1 {h0 : Heap} {ws : List Addr} {a : Addr} (h : a ∈ ws ∨ h0.size ≤ a) : ∀ x ∈ [a], x ∈ ws ∨ h0.size ≤ x := fun x q => by
  cases List.mem_singleton.mp q; exact h
theorem own_side2 {h0 : Heap} {ws : List Addr} {a b : Addr} (h : a ∈ ws ∨ h0.size ≤ a) (h' : b ∈ ws ∨ h0.size ≤ b) : ∀ x ∈ [a, b], x ∈ ws ∨ h0.size ≤ x := fun x q => by
  rcases List.mem_cons.mp q with rfl | q
  · exact h
  · exact own_side1 h' x q
theorem own_side3 {h0 : Heap} {ws : List Addr} {a b d : Addr} (h : a ∈ ws ∨ h0.size ≤ a) (h' : b ∈ ws ∨ h0.size ≤ b) (h'' : d ∈ ws ∨ h0.size ≤ d) : ∀ x ∈ [a, b, d], x ∈ ws ∨ h0.size ≤ x := fun x q => by
  rcases List.mem_cons.mp q with rfl | q
  · exact h
  · exact own_side2 h' h'' x q
theorem own_notin1 {x a : Addr} (h : x ≠ a) : x ∉ [a] := fun q => h (List.mem_singleton.mp q)
theorem own_notin2 {x a b : Addr} (h : x ≠ a) (h' : x ≠ b) : x ∉ [a, b] := fun q => by
  rcases List.mem_cons.mp q with q | q
  · exact h q
  · exact own_notin1 h' q
theorem own_notin3 {x a b d : Addr} (h : x ≠ a) (h' : x ≠ b) (h'' : x ≠ d) : x ∉ [a, b, d] := fun q => by
  rcases List.mem_cons.mp q with q | q
  · exact h q
  · exact own_notin2 h' h'' q
theorem own_sta_keep1 {Z : State} {h h' : Heap} {C n d K : String} {v : Value} {o : Addr} (F : Sta Z h C n d v) (E : Exa Z h o K) (Q : Keep h h' [o]) : Sta Z h' C n d v := by
  obtain ⟨cf, i, k, f, st, cell, h1, h2, h3, h4, h5, h6, h7⟩ := F
  refine ⟨cf, i, k, f, st, cell, h1, h2, h3, h4, Q.2.1 _ _ h5 (fun q => ?_), h6, h7⟩
  obtain ⟨cell', k', e1, e2, e3, e4, -⟩ := E
  cases List.mem_singleton.mp q
  cases h5.symm.trans e1
  rw [e4] at h6; cases h6
theorem own_rem (x y : Int32) (hx : 0 ≤ x.toInt) (hy : 0 < y.toInt) : (x - (x / y) * y).toInt = x.toInt % y.toInt := by
  have hx2 := x.toInt_lt
  have hy2 := y.toInt_lt
  have hd : (x / y).toInt = x.toInt / y.toInt := by
    rw [Int32.toInt_div, Int.tdiv_eq_ediv_of_nonneg hx]
    have h1 : 0 ≤ x.toInt / y.toInt := Int.ediv_nonneg hx (Int.le_of_lt hy)
    have h2 : x.toInt / y.toInt ≤ x.toInt := Int.ediv_le_self _ hx
    exact Int.bmod_eq_of_le (by omega) (by omega)
  have hm : ((x / y) * y).toInt = (x.toInt / y.toInt) * y.toInt := by
    rw [Int32.toInt_mul, hd]
    have h1 : 0 ≤ x.toInt / y.toInt * y.toInt := Int.mul_nonneg (Int.ediv_nonneg hx (Int.le_of_lt hy)) (Int.le_of_lt hy)
    have h2 := Int.ediv_mul_le x.toInt (Int.ne_of_gt hy)
    exact Int.bmod_eq_of_le (by omega) (by omega)
  have h3 := Int.emod_add_mul_ediv x.toInt y.toInt
  have h4 := Int.emod_nonneg x.toInt (Int.ne_of_gt hy)
  have h5 := Int.emod_lt_of_pos x.toInt hy
  rw [Int32.toInt_sub, hm]
  have h6 : x.toInt - x.toInt / y.toInt * y.toInt = x.toInt % y.toInt := by rw [Int.mul_comm (x.toInt / y.toInt)]; omega
  rw [h6]
  exact Int.bmod_eq_of_le (by omega) (by omega)
theorem own_and31 (p : Int32) : 0 ≤ (p &&& (2147483647 : Int32)).toInt := by
  have h : (p &&& (2147483647 : Int32)).toBitVec.toNat ≤ 2147483647 := by
    simp only [Int32.toBitVec_and, BitVec.toNat_and]
    exact Nat.and_le_right
  have e : (p &&& (2147483647 : Int32)).toInt = ((p &&& (2147483647 : Int32)).toBitVec.toNat : Int) := BitVec.toInt_eq_toNat_of_lt (by omega)
  omega
def pv (cs : List Int32) : Nat → Int64
  | 0 => (0 : Int64)
  | i + 1 => (((pv cs i) * (10 : Int64)) + (((cs.getD i 0) - (48 : Int32)).toInt64))
theorem own_up (cs : List Int32) (h : ∀ c ∈ cs, ¬ c < 0 ∧ ¬ (255 : Int32) < c) : ∀ c ∈ cs, ¬ c < 0 ∧ ¬ (65535 : Int32) < c := fun c hc => ⟨(h c hc).1, fun q => (h c hc).2 (by rw [Int32.lt_iff_toInt_lt] at q ⊢; have e1 : (65535 : Int32).toInt = 65535 := rfl; have e2 : (255 : Int32).toInt = 255 := rfl; omega)⟩
theorem own_n12 {n : Nat} (h : n ≤ 12) : (Int32.ofNat n).toInt = n := by
  match n, h with
  | 0, _ => rfl
  | 1, _ => rfl
  | 2, _ => rfl
  | 3, _ => rfl
  | 4, _ => rfl
  | 5, _ => rfl
  | 6, _ => rfl
  | 7, _ => rfl
  | 8, _ => rfl
  | 9, _ => rfl
  | 10, _ => rfl
  | 11, _ => rfl
  | 12, _ => rfl
theorem own_ofNat_lt {i n : Nat} (hn : n ≤ 12) (h : i < n) : Int32.ofNat i < Int32.ofNat n := by
  rw [Int32.lt_iff_toInt_lt, own_n12 (by omega), own_n12 hn]; omega
theorem own_ofNat_ge {i n : Nat} (hn : n ≤ 12) (h : i = n) : ¬ (Int32.ofNat i < Int32.ofNat n) := by
  rw [h, Int32.lt_iff_toInt_lt]; omega
theorem own_ofNat_succ (i : Nat) : Int32.ofNat i + (1 : Int32) = Int32.ofNat (i + 1) := by
  apply Int32.toBitVec_inj.mp
  rw [Int32.toBitVec_add]
  show BitVec.ofNat 32 i + BitVec.ofNat 32 1 = BitVec.ofNat 32 (i + 1)
  rw [BitVec.ofNat_add]
theorem own_os {o0 : Addr} {r : Int64} {i v : Int32} {o4 : Slot} (h : One o4) : storeLocals #[.val (.ref o0), .val (.long r), .second, .val (.int i), o4] 4 (.int v) = some #[.val (.ref o0), .val (.long r), .second, .val (.int i), .val (.int v)] := by
  rcases h with rfl | ⟨w, rfl, hw⟩
  · rfl
  · cases w <;> first | rfl | (simp [Value.category] at hw)
def dV (n q : Int32) : Int32 := (nar .char (((48 : Int32) + ((n / q) - ((n / q) / (10 : Int32)) * (10 : Int32))).toUInt32.toUInt16.toUInt32.toInt32))
theorem own_div (x y : Int32) (hx : 0 ≤ x.toInt) (hy : 0 < y.toInt) : (x / y).toInt = x.toInt / y.toInt := by
  have hx2 := x.toInt_lt
  rw [Int32.toInt_div, Int.tdiv_eq_ediv_of_nonneg hx]
  have h1 : 0 ≤ x.toInt / y.toInt := Int.ediv_nonneg hx (Int.le_of_lt hy)
  have h2 : x.toInt / y.toInt ≤ x.toInt := Int.ediv_le_self _ hx
  exact Int.bmod_eq_of_le (by omega) (by omega)
theorem own_chr (v : Int32) (h1 : 0 ≤ v.toInt) (h2 : v.toInt ≤ 255) : v.toUInt32.toUInt16.toUInt32.toInt32 = v := by
  apply Int32.toBitVec_inj.mp
  apply BitVec.eq_of_toNat_eq
  have e : v.toUInt32.toUInt16.toUInt32.toInt32.toBitVec.toNat = v.toBitVec.toNat % 65536 := rfl
  have e2 : (v.toBitVec.toNat : Int) = v.toInt := by
    have h3 : v.toBitVec.toInt = v.toInt := rfl
    rw [BitVec.toInt_eq_toNat_cond] at h3
    split at h3 <;> omega
  rw [e, Nat.mod_eq_of_lt (by omega)]
theorem own_dc (n q : Int32) (hn : 0 ≤ n.toInt) (hq : 0 < q.toInt) : (nar .char (dV n q)).toInt = 48 + (n.toInt / q.toInt) % 10 := by
  have hd := own_div n q hn hq
  have hd0 : 0 ≤ (n / q).toInt := by rw [hd]; exact Int.ediv_nonneg hn (Int.le_of_lt hq)
  have hr := own_rem (n / q) 10 hd0 (by decide)
  rw [hd, show (10 : Int32).toInt = 10 from rfl] at hr
  have hs : (((48 : Int32) + ((n / q) - ((n / q) / (10 : Int32)) * (10 : Int32)))).toInt = 48 + (n.toInt / q.toInt) % 10 := by
    rw [Int32.toInt_add, hr]
    exact Int.bmod_eq_of_le (by show _ ≤ 48 + n.toInt / q.toInt % 10; omega) (by show 48 + n.toInt / q.toInt % 10 < _; omega)
  have e1 := own_chr _ (by rw [hs]; omega) (by rw [hs]; omega)
  have e2 : dV n q = ((48 : Int32) + ((n / q) - ((n / q) / (10 : Int32)) * (10 : Int32))) := by
    unfold dV
    rw [e1]
    exact own_chr _ (by rw [hs]; omega) (by rw [hs]; omega)
  rw [e2]
  show ((((48 : Int32) + ((n / q) - ((n / q) / (10 : Int32)) * (10 : Int32)))).toUInt32.toUInt16.toUInt32.toInt32).toInt = _
  rw [e1, hs]
theorem own_pv (cs : List Int32) (n : Int) (L : Nat) (h0 : 0 ≤ n) (hb : n < 2147483648) (hL : n < 10 ^ L) (hd : ∀ i, i < L → (cs.getD i 0).toInt = 48 + (n / 10 ^ (L - 1 - i)) % 10) : ∀ i, i ≤ L → (pv cs i).toInt = n / 10 ^ (L - i) := by
  intro i
  induction i with
  | zero => intro _; show (0 : Int) = _; rw [Nat.sub_zero, Int.ediv_eq_zero_of_lt h0 hL]
  | succ i ih =>
    intro hi
    have hp := ih (by omega)
    have hc := hd i (by omega)
    rw [show L - 1 - i = L - (i + 1) by omega] at hc
    obtain ⟨m, hm⟩ : ∃ m, m = n / 10 ^ (L - (i + 1)) := ⟨_, rfl⟩
    have hq : n / 10 ^ (L - i) = m / 10 := by
      rw [hm, show L - i = (L - (i + 1)) + 1 by omega, Int.pow_succ, Int.ediv_ediv_of_nonneg (Int.pow_nonneg (by decide))]
    rw [hq] at hp
    rw [← hm] at hc ⊢
    have hm0 : 0 ≤ m := by rw [hm]; exact Int.ediv_nonneg h0 (Int.pow_nonneg (by decide))
    have hm1 : m ≤ n := by rw [hm]; exact Int.ediv_le_self _ h0
    have e1 : ((cs.getD i 0) - (48 : Int32)).toInt = m % 10 := by
      rw [Int32.toInt_sub, hc]
      exact (Int.bmod_eq_of_le (by show _ ≤ 48 + m % 10 - 48; omega) (by show 48 + m % 10 - 48 < _; omega)).trans (by show 48 + m % 10 - 48 = _; omega)
    have e2 : ((pv cs i) * (10 : Int64)).toInt = m / 10 * 10 := by
      rw [Int64.toInt_mul, hp]
      exact Int.bmod_eq_of_le (by show _ ≤ m / 10 * 10; omega) (by show m / 10 * 10 < _; omega)
    show (((pv cs i) * (10 : Int64)) + (((cs.getD i 0) - (48 : Int32)).toInt64)).toInt = m
    rw [Int64.toInt_add, e2, Int32.toInt_toInt64, e1]
    exact (Int.bmod_eq_of_le (by omega) (by omega)).trans (by omega)
theorem own_facts (cs : List Int32) (nv : Int32) (L : Nat) (hlen : cs.length = L) (h0 : 0 ≤ nv.toInt) (hL : nv.toInt < 10 ^ L) (hd : ∀ i, i < L → (cs.getD i 0).toInt = 48 + (nv.toInt / 10 ^ (L - 1 - i)) % 10) :
    (∀ x ∈ cs, ¬ x < 0 ∧ ¬ (255 : Int32) < x) ∧ (∀ i, i < cs.length → ¬ (cs.getD i 0 < (48 : Int32)) ∧ ¬ ((57 : Int32) < cs.getD i 0)) ∧ (∀ i, i < cs.length → ¬ ((2147483647 : Int64) < (((pv cs i) * (10 : Int64)) + (((cs.getD i 0) - (48 : Int32)).toInt64)))) ∧ (pv cs cs.length).toInt32 = nv := by
  have hb := nv.toInt_lt
  have P := own_pv cs nv.toInt L h0 hb hL hd
  subst hlen
  refine ⟨fun y hy => ?_, fun i hi => ?_, fun i hi => ?_, ?_⟩
  · obtain ⟨i, hi, rfl⟩ := List.getElem_of_mem hy
    have h := hd i hi
    rw [show cs.getD i 0 = cs[i] by simp [List.getD_eq_getElem?_getD, hi]] at h
    rw [Int32.lt_iff_toInt_lt, Int32.lt_iff_toInt_lt, h]
    show ¬ (_ < (0 : Int)) ∧ ¬ ((255 : Int) < _)
    omega
  · have h := hd i hi
    rw [Int32.lt_iff_toInt_lt, Int32.lt_iff_toInt_lt, h]
    show ¬ (_ < (48 : Int)) ∧ ¬ ((57 : Int) < _)
    omega
  · have h := P (i + 1) (by omega)
    have h2 : nv.toInt / 10 ^ (cs.length - (i + 1)) ≤ nv.toInt := Int.ediv_le_self _ h0
    rw [Int64.lt_iff_toInt_lt]
    show ¬ ((2147483647 : Int) < (pv cs (i + 1)).toInt)
    rw [h]; omega
  · have h := P cs.length (Nat.le_refl _)
    rw [Nat.sub_self, Int.pow_zero, Int.ediv_one] at h
    apply Int32.toInt_inj.mp
    rw [Int64.toInt_toInt32, h]
    have hb2 := nv.le_toInt
    exact Int.bmod_eq_of_le (by omega) (by omega)
theorem own_zero (nv : Int32) (h0 : 0 ≤ nv.toInt) (k : Nat) (hk : (10 : Int) ^ 10 ≤ 10 ^ k) : (nar .char (48 : Int32)).toInt = 48 + (nv.toInt / 10 ^ k) % 10 := by
  have hb := nv.toInt_lt
  have h10 : (10 : Int) ^ 10 = 10000000000 := by decide
  rw [Int.ediv_eq_zero_of_lt h0 (by omega)]; rfl
theorem own_nlt10 (p P : Int32) (hP : 0 < P.toInt) : 0 ≤ ((p &&& (2147483647 : Int32)) - ((p &&& (2147483647 : Int32)) / P) * P).toInt ∧ ((p &&& (2147483647 : Int32)) - ((p &&& (2147483647 : Int32)) / P) * P).toInt < P.toInt := by
  rw [own_rem _ P (own_and31 p) hP]
  exact ⟨Int.emod_nonneg _ (by omega), Int.emod_lt_of_pos _ hP⟩
theorem own_len (k : Int32) : 1 ≤ (((k &&& (15 : Int32)) - ((k &&& (15 : Int32)) / (12 : Int32)) * (12 : Int32)) + (1 : Int32)).toInt ∧ (((k &&& (15 : Int32)) - ((k &&& (15 : Int32)) / (12 : Int32)) * (12 : Int32)) + (1 : Int32)).toInt ≤ 12 := by
  have h0 : 0 ≤ (k &&& (15 : Int32)).toInt := by
    have h : (k &&& (15 : Int32)).toBitVec.toNat ≤ 15 := by
      simp only [Int32.toBitVec_and, BitVec.toNat_and]
      exact Nat.and_le_right
    have e : (k &&& (15 : Int32)).toInt = ((k &&& (15 : Int32)).toBitVec.toNat : Int) := BitVec.toInt_eq_toNat_of_lt (by omega)
    omega
  have h1 := own_rem (k &&& (15 : Int32)) 12 h0 (by decide)
  rw [show (12 : Int32).toInt = 12 from rfl] at h1
  rw [Int32.toInt_add, h1]
  have h2 : Int.bmod ((k &&& (15 : Int32)).toInt % 12 + (1 : Int32).toInt) (2 ^ 32) = (k &&& (15 : Int32)).toInt % 12 + 1 := Int.bmod_eq_of_le (by show _ ≤ (k &&& (15 : Int32)).toInt % 12 + 1; omega) (by show (k &&& (15 : Int32)).toInt % 12 + 1 < _; omega)
  rw [h2]
  omega
theorem own_len12 (len : Int32) (h : 1 ≤ len.toInt ∧ len.toInt ≤ 12) (k1 : ¬ len = (1 : Int32)) (k2 : ¬ len = (2 : Int32)) (k3 : ¬ len = (3 : Int32)) (k4 : ¬ len = (4 : Int32)) (k5 : ¬ len = (5 : Int32)) (k6 : ¬ len = (6 : Int32)) (k7 : ¬ len = (7 : Int32)) (k8 : ¬ len = (8 : Int32)) (k9 : ¬ len = (9 : Int32)) (k10 : ¬ len = (10 : Int32)) (k11 : ¬ len = (11 : Int32)) : len = (12 : Int32) := by
  simp only [← Int32.toInt_inj, show (1 : Int32).toInt = 1 from rfl, show (2 : Int32).toInt = 2 from rfl, show (3 : Int32).toInt = 3 from rfl, show (4 : Int32).toInt = 4 from rfl, show (5 : Int32).toInt = 5 from rfl, show (6 : Int32).toInt = 6 from rfl, show (7 : Int32).toInt = 7 from rfl, show (8 : Int32).toInt = 8 from rfl, show (9 : Int32).toInt = 9 from rfl, show (10 : Int32).toInt = 10 from rfl, show (11 : Int32).toInt = 11 from rfl, show (12 : Int32).toInt = 12 from rfl] at *
  omega
theorem dDD_0 : decode method_3_code 0 = .ok (.bipush 48, 2) := by decide +kernel
theorem dDD_2 : decode method_3_code 2 = .ok (.iload_n 0, 1) := by decide +kernel
theorem dDD_3 : decode method_3_code 3 = .ok (.iload_n 1, 1) := by decide +kernel
theorem dDD_4 : decode method_3_code 4 = .ok (.idiv, 1) := by decide +kernel
theorem dDD_5 : decode method_3_code 5 = .ok (.bipush 10, 2) := by decide +kernel
theorem dDD_7 : decode method_3_code 7 = .ok (.irem, 1) := by decide +kernel
theorem dDD_8 : decode method_3_code 8 = .ok (.iadd, 1) := by decide +kernel
theorem dDD_9 : decode method_3_code 9 = .ok (.i2c, 1) := by decide +kernel
theorem dDD_10 : decode method_3_code 10 = .ok (.ireturn, 1) := by decide +kernel
theorem pn_0 : plainName "com/example/libforeword/libforeword/wordlist/EntryParseFrequencyPinLaw" = true := by first | (simp [plainName, overriddenIn]; done) | decide +kernel
theorem ef_DD (m : MethodId) (p0 : Int32) (p1 : Int32) : entryFrame m #[(.int p0), (.int p1)] 2 = mkF m 0 #[.val (.int p0), .val (.int p1)] [] := by first | (simp [entryFrame, mkF, argsToLocals, Value.category]; done) | rfl
def QDD (p0 p1 : Int32) (h0 : Heap) (n0 : Nat) (v : Option Value) (h : Heap) (L : List Loc) : Prop := v = some (.int (dV p0 p1)) ∧ Fr n0 L ∧ h = h0
set_option maxRecDepth 65536 in
set_option maxHeartbeats 40000000 in
theorem rmDD (l : Launch) (Z : State) (a0 : Array Value) (hw : ∀ d ∈ tables_1, d.before a0 Z = true) (ws : List Jvm.Cond) (p0 p1 : Int32) (h0 : Heap) (n0 : Nat) (Z0 : n0 ≤ h0.size) (hq : p1 ≠ 0) :
    MetFree l (⟨"com/example/libforeword/libforeword/wordlist/EntryParseFrequencyPinLaw", "d", "(II)C"⟩ : MethodName) (head1 (Jvm.Cond.code (⟨"com/example/libforeword/libforeword/wordlist/EntryParseFrequencyPinLaw", "d", "(II)C"⟩ : MethodName) method_3_code 2 (some .char) :: ws) ({ frames := 0, cells := 0, slots := 0, locals := 0 } : Room)) (fun a U => a = #[(.int p0), (.int p1)] ∧ Z.Warmed39 U.vm ∧ U.heap = h0) (fun _ _ _ _ _ => True) (fun _ U o U' => ∃ v L, o = .returned v ∧ QDD p0 p1 h0 n0 v U'.heap L ∧ FrameEnd U o U' L ({ frames := 0, cells := 0, slots := 0, locals := 0 } : Room).cells ({ frames := 0, cells := 0, slots := 0, locals := 0 } : Room).slots) := by
  refine MetFree.of_bodySF (plainFor_of_name pn_0) hisR ?_
  intro p e s m args below meth c s₁ Bd hml0 hP hK
  obtain ⟨rfl, hZ, hh⟩ := hP
  have hx := Bd.exec
  have hby := Bd.bytes
  have hml : c.maxLocals = 2 := hml0
  have hown : s.vm.findClass "com/example/libforeword/libforeword/wordlist/EntryParseFrequencyPinLaw" = some m.cls := findClass_of_methodNamed Bd.named
  have hnm := (name_of_methodNamed Bd.named Bd.method).1
  have X0 : Stand p l e ({ frames := 0, cells := 0, slots := 0, locals := 0 } : Room) s m #[(.int p0), (.int p1)] below meth c s₁ [] 0 0 := Stand.of_body Bd
  have e0 : s₁.heap = h0 := by rw [← hh, Bd.state]; rfl
  have N0 := Fr.nil n0
  have pre0 : ∀ t, Steps p.tables e below (s₁.setTop (mkF m 0 #[.val (.int p0), .val (.int p1)] [])) t → Steps p.tables e below (s₁.setTop (entryFrame m #[(.int p0), (.int p1)] 2)) t := fun t k => castTop (ef_DD m p0 p1) k
  obtain ⟨fs, hr, hrun, hended, hW, hsame⟩ := X0.leave (v := some (.int (nar .char (((48 : Int32) + ((p0 / p1) - ((p0 / p1) / (10 : Int32)) * (10 : Int32))).toUInt32.toUInt16.toUInt32.toInt32)))) (fun h => by rw [Bd.returns] at h; cases h)
  refine ⟨_, _, pre0 _ ?_, hrun, hended, _, _, rfl, ?_, ⟨_, rfl⟩, hW, hsame.mono (by decide) (by decide)⟩
  · show Steps p.tables e below (s₁.setTop (mkF m 0 #[.val (.int p0), .val (.int p1)] [])) _
    refine XS.bipush X0.here hx rfl (hb hby dDD_0) ?_
    show Steps p.tables e below (s₁.setTop (mkF m 2 #[.val (.int p0), .val (.int p1)] [(.int (48 : Int32))])) _
    refine XS.iloadN X0.here hx rfl (hb hby dDD_2) rfl ?_
    show Steps p.tables e below (s₁.setTop (mkF m 3 #[.val (.int p0), .val (.int p1)] [(.int p0), (.int (48 : Int32))])) _
    refine XS.iloadN X0.here hx rfl (hb hby dDD_3) rfl ?_
    show Steps p.tables e below (s₁.setTop (mkF m 4 #[.val (.int p0), .val (.int p1)] [(.int p1), (.int p0), (.int (48 : Int32))])) _
    refine XS.idiv X0.here hx rfl (hb hby dDD_4) rfl hq ?_
    show Steps p.tables e below (s₁.setTop (mkF m 5 #[.val (.int p0), .val (.int p1)] [(.int (p0 / p1)), (.int (48 : Int32))])) _
    refine XS.bipush X0.here hx rfl (hb hby dDD_5) ?_
    show Steps p.tables e below (s₁.setTop (mkF m 7 #[.val (.int p0), .val (.int p1)] [(.int (10 : Int32)), (.int (p0 / p1)), (.int (48 : Int32))])) _
    refine XS.irem X0.here hx rfl (hb hby dDD_7) rfl (by decide) ?_
    show Steps p.tables e below (s₁.setTop (mkF m 8 #[.val (.int p0), .val (.int p1)] [(.int ((p0 / p1) - ((p0 / p1) / (10 : Int32)) * (10 : Int32))), (.int (48 : Int32))])) _
    refine XS.iadd X0.here hx rfl (hb hby dDD_8) rfl ?_
    show Steps p.tables e below (s₁.setTop (mkF m 9 #[.val (.int p0), .val (.int p1)] [(.int ((48 : Int32) + ((p0 / p1) - ((p0 / p1) / (10 : Int32)) * (10 : Int32))))])) _
    refine XS.i2c X0.here hx rfl (hb hby dDD_9) rfl ?_
    show Steps p.tables e below (s₁.setTop (mkF m 10 #[.val (.int p0), .val (.int p1)] [(.int (((48 : Int32) + ((p0 / p1) - ((p0 / p1) / (10 : Int32)) * (10 : Int32))).toUInt32.toUInt16.toUInt32.toInt32))])) _
    exact retN X0 hx (t := .char) Bd.returns (by simp) (hb hby dDD_10) hr
  · show QDD p0 p1 h0 n0 _ s₁.heap _
    rw [e0]
    exact ⟨rfl, N0, rfl⟩
theorem dPF_0 : decode prog_30_method_8_code 0 = .ok (.aload_n 0, 1) := by decide +kernel
theorem dPF_1 : decode prog_30_method_8_code 1 = .ok (.invokevirtual 115, 3) := by decide +kernel
theorem dPF_4 : decode prog_30_method_8_code 4 = .ok (.ifCond .eq 13, 3) := by decide +kernel
theorem dPF_17 : decode prog_30_method_8_code 17 = .ok (.lconst 0, 1) := by decide +kernel
theorem dPF_18 : decode prog_30_method_8_code 18 = .ok (.lstore_n 1, 1) := by decide +kernel
theorem dPF_19 : decode prog_30_method_8_code 19 = .ok (.iconst 0, 1) := by decide +kernel
theorem dPF_20 : decode prog_30_method_8_code 20 = .ok (.istore_n 3, 1) := by decide +kernel
theorem dPF_21 : decode prog_30_method_8_code 21 = .ok (.iload_n 3, 1) := by decide +kernel
theorem dPF_22 : decode prog_30_method_8_code 22 = .ok (.aload_n 0, 1) := by decide +kernel
theorem dPF_23 : decode prog_30_method_8_code 23 = .ok (.invokevirtual 101, 3) := by decide +kernel
theorem dPF_26 : decode prog_30_method_8_code 26 = .ok (.if_icmp .ge 71, 3) := by decide +kernel
theorem dPF_29 : decode prog_30_method_8_code 29 = .ok (.aload_n 0, 1) := by decide +kernel
theorem dPF_30 : decode prog_30_method_8_code 30 = .ok (.iload_n 3, 1) := by decide +kernel
theorem dPF_31 : decode prog_30_method_8_code 31 = .ok (.invokevirtual 118, 3) := by decide +kernel
theorem dPF_34 : decode prog_30_method_8_code 34 = .ok (.istore 4, 2) := by decide +kernel
theorem dPF_36 : decode prog_30_method_8_code 36 = .ok (.iload 4, 2) := by decide +kernel
theorem dPF_38 : decode prog_30_method_8_code 38 = .ok (.bipush 48, 2) := by decide +kernel
theorem dPF_40 : decode prog_30_method_8_code 40 = .ok (.if_icmp .lt 10, 3) := by decide +kernel
theorem dPF_43 : decode prog_30_method_8_code 43 = .ok (.iload 4, 2) := by decide +kernel
theorem dPF_45 : decode prog_30_method_8_code 45 = .ok (.bipush 57, 2) := by decide +kernel
theorem dPF_47 : decode prog_30_method_8_code 47 = .ok (.if_icmp .le 13, 3) := by decide +kernel
theorem dPF_60 : decode prog_30_method_8_code 60 = .ok (.lload_n 1, 1) := by decide +kernel
theorem dPF_61 : decode prog_30_method_8_code 61 = .ok (.ldc2_w 122, 3) := by decide +kernel
theorem dPF_64 : decode prog_30_method_8_code 64 = .ok (.lmul, 1) := by decide +kernel
theorem dPF_65 : decode prog_30_method_8_code 65 = .ok (.iload 4, 2) := by decide +kernel
theorem dPF_67 : decode prog_30_method_8_code 67 = .ok (.bipush 48, 2) := by decide +kernel
theorem dPF_69 : decode prog_30_method_8_code 69 = .ok (.isub, 1) := by decide +kernel
theorem dPF_70 : decode prog_30_method_8_code 70 = .ok (.i2l, 1) := by decide +kernel
theorem dPF_71 : decode prog_30_method_8_code 71 = .ok (.ladd, 1) := by decide +kernel
theorem dPF_72 : decode prog_30_method_8_code 72 = .ok (.lstore_n 1, 1) := by decide +kernel
theorem dPF_73 : decode prog_30_method_8_code 73 = .ok (.lload_n 1, 1) := by decide +kernel
theorem dPF_74 : decode prog_30_method_8_code 74 = .ok (.ldc2_w 124, 3) := by decide +kernel
theorem dPF_77 : decode prog_30_method_8_code 77 = .ok (.lcmp, 1) := by decide +kernel
theorem dPF_78 : decode prog_30_method_8_code 78 = .ok (.ifCond .le 13, 3) := by decide +kernel
theorem dPF_91 : decode prog_30_method_8_code 91 = .ok (.iinc 3 1, 3) := by decide +kernel
theorem dPF_94 : decode prog_30_method_8_code 94 = .ok (.goto (-73), 3) := by decide +kernel
theorem dPF_97 : decode prog_30_method_8_code 97 = .ok (.lload_n 1, 1) := by decide +kernel
theorem dPF_98 : decode prog_30_method_8_code 98 = .ok (.l2i, 1) := by decide +kernel
theorem dPF_99 : decode prog_30_method_8_code 99 = .ok (.ireturn, 1) := by decide +kernel
theorem pn_1 : plainName "com/example/libforeword/libforeword/wordlist/Entry" = true := by first | (simp [plainName, overriddenIn]; done) | decide +kernel
theorem pd_0 : parseMethodDescriptor "()Z" = some ⟨[], some .boolean⟩ := by decide +kernel
theorem pd_1 : parseMethodDescriptor "()I" = some ⟨[], some .int⟩ := by decide +kernel
theorem pd_2 : parseMethodDescriptor "(I)C" = some ⟨[.int], some .char⟩ := by decide +kernel
theorem ef_PF (m : MethodId) (o0 : Addr) : entryFrame m #[(.ref o0)] 5 = mkF m 0 #[.val (.ref o0), .unset, .unset, .unset, .unset] [] := by first | (simp [entryFrame, mkF, argsToLocals, Value.category]; done) | rfl
def QPF (cs : List Int32) (h0 : Heap) (n0 : Nat) (v : Option Value) (h : Heap) (L : List Loc) : Prop := v = some (.int ((pv cs cs.length).toInt32)) ∧ Fr n0 L ∧ h = h0
set_option maxRecDepth 65536 in
set_option maxHeartbeats 40000000 in
theorem rmPF (l : Launch) (Z : State) (a0 : Array Value) (hw : ∀ d ∈ tables_1, d.before a0 Z = true) (ws : List Jvm.Cond) (o0 bb : Addr) (kb : ClassId) (cs : List Int32) (iC : Int32) (vG : Value) (h0 : Heap) (n0 : Nat) (Z0 : n0 ≤ h0.size) (Es : Exa Z h0 o0 "java/lang/String") (Fc : Fld Z h0 o0 "java/lang/String" "coder" "B" (.int (0 : Int32))) (Fv : Fld Z h0 o0 "java/lang/String" "value" "[B" (.ref bb)) (AV : Arv Z h0 bb kb .byte (Int32.ofNat cs.length) ((cs.map (fun c => c.toInt8.toInt32)).map Value.int) (.int (0 : Int32))) (SC : Sta Z h0 "java/lang/String" "COMPACT_STRINGS" "Z" (.int iC)) (hC : ¬ iC = (0 : Int32)) (SG : Sta Z h0 "jdk/internal/util/Preconditions" "SIOOBE_FORMATTER" "Ljava/util/function/BiFunction;" vG) (hvG : vG.isRef = true) (hp : ∀ x ∈ cs, ¬ x < 0 ∧ ¬ (255 : Int32) < x) (hl0 : 0 < cs.length) (hl : cs.length ≤ 12) (hdig : ∀ i, i < cs.length → ¬ (cs.getD i 0 < (48 : Int32)) ∧ ¬ ((57 : Int32) < cs.getD i 0)) (hval : ∀ i, i < cs.length → ¬ ((2147483647 : Int64) < (((pv cs i) * (10 : Int64)) + (((cs.getD i 0) - (48 : Int32)).toInt64)))) :
    MetFree l (⟨"com/example/libforeword/libforeword/wordlist/Entry", "parseFrequency", "(Ljava/lang/String;)I"⟩ : MethodName) (head1 (Jvm.Cond.code (⟨"com/example/libforeword/libforeword/wordlist/Entry", "parseFrequency", "(Ljava/lang/String;)I"⟩ : MethodName) prog_30_method_8_code 5 (some .int) :: ws) ({ frames := 4, cells := 0, slots := 0, locals := 53 } : Room)) (fun a U => a = #[(.ref o0)] ∧ Z.Warmed39 U.vm ∧ U.heap = h0) (fun _ _ _ _ _ => True) (fun _ U o U' => ∃ v L, o = .returned v ∧ QPF cs h0 n0 v U'.heap L ∧ FrameEnd U o U' L ({ frames := 4, cells := 0, slots := 0, locals := 53 } : Room).cells ({ frames := 4, cells := 0, slots := 0, locals := 53 } : Room).slots) := by
  refine MetFree.of_bodySF (plainFor_of_name pn_1) hisR ?_
  intro p e s m args below meth c s₁ Bd hml0 hP hK
  obtain ⟨rfl, hZ, hh⟩ := hP
  have hx := Bd.exec
  have hby := Bd.bytes
  have hml : c.maxLocals = 5 := hml0
  have hown : s.vm.findClass "com/example/libforeword/libforeword/wordlist/Entry" = some m.cls := findClass_of_methodNamed Bd.named
  have hnm := (name_of_methodNamed Bd.named Bd.method).1
  have X0 : Stand p l e ({ frames := 4, cells := 0, slots := 0, locals := 53 } : Room) s m #[(.ref o0)] below meth c s₁ [] 0 0 := Stand.of_body Bd
  have e0 : s₁.heap = h0 := by rw [← hh, Bd.state]; rfl
  have N0 := Fr.nil n0
  have pre0 : ∀ t, Steps p.tables e below (s₁.setTop (mkF m 0 #[.val (.ref o0), .unset, .unset, .unset, .unset] [])) t → Steps p.tables e below (s₁.setTop (entryFrame m #[(.ref o0)] 5)) t := fun t k => castTop (ef_PF m o0) k
  have hem : ∀ d ∈ StrChars.Road.wordsEmp, d.before a0 Z = true := fun d hd => hw d ((by decide +kernel : ∀ d ∈ StrChars.Road.wordsEmp, d ∈ tables_1) d hd)
  have hln : ∀ d ∈ StrChars.Road.wordsLen, d.before a0 Z = true := fun d hd => hw d ((by decide +kernel : ∀ d ∈ StrChars.Road.wordsLen, d ∈ tables_1) d hd)
  have hch : ∀ d ∈ StrChars.Road.wordsChN, d.before a0 Z = true := fun d hd => hw d ((by decide +kernel : ∀ d ∈ StrChars.Road.wordsChN, d ∈ tables_1) d hd)
  have hcd : StrChars.Road.CodA cs 0 (Int32.ofNat cs.length) ((cs.map (fun c => c.toInt8.toInt32)).map Value.int) := StrChars.Road.codOf (n := cs.length) rfl (fun x hx => (hp x hx).2)
  have hbd : ∀ x ∈ cs, ¬ x < 0 ∧ ¬ (65535 : Int32) < x := own_up _ hp
  have hl4 : cs.length ≤ 4000 := by omega
  obtain ⟨cq1, kq1, q1a, q1b, q1c⟩ := isOf hZ e0 Es
  obtain ⟨_, _, ⟨T1, L1, k1, n1⟩, -, X1, ⟨Lc1, hQ1, l1, y1, z1⟩, st1⟩ := X0.virtualBack hx (y := (⟨"java/lang/String", "isEmpty", "()Z"⟩ : MethodName)) (z := (⟨"java/lang/String", "isEmpty", "()Z"⟩ : MethodName)) hown (mvT hZ (hw _ (List.mem_of_getElem? (i := 45) rfl))) (mvT hZ (hw _ (List.mem_of_getElem? (i := 46) rfl))) (notFace_of_selects (args := #[]) (mvT hZ (hw _ (List.mem_of_getElem? (i := 48) rfl)))) (mvT hZ (hw _ (List.mem_of_getElem? (i := 48) rfl))) (mvT hZ (hw _ (List.mem_of_getElem? (i := 47) rfl))) (by decide) (StrChars.Road.empW (W := 0) hZ hem (kI := 4) (hw _ (List.mem_of_getElem? (i := 13) rfl)) Es Fv Fc AV hcd hbd hl4 (by decide) (by decide)) q1a q1c (g := (mkF m 1 #[.val (.ref o0), .unset, .unset, .unset, .unset] [(.ref o0)])) rfl (by rw [hml]; rfl) (Steps.refl _) (argsL := []) (rest := []) (lenOf pd_0 rfl) rfl (by show 2 * 0 + _ ≤ _; exact Nat.le_of_eq rfl) (hb hby dPF_1) (fun _ _ => ⟨rfl, e0, (by decide : 0 + 0 ≤ _), (by decide : 0 + 0 ≤ _)⟩)
  dsimp only [Pt.U, Pt.locs, Pt.cells, Pt.slots] at X1 l1 y1 z1 st1 hQ1
  subst l1 y1 z1
  obtain ⟨rfl, rfl, e1⟩ := hQ1
  have N1q : Fr n0 ([] : List Loc) := Fr.nil n0
  have N1 := Fr.app N0 N1q
  have pre2 : ∀ t, Steps p.tables e below (T1.setTop (mkF m 21 #[.val (.ref o0), .val (.long (0 : Int64)), .second, .val (.int (0 : Int32)), .unset] [])) t → Steps p.tables e below (s₁.setTop (entryFrame m #[(.ref o0)] 5)) t := fun t kt => pre0 t (by
      show Steps p.tables e below (s₁.setTop (mkF m 0 #[.val (.ref o0), .unset, .unset, .unset, .unset] [])) _
      refine XS.aloadN X0.here hx rfl (hb hby dPF_0) rfl rfl ?_
      show Steps p.tables e below (s₁.setTop (mkF m 1 #[.val (.ref o0), .unset, .unset, .unset, .unset] [(.ref o0)])) _
      refine st1.trans ?_
      show Steps p.tables e below (T1.setTop (mkF m 4 #[.val (.ref o0), .unset, .unset, .unset, .unset] [(.int (if cs.length = 0 then 1 else 0))])) _
      refine XS.ifYes X1.here hx rfl (pc0 := 4) (pc' := 17) rfl (hb hby dPF_4) rfl ((if0 _ _).trans (teq (show (if cs.length = 0 then 1 else 0) = (0 : Int32) from (by rw [if_neg (by omega)]))).1) (by decide) (by decide) ?_
      show Steps p.tables e below (T1.setTop (mkF m 17 #[.val (.ref o0), .unset, .unset, .unset, .unset] [])) _
      refine XS.lconst X1.here hx rfl (hb hby dPF_17) ?_
      show Steps p.tables e below (T1.setTop (mkF m 18 #[.val (.ref o0), .unset, .unset, .unset, .unset] [(.long (0 : Int64))])) _
      refine XS.lstoreN X1.here hx rfl (hb hby dPF_18) rfl (l' := #[.val (.ref o0), .val (.long (0 : Int64)), .second, .unset, .unset]) rfl ?_
      show Steps p.tables e below (T1.setTop (mkF m 19 #[.val (.ref o0), .val (.long (0 : Int64)), .second, .unset, .unset] [])) _
      refine XS.iconst X1.here hx rfl (hb hby dPF_19) ?_
      show Steps p.tables e below (T1.setTop (mkF m 20 #[.val (.ref o0), .val (.long (0 : Int64)), .second, .unset, .unset] [(.int (0 : Int32))])) _
      refine XS.istoreN X1.here hx rfl (hb hby dPF_20) rfl (l' := #[.val (.ref o0), .val (.long (0 : Int64)), .second, .val (.int (0 : Int32)), .unset]) rfl ?_
      exact kt)
  have loop : ∀ (k : Nat) (T : State) (locs : List Loc) (i : Nat) (o4 : Slot), i + k = cs.length → Stand p l e ({ frames := 4, cells := 0, slots := 0, locals := 53 } : Room) s m #[(.ref o0)] below meth c T locs 0 0 → T.heap = h0 → Fr n0 locs → One o4 → ∃ (T' : State) (locs' : List Loc) (o4' : Slot), Stand p l e ({ frames := 4, cells := 0, slots := 0, locals := 53 } : Room) s m #[(.ref o0)] below meth c T' locs' 0 0 ∧ T'.heap = h0 ∧ Fr n0 locs' ∧ ∀ t, Steps p.tables e below (T'.setTop (mkF m 97 #[.val (.ref o0), .val (.long (pv cs cs.length)), .second, .val (.int (Int32.ofNat cs.length)), o4'] [])) t → Steps p.tables e below (T.setTop (mkF m 21 #[.val (.ref o0), .val (.long (pv cs i)), .second, .val (.int (Int32.ofNat i)), o4] [])) t := by
    intro k
    induction k with
    | zero =>
      intro T locs i o4 hik XT eT NT h4
      have preS : ∀ t, Steps p.tables e below (T.setTop (mkF m 21 #[.val (.ref o0), .val (.long (pv cs i)), .second, .val (.int (Int32.ofNat i)), o4] [])) t → Steps p.tables e below (T.setTop (mkF m 21 #[.val (.ref o0), .val (.long (pv cs i)), .second, .val (.int (Int32.ofNat i)), o4] [])) t := fun t k => k
      obtain ⟨cq3, kq3, q3a, q3b, q3c⟩ := isOf hZ eT Es
      obtain ⟨_, _, ⟨T3, L3, k3, n3⟩, -, X3, ⟨Lc3, hQ3, l3, y3, z3⟩, st3⟩ := XT.virtualBack hx (y := (⟨"java/lang/String", "length", "()I"⟩ : MethodName)) (z := (⟨"java/lang/String", "length", "()I"⟩ : MethodName)) hown (mvT hZ (hw _ (List.mem_of_getElem? (i := 50) rfl))) (mvT hZ (hw _ (List.mem_of_getElem? (i := 51) rfl))) (notFace_of_selects (args := #[]) (mvT hZ (hw _ (List.mem_of_getElem? (i := 53) rfl)))) (mvT hZ (hw _ (List.mem_of_getElem? (i := 53) rfl))) (mvT hZ (hw _ (List.mem_of_getElem? (i := 52) rfl))) (by decide) (StrChars.Road.lenW (W := 1) hZ hln (kI := 4) (hw _ (List.mem_of_getElem? (i := 13) rfl)) Es Fv Fc AV hcd hbd SC hC hl4 (by decide) (by decide)) q3a q3c (g := (mkF m 23 #[.val (.ref o0), .val (.long (pv cs i)), .second, .val (.int (Int32.ofNat i)), o4] [(.ref o0), (.int (Int32.ofNat i))])) rfl (by rw [hml]; rfl) (Steps.refl _) (argsL := []) (rest := [(.int (Int32.ofNat i))]) (lenOf pd_1 rfl) rfl (by show 2 * 0 + _ ≤ _; exact Nat.le_of_eq rfl) (hb hby dPF_23) (fun _ _ => ⟨rfl, eT, (by decide : 0 + 0 ≤ _), (by decide : 0 + 0 ≤ _)⟩)
      dsimp only [Pt.U, Pt.locs, Pt.cells, Pt.slots] at X3 l3 y3 z3 st3 hQ3
      subst l3 y3 z3
      obtain ⟨rfl, rfl, e3⟩ := hQ3
      have N3q : Fr n0 ([] : List Loc) := Fr.nil n0
      have N3 := Fr.app NT N3q
      have hie : i = cs.length := by omega
      exact ⟨T3, _, o4, X3, e3, N3, fun t kt => preS t (by
          show Steps p.tables e below (T.setTop (mkF m 21 #[.val (.ref o0), .val (.long (pv cs i)), .second, .val (.int (Int32.ofNat i)), o4] [])) _
          refine XS.iloadN XT.here hx rfl (hb hby dPF_21) rfl ?_
          show Steps p.tables e below (T.setTop (mkF m 22 #[.val (.ref o0), .val (.long (pv cs i)), .second, .val (.int (Int32.ofNat i)), o4] [(.int (Int32.ofNat i))])) _
          refine XS.aloadN XT.here hx rfl (hb hby dPF_22) rfl rfl ?_
          show Steps p.tables e below (T.setTop (mkF m 23 #[.val (.ref o0), .val (.long (pv cs i)), .second, .val (.int (Int32.ofNat i)), o4] [(.ref o0), (.int (Int32.ofNat i))])) _
          refine st3.trans ?_
          show Steps p.tables e below (T3.setTop (mkF m 26 #[.val (.ref o0), .val (.long (pv cs i)), .second, .val (.int (Int32.ofNat i)), o4] [(.int (Int32.ofNat cs.length)), (.int (Int32.ofNat i))])) _
          refine XS.icmpYes X3.here hx rfl (pc0 := 26) (pc' := 97) rfl (hb hby dPF_26) rfl (flt (show ¬ ((Int32.ofNat i) < (Int32.ofNat cs.length)) from (own_ofNat_ge hl (by omega)))).2.1 (by decide) (by decide) ?_
          show Steps p.tables e below (T3.setTop (mkF m 97 #[.val (.ref o0), .val (.long (pv cs i)), .second, .val (.int (Int32.ofNat i)), o4] [])) _
          rw [hie]
          exact kt)⟩
    | succ k ih =>
      intro T locs i o4 hik XT eT NT h4
      have hilt : i < cs.length := by omega
      have preS : ∀ t, Steps p.tables e below (T.setTop (mkF m 21 #[.val (.ref o0), .val (.long (pv cs i)), .second, .val (.int (Int32.ofNat i)), o4] [])) t → Steps p.tables e below (T.setTop (mkF m 21 #[.val (.ref o0), .val (.long (pv cs i)), .second, .val (.int (Int32.ofNat i)), o4] [])) t := fun t k => k
      obtain ⟨cq4, kq4, q4a, q4b, q4c⟩ := isOf hZ eT Es
      obtain ⟨_, _, ⟨T4, L4, k4, n4⟩, -, X4, ⟨Lc4, hQ4, l4, y4, z4⟩, st4⟩ := XT.virtualBack hx (y := (⟨"java/lang/String", "length", "()I"⟩ : MethodName)) (z := (⟨"java/lang/String", "length", "()I"⟩ : MethodName)) hown (mvT hZ (hw _ (List.mem_of_getElem? (i := 50) rfl))) (mvT hZ (hw _ (List.mem_of_getElem? (i := 51) rfl))) (notFace_of_selects (args := #[]) (mvT hZ (hw _ (List.mem_of_getElem? (i := 53) rfl)))) (mvT hZ (hw _ (List.mem_of_getElem? (i := 53) rfl))) (mvT hZ (hw _ (List.mem_of_getElem? (i := 52) rfl))) (by decide) (StrChars.Road.lenW (W := 1) hZ hln (kI := 4) (hw _ (List.mem_of_getElem? (i := 13) rfl)) Es Fv Fc AV hcd hbd SC hC hl4 (by decide) (by decide)) q4a q4c (g := (mkF m 23 #[.val (.ref o0), .val (.long (pv cs i)), .second, .val (.int (Int32.ofNat i)), o4] [(.ref o0), (.int (Int32.ofNat i))])) rfl (by rw [hml]; rfl) (Steps.refl _) (argsL := []) (rest := [(.int (Int32.ofNat i))]) (lenOf pd_1 rfl) rfl (by show 2 * 0 + _ ≤ _; exact Nat.le_of_eq rfl) (hb hby dPF_23) (fun _ _ => ⟨rfl, eT, (by decide : 0 + 0 ≤ _), (by decide : 0 + 0 ≤ _)⟩)
      dsimp only [Pt.U, Pt.locs, Pt.cells, Pt.slots] at X4 l4 y4 z4 st4 hQ4
      subst l4 y4 z4
      obtain ⟨rfl, rfl, e4⟩ := hQ4
      have N4q : Fr n0 ([] : List Loc) := Fr.nil n0
      have N4 := Fr.app NT N4q
      obtain ⟨cq5, kq5, q5a, q5b, q5c⟩ := isOf hZ e4 Es
      obtain ⟨_, _, ⟨T5, L5, k5, n5⟩, -, X5, ⟨Lc5, hQ5, l5, y5, z5⟩, st5⟩ := X4.virtualBack hx (y := (⟨"java/lang/String", "charAt", "(I)C"⟩ : MethodName)) (z := (⟨"java/lang/String", "charAt", "(I)C"⟩ : MethodName)) hown (mvT hZ (hw _ (List.mem_of_getElem? (i := 60) rfl))) (mvT hZ (hw _ (List.mem_of_getElem? (i := 61) rfl))) (notFace_of_selects (args := #[]) (mvT hZ (hw _ (List.mem_of_getElem? (i := 63) rfl)))) (mvT hZ (hw _ (List.mem_of_getElem? (i := 63) rfl))) (mvT hZ (hw _ (List.mem_of_getElem? (i := 62) rfl))) (by decide) (StrChars.Road.chN (W := 0) hZ hch (kI := 4) (hw _ (List.mem_of_getElem? (i := 13) rfl)) Es Fv Fc AV hcd hbd SC hC SG hvG hl4 (i := i) hilt (j := (Int32.ofNat i)) rfl (by decide) (by decide)) q5a q5c (g := (mkF m 31 #[.val (.ref o0), .val (.long (pv cs i)), .second, .val (.int (Int32.ofNat i)), o4] [(.int (Int32.ofNat i)), (.ref o0)])) rfl (by rw [hml]; rfl) (Steps.refl _) (argsL := [(.int (Int32.ofNat i))]) (rest := []) (lenOf pd_2 rfl) rfl (by show 2 * 0 + _ ≤ _; exact Nat.le_of_eq rfl) (hb hby dPF_31) (fun _ _ => ⟨rfl, e4, (by decide : 0 + 0 ≤ _), (by decide : 0 + 0 ≤ _)⟩)
      dsimp only [Pt.U, Pt.locs, Pt.cells, Pt.slots] at X5 l5 y5 z5 st5 hQ5
      subst l5 y5 z5
      obtain ⟨rfl, rfl, e5⟩ := hQ5
      have N5q : Fr n0 ([] : List Loc) := Fr.nil n0
      have N5 := Fr.app N4 N5q
      obtain ⟨T', locs', o4', X', e', N', st'⟩ := ih T5 _ (i + 1) (.val (.int (cs.getD i 0))) (by omega) X5 e5 N5 (One.val rfl)
      exact ⟨T', locs', o4', X', e', N', fun t kt => preS t (by
          show Steps p.tables e below (T.setTop (mkF m 21 #[.val (.ref o0), .val (.long (pv cs i)), .second, .val (.int (Int32.ofNat i)), o4] [])) _
          refine XS.iloadN XT.here hx rfl (hb hby dPF_21) rfl ?_
          show Steps p.tables e below (T.setTop (mkF m 22 #[.val (.ref o0), .val (.long (pv cs i)), .second, .val (.int (Int32.ofNat i)), o4] [(.int (Int32.ofNat i))])) _
          refine XS.aloadN XT.here hx rfl (hb hby dPF_22) rfl rfl ?_
          show Steps p.tables e below (T.setTop (mkF m 23 #[.val (.ref o0), .val (.long (pv cs i)), .second, .val (.int (Int32.ofNat i)), o4] [(.ref o0), (.int (Int32.ofNat i))])) _
          refine st4.trans ?_
          show Steps p.tables e below (T4.setTop (mkF m 26 #[.val (.ref o0), .val (.long (pv cs i)), .second, .val (.int (Int32.ofNat i)), o4] [(.int (Int32.ofNat cs.length)), (.int (Int32.ofNat i))])) _
          refine XS.icmpNo X4.here hx rfl (hb hby dPF_26) rfl (tlt (show (Int32.ofNat i) < (Int32.ofNat cs.length) from (own_ofNat_lt hl hilt))).2.1 ?_
          show Steps p.tables e below (T4.setTop (mkF m 29 #[.val (.ref o0), .val (.long (pv cs i)), .second, .val (.int (Int32.ofNat i)), o4] [])) _
          refine XS.aloadN X4.here hx rfl (hb hby dPF_29) rfl rfl ?_
          show Steps p.tables e below (T4.setTop (mkF m 30 #[.val (.ref o0), .val (.long (pv cs i)), .second, .val (.int (Int32.ofNat i)), o4] [(.ref o0)])) _
          refine XS.iloadN X4.here hx rfl (hb hby dPF_30) rfl ?_
          show Steps p.tables e below (T4.setTop (mkF m 31 #[.val (.ref o0), .val (.long (pv cs i)), .second, .val (.int (Int32.ofNat i)), o4] [(.int (Int32.ofNat i)), (.ref o0)])) _
          refine st5.trans ?_
          show Steps p.tables e below (T5.setTop (mkF m 34 #[.val (.ref o0), .val (.long (pv cs i)), .second, .val (.int (Int32.ofNat i)), o4] [(.int (cs.getD i 0))])) _
          refine XS.istore X5.here hx rfl (hb hby dPF_34) rfl (l' := #[.val (.ref o0), .val (.long (pv cs i)), .second, .val (.int (Int32.ofNat i)), .val (.int (cs.getD i 0))]) (own_os h4) ?_
          show Steps p.tables e below (T5.setTop (mkF m 36 #[.val (.ref o0), .val (.long (pv cs i)), .second, .val (.int (Int32.ofNat i)), .val (.int (cs.getD i 0))] [])) _
          refine XS.iload X5.here hx rfl (hb hby dPF_36) rfl ?_
          show Steps p.tables e below (T5.setTop (mkF m 38 #[.val (.ref o0), .val (.long (pv cs i)), .second, .val (.int (Int32.ofNat i)), .val (.int (cs.getD i 0))] [(.int (cs.getD i 0))])) _
          refine XS.bipush X5.here hx rfl (hb hby dPF_38) ?_
          show Steps p.tables e below (T5.setTop (mkF m 40 #[.val (.ref o0), .val (.long (pv cs i)), .second, .val (.int (Int32.ofNat i)), .val (.int (cs.getD i 0))] [(.int (48 : Int32)), (.int (cs.getD i 0))])) _
          refine XS.icmpNo X5.here hx rfl (hb hby dPF_40) rfl (flt (show ¬ ((cs.getD i 0) < (48 : Int32)) from (hdig i hilt).1)).1 ?_
          show Steps p.tables e below (T5.setTop (mkF m 43 #[.val (.ref o0), .val (.long (pv cs i)), .second, .val (.int (Int32.ofNat i)), .val (.int (cs.getD i 0))] [])) _
          refine XS.iload X5.here hx rfl (hb hby dPF_43) rfl ?_
          show Steps p.tables e below (T5.setTop (mkF m 45 #[.val (.ref o0), .val (.long (pv cs i)), .second, .val (.int (Int32.ofNat i)), .val (.int (cs.getD i 0))] [(.int (cs.getD i 0))])) _
          refine XS.bipush X5.here hx rfl (hb hby dPF_45) ?_
          show Steps p.tables e below (T5.setTop (mkF m 47 #[.val (.ref o0), .val (.long (pv cs i)), .second, .val (.int (Int32.ofNat i)), .val (.int (cs.getD i 0))] [(.int (57 : Int32)), (.int (cs.getD i 0))])) _
          refine XS.icmpYes X5.here hx rfl (pc0 := 47) (pc' := 60) rfl (hb hby dPF_47) rfl (flt (show ¬ ((57 : Int32) < (cs.getD i 0)) from (hdig i hilt).2)).2.2.2 (by decide) (by decide) ?_
          show Steps p.tables e below (T5.setTop (mkF m 60 #[.val (.ref o0), .val (.long (pv cs i)), .second, .val (.int (Int32.ofNat i)), .val (.int (cs.getD i 0))] [])) _
          refine XS.lloadN X5.here hx rfl (hb hby dPF_60) rfl ?_
          show Steps p.tables e below (T5.setTop (mkF m 61 #[.val (.ref o0), .val (.long (pv cs i)), .second, .val (.int (Int32.ofNat i)), .val (.int (cs.getD i 0))] [(.long (pv cs i))])) _
          refine X5.ldc2J hx hown (mvT hZ (hw _ (List.mem_of_getElem? (i := 82) rfl))) (g := (mkF m 61 #[.val (.ref o0), .val (.long (pv cs i)), .second, .val (.int (Int32.ofNat i)), .val (.int (cs.getD i 0))] [(.long (pv cs i))])) rfl (hb hby dPF_61) ?_
          show Steps p.tables e below (T5.setTop (mkF m 64 #[.val (.ref o0), .val (.long (pv cs i)), .second, .val (.int (Int32.ofNat i)), .val (.int (cs.getD i 0))] [(.long (10 : Int64)), (.long (pv cs i))])) _
          refine XS.lmul X5.here hx rfl (hb hby dPF_64) rfl ?_
          show Steps p.tables e below (T5.setTop (mkF m 65 #[.val (.ref o0), .val (.long (pv cs i)), .second, .val (.int (Int32.ofNat i)), .val (.int (cs.getD i 0))] [(.long ((pv cs i) * (10 : Int64)))])) _
          refine XS.iload X5.here hx rfl (hb hby dPF_65) rfl ?_
          show Steps p.tables e below (T5.setTop (mkF m 67 #[.val (.ref o0), .val (.long (pv cs i)), .second, .val (.int (Int32.ofNat i)), .val (.int (cs.getD i 0))] [(.int (cs.getD i 0)), (.long ((pv cs i) * (10 : Int64)))])) _
          refine XS.bipush X5.here hx rfl (hb hby dPF_67) ?_
          show Steps p.tables e below (T5.setTop (mkF m 69 #[.val (.ref o0), .val (.long (pv cs i)), .second, .val (.int (Int32.ofNat i)), .val (.int (cs.getD i 0))] [(.int (48 : Int32)), (.int (cs.getD i 0)), (.long ((pv cs i) * (10 : Int64)))])) _
          refine XS.isub X5.here hx rfl (hb hby dPF_69) rfl ?_
          show Steps p.tables e below (T5.setTop (mkF m 70 #[.val (.ref o0), .val (.long (pv cs i)), .second, .val (.int (Int32.ofNat i)), .val (.int (cs.getD i 0))] [(.int ((cs.getD i 0) - (48 : Int32))), (.long ((pv cs i) * (10 : Int64)))])) _
          refine XS.i2l X5.here hx rfl (hb hby dPF_70) rfl ?_
          show Steps p.tables e below (T5.setTop (mkF m 71 #[.val (.ref o0), .val (.long (pv cs i)), .second, .val (.int (Int32.ofNat i)), .val (.int (cs.getD i 0))] [(.long (((cs.getD i 0) - (48 : Int32)).toInt64)), (.long ((pv cs i) * (10 : Int64)))])) _
          refine XS.ladd X5.here hx rfl (hb hby dPF_71) rfl ?_
          show Steps p.tables e below (T5.setTop (mkF m 72 #[.val (.ref o0), .val (.long (pv cs i)), .second, .val (.int (Int32.ofNat i)), .val (.int (cs.getD i 0))] [(.long (((pv cs i) * (10 : Int64)) + (((cs.getD i 0) - (48 : Int32)).toInt64)))])) _
          refine XS.lstoreN X5.here hx rfl (hb hby dPF_72) rfl (l' := #[.val (.ref o0), .val (.long (((pv cs i) * (10 : Int64)) + (((cs.getD i 0) - (48 : Int32)).toInt64))), .second, .val (.int (Int32.ofNat i)), .val (.int (cs.getD i 0))]) rfl ?_
          show Steps p.tables e below (T5.setTop (mkF m 73 #[.val (.ref o0), .val (.long (((pv cs i) * (10 : Int64)) + (((cs.getD i 0) - (48 : Int32)).toInt64))), .second, .val (.int (Int32.ofNat i)), .val (.int (cs.getD i 0))] [])) _
          refine XS.lloadN X5.here hx rfl (hb hby dPF_73) rfl ?_
          show Steps p.tables e below (T5.setTop (mkF m 74 #[.val (.ref o0), .val (.long (((pv cs i) * (10 : Int64)) + (((cs.getD i 0) - (48 : Int32)).toInt64))), .second, .val (.int (Int32.ofNat i)), .val (.int (cs.getD i 0))] [(.long (((pv cs i) * (10 : Int64)) + (((cs.getD i 0) - (48 : Int32)).toInt64)))])) _
          refine X5.ldc2J hx hown (mvT hZ (hw _ (List.mem_of_getElem? (i := 83) rfl))) (g := (mkF m 74 #[.val (.ref o0), .val (.long (((pv cs i) * (10 : Int64)) + (((cs.getD i 0) - (48 : Int32)).toInt64))), .second, .val (.int (Int32.ofNat i)), .val (.int (cs.getD i 0))] [(.long (((pv cs i) * (10 : Int64)) + (((cs.getD i 0) - (48 : Int32)).toInt64)))])) rfl (hb hby dPF_74) ?_
          show Steps p.tables e below (T5.setTop (mkF m 77 #[.val (.ref o0), .val (.long (((pv cs i) * (10 : Int64)) + (((cs.getD i 0) - (48 : Int32)).toInt64))), .second, .val (.int (Int32.ofNat i)), .val (.int (cs.getD i 0))] [(.long (2147483647 : Int64)), (.long (((pv cs i) * (10 : Int64)) + (((cs.getD i 0) - (48 : Int32)).toInt64)))])) _
          refine XS.lcmp X5.here hx rfl (hb hby dPF_77) rfl ?_
          show Steps p.tables e below (T5.setTop (mkF m 78 #[.val (.ref o0), .val (.long (((pv cs i) * (10 : Int64)) + (((cs.getD i 0) - (48 : Int32)).toInt64))), .second, .val (.int (Int32.ofNat i)), .val (.int (cs.getD i 0))] [(.int (lcmpW (((pv cs i) * (10 : Int64)) + (((cs.getD i 0) - (48 : Int32)).toInt64)) (2147483647 : Int64)))])) _
          refine XS.ifYes X5.here hx rfl (pc0 := 78) (pc' := 91) rfl (hb hby dPF_78) rfl ((if0 _ _).trans (flt (show ¬ ((0 : Int32) < (lcmpW (((pv cs i) * (10 : Int64)) + (((cs.getD i 0) - (48 : Int32)).toInt64)) (2147483647 : Int64))) from (fun q => (hval i hilt) ((lw_gt _ _).mp q)))).2.2.2) (by decide) (by decide) ?_
          show Steps p.tables e below (T5.setTop (mkF m 91 #[.val (.ref o0), .val (.long (((pv cs i) * (10 : Int64)) + (((cs.getD i 0) - (48 : Int32)).toInt64))), .second, .val (.int (Int32.ofNat i)), .val (.int (cs.getD i 0))] [])) _
          refine XS.iinc X5.here hx rfl (hb hby dPF_91) rfl (l' := #[.val (.ref o0), .val (.long (((pv cs i) * (10 : Int64)) + (((cs.getD i 0) - (48 : Int32)).toInt64))), .second, .val (.int ((Int32.ofNat i) + (1 : Int32))), .val (.int (cs.getD i 0))]) rfl ?_
          show Steps p.tables e below (T5.setTop (mkF m 94 #[.val (.ref o0), .val (.long (((pv cs i) * (10 : Int64)) + (((cs.getD i 0) - (48 : Int32)).toInt64))), .second, .val (.int ((Int32.ofNat i) + (1 : Int32))), .val (.int (cs.getD i 0))] [])) _
          refine XS.goto X5.here hx rfl (pc0 := 94) (pc' := 21) rfl (hb hby dPF_94) (by decide) (by decide) ?_
          show Steps p.tables e below (T5.setTop (mkF m 21 #[.val (.ref o0), .val (.long (((pv cs i) * (10 : Int64)) + (((cs.getD i 0) - (48 : Int32)).toInt64))), .second, .val (.int ((Int32.ofNat i) + (1 : Int32))), .val (.int (cs.getD i 0))] [])) _
          rw [own_ofNat_succ i]
          exact st' t kt)⟩
  obtain ⟨Tl, ll, o4l, Xl, el, Nl, stl⟩ := loop cs.length T1 _ 0 .unset (by omega) X1 e1 N1 One.u
  have pre6 : ∀ t, Steps p.tables e below (Tl.setTop (mkF m 97 #[.val (.ref o0), .val (.long (pv cs cs.length)), .second, .val (.int (Int32.ofNat cs.length)), o4l] [])) t → Steps p.tables e below (s₁.setTop (entryFrame m #[(.ref o0)] 5)) t := fun t kt => pre2 t (stl t kt)
  obtain ⟨fs, hr, hrun, hended, hW, hsame⟩ := Xl.leave (v := some (.int ((pv cs cs.length).toInt32))) (fun h => by rw [Bd.returns] at h; cases h)
  refine ⟨_, _, pre6 _ ?_, hrun, hended, _, _, rfl, ?_, ⟨_, rfl⟩, hW, hsame.mono (by decide) (by decide)⟩
  · show Steps p.tables e below (Tl.setTop (mkF m 97 #[.val (.ref o0), .val (.long (pv cs cs.length)), .second, .val (.int (Int32.ofNat cs.length)), o4l] [])) _
    refine XS.lloadN Xl.here hx rfl (hb hby dPF_97) rfl ?_
    show Steps p.tables e below (Tl.setTop (mkF m 98 #[.val (.ref o0), .val (.long (pv cs cs.length)), .second, .val (.int (Int32.ofNat cs.length)), o4l] [(.long (pv cs cs.length))])) _
    refine XS.l2i Xl.here hx rfl (hb hby dPF_98) rfl ?_
    show Steps p.tables e below (Tl.setTop (mkF m 99 #[.val (.ref o0), .val (.long (pv cs cs.length)), .second, .val (.int (Int32.ofNat cs.length)), o4l] [(.int ((pv cs cs.length).toInt32))])) _
    exact retI Xl hx Bd.returns (hb hby dPF_99) hr
  · show QPF cs h0 n0 _ Tl.heap _
    rw [el]
    exact ⟨rfl, Nl, rfl⟩
theorem pd_3 : parseMethodDescriptor "(II)C" = some ⟨[.int, .int], some .char⟩ := by decide +kernel
theorem pd_4 : parseMethodDescriptor "([C)V" = some ⟨[(.array .char)], none⟩ := by decide +kernel
theorem pd_5 : parseMethodDescriptor "(Ljava/lang/String;)I" = some ⟨[(.object "java/lang/String")], some .int⟩ := by decide +kernel
theorem ef_0 (m : MethodId) (p0 : Int32) (p1 : Int32) : entryFrame m #[(.int p0), (.int p1)] maxLocals = mkF m 0 #[.val (.int p0), .val (.int p1), .unset, .unset, .unset, .unset, .unset] [] := by first | (simp [entryFrame, mkF, argsToLocals, Value.category, maxLocals]; done) | rfl
def Q0 (h0 : Heap) (n0 : Nat) (v : Option Value) (h : Heap) (L : List Loc) : Prop := v = some (.int 1) ∧ Fr n0 L
set_option maxRecDepth 65536 in
set_option maxHeartbeats 40000000 in
theorem rm0 (l : Launch) (Z : State) (a0 : Array Value) (hw : ∀ d ∈ tables_1, d.before a0 Z = true) (ws : List Jvm.Cond) (p0 p1 iC : Int32) (vG : Value) (h0 : Heap) (n0 : Nat) (Z0 : n0 ≤ h0.size) (SC : Sta Z h0 "java/lang/String" "COMPACT_STRINGS" "Z" (.int iC)) (hC : ¬ iC = (0 : Int32)) (SG : Sta Z h0 "jdk/internal/util/Preconditions" "SIOOBE_FORMATTER" "Ljava/util/function/BiFunction;" vG) (hvG : vG.isRef = true) :
    MetFree l x (head1 (Jvm.Cond.code x code maxLocals ret :: ws) room_1) (fun a U => a = #[(.int p0), (.int p1)] ∧ Z.Warmed39 U.vm ∧ U.heap = h0) (fun _ _ _ _ _ => True) (fun _ U o U' => ∃ v L, o = .returned v ∧ Q0 h0 n0 v U'.heap L ∧ FrameEnd U o U' L 4 38) := by
  refine MetFree.of_bodySF (plainFor_of_name pn_0) hisR ?_
  intro p e s m args below meth c s₁ Bd hml0 hP hK
  obtain ⟨rfl, hZ, hh⟩ := hP
  have hx := Bd.exec
  have hby := Bd.bytes
  have hml : c.maxLocals = 7 := hml0
  have hown : s.vm.findClass "com/example/libforeword/libforeword/wordlist/EntryParseFrequencyPinLaw" = some m.cls := findClass_of_methodNamed Bd.named
  have hnm := (name_of_methodNamed Bd.named Bd.method).1
  have X0 : Stand p l e room_1 s m #[(.int p0), (.int p1)] below meth c s₁ [] 0 0 := Stand.of_body Bd
  have e0 : s₁.heap = h0 := by rw [← hh, Bd.state]; rfl
  have N0 := Fr.nil n0
  have pre0 : ∀ t, Steps p.tables e below (s₁.setTop (mkF m 0 #[.val (.int p0), .val (.int p1), .unset, .unset, .unset, .unset, .unset] [])) t → Steps p.tables e below (s₁.setTop (entryFrame m #[(.int p0), (.int p1)] maxLocals)) t := fun t k => castTop (ef_0 m p0 p1) k
  have hws : ∀ d ∈ StrChars.Road.words, d.before a0 Z = true := fun d hd => hw d ((by decide +kernel : ∀ d ∈ StrChars.Road.words, d ∈ tables_1) d hd)
  have pre1 : ∀ t, Steps p.tables e below (s₁.setTop (mkF m 10 #[.val (.int p0), .val (.int p1), .val (.int (((p1 &&& (15 : Int32)) - ((p1 &&& (15 : Int32)) / (12 : Int32)) * (12 : Int32)) + (1 : Int32))), .unset, .unset, .unset, .unset] [])) t → Steps p.tables e below (s₁.setTop (entryFrame m #[(.int p0), (.int p1)] maxLocals)) t := fun t kt => pre0 t (by
      show Steps p.tables e below (s₁.setTop (mkF m 0 #[.val (.int p0), .val (.int p1), .unset, .unset, .unset, .unset, .unset] [])) _
      refine XS.iloadN X0.here hx rfl (hb hby at_0) rfl ?_
      refine XS.bipush X0.here hx rfl (hb hby at_1) ?_
      show Steps p.tables e below (s₁.setTop (mkF m 3 #[.val (.int p0), .val (.int p1), .unset, .unset, .unset, .unset, .unset] [(.int (15 : Int32)), (.int p1)])) _
      refine XS.iand X0.here hx rfl (hb hby at_3) rfl ?_
      refine XS.bipush X0.here hx rfl (hb hby at_4) ?_
      show Steps p.tables e below (s₁.setTop (mkF m 6 #[.val (.int p0), .val (.int p1), .unset, .unset, .unset, .unset, .unset] [(.int (12 : Int32)), (.int (p1 &&& (15 : Int32)))])) _
      refine XS.irem X0.here hx rfl (hb hby at_6) rfl (by decide) ?_
      refine XS.iconst X0.here hx rfl (hb hby at_7) ?_
      refine XS.iadd X0.here hx rfl (hb hby at_8) rfl ?_
      refine XS.istoreN X0.here hx rfl (hb hby at_9) rfl (l' := #[.val (.int p0), .val (.int p1), .val (.int (((p1 &&& (15 : Int32)) - ((p1 &&& (15 : Int32)) / (12 : Int32)) * (12 : Int32)) + (1 : Int32))), .unset, .unset, .unset, .unset]) rfl ?_
      exact kt)
  obtain ⟨len, hlen⟩ : ∃ z : Int32, z = (((p1 &&& (15 : Int32)) - ((p1 &&& (15 : Int32)) / (12 : Int32)) * (12 : Int32)) + (1 : Int32)) := ⟨_, rfl⟩
  rw [← hlen] at pre1
  have hlb := own_len p1
  rw [← hlen] at hlb
  obtain ⟨T2, h2, k2, X2, e2, E2, A2, st2⟩ := newP X0 hx hZ (hw _ (List.mem_of_getElem? (i := 0) rfl)) e0 (g := (mkF m 12 #[.val (.int p0), .val (.int p1), .val (.int len), .unset, .unset, .unset, .unset] [(.int (10 : Int32))])) rfl (hb hby at_12) rfl (by decide) (cap := 10) (by decide) (by decide) (by decide) (by decide)
  obtain ⟨b2, g2⟩ : ∃ z, z = h0.size := ⟨_, rfl⟩
  rw [← g2] at A2 st2
  have g_b2 : n0 ≤ b2 := Nat.le_trans Z0 (Nat.le_of_eq g2.symm)
  have sz_b2 : h0.size ≤ b2 := Nat.le_trans (Keep.refl h0 []).1 (Nat.le_of_eq g2.symm)
  have K2 : Keep h0 h2 [] := Keep.ext (Keep.refl h0 []) E2
  have Z2 : n0 ≤ h2.size := Nat.le_trans Z0 K2.1
  have V_b2 : Arv Z h2 b2 k2 .int (10 : Int32) [(.int (0 : Int32)), (.int (0 : Int32)), (.int (0 : Int32)), (.int (0 : Int32)), (.int (0 : Int32)), (.int (0 : Int32)), (.int (0 : Int32)), (.int (0 : Int32)), (.int (0 : Int32)), (.int (0 : Int32))] (.int (0 : Int32)) := (Arv.new A2 (by decide)).pad (pad_rep [] (.int (0 : Int32)) 10)
  obtain ⟨cl3, Ar3, q3, S3, Nn3, Hh3, Gg3⟩ := id V_b2
  have hin3 : ¬ ((0 : Int32) < 0 ∨ cl3.slots.size ≤ ((0 : Int32)).toNatClampNeg) := inb_of S3 ⟨by decide, by decide⟩
  obtain ⟨T4, h4, X4, e4, W4, st4⟩ := stI X2 hx hZ e2 Ar3 (j := (0 : Int32)) hin3 (g := (mkF m 17 #[.val (.int p0), .val (.int p1), .val (.int len), .unset, .unset, .unset, .unset] [(.int (1 : Int32)), (.int (0 : Int32)), (.ref b2), (.ref b2)])) rfl rfl (hb hby at_17)
  have V4 : Arv Z h4 b2 k2 .int (10 : Int32) [(.int (1 : Int32)), (.int (0 : Int32)), (.int (0 : Int32)), (.int (0 : Int32)), (.int (0 : Int32)), (.int (0 : Int32)), (.int (0 : Int32)), (.int (0 : Int32)), (.int (0 : Int32)), (.int (0 : Int32))] (.int (0 : Int32)) := Arv.set Ar3 q3 S3 Nn3 Hh3 Gg3 rfl W4 0 rfl (Nat.le_of_ble_eq_true rfl)
  have K4 : Keep h0 h4 [] := Keep.wr K2 W4 (Or.inr sz_b2)
  have Z4 : n0 ≤ h4.size := Nat.le_trans Z0 K4.1
  have N4 := Fr.snoc X4 N0 g_b2
  obtain ⟨cl5, Ar5, q5, S5, Nn5, Hh5, Gg5⟩ := id V4
  have hin5 : ¬ ((1 : Int32) < 0 ∨ cl5.slots.size ≤ ((1 : Int32)).toNatClampNeg) := inb_of S5 ⟨by decide, by decide⟩
  obtain ⟨T6, h6, X6, e6, W6, st6⟩ := stI X4 hx hZ e4 Ar5 (j := (1 : Int32)) hin5 (g := (mkF m 22 #[.val (.int p0), .val (.int p1), .val (.int len), .unset, .unset, .unset, .unset] [(.int (10 : Int32)), (.int (1 : Int32)), (.ref b2), (.ref b2)])) rfl rfl (hb hby at_22)
  have V6 : Arv Z h6 b2 k2 .int (10 : Int32) [(.int (1 : Int32)), (.int (10 : Int32)), (.int (0 : Int32)), (.int (0 : Int32)), (.int (0 : Int32)), (.int (0 : Int32)), (.int (0 : Int32)), (.int (0 : Int32)), (.int (0 : Int32)), (.int (0 : Int32))] (.int (0 : Int32)) := Arv.set Ar5 q5 S5 Nn5 Hh5 Gg5 rfl W6 1 rfl (Nat.le_of_ble_eq_true rfl)
  have K6 : Keep h0 h6 [] := Keep.wr K4 W6 (Or.inr sz_b2)
  have Z6 : n0 ≤ h6.size := Nat.le_trans Z0 K6.1
  have N6 := Fr.snoc X6 N4 g_b2
  obtain ⟨cl7, Ar7, q7, S7, Nn7, Hh7, Gg7⟩ := id V6
  have hin7 : ¬ ((2 : Int32) < 0 ∨ cl7.slots.size ≤ ((2 : Int32)).toNatClampNeg) := inb_of S7 ⟨by decide, by decide⟩
  obtain ⟨T8, h8, X8, e8, W8, st8⟩ := stI X6 hx hZ e6 Ar7 (j := (2 : Int32)) hin7 (g := (mkF m 27 #[.val (.int p0), .val (.int p1), .val (.int len), .unset, .unset, .unset, .unset] [(.int (100 : Int32)), (.int (2 : Int32)), (.ref b2), (.ref b2)])) rfl rfl (hb hby at_27)
  have V8 : Arv Z h8 b2 k2 .int (10 : Int32) [(.int (1 : Int32)), (.int (10 : Int32)), (.int (100 : Int32)), (.int (0 : Int32)), (.int (0 : Int32)), (.int (0 : Int32)), (.int (0 : Int32)), (.int (0 : Int32)), (.int (0 : Int32)), (.int (0 : Int32))] (.int (0 : Int32)) := Arv.set Ar7 q7 S7 Nn7 Hh7 Gg7 rfl W8 2 rfl (Nat.le_of_ble_eq_true rfl)
  have K8 : Keep h0 h8 [] := Keep.wr K6 W8 (Or.inr sz_b2)
  have Z8 : n0 ≤ h8.size := Nat.le_trans Z0 K8.1
  have N8 := Fr.snoc X8 N6 g_b2
  obtain ⟨cl9, Ar9, q9, S9, Nn9, Hh9, Gg9⟩ := id V8
  have hin9 : ¬ ((3 : Int32) < 0 ∨ cl9.slots.size ≤ ((3 : Int32)).toNatClampNeg) := inb_of S9 ⟨by decide, by decide⟩
  obtain ⟨T10, h10, X10, e10, W10, st10⟩ := stI X8 hx hZ e8 Ar9 (j := (3 : Int32)) hin9 (g := (mkF m 33 #[.val (.int p0), .val (.int p1), .val (.int len), .unset, .unset, .unset, .unset] [(.int (1000 : Int32)), (.int (3 : Int32)), (.ref b2), (.ref b2)])) rfl rfl (hb hby at_33)
  have V10 : Arv Z h10 b2 k2 .int (10 : Int32) [(.int (1 : Int32)), (.int (10 : Int32)), (.int (100 : Int32)), (.int (1000 : Int32)), (.int (0 : Int32)), (.int (0 : Int32)), (.int (0 : Int32)), (.int (0 : Int32)), (.int (0 : Int32)), (.int (0 : Int32))] (.int (0 : Int32)) := Arv.set Ar9 q9 S9 Nn9 Hh9 Gg9 rfl W10 3 rfl (Nat.le_of_ble_eq_true rfl)
  have K10 : Keep h0 h10 [] := Keep.wr K8 W10 (Or.inr sz_b2)
  have Z10 : n0 ≤ h10.size := Nat.le_trans Z0 K10.1
  have N10 := Fr.snoc X10 N8 g_b2
  obtain ⟨cl11, Ar11, q11, S11, Nn11, Hh11, Gg11⟩ := id V10
  have hin11 : ¬ ((4 : Int32) < 0 ∨ cl11.slots.size ≤ ((4 : Int32)).toNatClampNeg) := inb_of S11 ⟨by decide, by decide⟩
  obtain ⟨T12, h12, X12, e12, W12, st12⟩ := stI X10 hx hZ e10 Ar11 (j := (4 : Int32)) hin11 (g := (mkF m 39 #[.val (.int p0), .val (.int p1), .val (.int len), .unset, .unset, .unset, .unset] [(.int (10000 : Int32)), (.int (4 : Int32)), (.ref b2), (.ref b2)])) rfl rfl (hb hby at_39)
  have V12 : Arv Z h12 b2 k2 .int (10 : Int32) [(.int (1 : Int32)), (.int (10 : Int32)), (.int (100 : Int32)), (.int (1000 : Int32)), (.int (10000 : Int32)), (.int (0 : Int32)), (.int (0 : Int32)), (.int (0 : Int32)), (.int (0 : Int32)), (.int (0 : Int32))] (.int (0 : Int32)) := Arv.set Ar11 q11 S11 Nn11 Hh11 Gg11 rfl W12 4 rfl (Nat.le_of_ble_eq_true rfl)
  have K12 : Keep h0 h12 [] := Keep.wr K10 W12 (Or.inr sz_b2)
  have Z12 : n0 ≤ h12.size := Nat.le_trans Z0 K12.1
  have N12 := Fr.snoc X12 N10 g_b2
  obtain ⟨cl13, Ar13, q13, S13, Nn13, Hh13, Gg13⟩ := id V12
  have hin13 : ¬ ((5 : Int32) < 0 ∨ cl13.slots.size ≤ ((5 : Int32)).toNatClampNeg) := inb_of S13 ⟨by decide, by decide⟩
  obtain ⟨T14, h14, X14, e14, W14, st14⟩ := stI X12 hx hZ e12 Ar13 (j := (5 : Int32)) hin13 (g := (mkF m 44 #[.val (.int p0), .val (.int p1), .val (.int len), .unset, .unset, .unset, .unset] [(.int (100000 : Int32)), (.int (5 : Int32)), (.ref b2), (.ref b2)])) rfl rfl (hb hby at_44)
  have V14 : Arv Z h14 b2 k2 .int (10 : Int32) [(.int (1 : Int32)), (.int (10 : Int32)), (.int (100 : Int32)), (.int (1000 : Int32)), (.int (10000 : Int32)), (.int (100000 : Int32)), (.int (0 : Int32)), (.int (0 : Int32)), (.int (0 : Int32)), (.int (0 : Int32))] (.int (0 : Int32)) := Arv.set Ar13 q13 S13 Nn13 Hh13 Gg13 rfl W14 5 rfl (Nat.le_of_ble_eq_true rfl)
  have K14 : Keep h0 h14 [] := Keep.wr K12 W14 (Or.inr sz_b2)
  have Z14 : n0 ≤ h14.size := Nat.le_trans Z0 K14.1
  have N14 := Fr.snoc X14 N12 g_b2
  obtain ⟨cl15, Ar15, q15, S15, Nn15, Hh15, Gg15⟩ := id V14
  have hin15 : ¬ ((6 : Int32) < 0 ∨ cl15.slots.size ≤ ((6 : Int32)).toNatClampNeg) := inb_of S15 ⟨by decide, by decide⟩
  obtain ⟨T16, h16, X16, e16, W16, st16⟩ := stI X14 hx hZ e14 Ar15 (j := (6 : Int32)) hin15 (g := (mkF m 50 #[.val (.int p0), .val (.int p1), .val (.int len), .unset, .unset, .unset, .unset] [(.int (1000000 : Int32)), (.int (6 : Int32)), (.ref b2), (.ref b2)])) rfl rfl (hb hby at_50)
  have V16 : Arv Z h16 b2 k2 .int (10 : Int32) [(.int (1 : Int32)), (.int (10 : Int32)), (.int (100 : Int32)), (.int (1000 : Int32)), (.int (10000 : Int32)), (.int (100000 : Int32)), (.int (1000000 : Int32)), (.int (0 : Int32)), (.int (0 : Int32)), (.int (0 : Int32))] (.int (0 : Int32)) := Arv.set Ar15 q15 S15 Nn15 Hh15 Gg15 rfl W16 6 rfl (Nat.le_of_ble_eq_true rfl)
  have K16 : Keep h0 h16 [] := Keep.wr K14 W16 (Or.inr sz_b2)
  have Z16 : n0 ≤ h16.size := Nat.le_trans Z0 K16.1
  have N16 := Fr.snoc X16 N14 g_b2
  obtain ⟨cl17, Ar17, q17, S17, Nn17, Hh17, Gg17⟩ := id V16
  have hin17 : ¬ ((7 : Int32) < 0 ∨ cl17.slots.size ≤ ((7 : Int32)).toNatClampNeg) := inb_of S17 ⟨by decide, by decide⟩
  obtain ⟨T18, h18, X18, e18, W18, st18⟩ := stI X16 hx hZ e16 Ar17 (j := (7 : Int32)) hin17 (g := (mkF m 56 #[.val (.int p0), .val (.int p1), .val (.int len), .unset, .unset, .unset, .unset] [(.int (10000000 : Int32)), (.int (7 : Int32)), (.ref b2), (.ref b2)])) rfl rfl (hb hby at_56)
  have V18 : Arv Z h18 b2 k2 .int (10 : Int32) [(.int (1 : Int32)), (.int (10 : Int32)), (.int (100 : Int32)), (.int (1000 : Int32)), (.int (10000 : Int32)), (.int (100000 : Int32)), (.int (1000000 : Int32)), (.int (10000000 : Int32)), (.int (0 : Int32)), (.int (0 : Int32))] (.int (0 : Int32)) := Arv.set Ar17 q17 S17 Nn17 Hh17 Gg17 rfl W18 7 rfl (Nat.le_of_ble_eq_true rfl)
  have K18 : Keep h0 h18 [] := Keep.wr K16 W18 (Or.inr sz_b2)
  have Z18 : n0 ≤ h18.size := Nat.le_trans Z0 K18.1
  have N18 := Fr.snoc X18 N16 g_b2
  obtain ⟨cl19, Ar19, q19, S19, Nn19, Hh19, Gg19⟩ := id V18
  have hin19 : ¬ ((8 : Int32) < 0 ∨ cl19.slots.size ≤ ((8 : Int32)).toNatClampNeg) := inb_of S19 ⟨by decide, by decide⟩
  obtain ⟨T20, h20, X20, e20, W20, st20⟩ := stI X18 hx hZ e18 Ar19 (j := (8 : Int32)) hin19 (g := (mkF m 62 #[.val (.int p0), .val (.int p1), .val (.int len), .unset, .unset, .unset, .unset] [(.int (100000000 : Int32)), (.int (8 : Int32)), (.ref b2), (.ref b2)])) rfl rfl (hb hby at_62)
  have V20 : Arv Z h20 b2 k2 .int (10 : Int32) [(.int (1 : Int32)), (.int (10 : Int32)), (.int (100 : Int32)), (.int (1000 : Int32)), (.int (10000 : Int32)), (.int (100000 : Int32)), (.int (1000000 : Int32)), (.int (10000000 : Int32)), (.int (100000000 : Int32)), (.int (0 : Int32))] (.int (0 : Int32)) := Arv.set Ar19 q19 S19 Nn19 Hh19 Gg19 rfl W20 8 rfl (Nat.le_of_ble_eq_true rfl)
  have K20 : Keep h0 h20 [] := Keep.wr K18 W20 (Or.inr sz_b2)
  have Z20 : n0 ≤ h20.size := Nat.le_trans Z0 K20.1
  have N20 := Fr.snoc X20 N18 g_b2
  obtain ⟨cl21, Ar21, q21, S21, Nn21, Hh21, Gg21⟩ := id V20
  have hin21 : ¬ ((9 : Int32) < 0 ∨ cl21.slots.size ≤ ((9 : Int32)).toNatClampNeg) := inb_of S21 ⟨by decide, by decide⟩
  obtain ⟨T22, h22, X22, e22, W22, st22⟩ := stI X20 hx hZ e20 Ar21 (j := (9 : Int32)) hin21 (g := (mkF m 68 #[.val (.int p0), .val (.int p1), .val (.int len), .unset, .unset, .unset, .unset] [(.int (1000000000 : Int32)), (.int (9 : Int32)), (.ref b2), (.ref b2)])) rfl rfl (hb hby at_68)
  have V22 : Arv Z h22 b2 k2 .int (10 : Int32) [(.int (1 : Int32)), (.int (10 : Int32)), (.int (100 : Int32)), (.int (1000 : Int32)), (.int (10000 : Int32)), (.int (100000 : Int32)), (.int (1000000 : Int32)), (.int (10000000 : Int32)), (.int (100000000 : Int32)), (.int (1000000000 : Int32))] (.int (0 : Int32)) := Arv.set Ar21 q21 S21 Nn21 Hh21 Gg21 rfl W22 9 rfl (Nat.le_of_ble_eq_true rfl)
  have K22 : Keep h0 h22 [] := Keep.wr K20 W22 (Or.inr sz_b2)
  have Z22 : n0 ≤ h22.size := Nat.le_trans Z0 K22.1
  have N22 := Fr.snoc X22 N20 g_b2
  have pre23 : ∀ t, Steps p.tables e below (T22.setTop (mkF m 70 #[.val (.int p0), .val (.int p1), .val (.int len), .val (.ref b2), .unset, .unset, .unset] [])) t → Steps p.tables e below (s₁.setTop (entryFrame m #[(.int p0), (.int p1)] maxLocals)) t := fun t kt => pre1 t (by
      show Steps p.tables e below (s₁.setTop (mkF m 10 #[.val (.int p0), .val (.int p1), .val (.int len), .unset, .unset, .unset, .unset] [])) _
      refine XS.bipush X0.here hx rfl (hb hby at_10) ?_
      show Steps p.tables e below (s₁.setTop (mkF m 12 #[.val (.int p0), .val (.int p1), .val (.int len), .unset, .unset, .unset, .unset] [(.int (10 : Int32))])) _
      refine st2 _ ?_
      show Steps p.tables e below (T2.setTop (mkF m 14 #[.val (.int p0), .val (.int p1), .val (.int len), .unset, .unset, .unset, .unset] [(.ref b2)])) _
      refine XS.dup X2.here hx rfl (hb hby at_14) rfl rfl ?_
      refine XS.iconst X2.here hx rfl (hb hby at_15) ?_
      refine XS.iconst X2.here hx rfl (hb hby at_16) ?_
      show Steps p.tables e below (T2.setTop (mkF m 17 #[.val (.int p0), .val (.int p1), .val (.int len), .unset, .unset, .unset, .unset] [(.int (1 : Int32)), (.int (0 : Int32)), (.ref b2), (.ref b2)])) _
      refine st4 _ ?_
      show Steps p.tables e below (T4.setTop (mkF m 18 #[.val (.int p0), .val (.int p1), .val (.int len), .unset, .unset, .unset, .unset] [(.ref b2)])) _
      refine XS.dup X4.here hx rfl (hb hby at_18) rfl rfl ?_
      refine XS.iconst X4.here hx rfl (hb hby at_19) ?_
      refine XS.bipush X4.here hx rfl (hb hby at_20) ?_
      show Steps p.tables e below (T4.setTop (mkF m 22 #[.val (.int p0), .val (.int p1), .val (.int len), .unset, .unset, .unset, .unset] [(.int (10 : Int32)), (.int (1 : Int32)), (.ref b2), (.ref b2)])) _
      refine st6 _ ?_
      show Steps p.tables e below (T6.setTop (mkF m 23 #[.val (.int p0), .val (.int p1), .val (.int len), .unset, .unset, .unset, .unset] [(.ref b2)])) _
      refine XS.dup X6.here hx rfl (hb hby at_23) rfl rfl ?_
      refine XS.iconst X6.here hx rfl (hb hby at_24) ?_
      refine XS.bipush X6.here hx rfl (hb hby at_25) ?_
      show Steps p.tables e below (T6.setTop (mkF m 27 #[.val (.int p0), .val (.int p1), .val (.int len), .unset, .unset, .unset, .unset] [(.int (100 : Int32)), (.int (2 : Int32)), (.ref b2), (.ref b2)])) _
      refine st8 _ ?_
      show Steps p.tables e below (T8.setTop (mkF m 28 #[.val (.int p0), .val (.int p1), .val (.int len), .unset, .unset, .unset, .unset] [(.ref b2)])) _
      refine XS.dup X8.here hx rfl (hb hby at_28) rfl rfl ?_
      refine XS.iconst X8.here hx rfl (hb hby at_29) ?_
      refine XS.sipush X8.here hx rfl (hb hby at_30) ?_
      show Steps p.tables e below (T8.setTop (mkF m 33 #[.val (.int p0), .val (.int p1), .val (.int len), .unset, .unset, .unset, .unset] [(.int (1000 : Int32)), (.int (3 : Int32)), (.ref b2), (.ref b2)])) _
      refine st10 _ ?_
      show Steps p.tables e below (T10.setTop (mkF m 34 #[.val (.int p0), .val (.int p1), .val (.int len), .unset, .unset, .unset, .unset] [(.ref b2)])) _
      refine XS.dup X10.here hx rfl (hb hby at_34) rfl rfl ?_
      refine XS.iconst X10.here hx rfl (hb hby at_35) ?_
      refine XS.sipush X10.here hx rfl (hb hby at_36) ?_
      show Steps p.tables e below (T10.setTop (mkF m 39 #[.val (.int p0), .val (.int p1), .val (.int len), .unset, .unset, .unset, .unset] [(.int (10000 : Int32)), (.int (4 : Int32)), (.ref b2), (.ref b2)])) _
      refine st12 _ ?_
      show Steps p.tables e below (T12.setTop (mkF m 40 #[.val (.int p0), .val (.int p1), .val (.int len), .unset, .unset, .unset, .unset] [(.ref b2)])) _
      refine XS.dup X12.here hx rfl (hb hby at_40) rfl rfl ?_
      refine XS.iconst X12.here hx rfl (hb hby at_41) ?_
      show Steps p.tables e below (T12.setTop (mkF m 42 #[.val (.int p0), .val (.int p1), .val (.int len), .unset, .unset, .unset, .unset] [(.int (5 : Int32)), (.ref b2), (.ref b2)])) _
      refine X12.ldcI hx hown (mvT hZ (hw _ (List.mem_of_getElem? (i := 1) rfl))) (g := (mkF m 42 #[.val (.int p0), .val (.int p1), .val (.int len), .unset, .unset, .unset, .unset] [(.int (5 : Int32)), (.ref b2), (.ref b2)])) rfl (hb hby at_42) ?_
      show Steps p.tables e below (T12.setTop (mkF m 44 #[.val (.int p0), .val (.int p1), .val (.int len), .unset, .unset, .unset, .unset] [(.int (100000 : Int32)), (.int (5 : Int32)), (.ref b2), (.ref b2)])) _
      refine st14 _ ?_
      show Steps p.tables e below (T14.setTop (mkF m 45 #[.val (.int p0), .val (.int p1), .val (.int len), .unset, .unset, .unset, .unset] [(.ref b2)])) _
      refine XS.dup X14.here hx rfl (hb hby at_45) rfl rfl ?_
      refine XS.bipush X14.here hx rfl (hb hby at_46) ?_
      show Steps p.tables e below (T14.setTop (mkF m 48 #[.val (.int p0), .val (.int p1), .val (.int len), .unset, .unset, .unset, .unset] [(.int (6 : Int32)), (.ref b2), (.ref b2)])) _
      refine X14.ldcI hx hown (mvT hZ (hw _ (List.mem_of_getElem? (i := 2) rfl))) (g := (mkF m 48 #[.val (.int p0), .val (.int p1), .val (.int len), .unset, .unset, .unset, .unset] [(.int (6 : Int32)), (.ref b2), (.ref b2)])) rfl (hb hby at_48) ?_
      show Steps p.tables e below (T14.setTop (mkF m 50 #[.val (.int p0), .val (.int p1), .val (.int len), .unset, .unset, .unset, .unset] [(.int (1000000 : Int32)), (.int (6 : Int32)), (.ref b2), (.ref b2)])) _
      refine st16 _ ?_
      show Steps p.tables e below (T16.setTop (mkF m 51 #[.val (.int p0), .val (.int p1), .val (.int len), .unset, .unset, .unset, .unset] [(.ref b2)])) _
      refine XS.dup X16.here hx rfl (hb hby at_51) rfl rfl ?_
      refine XS.bipush X16.here hx rfl (hb hby at_52) ?_
      show Steps p.tables e below (T16.setTop (mkF m 54 #[.val (.int p0), .val (.int p1), .val (.int len), .unset, .unset, .unset, .unset] [(.int (7 : Int32)), (.ref b2), (.ref b2)])) _
      refine X16.ldcI hx hown (mvT hZ (hw _ (List.mem_of_getElem? (i := 3) rfl))) (g := (mkF m 54 #[.val (.int p0), .val (.int p1), .val (.int len), .unset, .unset, .unset, .unset] [(.int (7 : Int32)), (.ref b2), (.ref b2)])) rfl (hb hby at_54) ?_
      show Steps p.tables e below (T16.setTop (mkF m 56 #[.val (.int p0), .val (.int p1), .val (.int len), .unset, .unset, .unset, .unset] [(.int (10000000 : Int32)), (.int (7 : Int32)), (.ref b2), (.ref b2)])) _
      refine st18 _ ?_
      show Steps p.tables e below (T18.setTop (mkF m 57 #[.val (.int p0), .val (.int p1), .val (.int len), .unset, .unset, .unset, .unset] [(.ref b2)])) _
      refine XS.dup X18.here hx rfl (hb hby at_57) rfl rfl ?_
      refine XS.bipush X18.here hx rfl (hb hby at_58) ?_
      show Steps p.tables e below (T18.setTop (mkF m 60 #[.val (.int p0), .val (.int p1), .val (.int len), .unset, .unset, .unset, .unset] [(.int (8 : Int32)), (.ref b2), (.ref b2)])) _
      refine X18.ldcI hx hown (mvT hZ (hw _ (List.mem_of_getElem? (i := 4) rfl))) (g := (mkF m 60 #[.val (.int p0), .val (.int p1), .val (.int len), .unset, .unset, .unset, .unset] [(.int (8 : Int32)), (.ref b2), (.ref b2)])) rfl (hb hby at_60) ?_
      show Steps p.tables e below (T18.setTop (mkF m 62 #[.val (.int p0), .val (.int p1), .val (.int len), .unset, .unset, .unset, .unset] [(.int (100000000 : Int32)), (.int (8 : Int32)), (.ref b2), (.ref b2)])) _
      refine st20 _ ?_
      show Steps p.tables e below (T20.setTop (mkF m 63 #[.val (.int p0), .val (.int p1), .val (.int len), .unset, .unset, .unset, .unset] [(.ref b2)])) _
      refine XS.dup X20.here hx rfl (hb hby at_63) rfl rfl ?_
      refine XS.bipush X20.here hx rfl (hb hby at_64) ?_
      show Steps p.tables e below (T20.setTop (mkF m 66 #[.val (.int p0), .val (.int p1), .val (.int len), .unset, .unset, .unset, .unset] [(.int (9 : Int32)), (.ref b2), (.ref b2)])) _
      refine X20.ldcI hx hown (mvT hZ (hw _ (List.mem_of_getElem? (i := 5) rfl))) (g := (mkF m 66 #[.val (.int p0), .val (.int p1), .val (.int len), .unset, .unset, .unset, .unset] [(.int (9 : Int32)), (.ref b2), (.ref b2)])) rfl (hb hby at_66) ?_
      show Steps p.tables e below (T20.setTop (mkF m 68 #[.val (.int p0), .val (.int p1), .val (.int len), .unset, .unset, .unset, .unset] [(.int (1000000000 : Int32)), (.int (9 : Int32)), (.ref b2), (.ref b2)])) _
      refine st22 _ ?_
      refine XS.astoreN X22.here hx rfl (hb hby at_69) rfl rfl (l' := #[.val (.int p0), .val (.int p1), .val (.int len), .val (.ref b2), .unset, .unset, .unset]) rfl ?_
      exact kt)
  obtain ⟨lx24, Xx24, Nx24⟩ : ∃ lx, Stand p l e room_1 s m #[(.int p0), (.int p1)] below meth c T22 lx 1 10 ∧ Fr n0 lx := ⟨_, X22, N22⟩
  by_cases hl1 : len = (1 : Int32)
  · rw [hl1] at pre23
    obtain ⟨cl25, Ar25, -, S25, Nn25, Hh25, -⟩ := id V22
    have hin25 : ¬ ((1 : Int32) < 0 ∨ cl25.slots.size ≤ ((1 : Int32)).toNatClampNeg) := inb_of S25 ⟨by decide, by decide⟩
    have hat25 : cl25.slots[((1 : Int32)).toNatClampNeg]? = some (.int (10 : Int32)) := Hh25.at hin25 rfl
    have pre26 : ∀ t, Steps p.tables e below (T22.setTop (mkF m 90 #[.val (.int p0), .val (.int p1), .val (.int (1 : Int32)), .val (.ref b2), .val (.int ((p0 &&& (2147483647 : Int32)) - ((p0 &&& (2147483647 : Int32)) / (10 : Int32)) * (10 : Int32))), .unset, .unset] [])) t → Steps p.tables e below (s₁.setTop (entryFrame m #[(.int p0), (.int p1)] maxLocals)) t := fun t kt => pre23 t (by
        show Steps p.tables e below (T22.setTop (mkF m 70 #[.val (.int p0), .val (.int p1), .val (.int (1 : Int32)), .val (.ref b2), .unset, .unset, .unset] [])) _
        refine XS.iloadN Xx24.here hx rfl (hb hby at_70) rfl ?_
        show Steps p.tables e below (T22.setTop (mkF m 71 #[.val (.int p0), .val (.int p1), .val (.int (1 : Int32)), .val (.ref b2), .unset, .unset, .unset] [(.int p0)])) _
        refine Xx24.ldcI hx hown (mvT hZ (hw _ (List.mem_of_getElem? (i := 6) rfl))) (g := (mkF m 71 #[.val (.int p0), .val (.int p1), .val (.int (1 : Int32)), .val (.ref b2), .unset, .unset, .unset] [(.int p0)])) rfl (hb hby at_71) ?_
        show Steps p.tables e below (T22.setTop (mkF m 73 #[.val (.int p0), .val (.int p1), .val (.int (1 : Int32)), .val (.ref b2), .unset, .unset, .unset] [(.int (2147483647 : Int32)), (.int p0)])) _
        refine XS.iand Xx24.here hx rfl (hb hby at_73) rfl ?_
        refine XS.istore Xx24.here hx rfl (hb hby at_74) rfl (l' := #[.val (.int p0), .val (.int p1), .val (.int (1 : Int32)), .val (.ref b2), .val (.int (p0 &&& (2147483647 : Int32))), .unset, .unset]) rfl ?_
        refine XS.iloadN Xx24.here hx rfl (hb hby at_76) rfl ?_
        refine XS.bipush Xx24.here hx rfl (hb hby at_77) ?_
        show Steps p.tables e below (T22.setTop (mkF m 79 #[.val (.int p0), .val (.int p1), .val (.int (1 : Int32)), .val (.ref b2), .val (.int (p0 &&& (2147483647 : Int32))), .unset, .unset] [(.int (10 : Int32)), (.int (1 : Int32))])) _
        refine XS.icmpNo Xx24.here hx rfl (hb hby at_79) rfl (tlt (show (1 : Int32) < (10 : Int32) from (by decide))).2.1 ?_
        refine XS.iload Xx24.here hx rfl (hb hby at_82) rfl ?_
        refine XS.aloadN Xx24.here hx rfl (hb hby at_84) rfl rfl ?_
        refine XS.iloadN Xx24.here hx rfl (hb hby at_85) rfl ?_
        show Steps p.tables e below (T22.setTop (mkF m 86 #[.val (.int p0), .val (.int p1), .val (.int (1 : Int32)), .val (.ref b2), .val (.int (p0 &&& (2147483647 : Int32))), .unset, .unset] [(.int (1 : Int32)), (.ref b2), (.int (p0 &&& (2147483647 : Int32)))])) _
        refine Xx24.iaload hx (j := (1 : Int32)) (v := (.int (10 : Int32))) (by rw [e22]; exact Ar25.1) (State.isArrayOf_alike hZ.alike Ar25.2.1) Ar25.2.2 hin25 hat25 (g := (mkF m 86 #[.val (.int p0), .val (.int p1), .val (.int (1 : Int32)), .val (.ref b2), .val (.int (p0 &&& (2147483647 : Int32))), .unset, .unset] [(.int (1 : Int32)), (.ref b2), (.int (p0 &&& (2147483647 : Int32)))])) rfl rfl (hb hby at_86) _ ?_
        show Steps p.tables e below (T22.setTop (mkF m 87 #[.val (.int p0), .val (.int p1), .val (.int (1 : Int32)), .val (.ref b2), .val (.int (p0 &&& (2147483647 : Int32))), .unset, .unset] [(.int (10 : Int32)), (.int (p0 &&& (2147483647 : Int32)))])) _
        refine XS.irem Xx24.here hx rfl (hb hby at_87) rfl (by decide) ?_
        refine XS.istore Xx24.here hx rfl (hb hby at_88) rfl (l' := #[.val (.int p0), .val (.int p1), .val (.int (1 : Int32)), .val (.ref b2), .val (.int ((p0 &&& (2147483647 : Int32)) - ((p0 &&& (2147483647 : Int32)) / (10 : Int32)) * (10 : Int32))), .unset, .unset]) rfl ?_
        exact kt)
    obtain ⟨nv, hnv⟩ : ∃ z : Int32, z = ((p0 &&& (2147483647 : Int32)) - ((p0 &&& (2147483647 : Int32)) / (10 : Int32)) * (10 : Int32)) := ⟨_, rfl⟩
    rw [← hnv] at pre26
    have hnb : 0 ≤ nv.toInt ∧ nv.toInt < 10 ^ 1 := by rw [hnv]; exact own_nlt10 p0 (10 : Int32) (by decide)
    obtain ⟨T27, h27, k27, X27, e27, E27, A27, st27⟩ := newP Xx24 hx hZ (hw _ (List.mem_of_getElem? (i := 7) rfl)) e22 (g := (mkF m 91 #[.val (.int p0), .val (.int p1), .val (.int (1 : Int32)), .val (.ref b2), .val (.int nv), .unset, .unset] [(.int (1 : Int32))])) rfl (hb hby at_91) rfl (by decide) (cap := 1) (by decide) (by decide) (by decide) (by decide)
    obtain ⟨b27, g27⟩ : ∃ z, z = h22.size := ⟨_, rfl⟩
    rw [← g27] at A27 st27
    have g_b27 : n0 ≤ b27 := Nat.le_trans Z22 (Nat.le_of_eq g27.symm)
    have sz_b27 : h0.size ≤ b27 := Nat.le_trans K22.1 (Nat.le_of_eq g27.symm)
    have ne_b2_b27 : b2 ≠ b27 := Nat.ne_of_lt (Nat.lt_of_lt_of_le V22.lt (Nat.le_of_eq g27.symm))
    have K27 : Keep h0 h27 [] := Keep.ext K22 E27
    have Z27 : n0 ≤ h27.size := Nat.le_trans Z0 K27.1
    have V_b27 : Arv Z h27 b27 k27 .char (1 : Int32) [(.int (0 : Int32))] (.int (0 : Int32)) := (Arv.new A27 (by decide)).pad (pad_rep [] (.int (0 : Int32)) 1)
    have f28 := (V22.ext E27)
    obtain ⟨cl29, Ar29, -, S29, Nn29, Hh29, -⟩ := id f28
    have hin29 : ¬ ((0 : Int32) < 0 ∨ cl29.slots.size ≤ ((0 : Int32)).toNatClampNeg) := inb_of S29 ⟨by decide, by decide⟩
    have hat29 : cl29.slots[((0 : Int32)).toNatClampNeg]? = some (.int (1 : Int32)) := Hh29.at hin29 rfl
    obtain ⟨_, _, ⟨T30, L30, k30, n30⟩, -, X30, ⟨Lc30, hQ30, l30, y30, z30⟩, st30⟩ := Jvm.LawKit.callS X27 hx (y := (⟨"com/example/libforeword/libforeword/wordlist/EntryParseFrequencyPinLaw", "d", "(II)C"⟩ : MethodName)) hown (mvT hZ (hw _ (List.mem_of_getElem? (i := 8) rfl))) (mvT hZ (hw _ (List.mem_of_getElem? (i := 9) rfl))) (mvT hZ (hw _ (List.mem_of_getElem? (i := 10) rfl))) (mvT hZ (hw _ (List.mem_of_getElem? (i := 11) rfl))) (by decide) (backOf (W := 2) (rmDD l Z a0 hw [] nv (1 : Int32) h27 n0 Z27 (by decide)) hZ (hw _ (List.mem_of_getElem? (i := 11) rfl)) (hw _ (List.mem_of_getElem? (i := 10) rfl)) (by decide) (by decide)) (g := (mkF m 110 #[.val (.int p0), .val (.int p1), .val (.int (1 : Int32)), .val (.ref b2), .val (.int nv), .val (.ref b27), .unset] [(.int (1 : Int32)), (.int nv), (.int (0 : Int32)), (.ref b27)])) rfl (by rw [hml]; rfl) (argsL := [(.int nv), (.int (1 : Int32))]) (rest := [(.int (0 : Int32)), (.ref b27)]) (lenOf pd_3 rfl) rfl (by show 2 * 0 + _ ≤ _; exact Nat.le_of_eq rfl) (hb hby at_110) (fun _ _ => ⟨rfl, e27, (by decide : 2 + 0 ≤ _), (by decide : 11 + 0 ≤ _)⟩)
    dsimp only [Pt.U, Pt.locs, Pt.cells, Pt.slots] at X30 l30 y30 z30 st30 hQ30
    subst l30 y30 z30
    obtain ⟨rfl, N30q, e30⟩ := hQ30
    have N30 := Fr.app Nx24 N30q
    obtain ⟨cl31, Ar31, q31, S31, Nn31, Hh31, Gg31⟩ := id V_b27
    have hin31 : ¬ ((0 : Int32) < 0 ∨ cl31.slots.size ≤ ((0 : Int32)).toNatClampNeg) := inb_of S31 ⟨by decide, by decide⟩
    obtain ⟨T32, h32, X32, e32, W32, st32⟩ := stC X30 hx hZ e30 Ar31 (j := (0 : Int32)) hin31 (g := (mkF m 113 #[.val (.int p0), .val (.int p1), .val (.int (1 : Int32)), .val (.ref b2), .val (.int nv), .val (.ref b27), .unset] [(.int (dV nv (1 : Int32))), (.int (0 : Int32)), (.ref b27)])) rfl rfl (hb hby at_113)
    have V32 : Arv Z h32 b27 k27 .char (1 : Int32) [(.int (nar .char (dV nv (1 : Int32))))] (.int (0 : Int32)) := Arv.set Ar31 q31 S31 Nn31 Hh31 Gg31 (fits_nar_char _) W32 0 rfl (Nat.le_of_ble_eq_true rfl)
    have K32 : Keep h0 h32 [] := Keep.wr K27 W32 (Or.inr sz_b27)
    have Z32 : n0 ≤ h32.size := Nat.le_trans Z0 K32.1
    have N32 := Fr.snoc X32 N30 g_b27
    obtain ⟨lx33, Xx33, Nx33⟩ : ∃ lx, Stand p l e room_1 s m #[(.int p0), (.int p1)] below meth c T32 lx 2 11 ∧ Fr n0 lx := ⟨_, X32, N32⟩
    have f34 := (f28.other W32 ne_b2_b27)
    obtain ⟨T35, h35, X35, e35, E35, A35, D35, -, st35⟩ := newO Xx33 hx hZ hown (hw _ (List.mem_of_getElem? (i := 12) rfl)) (hw _ (List.mem_of_getElem? (i := 13) rfl)) (hw _ (List.mem_of_getElem? (i := 14) rfl)) e32 (g := (mkF m 329 #[.val (.int p0), .val (.int p1), .val (.int (1 : Int32)), .val (.ref b2), .val (.int nv), .val (.ref b27), .unset] [])) rfl (hb hby at_329) (by decide) (by decide)
    obtain ⟨b35, g35⟩ : ∃ z, z = h32.size := ⟨_, rfl⟩
    rw [← g35] at A35 D35 st35
    have g_b35 : n0 ≤ b35 := Nat.le_trans Z32 (Nat.le_of_eq g35.symm)
    have sz_b35 : h0.size ≤ b35 := Nat.le_trans K32.1 (Nat.le_of_eq g35.symm)
    have ne_b2_b35 : b2 ≠ b35 := Nat.ne_of_lt (Nat.lt_of_lt_of_le f34.lt (Nat.le_of_eq g35.symm))
    have ne_b27_b35 : b27 ≠ b35 := Nat.ne_of_lt (Nat.lt_of_lt_of_le V32.lt (Nat.le_of_eq g35.symm))
    have K35 : Keep h0 h35 [] := Keep.ext K32 E35
    have Z35 : n0 ≤ h35.size := Nat.le_trans Z0 K35.1
    have F_coder_b35 : Fld Z h35 b35 "java/lang/String" "coder" "B" (.int (0 : Int32)) := D35 (Or.inr (hw _ (List.mem_of_getElem? (i := 38) rfl))) (ty := .byte) (by decide)
    have F_value_b35 : Fld Z h35 b35 "java/lang/String" "value" "[B" .null := D35 (Or.inr (hw _ (List.mem_of_getElem? (i := 40) rfl))) (ty := (.array .byte)) (by decide)
    have hdg : ∀ i, i < 1 → (([(nar .char (dV nv (1 : Int32)))] : List Int32).getD i 0).toInt = 48 + (nv.toInt / 10 ^ (1 - 1 - i)) % 10 := fun i hi => match i, hi with
      | 0, _ => by rw [show (([(nar .char (dV nv (1 : Int32)))] : List Int32)).getD 0 0 = nar .char (dV nv (1 : Int32)) from rfl, own_dc nv (1 : Int32) hnb.1 (by decide)]; rfl
      | k + 1, h => absurd h (by omega)
    obtain ⟨hp, hdig, hval, hfin⟩ := own_facts ([(nar .char (dV nv (1 : Int32)))] : List Int32) nv 1 rfl hnb.1 hnb.2 hdg
    have f37 := (V32.ext E35)
    have f38 := ((((((((((((((SC.ext E2).wr W4).wr W6).wr W8).wr W10).wr W12).wr W14).wr W16).wr W18).wr W20).wr W22).ext E27).wr W32).ext E35)
    obtain ⟨_, _, ⟨T36, L36, k36, n36⟩, -, X36, ⟨Lc36, hQ36, l36, y36, z36⟩, st36⟩ := X35.specialBack hx (y := (⟨"java/lang/String", "<init>", "([C)V"⟩ : MethodName)) rfl hown (mvT hZ (hw _ (List.mem_of_getElem? (i := 15) rfl))) (mvT hZ (hw _ (List.mem_of_getElem? (i := 16) rfl))) (mvT hZ (hw _ (List.mem_of_getElem? (i := 17) rfl))) (by decide) (StrChars.Road.backV (W := 1) hZ hws (kI := 4) (hw _ (List.mem_of_getElem? (i := 13) rfl)) (cs := ([(nar .char (dV nv (1 : Int32)))] : List Int32)) (bs := (([(nar .char (dV nv (1 : Int32)))] : List Int32)).map (fun c => c.toInt8.toInt32)) (n := 1) g_b35 Z35 A35 F_value_b35 F_coder_b35 f37 f38 hC rfl rfl (by decide) (by decide) hp rfl (by decide) (by decide)) (g := (mkF m 335 #[.val (.int p0), .val (.int p1), .val (.int (1 : Int32)), .val (.ref b2), .val (.int nv), .val (.ref b27), .unset] [(.ref b27), (.ref b35), (.ref b35)])) rfl (by rw [hml]; rfl) (Steps.refl _) (a := b35) (argsL := [(.ref b27)]) (rest := [(.ref b35)]) (lenOf pd_4 rfl) rfl (by show 2 * 0 + _ ≤ _; exact Nat.le_of_eq rfl) (hb hby at_335) (fun _ _ => ⟨rfl, e35, (by decide : 3 + 1 ≤ _), (by decide : 15 + 1 ≤ _)⟩)
    dsimp only [Pt.U, Pt.locs, Pt.cells, Pt.slots] at X36 l36 y36 z36 st36 hQ36
    subst l36 y36 z36
    obtain ⟨rfl, N36q, K36, Ex36, Fc36, bt36, kb36, gt36, ge36, nt36, Fv36, AV36⟩ := hQ36
    have sk39 := own_sta_keep1 f38 A35 K36
    have f40 := ((((((((((((((SG.ext E2).wr W4).wr W6).wr W8).wr W10).wr W12).wr W14).wr W16).wr W18).wr W20).wr W22).ext E27).wr W32).ext E35)
    have sk41 := own_sta_keep1 f40 A35 K36
    have KK36 : Keep h0 T36.heap [] := Keep.trans K35 K36 (own_side1 (Or.inr sz_b35))
    have Z36 : n0 ≤ T36.heap.size := Nat.le_trans Z0 KK36.1
    have N36 := Fr.app Nx33 N36q
    obtain ⟨lx42, Xx42, Nx42⟩ : ∃ lx, Stand p l e room_1 s m #[(.int p0), (.int p1)] below meth c T36 lx 4 16 ∧ Fr n0 lx := ⟨_, X36, N36⟩
    obtain ⟨_, _, ⟨T43, L43, k43, n43⟩, -, X43, ⟨Lc43, hQ43, l43, y43, z43⟩, st43⟩ := Jvm.LawKit.callS Xx42 hx (y := (⟨"com/example/libforeword/libforeword/wordlist/Entry", "parseFrequency", "(Ljava/lang/String;)I"⟩ : MethodName)) hown (mvT hZ (hw _ (List.mem_of_getElem? (i := 41) rfl))) (mvT hZ (hw _ (List.mem_of_getElem? (i := 42) rfl))) (mvT hZ (hw _ (List.mem_of_getElem? (i := 43) rfl))) (mvT hZ (hw _ (List.mem_of_getElem? (i := 44) rfl))) (by decide) (backOf (W := 0) (rmPF l Z a0 hw [] b35 bt36 kb36 ([(nar .char (dV nv (1 : Int32)))] : List Int32) iC vG T36.heap n0 Z36 Ex36 Fc36 Fv36 AV36 sk39 hC sk41 hvG hp (by show 0 < 1; decide) (by show 1 ≤ 12; decide) hdig hval) hZ (hw _ (List.mem_of_getElem? (i := 44) rfl)) (hw _ (List.mem_of_getElem? (i := 43) rfl)) (by decide) (by decide)) (g := (mkF m 342 #[.val (.int p0), .val (.int p1), .val (.int (1 : Int32)), .val (.ref b2), .val (.int nv), .val (.ref b27), .val (.ref b35)] [(.ref b35)])) rfl (by rw [hml]; rfl) (argsL := [(.ref b35)]) (rest := []) (lenOf pd_5 rfl) rfl (by show 2 * 0 + _ ≤ _; exact Nat.le_of_eq rfl) (hb hby at_342) (fun _ _ => ⟨rfl, rfl, (by decide : 4 + 0 ≤ _), (by decide : 16 + 0 ≤ _)⟩)
    dsimp only [Pt.U, Pt.locs, Pt.cells, Pt.slots] at X43 l43 y43 z43 st43 hQ43
    subst l43 y43 z43
    obtain ⟨rfl, N43q, e43⟩ := hQ43
    have N43 := Fr.app Nx42 N43q
    obtain ⟨fs, hr, hrun, hended, hW, hsame⟩ := X43.leave (v := some (.int (1 : Int32))) (fun h => by rw [Bd.returns] at h; cases h)
    refine ⟨_, _, pre26 _ ?_, hrun, hended, _, _, rfl, ?_, ⟨_, rfl⟩, hW, hsame.mono (by decide) (by decide)⟩
    · show Steps p.tables e below (T22.setTop (mkF m 90 #[.val (.int p0), .val (.int p1), .val (.int (1 : Int32)), .val (.ref b2), .val (.int nv), .unset, .unset] [])) _
      refine XS.iloadN Xx24.here hx rfl (hb hby at_90) rfl ?_
      show Steps p.tables e below (T22.setTop (mkF m 91 #[.val (.int p0), .val (.int p1), .val (.int (1 : Int32)), .val (.ref b2), .val (.int nv), .unset, .unset] [(.int (1 : Int32))])) _
      refine st27 _ ?_
      refine XS.astore X27.here hx rfl (hb hby at_93) rfl rfl (l' := #[.val (.int p0), .val (.int p1), .val (.int (1 : Int32)), .val (.ref b2), .val (.int nv), .val (.ref b27), .unset]) rfl ?_
      refine XS.iloadN X27.here hx rfl (hb hby at_95) rfl ?_
      refine XS.iconst X27.here hx rfl (hb hby at_96) ?_
      show Steps p.tables e below (T27.setTop (mkF m 97 #[.val (.int p0), .val (.int p1), .val (.int (1 : Int32)), .val (.ref b2), .val (.int nv), .val (.ref b27), .unset] [(.int (1 : Int32)), (.int (1 : Int32))])) _
      refine XS.icmpNo X27.here hx rfl (hb hby at_97) rfl (flt (show ¬ ((1 : Int32) < (1 : Int32)) from (by decide))).1 ?_
      refine XS.aload X27.here hx rfl (hb hby at_100) rfl rfl ?_
      refine XS.iloadN X27.here hx rfl (hb hby at_102) rfl ?_
      refine XS.iconst X27.here hx rfl (hb hby at_103) ?_
      show Steps p.tables e below (T27.setTop (mkF m 104 #[.val (.int p0), .val (.int p1), .val (.int (1 : Int32)), .val (.ref b2), .val (.int nv), .val (.ref b27), .unset] [(.int (1 : Int32)), (.int (1 : Int32)), (.ref b27)])) _
      refine XS.isub X27.here hx rfl (hb hby at_104) rfl ?_
      refine XS.iload X27.here hx rfl (hb hby at_105) rfl ?_
      refine XS.aloadN X27.here hx rfl (hb hby at_107) rfl rfl ?_
      refine XS.iconst X27.here hx rfl (hb hby at_108) ?_
      show Steps p.tables e below (T27.setTop (mkF m 109 #[.val (.int p0), .val (.int p1), .val (.int (1 : Int32)), .val (.ref b2), .val (.int nv), .val (.ref b27), .unset] [(.int (0 : Int32)), (.ref b2), (.int nv), (.int (0 : Int32)), (.ref b27)])) _
      refine X27.iaload hx (j := (0 : Int32)) (v := (.int (1 : Int32))) (by rw [e27]; exact Ar29.1) (State.isArrayOf_alike hZ.alike Ar29.2.1) Ar29.2.2 hin29 hat29 (g := (mkF m 109 #[.val (.int p0), .val (.int p1), .val (.int (1 : Int32)), .val (.ref b2), .val (.int nv), .val (.ref b27), .unset] [(.int (0 : Int32)), (.ref b2), (.int nv), (.int (0 : Int32)), (.ref b27)])) rfl rfl (hb hby at_109) _ ?_
      show Steps p.tables e below (T27.setTop (mkF m 110 #[.val (.int p0), .val (.int p1), .val (.int (1 : Int32)), .val (.ref b2), .val (.int nv), .val (.ref b27), .unset] [(.int (1 : Int32)), (.int nv), (.int (0 : Int32)), (.ref b27)])) _
      refine st30 _ ?_
      show Steps p.tables e below (T30.setTop (mkF m 113 #[.val (.int p0), .val (.int p1), .val (.int (1 : Int32)), .val (.ref b2), .val (.int nv), .val (.ref b27), .unset] [(.int (dV nv (1 : Int32))), (.int (0 : Int32)), (.ref b27)])) _
      refine st32 _ ?_
      refine XS.iloadN X32.here hx rfl (hb hby at_114) rfl ?_
      refine XS.iconst X32.here hx rfl (hb hby at_115) ?_
      show Steps p.tables e below (T32.setTop (mkF m 116 #[.val (.int p0), .val (.int p1), .val (.int (1 : Int32)), .val (.ref b2), .val (.int nv), .val (.ref b27), .unset] [(.int (2 : Int32)), (.int (1 : Int32))])) _
      refine XS.icmpYes X32.here hx rfl (pc0 := 116) (pc' := 133) rfl (hb hby at_116) rfl (tlt (show (1 : Int32) < (2 : Int32) from (by decide))).1 (by decide) (by decide) ?_
      refine XS.iloadN X32.here hx rfl (hb hby at_133) rfl ?_
      refine XS.iconst X32.here hx rfl (hb hby at_134) ?_
      show Steps p.tables e below (T32.setTop (mkF m 135 #[.val (.int p0), .val (.int p1), .val (.int (1 : Int32)), .val (.ref b2), .val (.int nv), .val (.ref b27), .unset] [(.int (3 : Int32)), (.int (1 : Int32))])) _
      refine XS.icmpYes X32.here hx rfl (pc0 := 135) (pc' := 152) rfl (hb hby at_135) rfl (tlt (show (1 : Int32) < (3 : Int32) from (by decide))).1 (by decide) (by decide) ?_
      refine XS.iloadN X32.here hx rfl (hb hby at_152) rfl ?_
      refine XS.iconst X32.here hx rfl (hb hby at_153) ?_
      show Steps p.tables e below (T32.setTop (mkF m 154 #[.val (.int p0), .val (.int p1), .val (.int (1 : Int32)), .val (.ref b2), .val (.int nv), .val (.ref b27), .unset] [(.int (4 : Int32)), (.int (1 : Int32))])) _
      refine XS.icmpYes X32.here hx rfl (pc0 := 154) (pc' := 171) rfl (hb hby at_154) rfl (tlt (show (1 : Int32) < (4 : Int32) from (by decide))).1 (by decide) (by decide) ?_
      refine XS.iloadN X32.here hx rfl (hb hby at_171) rfl ?_
      refine XS.iconst X32.here hx rfl (hb hby at_172) ?_
      show Steps p.tables e below (T32.setTop (mkF m 173 #[.val (.int p0), .val (.int p1), .val (.int (1 : Int32)), .val (.ref b2), .val (.int nv), .val (.ref b27), .unset] [(.int (5 : Int32)), (.int (1 : Int32))])) _
      refine XS.icmpYes X32.here hx rfl (pc0 := 173) (pc' := 190) rfl (hb hby at_173) rfl (tlt (show (1 : Int32) < (5 : Int32) from (by decide))).1 (by decide) (by decide) ?_
      refine XS.iloadN X32.here hx rfl (hb hby at_190) rfl ?_
      refine XS.bipush X32.here hx rfl (hb hby at_191) ?_
      show Steps p.tables e below (T32.setTop (mkF m 193 #[.val (.int p0), .val (.int p1), .val (.int (1 : Int32)), .val (.ref b2), .val (.int nv), .val (.ref b27), .unset] [(.int (6 : Int32)), (.int (1 : Int32))])) _
      refine XS.icmpYes X32.here hx rfl (pc0 := 193) (pc' := 211) rfl (hb hby at_193) rfl (tlt (show (1 : Int32) < (6 : Int32) from (by decide))).1 (by decide) (by decide) ?_
      refine XS.iloadN X32.here hx rfl (hb hby at_211) rfl ?_
      refine XS.bipush X32.here hx rfl (hb hby at_212) ?_
      show Steps p.tables e below (T32.setTop (mkF m 214 #[.val (.int p0), .val (.int p1), .val (.int (1 : Int32)), .val (.ref b2), .val (.int nv), .val (.ref b27), .unset] [(.int (7 : Int32)), (.int (1 : Int32))])) _
      refine XS.icmpYes X32.here hx rfl (pc0 := 214) (pc' := 233) rfl (hb hby at_214) rfl (tlt (show (1 : Int32) < (7 : Int32) from (by decide))).1 (by decide) (by decide) ?_
      refine XS.iloadN X32.here hx rfl (hb hby at_233) rfl ?_
      refine XS.bipush X32.here hx rfl (hb hby at_234) ?_
      show Steps p.tables e below (T32.setTop (mkF m 236 #[.val (.int p0), .val (.int p1), .val (.int (1 : Int32)), .val (.ref b2), .val (.int nv), .val (.ref b27), .unset] [(.int (8 : Int32)), (.int (1 : Int32))])) _
      refine XS.icmpYes X32.here hx rfl (pc0 := 236) (pc' := 255) rfl (hb hby at_236) rfl (tlt (show (1 : Int32) < (8 : Int32) from (by decide))).1 (by decide) (by decide) ?_
      refine XS.iloadN X32.here hx rfl (hb hby at_255) rfl ?_
      refine XS.bipush X32.here hx rfl (hb hby at_256) ?_
      show Steps p.tables e below (T32.setTop (mkF m 258 #[.val (.int p0), .val (.int p1), .val (.int (1 : Int32)), .val (.ref b2), .val (.int nv), .val (.ref b27), .unset] [(.int (9 : Int32)), (.int (1 : Int32))])) _
      refine XS.icmpYes X32.here hx rfl (pc0 := 258) (pc' := 277) rfl (hb hby at_258) rfl (tlt (show (1 : Int32) < (9 : Int32) from (by decide))).1 (by decide) (by decide) ?_
      refine XS.iloadN X32.here hx rfl (hb hby at_277) rfl ?_
      refine XS.bipush X32.here hx rfl (hb hby at_278) ?_
      show Steps p.tables e below (T32.setTop (mkF m 280 #[.val (.int p0), .val (.int p1), .val (.int (1 : Int32)), .val (.ref b2), .val (.int nv), .val (.ref b27), .unset] [(.int (10 : Int32)), (.int (1 : Int32))])) _
      refine XS.icmpYes X32.here hx rfl (pc0 := 280) (pc' := 299) rfl (hb hby at_280) rfl (tlt (show (1 : Int32) < (10 : Int32) from (by decide))).1 (by decide) (by decide) ?_
      refine XS.iloadN X32.here hx rfl (hb hby at_299) rfl ?_
      refine XS.bipush X32.here hx rfl (hb hby at_300) ?_
      show Steps p.tables e below (T32.setTop (mkF m 302 #[.val (.int p0), .val (.int p1), .val (.int (1 : Int32)), .val (.ref b2), .val (.int nv), .val (.ref b27), .unset] [(.int (11 : Int32)), (.int (1 : Int32))])) _
      refine XS.icmpYes X32.here hx rfl (pc0 := 302) (pc' := 314) rfl (hb hby at_302) rfl (tlt (show (1 : Int32) < (11 : Int32) from (by decide))).1 (by decide) (by decide) ?_
      refine XS.iloadN X32.here hx rfl (hb hby at_314) rfl ?_
      refine XS.bipush X32.here hx rfl (hb hby at_315) ?_
      show Steps p.tables e below (T32.setTop (mkF m 317 #[.val (.int p0), .val (.int p1), .val (.int (1 : Int32)), .val (.ref b2), .val (.int nv), .val (.ref b27), .unset] [(.int (12 : Int32)), (.int (1 : Int32))])) _
      refine XS.icmpYes X32.here hx rfl (pc0 := 317) (pc' := 329) rfl (hb hby at_317) rfl (tlt (show (1 : Int32) < (12 : Int32) from (by decide))).1 (by decide) (by decide) ?_
      show Steps p.tables e below (T32.setTop (mkF m 329 #[.val (.int p0), .val (.int p1), .val (.int (1 : Int32)), .val (.ref b2), .val (.int nv), .val (.ref b27), .unset] [])) _
      refine st35 _ ?_
      show Steps p.tables e below (T35.setTop (mkF m 332 #[.val (.int p0), .val (.int p1), .val (.int (1 : Int32)), .val (.ref b2), .val (.int nv), .val (.ref b27), .unset] [(.ref b35)])) _
      refine XS.dup X35.here hx rfl (hb hby at_332) rfl rfl ?_
      refine XS.aload X35.here hx rfl (hb hby at_333) rfl rfl ?_
      show Steps p.tables e below (T35.setTop (mkF m 335 #[.val (.int p0), .val (.int p1), .val (.int (1 : Int32)), .val (.ref b2), .val (.int nv), .val (.ref b27), .unset] [(.ref b27), (.ref b35), (.ref b35)])) _
      refine st36.trans ?_
      refine XS.astore X36.here hx rfl (hb hby at_338) rfl rfl (l' := #[.val (.int p0), .val (.int p1), .val (.int (1 : Int32)), .val (.ref b2), .val (.int nv), .val (.ref b27), .val (.ref b35)]) rfl ?_
      refine XS.aload Xx42.here hx rfl (hb hby at_340) rfl rfl ?_
      show Steps p.tables e below (T36.setTop (mkF m 342 #[.val (.int p0), .val (.int p1), .val (.int (1 : Int32)), .val (.ref b2), .val (.int nv), .val (.ref b27), .val (.ref b35)] [(.ref b35)])) _
      refine st43 _ ?_
      show Steps p.tables e below (T43.setTop (mkF m 345 #[.val (.int p0), .val (.int p1), .val (.int (1 : Int32)), .val (.ref b2), .val (.int nv), .val (.ref b27), .val (.ref b35)] [(.int ((pv ([(nar .char (dV nv (1 : Int32)))] : List Int32) ([(nar .char (dV nv (1 : Int32)))] : List Int32).length).toInt32))])) _
      refine XS.iload X43.here hx rfl (hb hby at_345) rfl ?_
      show Steps p.tables e below (T43.setTop (mkF m 347 #[.val (.int p0), .val (.int p1), .val (.int (1 : Int32)), .val (.ref b2), .val (.int nv), .val (.ref b27), .val (.ref b35)] [(.int nv), (.int ((pv ([(nar .char (dV nv (1 : Int32)))] : List Int32) ([(nar .char (dV nv (1 : Int32)))] : List Int32).length).toInt32))])) _
      refine XS.icmpNo X43.here hx rfl (hb hby at_347) rfl (teq (show ((pv ([(nar .char (dV nv (1 : Int32)))] : List Int32) ([(nar .char (dV nv (1 : Int32)))] : List Int32).length).toInt32) = nv from hfin)).2 ?_
      refine XS.iconst X43.here hx rfl (hb hby at_350) ?_
      refine XS.goto X43.here hx rfl (pc0 := 351) (pc' := 355) rfl (hb hby at_351) (by decide) (by decide) ?_
      show Steps p.tables e below (T43.setTop (mkF m 355 #[.val (.int p0), .val (.int p1), .val (.int (1 : Int32)), .val (.ref b2), .val (.int nv), .val (.ref b27), .val (.ref b35)] [(.int (1 : Int32))])) _
      exact retN X43 hx (t := .boolean) Bd.returns (by simp) (hb hby at_355) hr
    · show Q0 h0 n0 _ T43.heap _
      rw [e43]
      exact ⟨rfl, N43⟩
  · by_cases hl2 : len = (2 : Int32)
    · rw [hl2] at pre23
      obtain ⟨cl44, Ar44, -, S44, Nn44, Hh44, -⟩ := id V22
      have hin44 : ¬ ((2 : Int32) < 0 ∨ cl44.slots.size ≤ ((2 : Int32)).toNatClampNeg) := inb_of S44 ⟨by decide, by decide⟩
      have hat44 : cl44.slots[((2 : Int32)).toNatClampNeg]? = some (.int (100 : Int32)) := Hh44.at hin44 rfl
      have pre45 : ∀ t, Steps p.tables e below (T22.setTop (mkF m 90 #[.val (.int p0), .val (.int p1), .val (.int (2 : Int32)), .val (.ref b2), .val (.int ((p0 &&& (2147483647 : Int32)) - ((p0 &&& (2147483647 : Int32)) / (100 : Int32)) * (100 : Int32))), .unset, .unset] [])) t → Steps p.tables e below (s₁.setTop (entryFrame m #[(.int p0), (.int p1)] maxLocals)) t := fun t kt => pre23 t (by
          show Steps p.tables e below (T22.setTop (mkF m 70 #[.val (.int p0), .val (.int p1), .val (.int (2 : Int32)), .val (.ref b2), .unset, .unset, .unset] [])) _
          refine XS.iloadN Xx24.here hx rfl (hb hby at_70) rfl ?_
          show Steps p.tables e below (T22.setTop (mkF m 71 #[.val (.int p0), .val (.int p1), .val (.int (2 : Int32)), .val (.ref b2), .unset, .unset, .unset] [(.int p0)])) _
          refine Xx24.ldcI hx hown (mvT hZ (hw _ (List.mem_of_getElem? (i := 6) rfl))) (g := (mkF m 71 #[.val (.int p0), .val (.int p1), .val (.int (2 : Int32)), .val (.ref b2), .unset, .unset, .unset] [(.int p0)])) rfl (hb hby at_71) ?_
          show Steps p.tables e below (T22.setTop (mkF m 73 #[.val (.int p0), .val (.int p1), .val (.int (2 : Int32)), .val (.ref b2), .unset, .unset, .unset] [(.int (2147483647 : Int32)), (.int p0)])) _
          refine XS.iand Xx24.here hx rfl (hb hby at_73) rfl ?_
          refine XS.istore Xx24.here hx rfl (hb hby at_74) rfl (l' := #[.val (.int p0), .val (.int p1), .val (.int (2 : Int32)), .val (.ref b2), .val (.int (p0 &&& (2147483647 : Int32))), .unset, .unset]) rfl ?_
          refine XS.iloadN Xx24.here hx rfl (hb hby at_76) rfl ?_
          refine XS.bipush Xx24.here hx rfl (hb hby at_77) ?_
          show Steps p.tables e below (T22.setTop (mkF m 79 #[.val (.int p0), .val (.int p1), .val (.int (2 : Int32)), .val (.ref b2), .val (.int (p0 &&& (2147483647 : Int32))), .unset, .unset] [(.int (10 : Int32)), (.int (2 : Int32))])) _
          refine XS.icmpNo Xx24.here hx rfl (hb hby at_79) rfl (tlt (show (2 : Int32) < (10 : Int32) from (by decide))).2.1 ?_
          refine XS.iload Xx24.here hx rfl (hb hby at_82) rfl ?_
          refine XS.aloadN Xx24.here hx rfl (hb hby at_84) rfl rfl ?_
          refine XS.iloadN Xx24.here hx rfl (hb hby at_85) rfl ?_
          show Steps p.tables e below (T22.setTop (mkF m 86 #[.val (.int p0), .val (.int p1), .val (.int (2 : Int32)), .val (.ref b2), .val (.int (p0 &&& (2147483647 : Int32))), .unset, .unset] [(.int (2 : Int32)), (.ref b2), (.int (p0 &&& (2147483647 : Int32)))])) _
          refine Xx24.iaload hx (j := (2 : Int32)) (v := (.int (100 : Int32))) (by rw [e22]; exact Ar44.1) (State.isArrayOf_alike hZ.alike Ar44.2.1) Ar44.2.2 hin44 hat44 (g := (mkF m 86 #[.val (.int p0), .val (.int p1), .val (.int (2 : Int32)), .val (.ref b2), .val (.int (p0 &&& (2147483647 : Int32))), .unset, .unset] [(.int (2 : Int32)), (.ref b2), (.int (p0 &&& (2147483647 : Int32)))])) rfl rfl (hb hby at_86) _ ?_
          show Steps p.tables e below (T22.setTop (mkF m 87 #[.val (.int p0), .val (.int p1), .val (.int (2 : Int32)), .val (.ref b2), .val (.int (p0 &&& (2147483647 : Int32))), .unset, .unset] [(.int (100 : Int32)), (.int (p0 &&& (2147483647 : Int32)))])) _
          refine XS.irem Xx24.here hx rfl (hb hby at_87) rfl (by decide) ?_
          refine XS.istore Xx24.here hx rfl (hb hby at_88) rfl (l' := #[.val (.int p0), .val (.int p1), .val (.int (2 : Int32)), .val (.ref b2), .val (.int ((p0 &&& (2147483647 : Int32)) - ((p0 &&& (2147483647 : Int32)) / (100 : Int32)) * (100 : Int32))), .unset, .unset]) rfl ?_
          exact kt)
      obtain ⟨nv, hnv⟩ : ∃ z : Int32, z = ((p0 &&& (2147483647 : Int32)) - ((p0 &&& (2147483647 : Int32)) / (100 : Int32)) * (100 : Int32)) := ⟨_, rfl⟩
      rw [← hnv] at pre45
      have hnb : 0 ≤ nv.toInt ∧ nv.toInt < 10 ^ 2 := by rw [hnv]; exact own_nlt10 p0 (100 : Int32) (by decide)
      obtain ⟨T46, h46, k46, X46, e46, E46, A46, st46⟩ := newP Xx24 hx hZ (hw _ (List.mem_of_getElem? (i := 7) rfl)) e22 (g := (mkF m 91 #[.val (.int p0), .val (.int p1), .val (.int (2 : Int32)), .val (.ref b2), .val (.int nv), .unset, .unset] [(.int (2 : Int32))])) rfl (hb hby at_91) rfl (by decide) (cap := 2) (by decide) (by decide) (by decide) (by decide)
      obtain ⟨b46, g46⟩ : ∃ z, z = h22.size := ⟨_, rfl⟩
      rw [← g46] at A46 st46
      have g_b46 : n0 ≤ b46 := Nat.le_trans Z22 (Nat.le_of_eq g46.symm)
      have sz_b46 : h0.size ≤ b46 := Nat.le_trans K22.1 (Nat.le_of_eq g46.symm)
      have ne_b2_b46 : b2 ≠ b46 := Nat.ne_of_lt (Nat.lt_of_lt_of_le V22.lt (Nat.le_of_eq g46.symm))
      have K46 : Keep h0 h46 [] := Keep.ext K22 E46
      have Z46 : n0 ≤ h46.size := Nat.le_trans Z0 K46.1
      have V_b46 : Arv Z h46 b46 k46 .char (2 : Int32) [(.int (0 : Int32)), (.int (0 : Int32))] (.int (0 : Int32)) := (Arv.new A46 (by decide)).pad (pad_rep [] (.int (0 : Int32)) 2)
      have f47 := (V22.ext E46)
      obtain ⟨cl48, Ar48, -, S48, Nn48, Hh48, -⟩ := id f47
      have hin48 : ¬ ((0 : Int32) < 0 ∨ cl48.slots.size ≤ ((0 : Int32)).toNatClampNeg) := inb_of S48 ⟨by decide, by decide⟩
      have hat48 : cl48.slots[((0 : Int32)).toNatClampNeg]? = some (.int (1 : Int32)) := Hh48.at hin48 rfl
      obtain ⟨_, _, ⟨T49, L49, k49, n49⟩, -, X49, ⟨Lc49, hQ49, l49, y49, z49⟩, st49⟩ := Jvm.LawKit.callS X46 hx (y := (⟨"com/example/libforeword/libforeword/wordlist/EntryParseFrequencyPinLaw", "d", "(II)C"⟩ : MethodName)) hown (mvT hZ (hw _ (List.mem_of_getElem? (i := 8) rfl))) (mvT hZ (hw _ (List.mem_of_getElem? (i := 9) rfl))) (mvT hZ (hw _ (List.mem_of_getElem? (i := 10) rfl))) (mvT hZ (hw _ (List.mem_of_getElem? (i := 11) rfl))) (by decide) (backOf (W := 2) (rmDD l Z a0 hw [] nv (1 : Int32) h46 n0 Z46 (by decide)) hZ (hw _ (List.mem_of_getElem? (i := 11) rfl)) (hw _ (List.mem_of_getElem? (i := 10) rfl)) (by decide) (by decide)) (g := (mkF m 110 #[.val (.int p0), .val (.int p1), .val (.int (2 : Int32)), .val (.ref b2), .val (.int nv), .val (.ref b46), .unset] [(.int (1 : Int32)), (.int nv), (.int (1 : Int32)), (.ref b46)])) rfl (by rw [hml]; rfl) (argsL := [(.int nv), (.int (1 : Int32))]) (rest := [(.int (1 : Int32)), (.ref b46)]) (lenOf pd_3 rfl) rfl (by show 2 * 0 + _ ≤ _; exact Nat.le_of_eq rfl) (hb hby at_110) (fun _ _ => ⟨rfl, e46, (by decide : 2 + 0 ≤ _), (by decide : 12 + 0 ≤ _)⟩)
      dsimp only [Pt.U, Pt.locs, Pt.cells, Pt.slots] at X49 l49 y49 z49 st49 hQ49
      subst l49 y49 z49
      obtain ⟨rfl, N49q, e49⟩ := hQ49
      have N49 := Fr.app Nx24 N49q
      obtain ⟨cl50, Ar50, q50, S50, Nn50, Hh50, Gg50⟩ := id V_b46
      have hin50 : ¬ ((1 : Int32) < 0 ∨ cl50.slots.size ≤ ((1 : Int32)).toNatClampNeg) := inb_of S50 ⟨by decide, by decide⟩
      obtain ⟨T51, h51, X51, e51, W51, st51⟩ := stC X49 hx hZ e49 Ar50 (j := (1 : Int32)) hin50 (g := (mkF m 113 #[.val (.int p0), .val (.int p1), .val (.int (2 : Int32)), .val (.ref b2), .val (.int nv), .val (.ref b46), .unset] [(.int (dV nv (1 : Int32))), (.int (1 : Int32)), (.ref b46)])) rfl rfl (hb hby at_113)
      have V51 : Arv Z h51 b46 k46 .char (2 : Int32) [(.int (0 : Int32)), (.int (nar .char (dV nv (1 : Int32))))] (.int (0 : Int32)) := Arv.set Ar50 q50 S50 Nn50 Hh50 Gg50 (fits_nar_char _) W51 1 rfl (Nat.le_of_ble_eq_true rfl)
      have K51 : Keep h0 h51 [] := Keep.wr K46 W51 (Or.inr sz_b46)
      have Z51 : n0 ≤ h51.size := Nat.le_trans Z0 K51.1
      have N51 := Fr.snoc X51 N49 g_b46
      have f52 := (f47.other W51 ne_b2_b46)
      obtain ⟨cl53, Ar53, -, S53, Nn53, Hh53, -⟩ := id f52
      have hin53 : ¬ ((1 : Int32) < 0 ∨ cl53.slots.size ≤ ((1 : Int32)).toNatClampNeg) := inb_of S53 ⟨by decide, by decide⟩
      have hat53 : cl53.slots[((1 : Int32)).toNatClampNeg]? = some (.int (10 : Int32)) := Hh53.at hin53 rfl
      obtain ⟨_, _, ⟨T54, L54, k54, n54⟩, -, X54, ⟨Lc54, hQ54, l54, y54, z54⟩, st54⟩ := Jvm.LawKit.callS X51 hx (y := (⟨"com/example/libforeword/libforeword/wordlist/EntryParseFrequencyPinLaw", "d", "(II)C"⟩ : MethodName)) hown (mvT hZ (hw _ (List.mem_of_getElem? (i := 8) rfl))) (mvT hZ (hw _ (List.mem_of_getElem? (i := 9) rfl))) (mvT hZ (hw _ (List.mem_of_getElem? (i := 10) rfl))) (mvT hZ (hw _ (List.mem_of_getElem? (i := 11) rfl))) (by decide) (backOf (W := 2) (rmDD l Z a0 hw [] nv (10 : Int32) h51 n0 Z51 (by decide)) hZ (hw _ (List.mem_of_getElem? (i := 11) rfl)) (hw _ (List.mem_of_getElem? (i := 10) rfl)) (by decide) (by decide)) (g := (mkF m 129 #[.val (.int p0), .val (.int p1), .val (.int (2 : Int32)), .val (.ref b2), .val (.int nv), .val (.ref b46), .unset] [(.int (10 : Int32)), (.int nv), (.int (0 : Int32)), (.ref b46)])) rfl (by rw [hml]; rfl) (argsL := [(.int nv), (.int (10 : Int32))]) (rest := [(.int (0 : Int32)), (.ref b46)]) (lenOf pd_3 rfl) rfl (by show 2 * 0 + _ ≤ _; exact Nat.le_of_eq rfl) (hb hby at_129) (fun _ _ => ⟨rfl, e51, (by decide : 2 + 0 ≤ _), (by decide : 12 + 0 ≤ _)⟩)
      dsimp only [Pt.U, Pt.locs, Pt.cells, Pt.slots] at X54 l54 y54 z54 st54 hQ54
      subst l54 y54 z54
      obtain ⟨rfl, N54q, e54⟩ := hQ54
      have N54 := Fr.app N51 N54q
      obtain ⟨cl55, Ar55, q55, S55, Nn55, Hh55, Gg55⟩ := id V51
      have hin55 : ¬ ((0 : Int32) < 0 ∨ cl55.slots.size ≤ ((0 : Int32)).toNatClampNeg) := inb_of S55 ⟨by decide, by decide⟩
      obtain ⟨T56, h56, X56, e56, W56, st56⟩ := stC X54 hx hZ e54 Ar55 (j := (0 : Int32)) hin55 (g := (mkF m 132 #[.val (.int p0), .val (.int p1), .val (.int (2 : Int32)), .val (.ref b2), .val (.int nv), .val (.ref b46), .unset] [(.int (dV nv (10 : Int32))), (.int (0 : Int32)), (.ref b46)])) rfl rfl (hb hby at_132)
      have V56 : Arv Z h56 b46 k46 .char (2 : Int32) [(.int (nar .char (dV nv (10 : Int32)))), (.int (nar .char (dV nv (1 : Int32))))] (.int (0 : Int32)) := Arv.set Ar55 q55 S55 Nn55 Hh55 Gg55 (fits_nar_char _) W56 0 rfl (Nat.le_of_ble_eq_true rfl)
      have K56 : Keep h0 h56 [] := Keep.wr K51 W56 (Or.inr sz_b46)
      have Z56 : n0 ≤ h56.size := Nat.le_trans Z0 K56.1
      have N56 := Fr.snoc X56 N54 g_b46
      obtain ⟨lx57, Xx57, Nx57⟩ : ∃ lx, Stand p l e room_1 s m #[(.int p0), (.int p1)] below meth c T56 lx 2 12 ∧ Fr n0 lx := ⟨_, X56, N56⟩
      have f58 := (f52.other W56 ne_b2_b46)
      obtain ⟨T59, h59, X59, e59, E59, A59, D59, -, st59⟩ := newO Xx57 hx hZ hown (hw _ (List.mem_of_getElem? (i := 12) rfl)) (hw _ (List.mem_of_getElem? (i := 13) rfl)) (hw _ (List.mem_of_getElem? (i := 14) rfl)) e56 (g := (mkF m 329 #[.val (.int p0), .val (.int p1), .val (.int (2 : Int32)), .val (.ref b2), .val (.int nv), .val (.ref b46), .unset] [])) rfl (hb hby at_329) (by decide) (by decide)
      obtain ⟨b59, g59⟩ : ∃ z, z = h56.size := ⟨_, rfl⟩
      rw [← g59] at A59 D59 st59
      have g_b59 : n0 ≤ b59 := Nat.le_trans Z56 (Nat.le_of_eq g59.symm)
      have sz_b59 : h0.size ≤ b59 := Nat.le_trans K56.1 (Nat.le_of_eq g59.symm)
      have ne_b2_b59 : b2 ≠ b59 := Nat.ne_of_lt (Nat.lt_of_lt_of_le f58.lt (Nat.le_of_eq g59.symm))
      have ne_b46_b59 : b46 ≠ b59 := Nat.ne_of_lt (Nat.lt_of_lt_of_le V56.lt (Nat.le_of_eq g59.symm))
      have K59 : Keep h0 h59 [] := Keep.ext K56 E59
      have Z59 : n0 ≤ h59.size := Nat.le_trans Z0 K59.1
      have F_coder_b59 : Fld Z h59 b59 "java/lang/String" "coder" "B" (.int (0 : Int32)) := D59 (Or.inr (hw _ (List.mem_of_getElem? (i := 38) rfl))) (ty := .byte) (by decide)
      have F_value_b59 : Fld Z h59 b59 "java/lang/String" "value" "[B" .null := D59 (Or.inr (hw _ (List.mem_of_getElem? (i := 40) rfl))) (ty := (.array .byte)) (by decide)
      have hdg : ∀ i, i < 2 → (([(nar .char (dV nv (10 : Int32))), (nar .char (dV nv (1 : Int32)))] : List Int32).getD i 0).toInt = 48 + (nv.toInt / 10 ^ (2 - 1 - i)) % 10 := fun i hi => match i, hi with
        | 0, _ => by rw [show (([(nar .char (dV nv (10 : Int32))), (nar .char (dV nv (1 : Int32)))] : List Int32)).getD 0 0 = nar .char (dV nv (10 : Int32)) from rfl, own_dc nv (10 : Int32) hnb.1 (by decide)]; rfl
        | 1, _ => by rw [show (([(nar .char (dV nv (10 : Int32))), (nar .char (dV nv (1 : Int32)))] : List Int32)).getD 1 0 = nar .char (dV nv (1 : Int32)) from rfl, own_dc nv (1 : Int32) hnb.1 (by decide)]; rfl
        | k + 2, h => absurd h (by omega)
      obtain ⟨hp, hdig, hval, hfin⟩ := own_facts ([(nar .char (dV nv (10 : Int32))), (nar .char (dV nv (1 : Int32)))] : List Int32) nv 2 rfl hnb.1 hnb.2 hdg
      have f61 := (V56.ext E59)
      have f62 := (((((((((((((((SC.ext E2).wr W4).wr W6).wr W8).wr W10).wr W12).wr W14).wr W16).wr W18).wr W20).wr W22).ext E46).wr W51).wr W56).ext E59)
      obtain ⟨_, _, ⟨T60, L60, k60, n60⟩, -, X60, ⟨Lc60, hQ60, l60, y60, z60⟩, st60⟩ := X59.specialBack hx (y := (⟨"java/lang/String", "<init>", "([C)V"⟩ : MethodName)) rfl hown (mvT hZ (hw _ (List.mem_of_getElem? (i := 15) rfl))) (mvT hZ (hw _ (List.mem_of_getElem? (i := 16) rfl))) (mvT hZ (hw _ (List.mem_of_getElem? (i := 17) rfl))) (by decide) (StrChars.Road.backV (W := 1) hZ hws (kI := 4) (hw _ (List.mem_of_getElem? (i := 13) rfl)) (cs := ([(nar .char (dV nv (10 : Int32))), (nar .char (dV nv (1 : Int32)))] : List Int32)) (bs := (([(nar .char (dV nv (10 : Int32))), (nar .char (dV nv (1 : Int32)))] : List Int32)).map (fun c => c.toInt8.toInt32)) (n := 2) g_b59 Z59 A59 F_value_b59 F_coder_b59 f61 f62 hC rfl rfl (by decide) (by decide) hp rfl (by decide) (by decide)) (g := (mkF m 335 #[.val (.int p0), .val (.int p1), .val (.int (2 : Int32)), .val (.ref b2), .val (.int nv), .val (.ref b46), .unset] [(.ref b46), (.ref b59), (.ref b59)])) rfl (by rw [hml]; rfl) (Steps.refl _) (a := b59) (argsL := [(.ref b46)]) (rest := [(.ref b59)]) (lenOf pd_4 rfl) rfl (by show 2 * 0 + _ ≤ _; exact Nat.le_of_eq rfl) (hb hby at_335) (fun _ _ => ⟨rfl, e59, (by decide : 3 + 1 ≤ _), (by decide : 16 + 2 ≤ _)⟩)
      dsimp only [Pt.U, Pt.locs, Pt.cells, Pt.slots] at X60 l60 y60 z60 st60 hQ60
      subst l60 y60 z60
      obtain ⟨rfl, N60q, K60, Ex60, Fc60, bt60, kb60, gt60, ge60, nt60, Fv60, AV60⟩ := hQ60
      have sk63 := own_sta_keep1 f62 A59 K60
      have f64 := (((((((((((((((SG.ext E2).wr W4).wr W6).wr W8).wr W10).wr W12).wr W14).wr W16).wr W18).wr W20).wr W22).ext E46).wr W51).wr W56).ext E59)
      have sk65 := own_sta_keep1 f64 A59 K60
      have KK60 : Keep h0 T60.heap [] := Keep.trans K59 K60 (own_side1 (Or.inr sz_b59))
      have Z60 : n0 ≤ T60.heap.size := Nat.le_trans Z0 KK60.1
      have N60 := Fr.app Nx57 N60q
      obtain ⟨lx66, Xx66, Nx66⟩ : ∃ lx, Stand p l e room_1 s m #[(.int p0), (.int p1)] below meth c T60 lx 4 18 ∧ Fr n0 lx := ⟨_, X60, N60⟩
      obtain ⟨_, _, ⟨T67, L67, k67, n67⟩, -, X67, ⟨Lc67, hQ67, l67, y67, z67⟩, st67⟩ := Jvm.LawKit.callS Xx66 hx (y := (⟨"com/example/libforeword/libforeword/wordlist/Entry", "parseFrequency", "(Ljava/lang/String;)I"⟩ : MethodName)) hown (mvT hZ (hw _ (List.mem_of_getElem? (i := 41) rfl))) (mvT hZ (hw _ (List.mem_of_getElem? (i := 42) rfl))) (mvT hZ (hw _ (List.mem_of_getElem? (i := 43) rfl))) (mvT hZ (hw _ (List.mem_of_getElem? (i := 44) rfl))) (by decide) (backOf (W := 0) (rmPF l Z a0 hw [] b59 bt60 kb60 ([(nar .char (dV nv (10 : Int32))), (nar .char (dV nv (1 : Int32)))] : List Int32) iC vG T60.heap n0 Z60 Ex60 Fc60 Fv60 AV60 sk63 hC sk65 hvG hp (by show 0 < 2; decide) (by show 2 ≤ 12; decide) hdig hval) hZ (hw _ (List.mem_of_getElem? (i := 44) rfl)) (hw _ (List.mem_of_getElem? (i := 43) rfl)) (by decide) (by decide)) (g := (mkF m 342 #[.val (.int p0), .val (.int p1), .val (.int (2 : Int32)), .val (.ref b2), .val (.int nv), .val (.ref b46), .val (.ref b59)] [(.ref b59)])) rfl (by rw [hml]; rfl) (argsL := [(.ref b59)]) (rest := []) (lenOf pd_5 rfl) rfl (by show 2 * 0 + _ ≤ _; exact Nat.le_of_eq rfl) (hb hby at_342) (fun _ _ => ⟨rfl, rfl, (by decide : 4 + 0 ≤ _), (by decide : 18 + 0 ≤ _)⟩)
      dsimp only [Pt.U, Pt.locs, Pt.cells, Pt.slots] at X67 l67 y67 z67 st67 hQ67
      subst l67 y67 z67
      obtain ⟨rfl, N67q, e67⟩ := hQ67
      have N67 := Fr.app Nx66 N67q
      obtain ⟨fs, hr, hrun, hended, hW, hsame⟩ := X67.leave (v := some (.int (1 : Int32))) (fun h => by rw [Bd.returns] at h; cases h)
      refine ⟨_, _, pre45 _ ?_, hrun, hended, _, _, rfl, ?_, ⟨_, rfl⟩, hW, hsame.mono (by decide) (by decide)⟩
      · show Steps p.tables e below (T22.setTop (mkF m 90 #[.val (.int p0), .val (.int p1), .val (.int (2 : Int32)), .val (.ref b2), .val (.int nv), .unset, .unset] [])) _
        refine XS.iloadN Xx24.here hx rfl (hb hby at_90) rfl ?_
        show Steps p.tables e below (T22.setTop (mkF m 91 #[.val (.int p0), .val (.int p1), .val (.int (2 : Int32)), .val (.ref b2), .val (.int nv), .unset, .unset] [(.int (2 : Int32))])) _
        refine st46 _ ?_
        refine XS.astore X46.here hx rfl (hb hby at_93) rfl rfl (l' := #[.val (.int p0), .val (.int p1), .val (.int (2 : Int32)), .val (.ref b2), .val (.int nv), .val (.ref b46), .unset]) rfl ?_
        refine XS.iloadN X46.here hx rfl (hb hby at_95) rfl ?_
        refine XS.iconst X46.here hx rfl (hb hby at_96) ?_
        show Steps p.tables e below (T46.setTop (mkF m 97 #[.val (.int p0), .val (.int p1), .val (.int (2 : Int32)), .val (.ref b2), .val (.int nv), .val (.ref b46), .unset] [(.int (1 : Int32)), (.int (2 : Int32))])) _
        refine XS.icmpNo X46.here hx rfl (hb hby at_97) rfl (flt (show ¬ ((2 : Int32) < (1 : Int32)) from (by decide))).1 ?_
        refine XS.aload X46.here hx rfl (hb hby at_100) rfl rfl ?_
        refine XS.iloadN X46.here hx rfl (hb hby at_102) rfl ?_
        refine XS.iconst X46.here hx rfl (hb hby at_103) ?_
        show Steps p.tables e below (T46.setTop (mkF m 104 #[.val (.int p0), .val (.int p1), .val (.int (2 : Int32)), .val (.ref b2), .val (.int nv), .val (.ref b46), .unset] [(.int (1 : Int32)), (.int (2 : Int32)), (.ref b46)])) _
        refine XS.isub X46.here hx rfl (hb hby at_104) rfl ?_
        refine XS.iload X46.here hx rfl (hb hby at_105) rfl ?_
        refine XS.aloadN X46.here hx rfl (hb hby at_107) rfl rfl ?_
        refine XS.iconst X46.here hx rfl (hb hby at_108) ?_
        show Steps p.tables e below (T46.setTop (mkF m 109 #[.val (.int p0), .val (.int p1), .val (.int (2 : Int32)), .val (.ref b2), .val (.int nv), .val (.ref b46), .unset] [(.int (0 : Int32)), (.ref b2), (.int nv), (.int (1 : Int32)), (.ref b46)])) _
        refine X46.iaload hx (j := (0 : Int32)) (v := (.int (1 : Int32))) (by rw [e46]; exact Ar48.1) (State.isArrayOf_alike hZ.alike Ar48.2.1) Ar48.2.2 hin48 hat48 (g := (mkF m 109 #[.val (.int p0), .val (.int p1), .val (.int (2 : Int32)), .val (.ref b2), .val (.int nv), .val (.ref b46), .unset] [(.int (0 : Int32)), (.ref b2), (.int nv), (.int (1 : Int32)), (.ref b46)])) rfl rfl (hb hby at_109) _ ?_
        show Steps p.tables e below (T46.setTop (mkF m 110 #[.val (.int p0), .val (.int p1), .val (.int (2 : Int32)), .val (.ref b2), .val (.int nv), .val (.ref b46), .unset] [(.int (1 : Int32)), (.int nv), (.int (1 : Int32)), (.ref b46)])) _
        refine st49 _ ?_
        show Steps p.tables e below (T49.setTop (mkF m 113 #[.val (.int p0), .val (.int p1), .val (.int (2 : Int32)), .val (.ref b2), .val (.int nv), .val (.ref b46), .unset] [(.int (dV nv (1 : Int32))), (.int (1 : Int32)), (.ref b46)])) _
        refine st51 _ ?_
        refine XS.iloadN X51.here hx rfl (hb hby at_114) rfl ?_
        refine XS.iconst X51.here hx rfl (hb hby at_115) ?_
        show Steps p.tables e below (T51.setTop (mkF m 116 #[.val (.int p0), .val (.int p1), .val (.int (2 : Int32)), .val (.ref b2), .val (.int nv), .val (.ref b46), .unset] [(.int (2 : Int32)), (.int (2 : Int32))])) _
        refine XS.icmpNo X51.here hx rfl (hb hby at_116) rfl (flt (show ¬ ((2 : Int32) < (2 : Int32)) from (by decide))).1 ?_
        refine XS.aload X51.here hx rfl (hb hby at_119) rfl rfl ?_
        refine XS.iloadN X51.here hx rfl (hb hby at_121) rfl ?_
        refine XS.iconst X51.here hx rfl (hb hby at_122) ?_
        show Steps p.tables e below (T51.setTop (mkF m 123 #[.val (.int p0), .val (.int p1), .val (.int (2 : Int32)), .val (.ref b2), .val (.int nv), .val (.ref b46), .unset] [(.int (2 : Int32)), (.int (2 : Int32)), (.ref b46)])) _
        refine XS.isub X51.here hx rfl (hb hby at_123) rfl ?_
        refine XS.iload X51.here hx rfl (hb hby at_124) rfl ?_
        refine XS.aloadN X51.here hx rfl (hb hby at_126) rfl rfl ?_
        refine XS.iconst X51.here hx rfl (hb hby at_127) ?_
        show Steps p.tables e below (T51.setTop (mkF m 128 #[.val (.int p0), .val (.int p1), .val (.int (2 : Int32)), .val (.ref b2), .val (.int nv), .val (.ref b46), .unset] [(.int (1 : Int32)), (.ref b2), (.int nv), (.int (0 : Int32)), (.ref b46)])) _
        refine X51.iaload hx (j := (1 : Int32)) (v := (.int (10 : Int32))) (by rw [e51]; exact Ar53.1) (State.isArrayOf_alike hZ.alike Ar53.2.1) Ar53.2.2 hin53 hat53 (g := (mkF m 128 #[.val (.int p0), .val (.int p1), .val (.int (2 : Int32)), .val (.ref b2), .val (.int nv), .val (.ref b46), .unset] [(.int (1 : Int32)), (.ref b2), (.int nv), (.int (0 : Int32)), (.ref b46)])) rfl rfl (hb hby at_128) _ ?_
        show Steps p.tables e below (T51.setTop (mkF m 129 #[.val (.int p0), .val (.int p1), .val (.int (2 : Int32)), .val (.ref b2), .val (.int nv), .val (.ref b46), .unset] [(.int (10 : Int32)), (.int nv), (.int (0 : Int32)), (.ref b46)])) _
        refine st54 _ ?_
        show Steps p.tables e below (T54.setTop (mkF m 132 #[.val (.int p0), .val (.int p1), .val (.int (2 : Int32)), .val (.ref b2), .val (.int nv), .val (.ref b46), .unset] [(.int (dV nv (10 : Int32))), (.int (0 : Int32)), (.ref b46)])) _
        refine st56 _ ?_
        refine XS.iloadN X56.here hx rfl (hb hby at_133) rfl ?_
        refine XS.iconst X56.here hx rfl (hb hby at_134) ?_
        show Steps p.tables e below (T56.setTop (mkF m 135 #[.val (.int p0), .val (.int p1), .val (.int (2 : Int32)), .val (.ref b2), .val (.int nv), .val (.ref b46), .unset] [(.int (3 : Int32)), (.int (2 : Int32))])) _
        refine XS.icmpYes X56.here hx rfl (pc0 := 135) (pc' := 152) rfl (hb hby at_135) rfl (tlt (show (2 : Int32) < (3 : Int32) from (by decide))).1 (by decide) (by decide) ?_
        refine XS.iloadN X56.here hx rfl (hb hby at_152) rfl ?_
        refine XS.iconst X56.here hx rfl (hb hby at_153) ?_
        show Steps p.tables e below (T56.setTop (mkF m 154 #[.val (.int p0), .val (.int p1), .val (.int (2 : Int32)), .val (.ref b2), .val (.int nv), .val (.ref b46), .unset] [(.int (4 : Int32)), (.int (2 : Int32))])) _
        refine XS.icmpYes X56.here hx rfl (pc0 := 154) (pc' := 171) rfl (hb hby at_154) rfl (tlt (show (2 : Int32) < (4 : Int32) from (by decide))).1 (by decide) (by decide) ?_
        refine XS.iloadN X56.here hx rfl (hb hby at_171) rfl ?_
        refine XS.iconst X56.here hx rfl (hb hby at_172) ?_
        show Steps p.tables e below (T56.setTop (mkF m 173 #[.val (.int p0), .val (.int p1), .val (.int (2 : Int32)), .val (.ref b2), .val (.int nv), .val (.ref b46), .unset] [(.int (5 : Int32)), (.int (2 : Int32))])) _
        refine XS.icmpYes X56.here hx rfl (pc0 := 173) (pc' := 190) rfl (hb hby at_173) rfl (tlt (show (2 : Int32) < (5 : Int32) from (by decide))).1 (by decide) (by decide) ?_
        refine XS.iloadN X56.here hx rfl (hb hby at_190) rfl ?_
        refine XS.bipush X56.here hx rfl (hb hby at_191) ?_
        show Steps p.tables e below (T56.setTop (mkF m 193 #[.val (.int p0), .val (.int p1), .val (.int (2 : Int32)), .val (.ref b2), .val (.int nv), .val (.ref b46), .unset] [(.int (6 : Int32)), (.int (2 : Int32))])) _
        refine XS.icmpYes X56.here hx rfl (pc0 := 193) (pc' := 211) rfl (hb hby at_193) rfl (tlt (show (2 : Int32) < (6 : Int32) from (by decide))).1 (by decide) (by decide) ?_
        refine XS.iloadN X56.here hx rfl (hb hby at_211) rfl ?_
        refine XS.bipush X56.here hx rfl (hb hby at_212) ?_
        show Steps p.tables e below (T56.setTop (mkF m 214 #[.val (.int p0), .val (.int p1), .val (.int (2 : Int32)), .val (.ref b2), .val (.int nv), .val (.ref b46), .unset] [(.int (7 : Int32)), (.int (2 : Int32))])) _
        refine XS.icmpYes X56.here hx rfl (pc0 := 214) (pc' := 233) rfl (hb hby at_214) rfl (tlt (show (2 : Int32) < (7 : Int32) from (by decide))).1 (by decide) (by decide) ?_
        refine XS.iloadN X56.here hx rfl (hb hby at_233) rfl ?_
        refine XS.bipush X56.here hx rfl (hb hby at_234) ?_
        show Steps p.tables e below (T56.setTop (mkF m 236 #[.val (.int p0), .val (.int p1), .val (.int (2 : Int32)), .val (.ref b2), .val (.int nv), .val (.ref b46), .unset] [(.int (8 : Int32)), (.int (2 : Int32))])) _
        refine XS.icmpYes X56.here hx rfl (pc0 := 236) (pc' := 255) rfl (hb hby at_236) rfl (tlt (show (2 : Int32) < (8 : Int32) from (by decide))).1 (by decide) (by decide) ?_
        refine XS.iloadN X56.here hx rfl (hb hby at_255) rfl ?_
        refine XS.bipush X56.here hx rfl (hb hby at_256) ?_
        show Steps p.tables e below (T56.setTop (mkF m 258 #[.val (.int p0), .val (.int p1), .val (.int (2 : Int32)), .val (.ref b2), .val (.int nv), .val (.ref b46), .unset] [(.int (9 : Int32)), (.int (2 : Int32))])) _
        refine XS.icmpYes X56.here hx rfl (pc0 := 258) (pc' := 277) rfl (hb hby at_258) rfl (tlt (show (2 : Int32) < (9 : Int32) from (by decide))).1 (by decide) (by decide) ?_
        refine XS.iloadN X56.here hx rfl (hb hby at_277) rfl ?_
        refine XS.bipush X56.here hx rfl (hb hby at_278) ?_
        show Steps p.tables e below (T56.setTop (mkF m 280 #[.val (.int p0), .val (.int p1), .val (.int (2 : Int32)), .val (.ref b2), .val (.int nv), .val (.ref b46), .unset] [(.int (10 : Int32)), (.int (2 : Int32))])) _
        refine XS.icmpYes X56.here hx rfl (pc0 := 280) (pc' := 299) rfl (hb hby at_280) rfl (tlt (show (2 : Int32) < (10 : Int32) from (by decide))).1 (by decide) (by decide) ?_
        refine XS.iloadN X56.here hx rfl (hb hby at_299) rfl ?_
        refine XS.bipush X56.here hx rfl (hb hby at_300) ?_
        show Steps p.tables e below (T56.setTop (mkF m 302 #[.val (.int p0), .val (.int p1), .val (.int (2 : Int32)), .val (.ref b2), .val (.int nv), .val (.ref b46), .unset] [(.int (11 : Int32)), (.int (2 : Int32))])) _
        refine XS.icmpYes X56.here hx rfl (pc0 := 302) (pc' := 314) rfl (hb hby at_302) rfl (tlt (show (2 : Int32) < (11 : Int32) from (by decide))).1 (by decide) (by decide) ?_
        refine XS.iloadN X56.here hx rfl (hb hby at_314) rfl ?_
        refine XS.bipush X56.here hx rfl (hb hby at_315) ?_
        show Steps p.tables e below (T56.setTop (mkF m 317 #[.val (.int p0), .val (.int p1), .val (.int (2 : Int32)), .val (.ref b2), .val (.int nv), .val (.ref b46), .unset] [(.int (12 : Int32)), (.int (2 : Int32))])) _
        refine XS.icmpYes X56.here hx rfl (pc0 := 317) (pc' := 329) rfl (hb hby at_317) rfl (tlt (show (2 : Int32) < (12 : Int32) from (by decide))).1 (by decide) (by decide) ?_
        show Steps p.tables e below (T56.setTop (mkF m 329 #[.val (.int p0), .val (.int p1), .val (.int (2 : Int32)), .val (.ref b2), .val (.int nv), .val (.ref b46), .unset] [])) _
        refine st59 _ ?_
        show Steps p.tables e below (T59.setTop (mkF m 332 #[.val (.int p0), .val (.int p1), .val (.int (2 : Int32)), .val (.ref b2), .val (.int nv), .val (.ref b46), .unset] [(.ref b59)])) _
        refine XS.dup X59.here hx rfl (hb hby at_332) rfl rfl ?_
        refine XS.aload X59.here hx rfl (hb hby at_333) rfl rfl ?_
        show Steps p.tables e below (T59.setTop (mkF m 335 #[.val (.int p0), .val (.int p1), .val (.int (2 : Int32)), .val (.ref b2), .val (.int nv), .val (.ref b46), .unset] [(.ref b46), (.ref b59), (.ref b59)])) _
        refine st60.trans ?_
        refine XS.astore X60.here hx rfl (hb hby at_338) rfl rfl (l' := #[.val (.int p0), .val (.int p1), .val (.int (2 : Int32)), .val (.ref b2), .val (.int nv), .val (.ref b46), .val (.ref b59)]) rfl ?_
        refine XS.aload Xx66.here hx rfl (hb hby at_340) rfl rfl ?_
        show Steps p.tables e below (T60.setTop (mkF m 342 #[.val (.int p0), .val (.int p1), .val (.int (2 : Int32)), .val (.ref b2), .val (.int nv), .val (.ref b46), .val (.ref b59)] [(.ref b59)])) _
        refine st67 _ ?_
        show Steps p.tables e below (T67.setTop (mkF m 345 #[.val (.int p0), .val (.int p1), .val (.int (2 : Int32)), .val (.ref b2), .val (.int nv), .val (.ref b46), .val (.ref b59)] [(.int ((pv ([(nar .char (dV nv (10 : Int32))), (nar .char (dV nv (1 : Int32)))] : List Int32) ([(nar .char (dV nv (10 : Int32))), (nar .char (dV nv (1 : Int32)))] : List Int32).length).toInt32))])) _
        refine XS.iload X67.here hx rfl (hb hby at_345) rfl ?_
        show Steps p.tables e below (T67.setTop (mkF m 347 #[.val (.int p0), .val (.int p1), .val (.int (2 : Int32)), .val (.ref b2), .val (.int nv), .val (.ref b46), .val (.ref b59)] [(.int nv), (.int ((pv ([(nar .char (dV nv (10 : Int32))), (nar .char (dV nv (1 : Int32)))] : List Int32) ([(nar .char (dV nv (10 : Int32))), (nar .char (dV nv (1 : Int32)))] : List Int32).length).toInt32))])) _
        refine XS.icmpNo X67.here hx rfl (hb hby at_347) rfl (teq (show ((pv ([(nar .char (dV nv (10 : Int32))), (nar .char (dV nv (1 : Int32)))] : List Int32) ([(nar .char (dV nv (10 : Int32))), (nar .char (dV nv (1 : Int32)))] : List Int32).length).toInt32) = nv from hfin)).2 ?_
        refine XS.iconst X67.here hx rfl (hb hby at_350) ?_
        refine XS.goto X67.here hx rfl (pc0 := 351) (pc' := 355) rfl (hb hby at_351) (by decide) (by decide) ?_
        show Steps p.tables e below (T67.setTop (mkF m 355 #[.val (.int p0), .val (.int p1), .val (.int (2 : Int32)), .val (.ref b2), .val (.int nv), .val (.ref b46), .val (.ref b59)] [(.int (1 : Int32))])) _
        exact retN X67 hx (t := .boolean) Bd.returns (by simp) (hb hby at_355) hr
      · show Q0 h0 n0 _ T67.heap _
        rw [e67]
        exact ⟨rfl, N67⟩
    · by_cases hl3 : len = (3 : Int32)
      · rw [hl3] at pre23
        obtain ⟨cl68, Ar68, -, S68, Nn68, Hh68, -⟩ := id V22
        have hin68 : ¬ ((3 : Int32) < 0 ∨ cl68.slots.size ≤ ((3 : Int32)).toNatClampNeg) := inb_of S68 ⟨by decide, by decide⟩
        have hat68 : cl68.slots[((3 : Int32)).toNatClampNeg]? = some (.int (1000 : Int32)) := Hh68.at hin68 rfl
        have pre69 : ∀ t, Steps p.tables e below (T22.setTop (mkF m 90 #[.val (.int p0), .val (.int p1), .val (.int (3 : Int32)), .val (.ref b2), .val (.int ((p0 &&& (2147483647 : Int32)) - ((p0 &&& (2147483647 : Int32)) / (1000 : Int32)) * (1000 : Int32))), .unset, .unset] [])) t → Steps p.tables e below (s₁.setTop (entryFrame m #[(.int p0), (.int p1)] maxLocals)) t := fun t kt => pre23 t (by
            show Steps p.tables e below (T22.setTop (mkF m 70 #[.val (.int p0), .val (.int p1), .val (.int (3 : Int32)), .val (.ref b2), .unset, .unset, .unset] [])) _
            refine XS.iloadN Xx24.here hx rfl (hb hby at_70) rfl ?_
            show Steps p.tables e below (T22.setTop (mkF m 71 #[.val (.int p0), .val (.int p1), .val (.int (3 : Int32)), .val (.ref b2), .unset, .unset, .unset] [(.int p0)])) _
            refine Xx24.ldcI hx hown (mvT hZ (hw _ (List.mem_of_getElem? (i := 6) rfl))) (g := (mkF m 71 #[.val (.int p0), .val (.int p1), .val (.int (3 : Int32)), .val (.ref b2), .unset, .unset, .unset] [(.int p0)])) rfl (hb hby at_71) ?_
            show Steps p.tables e below (T22.setTop (mkF m 73 #[.val (.int p0), .val (.int p1), .val (.int (3 : Int32)), .val (.ref b2), .unset, .unset, .unset] [(.int (2147483647 : Int32)), (.int p0)])) _
            refine XS.iand Xx24.here hx rfl (hb hby at_73) rfl ?_
            refine XS.istore Xx24.here hx rfl (hb hby at_74) rfl (l' := #[.val (.int p0), .val (.int p1), .val (.int (3 : Int32)), .val (.ref b2), .val (.int (p0 &&& (2147483647 : Int32))), .unset, .unset]) rfl ?_
            refine XS.iloadN Xx24.here hx rfl (hb hby at_76) rfl ?_
            refine XS.bipush Xx24.here hx rfl (hb hby at_77) ?_
            show Steps p.tables e below (T22.setTop (mkF m 79 #[.val (.int p0), .val (.int p1), .val (.int (3 : Int32)), .val (.ref b2), .val (.int (p0 &&& (2147483647 : Int32))), .unset, .unset] [(.int (10 : Int32)), (.int (3 : Int32))])) _
            refine XS.icmpNo Xx24.here hx rfl (hb hby at_79) rfl (tlt (show (3 : Int32) < (10 : Int32) from (by decide))).2.1 ?_
            refine XS.iload Xx24.here hx rfl (hb hby at_82) rfl ?_
            refine XS.aloadN Xx24.here hx rfl (hb hby at_84) rfl rfl ?_
            refine XS.iloadN Xx24.here hx rfl (hb hby at_85) rfl ?_
            show Steps p.tables e below (T22.setTop (mkF m 86 #[.val (.int p0), .val (.int p1), .val (.int (3 : Int32)), .val (.ref b2), .val (.int (p0 &&& (2147483647 : Int32))), .unset, .unset] [(.int (3 : Int32)), (.ref b2), (.int (p0 &&& (2147483647 : Int32)))])) _
            refine Xx24.iaload hx (j := (3 : Int32)) (v := (.int (1000 : Int32))) (by rw [e22]; exact Ar68.1) (State.isArrayOf_alike hZ.alike Ar68.2.1) Ar68.2.2 hin68 hat68 (g := (mkF m 86 #[.val (.int p0), .val (.int p1), .val (.int (3 : Int32)), .val (.ref b2), .val (.int (p0 &&& (2147483647 : Int32))), .unset, .unset] [(.int (3 : Int32)), (.ref b2), (.int (p0 &&& (2147483647 : Int32)))])) rfl rfl (hb hby at_86) _ ?_
            show Steps p.tables e below (T22.setTop (mkF m 87 #[.val (.int p0), .val (.int p1), .val (.int (3 : Int32)), .val (.ref b2), .val (.int (p0 &&& (2147483647 : Int32))), .unset, .unset] [(.int (1000 : Int32)), (.int (p0 &&& (2147483647 : Int32)))])) _
            refine XS.irem Xx24.here hx rfl (hb hby at_87) rfl (by decide) ?_
            refine XS.istore Xx24.here hx rfl (hb hby at_88) rfl (l' := #[.val (.int p0), .val (.int p1), .val (.int (3 : Int32)), .val (.ref b2), .val (.int ((p0 &&& (2147483647 : Int32)) - ((p0 &&& (2147483647 : Int32)) / (1000 : Int32)) * (1000 : Int32))), .unset, .unset]) rfl ?_
            exact kt)
        obtain ⟨nv, hnv⟩ : ∃ z : Int32, z = ((p0 &&& (2147483647 : Int32)) - ((p0 &&& (2147483647 : Int32)) / (1000 : Int32)) * (1000 : Int32)) := ⟨_, rfl⟩
        rw [← hnv] at pre69
        have hnb : 0 ≤ nv.toInt ∧ nv.toInt < 10 ^ 3 := by rw [hnv]; exact own_nlt10 p0 (1000 : Int32) (by decide)
        obtain ⟨T70, h70, k70, X70, e70, E70, A70, st70⟩ := newP Xx24 hx hZ (hw _ (List.mem_of_getElem? (i := 7) rfl)) e22 (g := (mkF m 91 #[.val (.int p0), .val (.int p1), .val (.int (3 : Int32)), .val (.ref b2), .val (.int nv), .unset, .unset] [(.int (3 : Int32))])) rfl (hb hby at_91) rfl (by decide) (cap := 3) (by decide) (by decide) (by decide) (by decide)
        obtain ⟨b70, g70⟩ : ∃ z, z = h22.size := ⟨_, rfl⟩
        rw [← g70] at A70 st70
        have g_b70 : n0 ≤ b70 := Nat.le_trans Z22 (Nat.le_of_eq g70.symm)
        have sz_b70 : h0.size ≤ b70 := Nat.le_trans K22.1 (Nat.le_of_eq g70.symm)
        have ne_b2_b70 : b2 ≠ b70 := Nat.ne_of_lt (Nat.lt_of_lt_of_le V22.lt (Nat.le_of_eq g70.symm))
        have K70 : Keep h0 h70 [] := Keep.ext K22 E70
        have Z70 : n0 ≤ h70.size := Nat.le_trans Z0 K70.1
        have V_b70 : Arv Z h70 b70 k70 .char (3 : Int32) [(.int (0 : Int32)), (.int (0 : Int32)), (.int (0 : Int32))] (.int (0 : Int32)) := (Arv.new A70 (by decide)).pad (pad_rep [] (.int (0 : Int32)) 3)
        have f71 := (V22.ext E70)
        obtain ⟨cl72, Ar72, -, S72, Nn72, Hh72, -⟩ := id f71
        have hin72 : ¬ ((0 : Int32) < 0 ∨ cl72.slots.size ≤ ((0 : Int32)).toNatClampNeg) := inb_of S72 ⟨by decide, by decide⟩
        have hat72 : cl72.slots[((0 : Int32)).toNatClampNeg]? = some (.int (1 : Int32)) := Hh72.at hin72 rfl
        obtain ⟨_, _, ⟨T73, L73, k73, n73⟩, -, X73, ⟨Lc73, hQ73, l73, y73, z73⟩, st73⟩ := Jvm.LawKit.callS X70 hx (y := (⟨"com/example/libforeword/libforeword/wordlist/EntryParseFrequencyPinLaw", "d", "(II)C"⟩ : MethodName)) hown (mvT hZ (hw _ (List.mem_of_getElem? (i := 8) rfl))) (mvT hZ (hw _ (List.mem_of_getElem? (i := 9) rfl))) (mvT hZ (hw _ (List.mem_of_getElem? (i := 10) rfl))) (mvT hZ (hw _ (List.mem_of_getElem? (i := 11) rfl))) (by decide) (backOf (W := 2) (rmDD l Z a0 hw [] nv (1 : Int32) h70 n0 Z70 (by decide)) hZ (hw _ (List.mem_of_getElem? (i := 11) rfl)) (hw _ (List.mem_of_getElem? (i := 10) rfl)) (by decide) (by decide)) (g := (mkF m 110 #[.val (.int p0), .val (.int p1), .val (.int (3 : Int32)), .val (.ref b2), .val (.int nv), .val (.ref b70), .unset] [(.int (1 : Int32)), (.int nv), (.int (2 : Int32)), (.ref b70)])) rfl (by rw [hml]; rfl) (argsL := [(.int nv), (.int (1 : Int32))]) (rest := [(.int (2 : Int32)), (.ref b70)]) (lenOf pd_3 rfl) rfl (by show 2 * 0 + _ ≤ _; exact Nat.le_of_eq rfl) (hb hby at_110) (fun _ _ => ⟨rfl, e70, (by decide : 2 + 0 ≤ _), (by decide : 13 + 0 ≤ _)⟩)
        dsimp only [Pt.U, Pt.locs, Pt.cells, Pt.slots] at X73 l73 y73 z73 st73 hQ73
        subst l73 y73 z73
        obtain ⟨rfl, N73q, e73⟩ := hQ73
        have N73 := Fr.app Nx24 N73q
        obtain ⟨cl74, Ar74, q74, S74, Nn74, Hh74, Gg74⟩ := id V_b70
        have hin74 : ¬ ((2 : Int32) < 0 ∨ cl74.slots.size ≤ ((2 : Int32)).toNatClampNeg) := inb_of S74 ⟨by decide, by decide⟩
        obtain ⟨T75, h75, X75, e75, W75, st75⟩ := stC X73 hx hZ e73 Ar74 (j := (2 : Int32)) hin74 (g := (mkF m 113 #[.val (.int p0), .val (.int p1), .val (.int (3 : Int32)), .val (.ref b2), .val (.int nv), .val (.ref b70), .unset] [(.int (dV nv (1 : Int32))), (.int (2 : Int32)), (.ref b70)])) rfl rfl (hb hby at_113)
        have V75 : Arv Z h75 b70 k70 .char (3 : Int32) [(.int (0 : Int32)), (.int (0 : Int32)), (.int (nar .char (dV nv (1 : Int32))))] (.int (0 : Int32)) := Arv.set Ar74 q74 S74 Nn74 Hh74 Gg74 (fits_nar_char _) W75 2 rfl (Nat.le_of_ble_eq_true rfl)
        have K75 : Keep h0 h75 [] := Keep.wr K70 W75 (Or.inr sz_b70)
        have Z75 : n0 ≤ h75.size := Nat.le_trans Z0 K75.1
        have N75 := Fr.snoc X75 N73 g_b70
        have f76 := (f71.other W75 ne_b2_b70)
        obtain ⟨cl77, Ar77, -, S77, Nn77, Hh77, -⟩ := id f76
        have hin77 : ¬ ((1 : Int32) < 0 ∨ cl77.slots.size ≤ ((1 : Int32)).toNatClampNeg) := inb_of S77 ⟨by decide, by decide⟩
        have hat77 : cl77.slots[((1 : Int32)).toNatClampNeg]? = some (.int (10 : Int32)) := Hh77.at hin77 rfl
        obtain ⟨_, _, ⟨T78, L78, k78, n78⟩, -, X78, ⟨Lc78, hQ78, l78, y78, z78⟩, st78⟩ := Jvm.LawKit.callS X75 hx (y := (⟨"com/example/libforeword/libforeword/wordlist/EntryParseFrequencyPinLaw", "d", "(II)C"⟩ : MethodName)) hown (mvT hZ (hw _ (List.mem_of_getElem? (i := 8) rfl))) (mvT hZ (hw _ (List.mem_of_getElem? (i := 9) rfl))) (mvT hZ (hw _ (List.mem_of_getElem? (i := 10) rfl))) (mvT hZ (hw _ (List.mem_of_getElem? (i := 11) rfl))) (by decide) (backOf (W := 2) (rmDD l Z a0 hw [] nv (10 : Int32) h75 n0 Z75 (by decide)) hZ (hw _ (List.mem_of_getElem? (i := 11) rfl)) (hw _ (List.mem_of_getElem? (i := 10) rfl)) (by decide) (by decide)) (g := (mkF m 129 #[.val (.int p0), .val (.int p1), .val (.int (3 : Int32)), .val (.ref b2), .val (.int nv), .val (.ref b70), .unset] [(.int (10 : Int32)), (.int nv), (.int (1 : Int32)), (.ref b70)])) rfl (by rw [hml]; rfl) (argsL := [(.int nv), (.int (10 : Int32))]) (rest := [(.int (1 : Int32)), (.ref b70)]) (lenOf pd_3 rfl) rfl (by show 2 * 0 + _ ≤ _; exact Nat.le_of_eq rfl) (hb hby at_129) (fun _ _ => ⟨rfl, e75, (by decide : 2 + 0 ≤ _), (by decide : 13 + 0 ≤ _)⟩)
        dsimp only [Pt.U, Pt.locs, Pt.cells, Pt.slots] at X78 l78 y78 z78 st78 hQ78
        subst l78 y78 z78
        obtain ⟨rfl, N78q, e78⟩ := hQ78
        have N78 := Fr.app N75 N78q
        obtain ⟨cl79, Ar79, q79, S79, Nn79, Hh79, Gg79⟩ := id V75
        have hin79 : ¬ ((1 : Int32) < 0 ∨ cl79.slots.size ≤ ((1 : Int32)).toNatClampNeg) := inb_of S79 ⟨by decide, by decide⟩
        obtain ⟨T80, h80, X80, e80, W80, st80⟩ := stC X78 hx hZ e78 Ar79 (j := (1 : Int32)) hin79 (g := (mkF m 132 #[.val (.int p0), .val (.int p1), .val (.int (3 : Int32)), .val (.ref b2), .val (.int nv), .val (.ref b70), .unset] [(.int (dV nv (10 : Int32))), (.int (1 : Int32)), (.ref b70)])) rfl rfl (hb hby at_132)
        have V80 : Arv Z h80 b70 k70 .char (3 : Int32) [(.int (0 : Int32)), (.int (nar .char (dV nv (10 : Int32)))), (.int (nar .char (dV nv (1 : Int32))))] (.int (0 : Int32)) := Arv.set Ar79 q79 S79 Nn79 Hh79 Gg79 (fits_nar_char _) W80 1 rfl (Nat.le_of_ble_eq_true rfl)
        have K80 : Keep h0 h80 [] := Keep.wr K75 W80 (Or.inr sz_b70)
        have Z80 : n0 ≤ h80.size := Nat.le_trans Z0 K80.1
        have N80 := Fr.snoc X80 N78 g_b70
        have f81 := (f76.other W80 ne_b2_b70)
        obtain ⟨cl82, Ar82, -, S82, Nn82, Hh82, -⟩ := id f81
        have hin82 : ¬ ((2 : Int32) < 0 ∨ cl82.slots.size ≤ ((2 : Int32)).toNatClampNeg) := inb_of S82 ⟨by decide, by decide⟩
        have hat82 : cl82.slots[((2 : Int32)).toNatClampNeg]? = some (.int (100 : Int32)) := Hh82.at hin82 rfl
        obtain ⟨_, _, ⟨T83, L83, k83, n83⟩, -, X83, ⟨Lc83, hQ83, l83, y83, z83⟩, st83⟩ := Jvm.LawKit.callS X80 hx (y := (⟨"com/example/libforeword/libforeword/wordlist/EntryParseFrequencyPinLaw", "d", "(II)C"⟩ : MethodName)) hown (mvT hZ (hw _ (List.mem_of_getElem? (i := 8) rfl))) (mvT hZ (hw _ (List.mem_of_getElem? (i := 9) rfl))) (mvT hZ (hw _ (List.mem_of_getElem? (i := 10) rfl))) (mvT hZ (hw _ (List.mem_of_getElem? (i := 11) rfl))) (by decide) (backOf (W := 2) (rmDD l Z a0 hw [] nv (100 : Int32) h80 n0 Z80 (by decide)) hZ (hw _ (List.mem_of_getElem? (i := 11) rfl)) (hw _ (List.mem_of_getElem? (i := 10) rfl)) (by decide) (by decide)) (g := (mkF m 148 #[.val (.int p0), .val (.int p1), .val (.int (3 : Int32)), .val (.ref b2), .val (.int nv), .val (.ref b70), .unset] [(.int (100 : Int32)), (.int nv), (.int (0 : Int32)), (.ref b70)])) rfl (by rw [hml]; rfl) (argsL := [(.int nv), (.int (100 : Int32))]) (rest := [(.int (0 : Int32)), (.ref b70)]) (lenOf pd_3 rfl) rfl (by show 2 * 0 + _ ≤ _; exact Nat.le_of_eq rfl) (hb hby at_148) (fun _ _ => ⟨rfl, e80, (by decide : 2 + 0 ≤ _), (by decide : 13 + 0 ≤ _)⟩)
        dsimp only [Pt.U, Pt.locs, Pt.cells, Pt.slots] at X83 l83 y83 z83 st83 hQ83
        subst l83 y83 z83
        obtain ⟨rfl, N83q, e83⟩ := hQ83
        have N83 := Fr.app N80 N83q
        obtain ⟨cl84, Ar84, q84, S84, Nn84, Hh84, Gg84⟩ := id V80
        have hin84 : ¬ ((0 : Int32) < 0 ∨ cl84.slots.size ≤ ((0 : Int32)).toNatClampNeg) := inb_of S84 ⟨by decide, by decide⟩
        obtain ⟨T85, h85, X85, e85, W85, st85⟩ := stC X83 hx hZ e83 Ar84 (j := (0 : Int32)) hin84 (g := (mkF m 151 #[.val (.int p0), .val (.int p1), .val (.int (3 : Int32)), .val (.ref b2), .val (.int nv), .val (.ref b70), .unset] [(.int (dV nv (100 : Int32))), (.int (0 : Int32)), (.ref b70)])) rfl rfl (hb hby at_151)
        have V85 : Arv Z h85 b70 k70 .char (3 : Int32) [(.int (nar .char (dV nv (100 : Int32)))), (.int (nar .char (dV nv (10 : Int32)))), (.int (nar .char (dV nv (1 : Int32))))] (.int (0 : Int32)) := Arv.set Ar84 q84 S84 Nn84 Hh84 Gg84 (fits_nar_char _) W85 0 rfl (Nat.le_of_ble_eq_true rfl)
        have K85 : Keep h0 h85 [] := Keep.wr K80 W85 (Or.inr sz_b70)
        have Z85 : n0 ≤ h85.size := Nat.le_trans Z0 K85.1
        have N85 := Fr.snoc X85 N83 g_b70
        obtain ⟨lx86, Xx86, Nx86⟩ : ∃ lx, Stand p l e room_1 s m #[(.int p0), (.int p1)] below meth c T85 lx 2 13 ∧ Fr n0 lx := ⟨_, X85, N85⟩
        have f87 := (f81.other W85 ne_b2_b70)
        obtain ⟨T88, h88, X88, e88, E88, A88, D88, -, st88⟩ := newO Xx86 hx hZ hown (hw _ (List.mem_of_getElem? (i := 12) rfl)) (hw _ (List.mem_of_getElem? (i := 13) rfl)) (hw _ (List.mem_of_getElem? (i := 14) rfl)) e85 (g := (mkF m 329 #[.val (.int p0), .val (.int p1), .val (.int (3 : Int32)), .val (.ref b2), .val (.int nv), .val (.ref b70), .unset] [])) rfl (hb hby at_329) (by decide) (by decide)
        obtain ⟨b88, g88⟩ : ∃ z, z = h85.size := ⟨_, rfl⟩
        rw [← g88] at A88 D88 st88
        have g_b88 : n0 ≤ b88 := Nat.le_trans Z85 (Nat.le_of_eq g88.symm)
        have sz_b88 : h0.size ≤ b88 := Nat.le_trans K85.1 (Nat.le_of_eq g88.symm)
        have ne_b2_b88 : b2 ≠ b88 := Nat.ne_of_lt (Nat.lt_of_lt_of_le f87.lt (Nat.le_of_eq g88.symm))
        have ne_b70_b88 : b70 ≠ b88 := Nat.ne_of_lt (Nat.lt_of_lt_of_le V85.lt (Nat.le_of_eq g88.symm))
        have K88 : Keep h0 h88 [] := Keep.ext K85 E88
        have Z88 : n0 ≤ h88.size := Nat.le_trans Z0 K88.1
        have F_coder_b88 : Fld Z h88 b88 "java/lang/String" "coder" "B" (.int (0 : Int32)) := D88 (Or.inr (hw _ (List.mem_of_getElem? (i := 38) rfl))) (ty := .byte) (by decide)
        have F_value_b88 : Fld Z h88 b88 "java/lang/String" "value" "[B" .null := D88 (Or.inr (hw _ (List.mem_of_getElem? (i := 40) rfl))) (ty := (.array .byte)) (by decide)
        have hdg : ∀ i, i < 3 → (([(nar .char (dV nv (100 : Int32))), (nar .char (dV nv (10 : Int32))), (nar .char (dV nv (1 : Int32)))] : List Int32).getD i 0).toInt = 48 + (nv.toInt / 10 ^ (3 - 1 - i)) % 10 := fun i hi => match i, hi with
          | 0, _ => by rw [show (([(nar .char (dV nv (100 : Int32))), (nar .char (dV nv (10 : Int32))), (nar .char (dV nv (1 : Int32)))] : List Int32)).getD 0 0 = nar .char (dV nv (100 : Int32)) from rfl, own_dc nv (100 : Int32) hnb.1 (by decide)]; rfl
          | 1, _ => by rw [show (([(nar .char (dV nv (100 : Int32))), (nar .char (dV nv (10 : Int32))), (nar .char (dV nv (1 : Int32)))] : List Int32)).getD 1 0 = nar .char (dV nv (10 : Int32)) from rfl, own_dc nv (10 : Int32) hnb.1 (by decide)]; rfl
          | 2, _ => by rw [show (([(nar .char (dV nv (100 : Int32))), (nar .char (dV nv (10 : Int32))), (nar .char (dV nv (1 : Int32)))] : List Int32)).getD 2 0 = nar .char (dV nv (1 : Int32)) from rfl, own_dc nv (1 : Int32) hnb.1 (by decide)]; rfl
          | k + 3, h => absurd h (by omega)
        obtain ⟨hp, hdig, hval, hfin⟩ := own_facts ([(nar .char (dV nv (100 : Int32))), (nar .char (dV nv (10 : Int32))), (nar .char (dV nv (1 : Int32)))] : List Int32) nv 3 rfl hnb.1 hnb.2 hdg
        have f90 := (V85.ext E88)
        have f91 := ((((((((((((((((SC.ext E2).wr W4).wr W6).wr W8).wr W10).wr W12).wr W14).wr W16).wr W18).wr W20).wr W22).ext E70).wr W75).wr W80).wr W85).ext E88)
        obtain ⟨_, _, ⟨T89, L89, k89, n89⟩, -, X89, ⟨Lc89, hQ89, l89, y89, z89⟩, st89⟩ := X88.specialBack hx (y := (⟨"java/lang/String", "<init>", "([C)V"⟩ : MethodName)) rfl hown (mvT hZ (hw _ (List.mem_of_getElem? (i := 15) rfl))) (mvT hZ (hw _ (List.mem_of_getElem? (i := 16) rfl))) (mvT hZ (hw _ (List.mem_of_getElem? (i := 17) rfl))) (by decide) (StrChars.Road.backV (W := 1) hZ hws (kI := 4) (hw _ (List.mem_of_getElem? (i := 13) rfl)) (cs := ([(nar .char (dV nv (100 : Int32))), (nar .char (dV nv (10 : Int32))), (nar .char (dV nv (1 : Int32)))] : List Int32)) (bs := (([(nar .char (dV nv (100 : Int32))), (nar .char (dV nv (10 : Int32))), (nar .char (dV nv (1 : Int32)))] : List Int32)).map (fun c => c.toInt8.toInt32)) (n := 3) g_b88 Z88 A88 F_value_b88 F_coder_b88 f90 f91 hC rfl rfl (by decide) (by decide) hp rfl (by decide) (by decide)) (g := (mkF m 335 #[.val (.int p0), .val (.int p1), .val (.int (3 : Int32)), .val (.ref b2), .val (.int nv), .val (.ref b70), .unset] [(.ref b70), (.ref b88), (.ref b88)])) rfl (by rw [hml]; rfl) (Steps.refl _) (a := b88) (argsL := [(.ref b70)]) (rest := [(.ref b88)]) (lenOf pd_4 rfl) rfl (by show 2 * 0 + _ ≤ _; exact Nat.le_of_eq rfl) (hb hby at_335) (fun _ _ => ⟨rfl, e88, (by decide : 3 + 1 ≤ _), (by decide : 17 + 3 ≤ _)⟩)
        dsimp only [Pt.U, Pt.locs, Pt.cells, Pt.slots] at X89 l89 y89 z89 st89 hQ89
        subst l89 y89 z89
        obtain ⟨rfl, N89q, K89, Ex89, Fc89, bt89, kb89, gt89, ge89, nt89, Fv89, AV89⟩ := hQ89
        have sk92 := own_sta_keep1 f91 A88 K89
        have f93 := ((((((((((((((((SG.ext E2).wr W4).wr W6).wr W8).wr W10).wr W12).wr W14).wr W16).wr W18).wr W20).wr W22).ext E70).wr W75).wr W80).wr W85).ext E88)
        have sk94 := own_sta_keep1 f93 A88 K89
        have KK89 : Keep h0 T89.heap [] := Keep.trans K88 K89 (own_side1 (Or.inr sz_b88))
        have Z89 : n0 ≤ T89.heap.size := Nat.le_trans Z0 KK89.1
        have N89 := Fr.app Nx86 N89q
        obtain ⟨lx95, Xx95, Nx95⟩ : ∃ lx, Stand p l e room_1 s m #[(.int p0), (.int p1)] below meth c T89 lx 4 20 ∧ Fr n0 lx := ⟨_, X89, N89⟩
        obtain ⟨_, _, ⟨T96, L96, k96, n96⟩, -, X96, ⟨Lc96, hQ96, l96, y96, z96⟩, st96⟩ := Jvm.LawKit.callS Xx95 hx (y := (⟨"com/example/libforeword/libforeword/wordlist/Entry", "parseFrequency", "(Ljava/lang/String;)I"⟩ : MethodName)) hown (mvT hZ (hw _ (List.mem_of_getElem? (i := 41) rfl))) (mvT hZ (hw _ (List.mem_of_getElem? (i := 42) rfl))) (mvT hZ (hw _ (List.mem_of_getElem? (i := 43) rfl))) (mvT hZ (hw _ (List.mem_of_getElem? (i := 44) rfl))) (by decide) (backOf (W := 0) (rmPF l Z a0 hw [] b88 bt89 kb89 ([(nar .char (dV nv (100 : Int32))), (nar .char (dV nv (10 : Int32))), (nar .char (dV nv (1 : Int32)))] : List Int32) iC vG T89.heap n0 Z89 Ex89 Fc89 Fv89 AV89 sk92 hC sk94 hvG hp (by show 0 < 3; decide) (by show 3 ≤ 12; decide) hdig hval) hZ (hw _ (List.mem_of_getElem? (i := 44) rfl)) (hw _ (List.mem_of_getElem? (i := 43) rfl)) (by decide) (by decide)) (g := (mkF m 342 #[.val (.int p0), .val (.int p1), .val (.int (3 : Int32)), .val (.ref b2), .val (.int nv), .val (.ref b70), .val (.ref b88)] [(.ref b88)])) rfl (by rw [hml]; rfl) (argsL := [(.ref b88)]) (rest := []) (lenOf pd_5 rfl) rfl (by show 2 * 0 + _ ≤ _; exact Nat.le_of_eq rfl) (hb hby at_342) (fun _ _ => ⟨rfl, rfl, (by decide : 4 + 0 ≤ _), (by decide : 20 + 0 ≤ _)⟩)
        dsimp only [Pt.U, Pt.locs, Pt.cells, Pt.slots] at X96 l96 y96 z96 st96 hQ96
        subst l96 y96 z96
        obtain ⟨rfl, N96q, e96⟩ := hQ96
        have N96 := Fr.app Nx95 N96q
        obtain ⟨fs, hr, hrun, hended, hW, hsame⟩ := X96.leave (v := some (.int (1 : Int32))) (fun h => by rw [Bd.returns] at h; cases h)
        refine ⟨_, _, pre69 _ ?_, hrun, hended, _, _, rfl, ?_, ⟨_, rfl⟩, hW, hsame.mono (by decide) (by decide)⟩
        · show Steps p.tables e below (T22.setTop (mkF m 90 #[.val (.int p0), .val (.int p1), .val (.int (3 : Int32)), .val (.ref b2), .val (.int nv), .unset, .unset] [])) _
          refine XS.iloadN Xx24.here hx rfl (hb hby at_90) rfl ?_
          show Steps p.tables e below (T22.setTop (mkF m 91 #[.val (.int p0), .val (.int p1), .val (.int (3 : Int32)), .val (.ref b2), .val (.int nv), .unset, .unset] [(.int (3 : Int32))])) _
          refine st70 _ ?_
          refine XS.astore X70.here hx rfl (hb hby at_93) rfl rfl (l' := #[.val (.int p0), .val (.int p1), .val (.int (3 : Int32)), .val (.ref b2), .val (.int nv), .val (.ref b70), .unset]) rfl ?_
          refine XS.iloadN X70.here hx rfl (hb hby at_95) rfl ?_
          refine XS.iconst X70.here hx rfl (hb hby at_96) ?_
          show Steps p.tables e below (T70.setTop (mkF m 97 #[.val (.int p0), .val (.int p1), .val (.int (3 : Int32)), .val (.ref b2), .val (.int nv), .val (.ref b70), .unset] [(.int (1 : Int32)), (.int (3 : Int32))])) _
          refine XS.icmpNo X70.here hx rfl (hb hby at_97) rfl (flt (show ¬ ((3 : Int32) < (1 : Int32)) from (by decide))).1 ?_
          refine XS.aload X70.here hx rfl (hb hby at_100) rfl rfl ?_
          refine XS.iloadN X70.here hx rfl (hb hby at_102) rfl ?_
          refine XS.iconst X70.here hx rfl (hb hby at_103) ?_
          show Steps p.tables e below (T70.setTop (mkF m 104 #[.val (.int p0), .val (.int p1), .val (.int (3 : Int32)), .val (.ref b2), .val (.int nv), .val (.ref b70), .unset] [(.int (1 : Int32)), (.int (3 : Int32)), (.ref b70)])) _
          refine XS.isub X70.here hx rfl (hb hby at_104) rfl ?_
          refine XS.iload X70.here hx rfl (hb hby at_105) rfl ?_
          refine XS.aloadN X70.here hx rfl (hb hby at_107) rfl rfl ?_
          refine XS.iconst X70.here hx rfl (hb hby at_108) ?_
          show Steps p.tables e below (T70.setTop (mkF m 109 #[.val (.int p0), .val (.int p1), .val (.int (3 : Int32)), .val (.ref b2), .val (.int nv), .val (.ref b70), .unset] [(.int (0 : Int32)), (.ref b2), (.int nv), (.int (2 : Int32)), (.ref b70)])) _
          refine X70.iaload hx (j := (0 : Int32)) (v := (.int (1 : Int32))) (by rw [e70]; exact Ar72.1) (State.isArrayOf_alike hZ.alike Ar72.2.1) Ar72.2.2 hin72 hat72 (g := (mkF m 109 #[.val (.int p0), .val (.int p1), .val (.int (3 : Int32)), .val (.ref b2), .val (.int nv), .val (.ref b70), .unset] [(.int (0 : Int32)), (.ref b2), (.int nv), (.int (2 : Int32)), (.ref b70)])) rfl rfl (hb hby at_109) _ ?_
          show Steps p.tables e below (T70.setTop (mkF m 110 #[.val (.int p0), .val (.int p1), .val (.int (3 : Int32)), .val (.ref b2), .val (.int nv), .val (.ref b70), .unset] [(.int (1 : Int32)), (.int nv), (.int (2 : Int32)), (.ref b70)])) _
          refine st73 _ ?_
          show Steps p.tables e below (T73.setTop (mkF m 113 #[.val (.int p0), .val (.int p1), .val (.int (3 : Int32)), .val (.ref b2), .val (.int nv), .val (.ref b70), .unset] [(.int (dV nv (1 : Int32))), (.int (2 : Int32)), (.ref b70)])) _
          refine st75 _ ?_
          refine XS.iloadN X75.here hx rfl (hb hby at_114) rfl ?_
          refine XS.iconst X75.here hx rfl (hb hby at_115) ?_
          show Steps p.tables e below (T75.setTop (mkF m 116 #[.val (.int p0), .val (.int p1), .val (.int (3 : Int32)), .val (.ref b2), .val (.int nv), .val (.ref b70), .unset] [(.int (2 : Int32)), (.int (3 : Int32))])) _
          refine XS.icmpNo X75.here hx rfl (hb hby at_116) rfl (flt (show ¬ ((3 : Int32) < (2 : Int32)) from (by decide))).1 ?_
          refine XS.aload X75.here hx rfl (hb hby at_119) rfl rfl ?_
          refine XS.iloadN X75.here hx rfl (hb hby at_121) rfl ?_
          refine XS.iconst X75.here hx rfl (hb hby at_122) ?_
          show Steps p.tables e below (T75.setTop (mkF m 123 #[.val (.int p0), .val (.int p1), .val (.int (3 : Int32)), .val (.ref b2), .val (.int nv), .val (.ref b70), .unset] [(.int (2 : Int32)), (.int (3 : Int32)), (.ref b70)])) _
          refine XS.isub X75.here hx rfl (hb hby at_123) rfl ?_
          refine XS.iload X75.here hx rfl (hb hby at_124) rfl ?_
          refine XS.aloadN X75.here hx rfl (hb hby at_126) rfl rfl ?_
          refine XS.iconst X75.here hx rfl (hb hby at_127) ?_
          show Steps p.tables e below (T75.setTop (mkF m 128 #[.val (.int p0), .val (.int p1), .val (.int (3 : Int32)), .val (.ref b2), .val (.int nv), .val (.ref b70), .unset] [(.int (1 : Int32)), (.ref b2), (.int nv), (.int (1 : Int32)), (.ref b70)])) _
          refine X75.iaload hx (j := (1 : Int32)) (v := (.int (10 : Int32))) (by rw [e75]; exact Ar77.1) (State.isArrayOf_alike hZ.alike Ar77.2.1) Ar77.2.2 hin77 hat77 (g := (mkF m 128 #[.val (.int p0), .val (.int p1), .val (.int (3 : Int32)), .val (.ref b2), .val (.int nv), .val (.ref b70), .unset] [(.int (1 : Int32)), (.ref b2), (.int nv), (.int (1 : Int32)), (.ref b70)])) rfl rfl (hb hby at_128) _ ?_
          show Steps p.tables e below (T75.setTop (mkF m 129 #[.val (.int p0), .val (.int p1), .val (.int (3 : Int32)), .val (.ref b2), .val (.int nv), .val (.ref b70), .unset] [(.int (10 : Int32)), (.int nv), (.int (1 : Int32)), (.ref b70)])) _
          refine st78 _ ?_
          show Steps p.tables e below (T78.setTop (mkF m 132 #[.val (.int p0), .val (.int p1), .val (.int (3 : Int32)), .val (.ref b2), .val (.int nv), .val (.ref b70), .unset] [(.int (dV nv (10 : Int32))), (.int (1 : Int32)), (.ref b70)])) _
          refine st80 _ ?_
          refine XS.iloadN X80.here hx rfl (hb hby at_133) rfl ?_
          refine XS.iconst X80.here hx rfl (hb hby at_134) ?_
          show Steps p.tables e below (T80.setTop (mkF m 135 #[.val (.int p0), .val (.int p1), .val (.int (3 : Int32)), .val (.ref b2), .val (.int nv), .val (.ref b70), .unset] [(.int (3 : Int32)), (.int (3 : Int32))])) _
          refine XS.icmpNo X80.here hx rfl (hb hby at_135) rfl (flt (show ¬ ((3 : Int32) < (3 : Int32)) from (by decide))).1 ?_
          refine XS.aload X80.here hx rfl (hb hby at_138) rfl rfl ?_
          refine XS.iloadN X80.here hx rfl (hb hby at_140) rfl ?_
          refine XS.iconst X80.here hx rfl (hb hby at_141) ?_
          show Steps p.tables e below (T80.setTop (mkF m 142 #[.val (.int p0), .val (.int p1), .val (.int (3 : Int32)), .val (.ref b2), .val (.int nv), .val (.ref b70), .unset] [(.int (3 : Int32)), (.int (3 : Int32)), (.ref b70)])) _
          refine XS.isub X80.here hx rfl (hb hby at_142) rfl ?_
          refine XS.iload X80.here hx rfl (hb hby at_143) rfl ?_
          refine XS.aloadN X80.here hx rfl (hb hby at_145) rfl rfl ?_
          refine XS.iconst X80.here hx rfl (hb hby at_146) ?_
          show Steps p.tables e below (T80.setTop (mkF m 147 #[.val (.int p0), .val (.int p1), .val (.int (3 : Int32)), .val (.ref b2), .val (.int nv), .val (.ref b70), .unset] [(.int (2 : Int32)), (.ref b2), (.int nv), (.int (0 : Int32)), (.ref b70)])) _
          refine X80.iaload hx (j := (2 : Int32)) (v := (.int (100 : Int32))) (by rw [e80]; exact Ar82.1) (State.isArrayOf_alike hZ.alike Ar82.2.1) Ar82.2.2 hin82 hat82 (g := (mkF m 147 #[.val (.int p0), .val (.int p1), .val (.int (3 : Int32)), .val (.ref b2), .val (.int nv), .val (.ref b70), .unset] [(.int (2 : Int32)), (.ref b2), (.int nv), (.int (0 : Int32)), (.ref b70)])) rfl rfl (hb hby at_147) _ ?_
          show Steps p.tables e below (T80.setTop (mkF m 148 #[.val (.int p0), .val (.int p1), .val (.int (3 : Int32)), .val (.ref b2), .val (.int nv), .val (.ref b70), .unset] [(.int (100 : Int32)), (.int nv), (.int (0 : Int32)), (.ref b70)])) _
          refine st83 _ ?_
          show Steps p.tables e below (T83.setTop (mkF m 151 #[.val (.int p0), .val (.int p1), .val (.int (3 : Int32)), .val (.ref b2), .val (.int nv), .val (.ref b70), .unset] [(.int (dV nv (100 : Int32))), (.int (0 : Int32)), (.ref b70)])) _
          refine st85 _ ?_
          refine XS.iloadN X85.here hx rfl (hb hby at_152) rfl ?_
          refine XS.iconst X85.here hx rfl (hb hby at_153) ?_
          show Steps p.tables e below (T85.setTop (mkF m 154 #[.val (.int p0), .val (.int p1), .val (.int (3 : Int32)), .val (.ref b2), .val (.int nv), .val (.ref b70), .unset] [(.int (4 : Int32)), (.int (3 : Int32))])) _
          refine XS.icmpYes X85.here hx rfl (pc0 := 154) (pc' := 171) rfl (hb hby at_154) rfl (tlt (show (3 : Int32) < (4 : Int32) from (by decide))).1 (by decide) (by decide) ?_
          refine XS.iloadN X85.here hx rfl (hb hby at_171) rfl ?_
          refine XS.iconst X85.here hx rfl (hb hby at_172) ?_
          show Steps p.tables e below (T85.setTop (mkF m 173 #[.val (.int p0), .val (.int p1), .val (.int (3 : Int32)), .val (.ref b2), .val (.int nv), .val (.ref b70), .unset] [(.int (5 : Int32)), (.int (3 : Int32))])) _
          refine XS.icmpYes X85.here hx rfl (pc0 := 173) (pc' := 190) rfl (hb hby at_173) rfl (tlt (show (3 : Int32) < (5 : Int32) from (by decide))).1 (by decide) (by decide) ?_
          refine XS.iloadN X85.here hx rfl (hb hby at_190) rfl ?_
          refine XS.bipush X85.here hx rfl (hb hby at_191) ?_
          show Steps p.tables e below (T85.setTop (mkF m 193 #[.val (.int p0), .val (.int p1), .val (.int (3 : Int32)), .val (.ref b2), .val (.int nv), .val (.ref b70), .unset] [(.int (6 : Int32)), (.int (3 : Int32))])) _
          refine XS.icmpYes X85.here hx rfl (pc0 := 193) (pc' := 211) rfl (hb hby at_193) rfl (tlt (show (3 : Int32) < (6 : Int32) from (by decide))).1 (by decide) (by decide) ?_
          refine XS.iloadN X85.here hx rfl (hb hby at_211) rfl ?_
          refine XS.bipush X85.here hx rfl (hb hby at_212) ?_
          show Steps p.tables e below (T85.setTop (mkF m 214 #[.val (.int p0), .val (.int p1), .val (.int (3 : Int32)), .val (.ref b2), .val (.int nv), .val (.ref b70), .unset] [(.int (7 : Int32)), (.int (3 : Int32))])) _
          refine XS.icmpYes X85.here hx rfl (pc0 := 214) (pc' := 233) rfl (hb hby at_214) rfl (tlt (show (3 : Int32) < (7 : Int32) from (by decide))).1 (by decide) (by decide) ?_
          refine XS.iloadN X85.here hx rfl (hb hby at_233) rfl ?_
          refine XS.bipush X85.here hx rfl (hb hby at_234) ?_
          show Steps p.tables e below (T85.setTop (mkF m 236 #[.val (.int p0), .val (.int p1), .val (.int (3 : Int32)), .val (.ref b2), .val (.int nv), .val (.ref b70), .unset] [(.int (8 : Int32)), (.int (3 : Int32))])) _
          refine XS.icmpYes X85.here hx rfl (pc0 := 236) (pc' := 255) rfl (hb hby at_236) rfl (tlt (show (3 : Int32) < (8 : Int32) from (by decide))).1 (by decide) (by decide) ?_
          refine XS.iloadN X85.here hx rfl (hb hby at_255) rfl ?_
          refine XS.bipush X85.here hx rfl (hb hby at_256) ?_
          show Steps p.tables e below (T85.setTop (mkF m 258 #[.val (.int p0), .val (.int p1), .val (.int (3 : Int32)), .val (.ref b2), .val (.int nv), .val (.ref b70), .unset] [(.int (9 : Int32)), (.int (3 : Int32))])) _
          refine XS.icmpYes X85.here hx rfl (pc0 := 258) (pc' := 277) rfl (hb hby at_258) rfl (tlt (show (3 : Int32) < (9 : Int32) from (by decide))).1 (by decide) (by decide) ?_
          refine XS.iloadN X85.here hx rfl (hb hby at_277) rfl ?_
          refine XS.bipush X85.here hx rfl (hb hby at_278) ?_
          show Steps p.tables e below (T85.setTop (mkF m 280 #[.val (.int p0), .val (.int p1), .val (.int (3 : Int32)), .val (.ref b2), .val (.int nv), .val (.ref b70), .unset] [(.int (10 : Int32)), (.int (3 : Int32))])) _
          refine XS.icmpYes X85.here hx rfl (pc0 := 280) (pc' := 299) rfl (hb hby at_280) rfl (tlt (show (3 : Int32) < (10 : Int32) from (by decide))).1 (by decide) (by decide) ?_
          refine XS.iloadN X85.here hx rfl (hb hby at_299) rfl ?_
          refine XS.bipush X85.here hx rfl (hb hby at_300) ?_
          show Steps p.tables e below (T85.setTop (mkF m 302 #[.val (.int p0), .val (.int p1), .val (.int (3 : Int32)), .val (.ref b2), .val (.int nv), .val (.ref b70), .unset] [(.int (11 : Int32)), (.int (3 : Int32))])) _
          refine XS.icmpYes X85.here hx rfl (pc0 := 302) (pc' := 314) rfl (hb hby at_302) rfl (tlt (show (3 : Int32) < (11 : Int32) from (by decide))).1 (by decide) (by decide) ?_
          refine XS.iloadN X85.here hx rfl (hb hby at_314) rfl ?_
          refine XS.bipush X85.here hx rfl (hb hby at_315) ?_
          show Steps p.tables e below (T85.setTop (mkF m 317 #[.val (.int p0), .val (.int p1), .val (.int (3 : Int32)), .val (.ref b2), .val (.int nv), .val (.ref b70), .unset] [(.int (12 : Int32)), (.int (3 : Int32))])) _
          refine XS.icmpYes X85.here hx rfl (pc0 := 317) (pc' := 329) rfl (hb hby at_317) rfl (tlt (show (3 : Int32) < (12 : Int32) from (by decide))).1 (by decide) (by decide) ?_
          show Steps p.tables e below (T85.setTop (mkF m 329 #[.val (.int p0), .val (.int p1), .val (.int (3 : Int32)), .val (.ref b2), .val (.int nv), .val (.ref b70), .unset] [])) _
          refine st88 _ ?_
          show Steps p.tables e below (T88.setTop (mkF m 332 #[.val (.int p0), .val (.int p1), .val (.int (3 : Int32)), .val (.ref b2), .val (.int nv), .val (.ref b70), .unset] [(.ref b88)])) _
          refine XS.dup X88.here hx rfl (hb hby at_332) rfl rfl ?_
          refine XS.aload X88.here hx rfl (hb hby at_333) rfl rfl ?_
          show Steps p.tables e below (T88.setTop (mkF m 335 #[.val (.int p0), .val (.int p1), .val (.int (3 : Int32)), .val (.ref b2), .val (.int nv), .val (.ref b70), .unset] [(.ref b70), (.ref b88), (.ref b88)])) _
          refine st89.trans ?_
          refine XS.astore X89.here hx rfl (hb hby at_338) rfl rfl (l' := #[.val (.int p0), .val (.int p1), .val (.int (3 : Int32)), .val (.ref b2), .val (.int nv), .val (.ref b70), .val (.ref b88)]) rfl ?_
          refine XS.aload Xx95.here hx rfl (hb hby at_340) rfl rfl ?_
          show Steps p.tables e below (T89.setTop (mkF m 342 #[.val (.int p0), .val (.int p1), .val (.int (3 : Int32)), .val (.ref b2), .val (.int nv), .val (.ref b70), .val (.ref b88)] [(.ref b88)])) _
          refine st96 _ ?_
          show Steps p.tables e below (T96.setTop (mkF m 345 #[.val (.int p0), .val (.int p1), .val (.int (3 : Int32)), .val (.ref b2), .val (.int nv), .val (.ref b70), .val (.ref b88)] [(.int ((pv ([(nar .char (dV nv (100 : Int32))), (nar .char (dV nv (10 : Int32))), (nar .char (dV nv (1 : Int32)))] : List Int32) ([(nar .char (dV nv (100 : Int32))), (nar .char (dV nv (10 : Int32))), (nar .char (dV nv (1 : Int32)))] : List Int32).length).toInt32))])) _
          refine XS.iload X96.here hx rfl (hb hby at_345) rfl ?_
          show Steps p.tables e below (T96.setTop (mkF m 347 #[.val (.int p0), .val (.int p1), .val (.int (3 : Int32)), .val (.ref b2), .val (.int nv), .val (.ref b70), .val (.ref b88)] [(.int nv), (.int ((pv ([(nar .char (dV nv (100 : Int32))), (nar .char (dV nv (10 : Int32))), (nar .char (dV nv (1 : Int32)))] : List Int32) ([(nar .char (dV nv (100 : Int32))), (nar .char (dV nv (10 : Int32))), (nar .char (dV nv (1 : Int32)))] : List Int32).length).toInt32))])) _
          refine XS.icmpNo X96.here hx rfl (hb hby at_347) rfl (teq (show ((pv ([(nar .char (dV nv (100 : Int32))), (nar .char (dV nv (10 : Int32))), (nar .char (dV nv (1 : Int32)))] : List Int32) ([(nar .char (dV nv (100 : Int32))), (nar .char (dV nv (10 : Int32))), (nar .char (dV nv (1 : Int32)))] : List Int32).length).toInt32) = nv from hfin)).2 ?_
          refine XS.iconst X96.here hx rfl (hb hby at_350) ?_
          refine XS.goto X96.here hx rfl (pc0 := 351) (pc' := 355) rfl (hb hby at_351) (by decide) (by decide) ?_
          show Steps p.tables e below (T96.setTop (mkF m 355 #[.val (.int p0), .val (.int p1), .val (.int (3 : Int32)), .val (.ref b2), .val (.int nv), .val (.ref b70), .val (.ref b88)] [(.int (1 : Int32))])) _
          exact retN X96 hx (t := .boolean) Bd.returns (by simp) (hb hby at_355) hr
        · show Q0 h0 n0 _ T96.heap _
          rw [e96]
          exact ⟨rfl, N96⟩
      · by_cases hl4 : len = (4 : Int32)
        · rw [hl4] at pre23
          obtain ⟨cl97, Ar97, -, S97, Nn97, Hh97, -⟩ := id V22
          have hin97 : ¬ ((4 : Int32) < 0 ∨ cl97.slots.size ≤ ((4 : Int32)).toNatClampNeg) := inb_of S97 ⟨by decide, by decide⟩
          have hat97 : cl97.slots[((4 : Int32)).toNatClampNeg]? = some (.int (10000 : Int32)) := Hh97.at hin97 rfl
          have pre98 : ∀ t, Steps p.tables e below (T22.setTop (mkF m 90 #[.val (.int p0), .val (.int p1), .val (.int (4 : Int32)), .val (.ref b2), .val (.int ((p0 &&& (2147483647 : Int32)) - ((p0 &&& (2147483647 : Int32)) / (10000 : Int32)) * (10000 : Int32))), .unset, .unset] [])) t → Steps p.tables e below (s₁.setTop (entryFrame m #[(.int p0), (.int p1)] maxLocals)) t := fun t kt => pre23 t (by
              show Steps p.tables e below (T22.setTop (mkF m 70 #[.val (.int p0), .val (.int p1), .val (.int (4 : Int32)), .val (.ref b2), .unset, .unset, .unset] [])) _
              refine XS.iloadN Xx24.here hx rfl (hb hby at_70) rfl ?_
              show Steps p.tables e below (T22.setTop (mkF m 71 #[.val (.int p0), .val (.int p1), .val (.int (4 : Int32)), .val (.ref b2), .unset, .unset, .unset] [(.int p0)])) _
              refine Xx24.ldcI hx hown (mvT hZ (hw _ (List.mem_of_getElem? (i := 6) rfl))) (g := (mkF m 71 #[.val (.int p0), .val (.int p1), .val (.int (4 : Int32)), .val (.ref b2), .unset, .unset, .unset] [(.int p0)])) rfl (hb hby at_71) ?_
              show Steps p.tables e below (T22.setTop (mkF m 73 #[.val (.int p0), .val (.int p1), .val (.int (4 : Int32)), .val (.ref b2), .unset, .unset, .unset] [(.int (2147483647 : Int32)), (.int p0)])) _
              refine XS.iand Xx24.here hx rfl (hb hby at_73) rfl ?_
              refine XS.istore Xx24.here hx rfl (hb hby at_74) rfl (l' := #[.val (.int p0), .val (.int p1), .val (.int (4 : Int32)), .val (.ref b2), .val (.int (p0 &&& (2147483647 : Int32))), .unset, .unset]) rfl ?_
              refine XS.iloadN Xx24.here hx rfl (hb hby at_76) rfl ?_
              refine XS.bipush Xx24.here hx rfl (hb hby at_77) ?_
              show Steps p.tables e below (T22.setTop (mkF m 79 #[.val (.int p0), .val (.int p1), .val (.int (4 : Int32)), .val (.ref b2), .val (.int (p0 &&& (2147483647 : Int32))), .unset, .unset] [(.int (10 : Int32)), (.int (4 : Int32))])) _
              refine XS.icmpNo Xx24.here hx rfl (hb hby at_79) rfl (tlt (show (4 : Int32) < (10 : Int32) from (by decide))).2.1 ?_
              refine XS.iload Xx24.here hx rfl (hb hby at_82) rfl ?_
              refine XS.aloadN Xx24.here hx rfl (hb hby at_84) rfl rfl ?_
              refine XS.iloadN Xx24.here hx rfl (hb hby at_85) rfl ?_
              show Steps p.tables e below (T22.setTop (mkF m 86 #[.val (.int p0), .val (.int p1), .val (.int (4 : Int32)), .val (.ref b2), .val (.int (p0 &&& (2147483647 : Int32))), .unset, .unset] [(.int (4 : Int32)), (.ref b2), (.int (p0 &&& (2147483647 : Int32)))])) _
              refine Xx24.iaload hx (j := (4 : Int32)) (v := (.int (10000 : Int32))) (by rw [e22]; exact Ar97.1) (State.isArrayOf_alike hZ.alike Ar97.2.1) Ar97.2.2 hin97 hat97 (g := (mkF m 86 #[.val (.int p0), .val (.int p1), .val (.int (4 : Int32)), .val (.ref b2), .val (.int (p0 &&& (2147483647 : Int32))), .unset, .unset] [(.int (4 : Int32)), (.ref b2), (.int (p0 &&& (2147483647 : Int32)))])) rfl rfl (hb hby at_86) _ ?_
              show Steps p.tables e below (T22.setTop (mkF m 87 #[.val (.int p0), .val (.int p1), .val (.int (4 : Int32)), .val (.ref b2), .val (.int (p0 &&& (2147483647 : Int32))), .unset, .unset] [(.int (10000 : Int32)), (.int (p0 &&& (2147483647 : Int32)))])) _
              refine XS.irem Xx24.here hx rfl (hb hby at_87) rfl (by decide) ?_
              refine XS.istore Xx24.here hx rfl (hb hby at_88) rfl (l' := #[.val (.int p0), .val (.int p1), .val (.int (4 : Int32)), .val (.ref b2), .val (.int ((p0 &&& (2147483647 : Int32)) - ((p0 &&& (2147483647 : Int32)) / (10000 : Int32)) * (10000 : Int32))), .unset, .unset]) rfl ?_
              exact kt)
          obtain ⟨nv, hnv⟩ : ∃ z : Int32, z = ((p0 &&& (2147483647 : Int32)) - ((p0 &&& (2147483647 : Int32)) / (10000 : Int32)) * (10000 : Int32)) := ⟨_, rfl⟩
          rw [← hnv] at pre98
          have hnb : 0 ≤ nv.toInt ∧ nv.toInt < 10 ^ 4 := by rw [hnv]; exact own_nlt10 p0 (10000 : Int32) (by decide)
          obtain ⟨T99, h99, k99, X99, e99, E99, A99, st99⟩ := newP Xx24 hx hZ (hw _ (List.mem_of_getElem? (i := 7) rfl)) e22 (g := (mkF m 91 #[.val (.int p0), .val (.int p1), .val (.int (4 : Int32)), .val (.ref b2), .val (.int nv), .unset, .unset] [(.int (4 : Int32))])) rfl (hb hby at_91) rfl (by decide) (cap := 4) (by decide) (by decide) (by decide) (by decide)
          obtain ⟨b99, g99⟩ : ∃ z, z = h22.size := ⟨_, rfl⟩
          rw [← g99] at A99 st99
          have g_b99 : n0 ≤ b99 := Nat.le_trans Z22 (Nat.le_of_eq g99.symm)
          have sz_b99 : h0.size ≤ b99 := Nat.le_trans K22.1 (Nat.le_of_eq g99.symm)
          have ne_b2_b99 : b2 ≠ b99 := Nat.ne_of_lt (Nat.lt_of_lt_of_le V22.lt (Nat.le_of_eq g99.symm))
          have K99 : Keep h0 h99 [] := Keep.ext K22 E99
          have Z99 : n0 ≤ h99.size := Nat.le_trans Z0 K99.1
          have V_b99 : Arv Z h99 b99 k99 .char (4 : Int32) [(.int (0 : Int32)), (.int (0 : Int32)), (.int (0 : Int32)), (.int (0 : Int32))] (.int (0 : Int32)) := (Arv.new A99 (by decide)).pad (pad_rep [] (.int (0 : Int32)) 4)
          have f100 := (V22.ext E99)
          obtain ⟨cl101, Ar101, -, S101, Nn101, Hh101, -⟩ := id f100
          have hin101 : ¬ ((0 : Int32) < 0 ∨ cl101.slots.size ≤ ((0 : Int32)).toNatClampNeg) := inb_of S101 ⟨by decide, by decide⟩
          have hat101 : cl101.slots[((0 : Int32)).toNatClampNeg]? = some (.int (1 : Int32)) := Hh101.at hin101 rfl
          obtain ⟨_, _, ⟨T102, L102, k102, n102⟩, -, X102, ⟨Lc102, hQ102, l102, y102, z102⟩, st102⟩ := Jvm.LawKit.callS X99 hx (y := (⟨"com/example/libforeword/libforeword/wordlist/EntryParseFrequencyPinLaw", "d", "(II)C"⟩ : MethodName)) hown (mvT hZ (hw _ (List.mem_of_getElem? (i := 8) rfl))) (mvT hZ (hw _ (List.mem_of_getElem? (i := 9) rfl))) (mvT hZ (hw _ (List.mem_of_getElem? (i := 10) rfl))) (mvT hZ (hw _ (List.mem_of_getElem? (i := 11) rfl))) (by decide) (backOf (W := 2) (rmDD l Z a0 hw [] nv (1 : Int32) h99 n0 Z99 (by decide)) hZ (hw _ (List.mem_of_getElem? (i := 11) rfl)) (hw _ (List.mem_of_getElem? (i := 10) rfl)) (by decide) (by decide)) (g := (mkF m 110 #[.val (.int p0), .val (.int p1), .val (.int (4 : Int32)), .val (.ref b2), .val (.int nv), .val (.ref b99), .unset] [(.int (1 : Int32)), (.int nv), (.int (3 : Int32)), (.ref b99)])) rfl (by rw [hml]; rfl) (argsL := [(.int nv), (.int (1 : Int32))]) (rest := [(.int (3 : Int32)), (.ref b99)]) (lenOf pd_3 rfl) rfl (by show 2 * 0 + _ ≤ _; exact Nat.le_of_eq rfl) (hb hby at_110) (fun _ _ => ⟨rfl, e99, (by decide : 2 + 0 ≤ _), (by decide : 14 + 0 ≤ _)⟩)
          dsimp only [Pt.U, Pt.locs, Pt.cells, Pt.slots] at X102 l102 y102 z102 st102 hQ102
          subst l102 y102 z102
          obtain ⟨rfl, N102q, e102⟩ := hQ102
          have N102 := Fr.app Nx24 N102q
          obtain ⟨cl103, Ar103, q103, S103, Nn103, Hh103, Gg103⟩ := id V_b99
          have hin103 : ¬ ((3 : Int32) < 0 ∨ cl103.slots.size ≤ ((3 : Int32)).toNatClampNeg) := inb_of S103 ⟨by decide, by decide⟩
          obtain ⟨T104, h104, X104, e104, W104, st104⟩ := stC X102 hx hZ e102 Ar103 (j := (3 : Int32)) hin103 (g := (mkF m 113 #[.val (.int p0), .val (.int p1), .val (.int (4 : Int32)), .val (.ref b2), .val (.int nv), .val (.ref b99), .unset] [(.int (dV nv (1 : Int32))), (.int (3 : Int32)), (.ref b99)])) rfl rfl (hb hby at_113)
          have V104 : Arv Z h104 b99 k99 .char (4 : Int32) [(.int (0 : Int32)), (.int (0 : Int32)), (.int (0 : Int32)), (.int (nar .char (dV nv (1 : Int32))))] (.int (0 : Int32)) := Arv.set Ar103 q103 S103 Nn103 Hh103 Gg103 (fits_nar_char _) W104 3 rfl (Nat.le_of_ble_eq_true rfl)
          have K104 : Keep h0 h104 [] := Keep.wr K99 W104 (Or.inr sz_b99)
          have Z104 : n0 ≤ h104.size := Nat.le_trans Z0 K104.1
          have N104 := Fr.snoc X104 N102 g_b99
          have f105 := (f100.other W104 ne_b2_b99)
          obtain ⟨cl106, Ar106, -, S106, Nn106, Hh106, -⟩ := id f105
          have hin106 : ¬ ((1 : Int32) < 0 ∨ cl106.slots.size ≤ ((1 : Int32)).toNatClampNeg) := inb_of S106 ⟨by decide, by decide⟩
          have hat106 : cl106.slots[((1 : Int32)).toNatClampNeg]? = some (.int (10 : Int32)) := Hh106.at hin106 rfl
          obtain ⟨_, _, ⟨T107, L107, k107, n107⟩, -, X107, ⟨Lc107, hQ107, l107, y107, z107⟩, st107⟩ := Jvm.LawKit.callS X104 hx (y := (⟨"com/example/libforeword/libforeword/wordlist/EntryParseFrequencyPinLaw", "d", "(II)C"⟩ : MethodName)) hown (mvT hZ (hw _ (List.mem_of_getElem? (i := 8) rfl))) (mvT hZ (hw _ (List.mem_of_getElem? (i := 9) rfl))) (mvT hZ (hw _ (List.mem_of_getElem? (i := 10) rfl))) (mvT hZ (hw _ (List.mem_of_getElem? (i := 11) rfl))) (by decide) (backOf (W := 2) (rmDD l Z a0 hw [] nv (10 : Int32) h104 n0 Z104 (by decide)) hZ (hw _ (List.mem_of_getElem? (i := 11) rfl)) (hw _ (List.mem_of_getElem? (i := 10) rfl)) (by decide) (by decide)) (g := (mkF m 129 #[.val (.int p0), .val (.int p1), .val (.int (4 : Int32)), .val (.ref b2), .val (.int nv), .val (.ref b99), .unset] [(.int (10 : Int32)), (.int nv), (.int (2 : Int32)), (.ref b99)])) rfl (by rw [hml]; rfl) (argsL := [(.int nv), (.int (10 : Int32))]) (rest := [(.int (2 : Int32)), (.ref b99)]) (lenOf pd_3 rfl) rfl (by show 2 * 0 + _ ≤ _; exact Nat.le_of_eq rfl) (hb hby at_129) (fun _ _ => ⟨rfl, e104, (by decide : 2 + 0 ≤ _), (by decide : 14 + 0 ≤ _)⟩)
          dsimp only [Pt.U, Pt.locs, Pt.cells, Pt.slots] at X107 l107 y107 z107 st107 hQ107
          subst l107 y107 z107
          obtain ⟨rfl, N107q, e107⟩ := hQ107
          have N107 := Fr.app N104 N107q
          obtain ⟨cl108, Ar108, q108, S108, Nn108, Hh108, Gg108⟩ := id V104
          have hin108 : ¬ ((2 : Int32) < 0 ∨ cl108.slots.size ≤ ((2 : Int32)).toNatClampNeg) := inb_of S108 ⟨by decide, by decide⟩
          obtain ⟨T109, h109, X109, e109, W109, st109⟩ := stC X107 hx hZ e107 Ar108 (j := (2 : Int32)) hin108 (g := (mkF m 132 #[.val (.int p0), .val (.int p1), .val (.int (4 : Int32)), .val (.ref b2), .val (.int nv), .val (.ref b99), .unset] [(.int (dV nv (10 : Int32))), (.int (2 : Int32)), (.ref b99)])) rfl rfl (hb hby at_132)
          have V109 : Arv Z h109 b99 k99 .char (4 : Int32) [(.int (0 : Int32)), (.int (0 : Int32)), (.int (nar .char (dV nv (10 : Int32)))), (.int (nar .char (dV nv (1 : Int32))))] (.int (0 : Int32)) := Arv.set Ar108 q108 S108 Nn108 Hh108 Gg108 (fits_nar_char _) W109 2 rfl (Nat.le_of_ble_eq_true rfl)
          have K109 : Keep h0 h109 [] := Keep.wr K104 W109 (Or.inr sz_b99)
          have Z109 : n0 ≤ h109.size := Nat.le_trans Z0 K109.1
          have N109 := Fr.snoc X109 N107 g_b99
          have f110 := (f105.other W109 ne_b2_b99)
          obtain ⟨cl111, Ar111, -, S111, Nn111, Hh111, -⟩ := id f110
          have hin111 : ¬ ((2 : Int32) < 0 ∨ cl111.slots.size ≤ ((2 : Int32)).toNatClampNeg) := inb_of S111 ⟨by decide, by decide⟩
          have hat111 : cl111.slots[((2 : Int32)).toNatClampNeg]? = some (.int (100 : Int32)) := Hh111.at hin111 rfl
          obtain ⟨_, _, ⟨T112, L112, k112, n112⟩, -, X112, ⟨Lc112, hQ112, l112, y112, z112⟩, st112⟩ := Jvm.LawKit.callS X109 hx (y := (⟨"com/example/libforeword/libforeword/wordlist/EntryParseFrequencyPinLaw", "d", "(II)C"⟩ : MethodName)) hown (mvT hZ (hw _ (List.mem_of_getElem? (i := 8) rfl))) (mvT hZ (hw _ (List.mem_of_getElem? (i := 9) rfl))) (mvT hZ (hw _ (List.mem_of_getElem? (i := 10) rfl))) (mvT hZ (hw _ (List.mem_of_getElem? (i := 11) rfl))) (by decide) (backOf (W := 2) (rmDD l Z a0 hw [] nv (100 : Int32) h109 n0 Z109 (by decide)) hZ (hw _ (List.mem_of_getElem? (i := 11) rfl)) (hw _ (List.mem_of_getElem? (i := 10) rfl)) (by decide) (by decide)) (g := (mkF m 148 #[.val (.int p0), .val (.int p1), .val (.int (4 : Int32)), .val (.ref b2), .val (.int nv), .val (.ref b99), .unset] [(.int (100 : Int32)), (.int nv), (.int (1 : Int32)), (.ref b99)])) rfl (by rw [hml]; rfl) (argsL := [(.int nv), (.int (100 : Int32))]) (rest := [(.int (1 : Int32)), (.ref b99)]) (lenOf pd_3 rfl) rfl (by show 2 * 0 + _ ≤ _; exact Nat.le_of_eq rfl) (hb hby at_148) (fun _ _ => ⟨rfl, e109, (by decide : 2 + 0 ≤ _), (by decide : 14 + 0 ≤ _)⟩)
          dsimp only [Pt.U, Pt.locs, Pt.cells, Pt.slots] at X112 l112 y112 z112 st112 hQ112
          subst l112 y112 z112
          obtain ⟨rfl, N112q, e112⟩ := hQ112
          have N112 := Fr.app N109 N112q
          obtain ⟨cl113, Ar113, q113, S113, Nn113, Hh113, Gg113⟩ := id V109
          have hin113 : ¬ ((1 : Int32) < 0 ∨ cl113.slots.size ≤ ((1 : Int32)).toNatClampNeg) := inb_of S113 ⟨by decide, by decide⟩
          obtain ⟨T114, h114, X114, e114, W114, st114⟩ := stC X112 hx hZ e112 Ar113 (j := (1 : Int32)) hin113 (g := (mkF m 151 #[.val (.int p0), .val (.int p1), .val (.int (4 : Int32)), .val (.ref b2), .val (.int nv), .val (.ref b99), .unset] [(.int (dV nv (100 : Int32))), (.int (1 : Int32)), (.ref b99)])) rfl rfl (hb hby at_151)
          have V114 : Arv Z h114 b99 k99 .char (4 : Int32) [(.int (0 : Int32)), (.int (nar .char (dV nv (100 : Int32)))), (.int (nar .char (dV nv (10 : Int32)))), (.int (nar .char (dV nv (1 : Int32))))] (.int (0 : Int32)) := Arv.set Ar113 q113 S113 Nn113 Hh113 Gg113 (fits_nar_char _) W114 1 rfl (Nat.le_of_ble_eq_true rfl)
          have K114 : Keep h0 h114 [] := Keep.wr K109 W114 (Or.inr sz_b99)
          have Z114 : n0 ≤ h114.size := Nat.le_trans Z0 K114.1
          have N114 := Fr.snoc X114 N112 g_b99
          have f115 := (f110.other W114 ne_b2_b99)
          obtain ⟨cl116, Ar116, -, S116, Nn116, Hh116, -⟩ := id f115
          have hin116 : ¬ ((3 : Int32) < 0 ∨ cl116.slots.size ≤ ((3 : Int32)).toNatClampNeg) := inb_of S116 ⟨by decide, by decide⟩
          have hat116 : cl116.slots[((3 : Int32)).toNatClampNeg]? = some (.int (1000 : Int32)) := Hh116.at hin116 rfl
          obtain ⟨_, _, ⟨T117, L117, k117, n117⟩, -, X117, ⟨Lc117, hQ117, l117, y117, z117⟩, st117⟩ := Jvm.LawKit.callS X114 hx (y := (⟨"com/example/libforeword/libforeword/wordlist/EntryParseFrequencyPinLaw", "d", "(II)C"⟩ : MethodName)) hown (mvT hZ (hw _ (List.mem_of_getElem? (i := 8) rfl))) (mvT hZ (hw _ (List.mem_of_getElem? (i := 9) rfl))) (mvT hZ (hw _ (List.mem_of_getElem? (i := 10) rfl))) (mvT hZ (hw _ (List.mem_of_getElem? (i := 11) rfl))) (by decide) (backOf (W := 2) (rmDD l Z a0 hw [] nv (1000 : Int32) h114 n0 Z114 (by decide)) hZ (hw _ (List.mem_of_getElem? (i := 11) rfl)) (hw _ (List.mem_of_getElem? (i := 10) rfl)) (by decide) (by decide)) (g := (mkF m 167 #[.val (.int p0), .val (.int p1), .val (.int (4 : Int32)), .val (.ref b2), .val (.int nv), .val (.ref b99), .unset] [(.int (1000 : Int32)), (.int nv), (.int (0 : Int32)), (.ref b99)])) rfl (by rw [hml]; rfl) (argsL := [(.int nv), (.int (1000 : Int32))]) (rest := [(.int (0 : Int32)), (.ref b99)]) (lenOf pd_3 rfl) rfl (by show 2 * 0 + _ ≤ _; exact Nat.le_of_eq rfl) (hb hby at_167) (fun _ _ => ⟨rfl, e114, (by decide : 2 + 0 ≤ _), (by decide : 14 + 0 ≤ _)⟩)
          dsimp only [Pt.U, Pt.locs, Pt.cells, Pt.slots] at X117 l117 y117 z117 st117 hQ117
          subst l117 y117 z117
          obtain ⟨rfl, N117q, e117⟩ := hQ117
          have N117 := Fr.app N114 N117q
          obtain ⟨cl118, Ar118, q118, S118, Nn118, Hh118, Gg118⟩ := id V114
          have hin118 : ¬ ((0 : Int32) < 0 ∨ cl118.slots.size ≤ ((0 : Int32)).toNatClampNeg) := inb_of S118 ⟨by decide, by decide⟩
          obtain ⟨T119, h119, X119, e119, W119, st119⟩ := stC X117 hx hZ e117 Ar118 (j := (0 : Int32)) hin118 (g := (mkF m 170 #[.val (.int p0), .val (.int p1), .val (.int (4 : Int32)), .val (.ref b2), .val (.int nv), .val (.ref b99), .unset] [(.int (dV nv (1000 : Int32))), (.int (0 : Int32)), (.ref b99)])) rfl rfl (hb hby at_170)
          have V119 : Arv Z h119 b99 k99 .char (4 : Int32) [(.int (nar .char (dV nv (1000 : Int32)))), (.int (nar .char (dV nv (100 : Int32)))), (.int (nar .char (dV nv (10 : Int32)))), (.int (nar .char (dV nv (1 : Int32))))] (.int (0 : Int32)) := Arv.set Ar118 q118 S118 Nn118 Hh118 Gg118 (fits_nar_char _) W119 0 rfl (Nat.le_of_ble_eq_true rfl)
          have K119 : Keep h0 h119 [] := Keep.wr K114 W119 (Or.inr sz_b99)
          have Z119 : n0 ≤ h119.size := Nat.le_trans Z0 K119.1
          have N119 := Fr.snoc X119 N117 g_b99
          obtain ⟨lx120, Xx120, Nx120⟩ : ∃ lx, Stand p l e room_1 s m #[(.int p0), (.int p1)] below meth c T119 lx 2 14 ∧ Fr n0 lx := ⟨_, X119, N119⟩
          have f121 := (f115.other W119 ne_b2_b99)
          obtain ⟨T122, h122, X122, e122, E122, A122, D122, -, st122⟩ := newO Xx120 hx hZ hown (hw _ (List.mem_of_getElem? (i := 12) rfl)) (hw _ (List.mem_of_getElem? (i := 13) rfl)) (hw _ (List.mem_of_getElem? (i := 14) rfl)) e119 (g := (mkF m 329 #[.val (.int p0), .val (.int p1), .val (.int (4 : Int32)), .val (.ref b2), .val (.int nv), .val (.ref b99), .unset] [])) rfl (hb hby at_329) (by decide) (by decide)
          obtain ⟨b122, g122⟩ : ∃ z, z = h119.size := ⟨_, rfl⟩
          rw [← g122] at A122 D122 st122
          have g_b122 : n0 ≤ b122 := Nat.le_trans Z119 (Nat.le_of_eq g122.symm)
          have sz_b122 : h0.size ≤ b122 := Nat.le_trans K119.1 (Nat.le_of_eq g122.symm)
          have ne_b2_b122 : b2 ≠ b122 := Nat.ne_of_lt (Nat.lt_of_lt_of_le f121.lt (Nat.le_of_eq g122.symm))
          have ne_b99_b122 : b99 ≠ b122 := Nat.ne_of_lt (Nat.lt_of_lt_of_le V119.lt (Nat.le_of_eq g122.symm))
          have K122 : Keep h0 h122 [] := Keep.ext K119 E122
          have Z122 : n0 ≤ h122.size := Nat.le_trans Z0 K122.1
          have F_coder_b122 : Fld Z h122 b122 "java/lang/String" "coder" "B" (.int (0 : Int32)) := D122 (Or.inr (hw _ (List.mem_of_getElem? (i := 38) rfl))) (ty := .byte) (by decide)
          have F_value_b122 : Fld Z h122 b122 "java/lang/String" "value" "[B" .null := D122 (Or.inr (hw _ (List.mem_of_getElem? (i := 40) rfl))) (ty := (.array .byte)) (by decide)
          have hdg : ∀ i, i < 4 → (([(nar .char (dV nv (1000 : Int32))), (nar .char (dV nv (100 : Int32))), (nar .char (dV nv (10 : Int32))), (nar .char (dV nv (1 : Int32)))] : List Int32).getD i 0).toInt = 48 + (nv.toInt / 10 ^ (4 - 1 - i)) % 10 := fun i hi => match i, hi with
            | 0, _ => by rw [show (([(nar .char (dV nv (1000 : Int32))), (nar .char (dV nv (100 : Int32))), (nar .char (dV nv (10 : Int32))), (nar .char (dV nv (1 : Int32)))] : List Int32)).getD 0 0 = nar .char (dV nv (1000 : Int32)) from rfl, own_dc nv (1000 : Int32) hnb.1 (by decide)]; rfl
            | 1, _ => by rw [show (([(nar .char (dV nv (1000 : Int32))), (nar .char (dV nv (100 : Int32))), (nar .char (dV nv (10 : Int32))), (nar .char (dV nv (1 : Int32)))] : List Int32)).getD 1 0 = nar .char (dV nv (100 : Int32)) from rfl, own_dc nv (100 : Int32) hnb.1 (by decide)]; rfl
            | 2, _ => by rw [show (([(nar .char (dV nv (1000 : Int32))), (nar .char (dV nv (100 : Int32))), (nar .char (dV nv (10 : Int32))), (nar .char (dV nv (1 : Int32)))] : List Int32)).getD 2 0 = nar .char (dV nv (10 : Int32)) from rfl, own_dc nv (10 : Int32) hnb.1 (by decide)]; rfl
            | 3, _ => by rw [show (([(nar .char (dV nv (1000 : Int32))), (nar .char (dV nv (100 : Int32))), (nar .char (dV nv (10 : Int32))), (nar .char (dV nv (1 : Int32)))] : List Int32)).getD 3 0 = nar .char (dV nv (1 : Int32)) from rfl, own_dc nv (1 : Int32) hnb.1 (by decide)]; rfl
            | k + 4, h => absurd h (by omega)
          obtain ⟨hp, hdig, hval, hfin⟩ := own_facts ([(nar .char (dV nv (1000 : Int32))), (nar .char (dV nv (100 : Int32))), (nar .char (dV nv (10 : Int32))), (nar .char (dV nv (1 : Int32)))] : List Int32) nv 4 rfl hnb.1 hnb.2 hdg
          have f124 := (V119.ext E122)
          have f125 := (((((((((((((((((SC.ext E2).wr W4).wr W6).wr W8).wr W10).wr W12).wr W14).wr W16).wr W18).wr W20).wr W22).ext E99).wr W104).wr W109).wr W114).wr W119).ext E122)
          obtain ⟨_, _, ⟨T123, L123, k123, n123⟩, -, X123, ⟨Lc123, hQ123, l123, y123, z123⟩, st123⟩ := X122.specialBack hx (y := (⟨"java/lang/String", "<init>", "([C)V"⟩ : MethodName)) rfl hown (mvT hZ (hw _ (List.mem_of_getElem? (i := 15) rfl))) (mvT hZ (hw _ (List.mem_of_getElem? (i := 16) rfl))) (mvT hZ (hw _ (List.mem_of_getElem? (i := 17) rfl))) (by decide) (StrChars.Road.backV (W := 1) hZ hws (kI := 4) (hw _ (List.mem_of_getElem? (i := 13) rfl)) (cs := ([(nar .char (dV nv (1000 : Int32))), (nar .char (dV nv (100 : Int32))), (nar .char (dV nv (10 : Int32))), (nar .char (dV nv (1 : Int32)))] : List Int32)) (bs := (([(nar .char (dV nv (1000 : Int32))), (nar .char (dV nv (100 : Int32))), (nar .char (dV nv (10 : Int32))), (nar .char (dV nv (1 : Int32)))] : List Int32)).map (fun c => c.toInt8.toInt32)) (n := 4) g_b122 Z122 A122 F_value_b122 F_coder_b122 f124 f125 hC rfl rfl (by decide) (by decide) hp rfl (by decide) (by decide)) (g := (mkF m 335 #[.val (.int p0), .val (.int p1), .val (.int (4 : Int32)), .val (.ref b2), .val (.int nv), .val (.ref b99), .unset] [(.ref b99), (.ref b122), (.ref b122)])) rfl (by rw [hml]; rfl) (Steps.refl _) (a := b122) (argsL := [(.ref b99)]) (rest := [(.ref b122)]) (lenOf pd_4 rfl) rfl (by show 2 * 0 + _ ≤ _; exact Nat.le_of_eq rfl) (hb hby at_335) (fun _ _ => ⟨rfl, e122, (by decide : 3 + 1 ≤ _), (by decide : 18 + 4 ≤ _)⟩)
          dsimp only [Pt.U, Pt.locs, Pt.cells, Pt.slots] at X123 l123 y123 z123 st123 hQ123
          subst l123 y123 z123
          obtain ⟨rfl, N123q, K123, Ex123, Fc123, bt123, kb123, gt123, ge123, nt123, Fv123, AV123⟩ := hQ123
          have sk126 := own_sta_keep1 f125 A122 K123
          have f127 := (((((((((((((((((SG.ext E2).wr W4).wr W6).wr W8).wr W10).wr W12).wr W14).wr W16).wr W18).wr W20).wr W22).ext E99).wr W104).wr W109).wr W114).wr W119).ext E122)
          have sk128 := own_sta_keep1 f127 A122 K123
          have KK123 : Keep h0 T123.heap [] := Keep.trans K122 K123 (own_side1 (Or.inr sz_b122))
          have Z123 : n0 ≤ T123.heap.size := Nat.le_trans Z0 KK123.1
          have N123 := Fr.app Nx120 N123q
          obtain ⟨lx129, Xx129, Nx129⟩ : ∃ lx, Stand p l e room_1 s m #[(.int p0), (.int p1)] below meth c T123 lx 4 22 ∧ Fr n0 lx := ⟨_, X123, N123⟩
          obtain ⟨_, _, ⟨T130, L130, k130, n130⟩, -, X130, ⟨Lc130, hQ130, l130, y130, z130⟩, st130⟩ := Jvm.LawKit.callS Xx129 hx (y := (⟨"com/example/libforeword/libforeword/wordlist/Entry", "parseFrequency", "(Ljava/lang/String;)I"⟩ : MethodName)) hown (mvT hZ (hw _ (List.mem_of_getElem? (i := 41) rfl))) (mvT hZ (hw _ (List.mem_of_getElem? (i := 42) rfl))) (mvT hZ (hw _ (List.mem_of_getElem? (i := 43) rfl))) (mvT hZ (hw _ (List.mem_of_getElem? (i := 44) rfl))) (by decide) (backOf (W := 0) (rmPF l Z a0 hw [] b122 bt123 kb123 ([(nar .char (dV nv (1000 : Int32))), (nar .char (dV nv (100 : Int32))), (nar .char (dV nv (10 : Int32))), (nar .char (dV nv (1 : Int32)))] : List Int32) iC vG T123.heap n0 Z123 Ex123 Fc123 Fv123 AV123 sk126 hC sk128 hvG hp (by show 0 < 4; decide) (by show 4 ≤ 12; decide) hdig hval) hZ (hw _ (List.mem_of_getElem? (i := 44) rfl)) (hw _ (List.mem_of_getElem? (i := 43) rfl)) (by decide) (by decide)) (g := (mkF m 342 #[.val (.int p0), .val (.int p1), .val (.int (4 : Int32)), .val (.ref b2), .val (.int nv), .val (.ref b99), .val (.ref b122)] [(.ref b122)])) rfl (by rw [hml]; rfl) (argsL := [(.ref b122)]) (rest := []) (lenOf pd_5 rfl) rfl (by show 2 * 0 + _ ≤ _; exact Nat.le_of_eq rfl) (hb hby at_342) (fun _ _ => ⟨rfl, rfl, (by decide : 4 + 0 ≤ _), (by decide : 22 + 0 ≤ _)⟩)
          dsimp only [Pt.U, Pt.locs, Pt.cells, Pt.slots] at X130 l130 y130 z130 st130 hQ130
          subst l130 y130 z130
          obtain ⟨rfl, N130q, e130⟩ := hQ130
          have N130 := Fr.app Nx129 N130q
          obtain ⟨fs, hr, hrun, hended, hW, hsame⟩ := X130.leave (v := some (.int (1 : Int32))) (fun h => by rw [Bd.returns] at h; cases h)
          refine ⟨_, _, pre98 _ ?_, hrun, hended, _, _, rfl, ?_, ⟨_, rfl⟩, hW, hsame.mono (by decide) (by decide)⟩
          · show Steps p.tables e below (T22.setTop (mkF m 90 #[.val (.int p0), .val (.int p1), .val (.int (4 : Int32)), .val (.ref b2), .val (.int nv), .unset, .unset] [])) _
            refine XS.iloadN Xx24.here hx rfl (hb hby at_90) rfl ?_
            show Steps p.tables e below (T22.setTop (mkF m 91 #[.val (.int p0), .val (.int p1), .val (.int (4 : Int32)), .val (.ref b2), .val (.int nv), .unset, .unset] [(.int (4 : Int32))])) _
            refine st99 _ ?_
            refine XS.astore X99.here hx rfl (hb hby at_93) rfl rfl (l' := #[.val (.int p0), .val (.int p1), .val (.int (4 : Int32)), .val (.ref b2), .val (.int nv), .val (.ref b99), .unset]) rfl ?_
            refine XS.iloadN X99.here hx rfl (hb hby at_95) rfl ?_
            refine XS.iconst X99.here hx rfl (hb hby at_96) ?_
            show Steps p.tables e below (T99.setTop (mkF m 97 #[.val (.int p0), .val (.int p1), .val (.int (4 : Int32)), .val (.ref b2), .val (.int nv), .val (.ref b99), .unset] [(.int (1 : Int32)), (.int (4 : Int32))])) _
            refine XS.icmpNo X99.here hx rfl (hb hby at_97) rfl (flt (show ¬ ((4 : Int32) < (1 : Int32)) from (by decide))).1 ?_
            refine XS.aload X99.here hx rfl (hb hby at_100) rfl rfl ?_
            refine XS.iloadN X99.here hx rfl (hb hby at_102) rfl ?_
            refine XS.iconst X99.here hx rfl (hb hby at_103) ?_
            show Steps p.tables e below (T99.setTop (mkF m 104 #[.val (.int p0), .val (.int p1), .val (.int (4 : Int32)), .val (.ref b2), .val (.int nv), .val (.ref b99), .unset] [(.int (1 : Int32)), (.int (4 : Int32)), (.ref b99)])) _
            refine XS.isub X99.here hx rfl (hb hby at_104) rfl ?_
            refine XS.iload X99.here hx rfl (hb hby at_105) rfl ?_
            refine XS.aloadN X99.here hx rfl (hb hby at_107) rfl rfl ?_
            refine XS.iconst X99.here hx rfl (hb hby at_108) ?_
            show Steps p.tables e below (T99.setTop (mkF m 109 #[.val (.int p0), .val (.int p1), .val (.int (4 : Int32)), .val (.ref b2), .val (.int nv), .val (.ref b99), .unset] [(.int (0 : Int32)), (.ref b2), (.int nv), (.int (3 : Int32)), (.ref b99)])) _
            refine X99.iaload hx (j := (0 : Int32)) (v := (.int (1 : Int32))) (by rw [e99]; exact Ar101.1) (State.isArrayOf_alike hZ.alike Ar101.2.1) Ar101.2.2 hin101 hat101 (g := (mkF m 109 #[.val (.int p0), .val (.int p1), .val (.int (4 : Int32)), .val (.ref b2), .val (.int nv), .val (.ref b99), .unset] [(.int (0 : Int32)), (.ref b2), (.int nv), (.int (3 : Int32)), (.ref b99)])) rfl rfl (hb hby at_109) _ ?_
            show Steps p.tables e below (T99.setTop (mkF m 110 #[.val (.int p0), .val (.int p1), .val (.int (4 : Int32)), .val (.ref b2), .val (.int nv), .val (.ref b99), .unset] [(.int (1 : Int32)), (.int nv), (.int (3 : Int32)), (.ref b99)])) _
            refine st102 _ ?_
            show Steps p.tables e below (T102.setTop (mkF m 113 #[.val (.int p0), .val (.int p1), .val (.int (4 : Int32)), .val (.ref b2), .val (.int nv), .val (.ref b99), .unset] [(.int (dV nv (1 : Int32))), (.int (3 : Int32)), (.ref b99)])) _
            refine st104 _ ?_
            refine XS.iloadN X104.here hx rfl (hb hby at_114) rfl ?_
            refine XS.iconst X104.here hx rfl (hb hby at_115) ?_
            show Steps p.tables e below (T104.setTop (mkF m 116 #[.val (.int p0), .val (.int p1), .val (.int (4 : Int32)), .val (.ref b2), .val (.int nv), .val (.ref b99), .unset] [(.int (2 : Int32)), (.int (4 : Int32))])) _
            refine XS.icmpNo X104.here hx rfl (hb hby at_116) rfl (flt (show ¬ ((4 : Int32) < (2 : Int32)) from (by decide))).1 ?_
            refine XS.aload X104.here hx rfl (hb hby at_119) rfl rfl ?_
            refine XS.iloadN X104.here hx rfl (hb hby at_121) rfl ?_
            refine XS.iconst X104.here hx rfl (hb hby at_122) ?_
            show Steps p.tables e below (T104.setTop (mkF m 123 #[.val (.int p0), .val (.int p1), .val (.int (4 : Int32)), .val (.ref b2), .val (.int nv), .val (.ref b99), .unset] [(.int (2 : Int32)), (.int (4 : Int32)), (.ref b99)])) _
            refine XS.isub X104.here hx rfl (hb hby at_123) rfl ?_
            refine XS.iload X104.here hx rfl (hb hby at_124) rfl ?_
            refine XS.aloadN X104.here hx rfl (hb hby at_126) rfl rfl ?_
            refine XS.iconst X104.here hx rfl (hb hby at_127) ?_
            show Steps p.tables e below (T104.setTop (mkF m 128 #[.val (.int p0), .val (.int p1), .val (.int (4 : Int32)), .val (.ref b2), .val (.int nv), .val (.ref b99), .unset] [(.int (1 : Int32)), (.ref b2), (.int nv), (.int (2 : Int32)), (.ref b99)])) _
            refine X104.iaload hx (j := (1 : Int32)) (v := (.int (10 : Int32))) (by rw [e104]; exact Ar106.1) (State.isArrayOf_alike hZ.alike Ar106.2.1) Ar106.2.2 hin106 hat106 (g := (mkF m 128 #[.val (.int p0), .val (.int p1), .val (.int (4 : Int32)), .val (.ref b2), .val (.int nv), .val (.ref b99), .unset] [(.int (1 : Int32)), (.ref b2), (.int nv), (.int (2 : Int32)), (.ref b99)])) rfl rfl (hb hby at_128) _ ?_
            show Steps p.tables e below (T104.setTop (mkF m 129 #[.val (.int p0), .val (.int p1), .val (.int (4 : Int32)), .val (.ref b2), .val (.int nv), .val (.ref b99), .unset] [(.int (10 : Int32)), (.int nv), (.int (2 : Int32)), (.ref b99)])) _
            refine st107 _ ?_
            show Steps p.tables e below (T107.setTop (mkF m 132 #[.val (.int p0), .val (.int p1), .val (.int (4 : Int32)), .val (.ref b2), .val (.int nv), .val (.ref b99), .unset] [(.int (dV nv (10 : Int32))), (.int (2 : Int32)), (.ref b99)])) _
            refine st109 _ ?_
            refine XS.iloadN X109.here hx rfl (hb hby at_133) rfl ?_
            refine XS.iconst X109.here hx rfl (hb hby at_134) ?_
            show Steps p.tables e below (T109.setTop (mkF m 135 #[.val (.int p0), .val (.int p1), .val (.int (4 : Int32)), .val (.ref b2), .val (.int nv), .val (.ref b99), .unset] [(.int (3 : Int32)), (.int (4 : Int32))])) _
            refine XS.icmpNo X109.here hx rfl (hb hby at_135) rfl (flt (show ¬ ((4 : Int32) < (3 : Int32)) from (by decide))).1 ?_
            refine XS.aload X109.here hx rfl (hb hby at_138) rfl rfl ?_
            refine XS.iloadN X109.here hx rfl (hb hby at_140) rfl ?_
            refine XS.iconst X109.here hx rfl (hb hby at_141) ?_
            show Steps p.tables e below (T109.setTop (mkF m 142 #[.val (.int p0), .val (.int p1), .val (.int (4 : Int32)), .val (.ref b2), .val (.int nv), .val (.ref b99), .unset] [(.int (3 : Int32)), (.int (4 : Int32)), (.ref b99)])) _
            refine XS.isub X109.here hx rfl (hb hby at_142) rfl ?_
            refine XS.iload X109.here hx rfl (hb hby at_143) rfl ?_
            refine XS.aloadN X109.here hx rfl (hb hby at_145) rfl rfl ?_
            refine XS.iconst X109.here hx rfl (hb hby at_146) ?_
            show Steps p.tables e below (T109.setTop (mkF m 147 #[.val (.int p0), .val (.int p1), .val (.int (4 : Int32)), .val (.ref b2), .val (.int nv), .val (.ref b99), .unset] [(.int (2 : Int32)), (.ref b2), (.int nv), (.int (1 : Int32)), (.ref b99)])) _
            refine X109.iaload hx (j := (2 : Int32)) (v := (.int (100 : Int32))) (by rw [e109]; exact Ar111.1) (State.isArrayOf_alike hZ.alike Ar111.2.1) Ar111.2.2 hin111 hat111 (g := (mkF m 147 #[.val (.int p0), .val (.int p1), .val (.int (4 : Int32)), .val (.ref b2), .val (.int nv), .val (.ref b99), .unset] [(.int (2 : Int32)), (.ref b2), (.int nv), (.int (1 : Int32)), (.ref b99)])) rfl rfl (hb hby at_147) _ ?_
            show Steps p.tables e below (T109.setTop (mkF m 148 #[.val (.int p0), .val (.int p1), .val (.int (4 : Int32)), .val (.ref b2), .val (.int nv), .val (.ref b99), .unset] [(.int (100 : Int32)), (.int nv), (.int (1 : Int32)), (.ref b99)])) _
            refine st112 _ ?_
            show Steps p.tables e below (T112.setTop (mkF m 151 #[.val (.int p0), .val (.int p1), .val (.int (4 : Int32)), .val (.ref b2), .val (.int nv), .val (.ref b99), .unset] [(.int (dV nv (100 : Int32))), (.int (1 : Int32)), (.ref b99)])) _
            refine st114 _ ?_
            refine XS.iloadN X114.here hx rfl (hb hby at_152) rfl ?_
            refine XS.iconst X114.here hx rfl (hb hby at_153) ?_
            show Steps p.tables e below (T114.setTop (mkF m 154 #[.val (.int p0), .val (.int p1), .val (.int (4 : Int32)), .val (.ref b2), .val (.int nv), .val (.ref b99), .unset] [(.int (4 : Int32)), (.int (4 : Int32))])) _
            refine XS.icmpNo X114.here hx rfl (hb hby at_154) rfl (flt (show ¬ ((4 : Int32) < (4 : Int32)) from (by decide))).1 ?_
            refine XS.aload X114.here hx rfl (hb hby at_157) rfl rfl ?_
            refine XS.iloadN X114.here hx rfl (hb hby at_159) rfl ?_
            refine XS.iconst X114.here hx rfl (hb hby at_160) ?_
            show Steps p.tables e below (T114.setTop (mkF m 161 #[.val (.int p0), .val (.int p1), .val (.int (4 : Int32)), .val (.ref b2), .val (.int nv), .val (.ref b99), .unset] [(.int (4 : Int32)), (.int (4 : Int32)), (.ref b99)])) _
            refine XS.isub X114.here hx rfl (hb hby at_161) rfl ?_
            refine XS.iload X114.here hx rfl (hb hby at_162) rfl ?_
            refine XS.aloadN X114.here hx rfl (hb hby at_164) rfl rfl ?_
            refine XS.iconst X114.here hx rfl (hb hby at_165) ?_
            show Steps p.tables e below (T114.setTop (mkF m 166 #[.val (.int p0), .val (.int p1), .val (.int (4 : Int32)), .val (.ref b2), .val (.int nv), .val (.ref b99), .unset] [(.int (3 : Int32)), (.ref b2), (.int nv), (.int (0 : Int32)), (.ref b99)])) _
            refine X114.iaload hx (j := (3 : Int32)) (v := (.int (1000 : Int32))) (by rw [e114]; exact Ar116.1) (State.isArrayOf_alike hZ.alike Ar116.2.1) Ar116.2.2 hin116 hat116 (g := (mkF m 166 #[.val (.int p0), .val (.int p1), .val (.int (4 : Int32)), .val (.ref b2), .val (.int nv), .val (.ref b99), .unset] [(.int (3 : Int32)), (.ref b2), (.int nv), (.int (0 : Int32)), (.ref b99)])) rfl rfl (hb hby at_166) _ ?_
            show Steps p.tables e below (T114.setTop (mkF m 167 #[.val (.int p0), .val (.int p1), .val (.int (4 : Int32)), .val (.ref b2), .val (.int nv), .val (.ref b99), .unset] [(.int (1000 : Int32)), (.int nv), (.int (0 : Int32)), (.ref b99)])) _
            refine st117 _ ?_
            show Steps p.tables e below (T117.setTop (mkF m 170 #[.val (.int p0), .val (.int p1), .val (.int (4 : Int32)), .val (.ref b2), .val (.int nv), .val (.ref b99), .unset] [(.int (dV nv (1000 : Int32))), (.int (0 : Int32)), (.ref b99)])) _
            refine st119 _ ?_
            refine XS.iloadN X119.here hx rfl (hb hby at_171) rfl ?_
            refine XS.iconst X119.here hx rfl (hb hby at_172) ?_
            show Steps p.tables e below (T119.setTop (mkF m 173 #[.val (.int p0), .val (.int p1), .val (.int (4 : Int32)), .val (.ref b2), .val (.int nv), .val (.ref b99), .unset] [(.int (5 : Int32)), (.int (4 : Int32))])) _
            refine XS.icmpYes X119.here hx rfl (pc0 := 173) (pc' := 190) rfl (hb hby at_173) rfl (tlt (show (4 : Int32) < (5 : Int32) from (by decide))).1 (by decide) (by decide) ?_
            refine XS.iloadN X119.here hx rfl (hb hby at_190) rfl ?_
            refine XS.bipush X119.here hx rfl (hb hby at_191) ?_
            show Steps p.tables e below (T119.setTop (mkF m 193 #[.val (.int p0), .val (.int p1), .val (.int (4 : Int32)), .val (.ref b2), .val (.int nv), .val (.ref b99), .unset] [(.int (6 : Int32)), (.int (4 : Int32))])) _
            refine XS.icmpYes X119.here hx rfl (pc0 := 193) (pc' := 211) rfl (hb hby at_193) rfl (tlt (show (4 : Int32) < (6 : Int32) from (by decide))).1 (by decide) (by decide) ?_
            refine XS.iloadN X119.here hx rfl (hb hby at_211) rfl ?_
            refine XS.bipush X119.here hx rfl (hb hby at_212) ?_
            show Steps p.tables e below (T119.setTop (mkF m 214 #[.val (.int p0), .val (.int p1), .val (.int (4 : Int32)), .val (.ref b2), .val (.int nv), .val (.ref b99), .unset] [(.int (7 : Int32)), (.int (4 : Int32))])) _
            refine XS.icmpYes X119.here hx rfl (pc0 := 214) (pc' := 233) rfl (hb hby at_214) rfl (tlt (show (4 : Int32) < (7 : Int32) from (by decide))).1 (by decide) (by decide) ?_
            refine XS.iloadN X119.here hx rfl (hb hby at_233) rfl ?_
            refine XS.bipush X119.here hx rfl (hb hby at_234) ?_
            show Steps p.tables e below (T119.setTop (mkF m 236 #[.val (.int p0), .val (.int p1), .val (.int (4 : Int32)), .val (.ref b2), .val (.int nv), .val (.ref b99), .unset] [(.int (8 : Int32)), (.int (4 : Int32))])) _
            refine XS.icmpYes X119.here hx rfl (pc0 := 236) (pc' := 255) rfl (hb hby at_236) rfl (tlt (show (4 : Int32) < (8 : Int32) from (by decide))).1 (by decide) (by decide) ?_
            refine XS.iloadN X119.here hx rfl (hb hby at_255) rfl ?_
            refine XS.bipush X119.here hx rfl (hb hby at_256) ?_
            show Steps p.tables e below (T119.setTop (mkF m 258 #[.val (.int p0), .val (.int p1), .val (.int (4 : Int32)), .val (.ref b2), .val (.int nv), .val (.ref b99), .unset] [(.int (9 : Int32)), (.int (4 : Int32))])) _
            refine XS.icmpYes X119.here hx rfl (pc0 := 258) (pc' := 277) rfl (hb hby at_258) rfl (tlt (show (4 : Int32) < (9 : Int32) from (by decide))).1 (by decide) (by decide) ?_
            refine XS.iloadN X119.here hx rfl (hb hby at_277) rfl ?_
            refine XS.bipush X119.here hx rfl (hb hby at_278) ?_
            show Steps p.tables e below (T119.setTop (mkF m 280 #[.val (.int p0), .val (.int p1), .val (.int (4 : Int32)), .val (.ref b2), .val (.int nv), .val (.ref b99), .unset] [(.int (10 : Int32)), (.int (4 : Int32))])) _
            refine XS.icmpYes X119.here hx rfl (pc0 := 280) (pc' := 299) rfl (hb hby at_280) rfl (tlt (show (4 : Int32) < (10 : Int32) from (by decide))).1 (by decide) (by decide) ?_
            refine XS.iloadN X119.here hx rfl (hb hby at_299) rfl ?_
            refine XS.bipush X119.here hx rfl (hb hby at_300) ?_
            show Steps p.tables e below (T119.setTop (mkF m 302 #[.val (.int p0), .val (.int p1), .val (.int (4 : Int32)), .val (.ref b2), .val (.int nv), .val (.ref b99), .unset] [(.int (11 : Int32)), (.int (4 : Int32))])) _
            refine XS.icmpYes X119.here hx rfl (pc0 := 302) (pc' := 314) rfl (hb hby at_302) rfl (tlt (show (4 : Int32) < (11 : Int32) from (by decide))).1 (by decide) (by decide) ?_
            refine XS.iloadN X119.here hx rfl (hb hby at_314) rfl ?_
            refine XS.bipush X119.here hx rfl (hb hby at_315) ?_
            show Steps p.tables e below (T119.setTop (mkF m 317 #[.val (.int p0), .val (.int p1), .val (.int (4 : Int32)), .val (.ref b2), .val (.int nv), .val (.ref b99), .unset] [(.int (12 : Int32)), (.int (4 : Int32))])) _
            refine XS.icmpYes X119.here hx rfl (pc0 := 317) (pc' := 329) rfl (hb hby at_317) rfl (tlt (show (4 : Int32) < (12 : Int32) from (by decide))).1 (by decide) (by decide) ?_
            show Steps p.tables e below (T119.setTop (mkF m 329 #[.val (.int p0), .val (.int p1), .val (.int (4 : Int32)), .val (.ref b2), .val (.int nv), .val (.ref b99), .unset] [])) _
            refine st122 _ ?_
            show Steps p.tables e below (T122.setTop (mkF m 332 #[.val (.int p0), .val (.int p1), .val (.int (4 : Int32)), .val (.ref b2), .val (.int nv), .val (.ref b99), .unset] [(.ref b122)])) _
            refine XS.dup X122.here hx rfl (hb hby at_332) rfl rfl ?_
            refine XS.aload X122.here hx rfl (hb hby at_333) rfl rfl ?_
            show Steps p.tables e below (T122.setTop (mkF m 335 #[.val (.int p0), .val (.int p1), .val (.int (4 : Int32)), .val (.ref b2), .val (.int nv), .val (.ref b99), .unset] [(.ref b99), (.ref b122), (.ref b122)])) _
            refine st123.trans ?_
            refine XS.astore X123.here hx rfl (hb hby at_338) rfl rfl (l' := #[.val (.int p0), .val (.int p1), .val (.int (4 : Int32)), .val (.ref b2), .val (.int nv), .val (.ref b99), .val (.ref b122)]) rfl ?_
            refine XS.aload Xx129.here hx rfl (hb hby at_340) rfl rfl ?_
            show Steps p.tables e below (T123.setTop (mkF m 342 #[.val (.int p0), .val (.int p1), .val (.int (4 : Int32)), .val (.ref b2), .val (.int nv), .val (.ref b99), .val (.ref b122)] [(.ref b122)])) _
            refine st130 _ ?_
            show Steps p.tables e below (T130.setTop (mkF m 345 #[.val (.int p0), .val (.int p1), .val (.int (4 : Int32)), .val (.ref b2), .val (.int nv), .val (.ref b99), .val (.ref b122)] [(.int ((pv ([(nar .char (dV nv (1000 : Int32))), (nar .char (dV nv (100 : Int32))), (nar .char (dV nv (10 : Int32))), (nar .char (dV nv (1 : Int32)))] : List Int32) ([(nar .char (dV nv (1000 : Int32))), (nar .char (dV nv (100 : Int32))), (nar .char (dV nv (10 : Int32))), (nar .char (dV nv (1 : Int32)))] : List Int32).length).toInt32))])) _
            refine XS.iload X130.here hx rfl (hb hby at_345) rfl ?_
            show Steps p.tables e below (T130.setTop (mkF m 347 #[.val (.int p0), .val (.int p1), .val (.int (4 : Int32)), .val (.ref b2), .val (.int nv), .val (.ref b99), .val (.ref b122)] [(.int nv), (.int ((pv ([(nar .char (dV nv (1000 : Int32))), (nar .char (dV nv (100 : Int32))), (nar .char (dV nv (10 : Int32))), (nar .char (dV nv (1 : Int32)))] : List Int32) ([(nar .char (dV nv (1000 : Int32))), (nar .char (dV nv (100 : Int32))), (nar .char (dV nv (10 : Int32))), (nar .char (dV nv (1 : Int32)))] : List Int32).length).toInt32))])) _
            refine XS.icmpNo X130.here hx rfl (hb hby at_347) rfl (teq (show ((pv ([(nar .char (dV nv (1000 : Int32))), (nar .char (dV nv (100 : Int32))), (nar .char (dV nv (10 : Int32))), (nar .char (dV nv (1 : Int32)))] : List Int32) ([(nar .char (dV nv (1000 : Int32))), (nar .char (dV nv (100 : Int32))), (nar .char (dV nv (10 : Int32))), (nar .char (dV nv (1 : Int32)))] : List Int32).length).toInt32) = nv from hfin)).2 ?_
            refine XS.iconst X130.here hx rfl (hb hby at_350) ?_
            refine XS.goto X130.here hx rfl (pc0 := 351) (pc' := 355) rfl (hb hby at_351) (by decide) (by decide) ?_
            show Steps p.tables e below (T130.setTop (mkF m 355 #[.val (.int p0), .val (.int p1), .val (.int (4 : Int32)), .val (.ref b2), .val (.int nv), .val (.ref b99), .val (.ref b122)] [(.int (1 : Int32))])) _
            exact retN X130 hx (t := .boolean) Bd.returns (by simp) (hb hby at_355) hr
          · show Q0 h0 n0 _ T130.heap _
            rw [e130]
            exact ⟨rfl, N130⟩
        · by_cases hl5 : len = (5 : Int32)
          · rw [hl5] at pre23
            obtain ⟨cl131, Ar131, -, S131, Nn131, Hh131, -⟩ := id V22
            have hin131 : ¬ ((5 : Int32) < 0 ∨ cl131.slots.size ≤ ((5 : Int32)).toNatClampNeg) := inb_of S131 ⟨by decide, by decide⟩
            have hat131 : cl131.slots[((5 : Int32)).toNatClampNeg]? = some (.int (100000 : Int32)) := Hh131.at hin131 rfl
            have pre132 : ∀ t, Steps p.tables e below (T22.setTop (mkF m 90 #[.val (.int p0), .val (.int p1), .val (.int (5 : Int32)), .val (.ref b2), .val (.int ((p0 &&& (2147483647 : Int32)) - ((p0 &&& (2147483647 : Int32)) / (100000 : Int32)) * (100000 : Int32))), .unset, .unset] [])) t → Steps p.tables e below (s₁.setTop (entryFrame m #[(.int p0), (.int p1)] maxLocals)) t := fun t kt => pre23 t (by
                show Steps p.tables e below (T22.setTop (mkF m 70 #[.val (.int p0), .val (.int p1), .val (.int (5 : Int32)), .val (.ref b2), .unset, .unset, .unset] [])) _
                refine XS.iloadN Xx24.here hx rfl (hb hby at_70) rfl ?_
                show Steps p.tables e below (T22.setTop (mkF m 71 #[.val (.int p0), .val (.int p1), .val (.int (5 : Int32)), .val (.ref b2), .unset, .unset, .unset] [(.int p0)])) _
                refine Xx24.ldcI hx hown (mvT hZ (hw _ (List.mem_of_getElem? (i := 6) rfl))) (g := (mkF m 71 #[.val (.int p0), .val (.int p1), .val (.int (5 : Int32)), .val (.ref b2), .unset, .unset, .unset] [(.int p0)])) rfl (hb hby at_71) ?_
                show Steps p.tables e below (T22.setTop (mkF m 73 #[.val (.int p0), .val (.int p1), .val (.int (5 : Int32)), .val (.ref b2), .unset, .unset, .unset] [(.int (2147483647 : Int32)), (.int p0)])) _
                refine XS.iand Xx24.here hx rfl (hb hby at_73) rfl ?_
                refine XS.istore Xx24.here hx rfl (hb hby at_74) rfl (l' := #[.val (.int p0), .val (.int p1), .val (.int (5 : Int32)), .val (.ref b2), .val (.int (p0 &&& (2147483647 : Int32))), .unset, .unset]) rfl ?_
                refine XS.iloadN Xx24.here hx rfl (hb hby at_76) rfl ?_
                refine XS.bipush Xx24.here hx rfl (hb hby at_77) ?_
                show Steps p.tables e below (T22.setTop (mkF m 79 #[.val (.int p0), .val (.int p1), .val (.int (5 : Int32)), .val (.ref b2), .val (.int (p0 &&& (2147483647 : Int32))), .unset, .unset] [(.int (10 : Int32)), (.int (5 : Int32))])) _
                refine XS.icmpNo Xx24.here hx rfl (hb hby at_79) rfl (tlt (show (5 : Int32) < (10 : Int32) from (by decide))).2.1 ?_
                refine XS.iload Xx24.here hx rfl (hb hby at_82) rfl ?_
                refine XS.aloadN Xx24.here hx rfl (hb hby at_84) rfl rfl ?_
                refine XS.iloadN Xx24.here hx rfl (hb hby at_85) rfl ?_
                show Steps p.tables e below (T22.setTop (mkF m 86 #[.val (.int p0), .val (.int p1), .val (.int (5 : Int32)), .val (.ref b2), .val (.int (p0 &&& (2147483647 : Int32))), .unset, .unset] [(.int (5 : Int32)), (.ref b2), (.int (p0 &&& (2147483647 : Int32)))])) _
                refine Xx24.iaload hx (j := (5 : Int32)) (v := (.int (100000 : Int32))) (by rw [e22]; exact Ar131.1) (State.isArrayOf_alike hZ.alike Ar131.2.1) Ar131.2.2 hin131 hat131 (g := (mkF m 86 #[.val (.int p0), .val (.int p1), .val (.int (5 : Int32)), .val (.ref b2), .val (.int (p0 &&& (2147483647 : Int32))), .unset, .unset] [(.int (5 : Int32)), (.ref b2), (.int (p0 &&& (2147483647 : Int32)))])) rfl rfl (hb hby at_86) _ ?_
                show Steps p.tables e below (T22.setTop (mkF m 87 #[.val (.int p0), .val (.int p1), .val (.int (5 : Int32)), .val (.ref b2), .val (.int (p0 &&& (2147483647 : Int32))), .unset, .unset] [(.int (100000 : Int32)), (.int (p0 &&& (2147483647 : Int32)))])) _
                refine XS.irem Xx24.here hx rfl (hb hby at_87) rfl (by decide) ?_
                refine XS.istore Xx24.here hx rfl (hb hby at_88) rfl (l' := #[.val (.int p0), .val (.int p1), .val (.int (5 : Int32)), .val (.ref b2), .val (.int ((p0 &&& (2147483647 : Int32)) - ((p0 &&& (2147483647 : Int32)) / (100000 : Int32)) * (100000 : Int32))), .unset, .unset]) rfl ?_
                exact kt)
            obtain ⟨nv, hnv⟩ : ∃ z : Int32, z = ((p0 &&& (2147483647 : Int32)) - ((p0 &&& (2147483647 : Int32)) / (100000 : Int32)) * (100000 : Int32)) := ⟨_, rfl⟩
            rw [← hnv] at pre132
            have hnb : 0 ≤ nv.toInt ∧ nv.toInt < 10 ^ 5 := by rw [hnv]; exact own_nlt10 p0 (100000 : Int32) (by decide)
            obtain ⟨T133, h133, k133, X133, e133, E133, A133, st133⟩ := newP Xx24 hx hZ (hw _ (List.mem_of_getElem? (i := 7) rfl)) e22 (g := (mkF m 91 #[.val (.int p0), .val (.int p1), .val (.int (5 : Int32)), .val (.ref b2), .val (.int nv), .unset, .unset] [(.int (5 : Int32))])) rfl (hb hby at_91) rfl (by decide) (cap := 5) (by decide) (by decide) (by decide) (by decide)
            obtain ⟨b133, g133⟩ : ∃ z, z = h22.size := ⟨_, rfl⟩
            rw [← g133] at A133 st133
            have g_b133 : n0 ≤ b133 := Nat.le_trans Z22 (Nat.le_of_eq g133.symm)
            have sz_b133 : h0.size ≤ b133 := Nat.le_trans K22.1 (Nat.le_of_eq g133.symm)
            have ne_b2_b133 : b2 ≠ b133 := Nat.ne_of_lt (Nat.lt_of_lt_of_le V22.lt (Nat.le_of_eq g133.symm))
            have K133 : Keep h0 h133 [] := Keep.ext K22 E133
            have Z133 : n0 ≤ h133.size := Nat.le_trans Z0 K133.1
            have V_b133 : Arv Z h133 b133 k133 .char (5 : Int32) [(.int (0 : Int32)), (.int (0 : Int32)), (.int (0 : Int32)), (.int (0 : Int32)), (.int (0 : Int32))] (.int (0 : Int32)) := (Arv.new A133 (by decide)).pad (pad_rep [] (.int (0 : Int32)) 5)
            have f134 := (V22.ext E133)
            obtain ⟨cl135, Ar135, -, S135, Nn135, Hh135, -⟩ := id f134
            have hin135 : ¬ ((0 : Int32) < 0 ∨ cl135.slots.size ≤ ((0 : Int32)).toNatClampNeg) := inb_of S135 ⟨by decide, by decide⟩
            have hat135 : cl135.slots[((0 : Int32)).toNatClampNeg]? = some (.int (1 : Int32)) := Hh135.at hin135 rfl
            obtain ⟨_, _, ⟨T136, L136, k136, n136⟩, -, X136, ⟨Lc136, hQ136, l136, y136, z136⟩, st136⟩ := Jvm.LawKit.callS X133 hx (y := (⟨"com/example/libforeword/libforeword/wordlist/EntryParseFrequencyPinLaw", "d", "(II)C"⟩ : MethodName)) hown (mvT hZ (hw _ (List.mem_of_getElem? (i := 8) rfl))) (mvT hZ (hw _ (List.mem_of_getElem? (i := 9) rfl))) (mvT hZ (hw _ (List.mem_of_getElem? (i := 10) rfl))) (mvT hZ (hw _ (List.mem_of_getElem? (i := 11) rfl))) (by decide) (backOf (W := 2) (rmDD l Z a0 hw [] nv (1 : Int32) h133 n0 Z133 (by decide)) hZ (hw _ (List.mem_of_getElem? (i := 11) rfl)) (hw _ (List.mem_of_getElem? (i := 10) rfl)) (by decide) (by decide)) (g := (mkF m 110 #[.val (.int p0), .val (.int p1), .val (.int (5 : Int32)), .val (.ref b2), .val (.int nv), .val (.ref b133), .unset] [(.int (1 : Int32)), (.int nv), (.int (4 : Int32)), (.ref b133)])) rfl (by rw [hml]; rfl) (argsL := [(.int nv), (.int (1 : Int32))]) (rest := [(.int (4 : Int32)), (.ref b133)]) (lenOf pd_3 rfl) rfl (by show 2 * 0 + _ ≤ _; exact Nat.le_of_eq rfl) (hb hby at_110) (fun _ _ => ⟨rfl, e133, (by decide : 2 + 0 ≤ _), (by decide : 15 + 0 ≤ _)⟩)
            dsimp only [Pt.U, Pt.locs, Pt.cells, Pt.slots] at X136 l136 y136 z136 st136 hQ136
            subst l136 y136 z136
            obtain ⟨rfl, N136q, e136⟩ := hQ136
            have N136 := Fr.app Nx24 N136q
            obtain ⟨cl137, Ar137, q137, S137, Nn137, Hh137, Gg137⟩ := id V_b133
            have hin137 : ¬ ((4 : Int32) < 0 ∨ cl137.slots.size ≤ ((4 : Int32)).toNatClampNeg) := inb_of S137 ⟨by decide, by decide⟩
            obtain ⟨T138, h138, X138, e138, W138, st138⟩ := stC X136 hx hZ e136 Ar137 (j := (4 : Int32)) hin137 (g := (mkF m 113 #[.val (.int p0), .val (.int p1), .val (.int (5 : Int32)), .val (.ref b2), .val (.int nv), .val (.ref b133), .unset] [(.int (dV nv (1 : Int32))), (.int (4 : Int32)), (.ref b133)])) rfl rfl (hb hby at_113)
            have V138 : Arv Z h138 b133 k133 .char (5 : Int32) [(.int (0 : Int32)), (.int (0 : Int32)), (.int (0 : Int32)), (.int (0 : Int32)), (.int (nar .char (dV nv (1 : Int32))))] (.int (0 : Int32)) := Arv.set Ar137 q137 S137 Nn137 Hh137 Gg137 (fits_nar_char _) W138 4 rfl (Nat.le_of_ble_eq_true rfl)
            have K138 : Keep h0 h138 [] := Keep.wr K133 W138 (Or.inr sz_b133)
            have Z138 : n0 ≤ h138.size := Nat.le_trans Z0 K138.1
            have N138 := Fr.snoc X138 N136 g_b133
            have f139 := (f134.other W138 ne_b2_b133)
            obtain ⟨cl140, Ar140, -, S140, Nn140, Hh140, -⟩ := id f139
            have hin140 : ¬ ((1 : Int32) < 0 ∨ cl140.slots.size ≤ ((1 : Int32)).toNatClampNeg) := inb_of S140 ⟨by decide, by decide⟩
            have hat140 : cl140.slots[((1 : Int32)).toNatClampNeg]? = some (.int (10 : Int32)) := Hh140.at hin140 rfl
            obtain ⟨_, _, ⟨T141, L141, k141, n141⟩, -, X141, ⟨Lc141, hQ141, l141, y141, z141⟩, st141⟩ := Jvm.LawKit.callS X138 hx (y := (⟨"com/example/libforeword/libforeword/wordlist/EntryParseFrequencyPinLaw", "d", "(II)C"⟩ : MethodName)) hown (mvT hZ (hw _ (List.mem_of_getElem? (i := 8) rfl))) (mvT hZ (hw _ (List.mem_of_getElem? (i := 9) rfl))) (mvT hZ (hw _ (List.mem_of_getElem? (i := 10) rfl))) (mvT hZ (hw _ (List.mem_of_getElem? (i := 11) rfl))) (by decide) (backOf (W := 2) (rmDD l Z a0 hw [] nv (10 : Int32) h138 n0 Z138 (by decide)) hZ (hw _ (List.mem_of_getElem? (i := 11) rfl)) (hw _ (List.mem_of_getElem? (i := 10) rfl)) (by decide) (by decide)) (g := (mkF m 129 #[.val (.int p0), .val (.int p1), .val (.int (5 : Int32)), .val (.ref b2), .val (.int nv), .val (.ref b133), .unset] [(.int (10 : Int32)), (.int nv), (.int (3 : Int32)), (.ref b133)])) rfl (by rw [hml]; rfl) (argsL := [(.int nv), (.int (10 : Int32))]) (rest := [(.int (3 : Int32)), (.ref b133)]) (lenOf pd_3 rfl) rfl (by show 2 * 0 + _ ≤ _; exact Nat.le_of_eq rfl) (hb hby at_129) (fun _ _ => ⟨rfl, e138, (by decide : 2 + 0 ≤ _), (by decide : 15 + 0 ≤ _)⟩)
            dsimp only [Pt.U, Pt.locs, Pt.cells, Pt.slots] at X141 l141 y141 z141 st141 hQ141
            subst l141 y141 z141
            obtain ⟨rfl, N141q, e141⟩ := hQ141
            have N141 := Fr.app N138 N141q
            obtain ⟨cl142, Ar142, q142, S142, Nn142, Hh142, Gg142⟩ := id V138
            have hin142 : ¬ ((3 : Int32) < 0 ∨ cl142.slots.size ≤ ((3 : Int32)).toNatClampNeg) := inb_of S142 ⟨by decide, by decide⟩
            obtain ⟨T143, h143, X143, e143, W143, st143⟩ := stC X141 hx hZ e141 Ar142 (j := (3 : Int32)) hin142 (g := (mkF m 132 #[.val (.int p0), .val (.int p1), .val (.int (5 : Int32)), .val (.ref b2), .val (.int nv), .val (.ref b133), .unset] [(.int (dV nv (10 : Int32))), (.int (3 : Int32)), (.ref b133)])) rfl rfl (hb hby at_132)
            have V143 : Arv Z h143 b133 k133 .char (5 : Int32) [(.int (0 : Int32)), (.int (0 : Int32)), (.int (0 : Int32)), (.int (nar .char (dV nv (10 : Int32)))), (.int (nar .char (dV nv (1 : Int32))))] (.int (0 : Int32)) := Arv.set Ar142 q142 S142 Nn142 Hh142 Gg142 (fits_nar_char _) W143 3 rfl (Nat.le_of_ble_eq_true rfl)
            have K143 : Keep h0 h143 [] := Keep.wr K138 W143 (Or.inr sz_b133)
            have Z143 : n0 ≤ h143.size := Nat.le_trans Z0 K143.1
            have N143 := Fr.snoc X143 N141 g_b133
            have f144 := (f139.other W143 ne_b2_b133)
            obtain ⟨cl145, Ar145, -, S145, Nn145, Hh145, -⟩ := id f144
            have hin145 : ¬ ((2 : Int32) < 0 ∨ cl145.slots.size ≤ ((2 : Int32)).toNatClampNeg) := inb_of S145 ⟨by decide, by decide⟩
            have hat145 : cl145.slots[((2 : Int32)).toNatClampNeg]? = some (.int (100 : Int32)) := Hh145.at hin145 rfl
            obtain ⟨_, _, ⟨T146, L146, k146, n146⟩, -, X146, ⟨Lc146, hQ146, l146, y146, z146⟩, st146⟩ := Jvm.LawKit.callS X143 hx (y := (⟨"com/example/libforeword/libforeword/wordlist/EntryParseFrequencyPinLaw", "d", "(II)C"⟩ : MethodName)) hown (mvT hZ (hw _ (List.mem_of_getElem? (i := 8) rfl))) (mvT hZ (hw _ (List.mem_of_getElem? (i := 9) rfl))) (mvT hZ (hw _ (List.mem_of_getElem? (i := 10) rfl))) (mvT hZ (hw _ (List.mem_of_getElem? (i := 11) rfl))) (by decide) (backOf (W := 2) (rmDD l Z a0 hw [] nv (100 : Int32) h143 n0 Z143 (by decide)) hZ (hw _ (List.mem_of_getElem? (i := 11) rfl)) (hw _ (List.mem_of_getElem? (i := 10) rfl)) (by decide) (by decide)) (g := (mkF m 148 #[.val (.int p0), .val (.int p1), .val (.int (5 : Int32)), .val (.ref b2), .val (.int nv), .val (.ref b133), .unset] [(.int (100 : Int32)), (.int nv), (.int (2 : Int32)), (.ref b133)])) rfl (by rw [hml]; rfl) (argsL := [(.int nv), (.int (100 : Int32))]) (rest := [(.int (2 : Int32)), (.ref b133)]) (lenOf pd_3 rfl) rfl (by show 2 * 0 + _ ≤ _; exact Nat.le_of_eq rfl) (hb hby at_148) (fun _ _ => ⟨rfl, e143, (by decide : 2 + 0 ≤ _), (by decide : 15 + 0 ≤ _)⟩)
            dsimp only [Pt.U, Pt.locs, Pt.cells, Pt.slots] at X146 l146 y146 z146 st146 hQ146
            subst l146 y146 z146
            obtain ⟨rfl, N146q, e146⟩ := hQ146
            have N146 := Fr.app N143 N146q
            obtain ⟨cl147, Ar147, q147, S147, Nn147, Hh147, Gg147⟩ := id V143
            have hin147 : ¬ ((2 : Int32) < 0 ∨ cl147.slots.size ≤ ((2 : Int32)).toNatClampNeg) := inb_of S147 ⟨by decide, by decide⟩
            obtain ⟨T148, h148, X148, e148, W148, st148⟩ := stC X146 hx hZ e146 Ar147 (j := (2 : Int32)) hin147 (g := (mkF m 151 #[.val (.int p0), .val (.int p1), .val (.int (5 : Int32)), .val (.ref b2), .val (.int nv), .val (.ref b133), .unset] [(.int (dV nv (100 : Int32))), (.int (2 : Int32)), (.ref b133)])) rfl rfl (hb hby at_151)
            have V148 : Arv Z h148 b133 k133 .char (5 : Int32) [(.int (0 : Int32)), (.int (0 : Int32)), (.int (nar .char (dV nv (100 : Int32)))), (.int (nar .char (dV nv (10 : Int32)))), (.int (nar .char (dV nv (1 : Int32))))] (.int (0 : Int32)) := Arv.set Ar147 q147 S147 Nn147 Hh147 Gg147 (fits_nar_char _) W148 2 rfl (Nat.le_of_ble_eq_true rfl)
            have K148 : Keep h0 h148 [] := Keep.wr K143 W148 (Or.inr sz_b133)
            have Z148 : n0 ≤ h148.size := Nat.le_trans Z0 K148.1
            have N148 := Fr.snoc X148 N146 g_b133
            have f149 := (f144.other W148 ne_b2_b133)
            obtain ⟨cl150, Ar150, -, S150, Nn150, Hh150, -⟩ := id f149
            have hin150 : ¬ ((3 : Int32) < 0 ∨ cl150.slots.size ≤ ((3 : Int32)).toNatClampNeg) := inb_of S150 ⟨by decide, by decide⟩
            have hat150 : cl150.slots[((3 : Int32)).toNatClampNeg]? = some (.int (1000 : Int32)) := Hh150.at hin150 rfl
            obtain ⟨_, _, ⟨T151, L151, k151, n151⟩, -, X151, ⟨Lc151, hQ151, l151, y151, z151⟩, st151⟩ := Jvm.LawKit.callS X148 hx (y := (⟨"com/example/libforeword/libforeword/wordlist/EntryParseFrequencyPinLaw", "d", "(II)C"⟩ : MethodName)) hown (mvT hZ (hw _ (List.mem_of_getElem? (i := 8) rfl))) (mvT hZ (hw _ (List.mem_of_getElem? (i := 9) rfl))) (mvT hZ (hw _ (List.mem_of_getElem? (i := 10) rfl))) (mvT hZ (hw _ (List.mem_of_getElem? (i := 11) rfl))) (by decide) (backOf (W := 2) (rmDD l Z a0 hw [] nv (1000 : Int32) h148 n0 Z148 (by decide)) hZ (hw _ (List.mem_of_getElem? (i := 11) rfl)) (hw _ (List.mem_of_getElem? (i := 10) rfl)) (by decide) (by decide)) (g := (mkF m 167 #[.val (.int p0), .val (.int p1), .val (.int (5 : Int32)), .val (.ref b2), .val (.int nv), .val (.ref b133), .unset] [(.int (1000 : Int32)), (.int nv), (.int (1 : Int32)), (.ref b133)])) rfl (by rw [hml]; rfl) (argsL := [(.int nv), (.int (1000 : Int32))]) (rest := [(.int (1 : Int32)), (.ref b133)]) (lenOf pd_3 rfl) rfl (by show 2 * 0 + _ ≤ _; exact Nat.le_of_eq rfl) (hb hby at_167) (fun _ _ => ⟨rfl, e148, (by decide : 2 + 0 ≤ _), (by decide : 15 + 0 ≤ _)⟩)
            dsimp only [Pt.U, Pt.locs, Pt.cells, Pt.slots] at X151 l151 y151 z151 st151 hQ151
            subst l151 y151 z151
            obtain ⟨rfl, N151q, e151⟩ := hQ151
            have N151 := Fr.app N148 N151q
            obtain ⟨cl152, Ar152, q152, S152, Nn152, Hh152, Gg152⟩ := id V148
            have hin152 : ¬ ((1 : Int32) < 0 ∨ cl152.slots.size ≤ ((1 : Int32)).toNatClampNeg) := inb_of S152 ⟨by decide, by decide⟩
            obtain ⟨T153, h153, X153, e153, W153, st153⟩ := stC X151 hx hZ e151 Ar152 (j := (1 : Int32)) hin152 (g := (mkF m 170 #[.val (.int p0), .val (.int p1), .val (.int (5 : Int32)), .val (.ref b2), .val (.int nv), .val (.ref b133), .unset] [(.int (dV nv (1000 : Int32))), (.int (1 : Int32)), (.ref b133)])) rfl rfl (hb hby at_170)
            have V153 : Arv Z h153 b133 k133 .char (5 : Int32) [(.int (0 : Int32)), (.int (nar .char (dV nv (1000 : Int32)))), (.int (nar .char (dV nv (100 : Int32)))), (.int (nar .char (dV nv (10 : Int32)))), (.int (nar .char (dV nv (1 : Int32))))] (.int (0 : Int32)) := Arv.set Ar152 q152 S152 Nn152 Hh152 Gg152 (fits_nar_char _) W153 1 rfl (Nat.le_of_ble_eq_true rfl)
            have K153 : Keep h0 h153 [] := Keep.wr K148 W153 (Or.inr sz_b133)
            have Z153 : n0 ≤ h153.size := Nat.le_trans Z0 K153.1
            have N153 := Fr.snoc X153 N151 g_b133
            have f154 := (f149.other W153 ne_b2_b133)
            obtain ⟨cl155, Ar155, -, S155, Nn155, Hh155, -⟩ := id f154
            have hin155 : ¬ ((4 : Int32) < 0 ∨ cl155.slots.size ≤ ((4 : Int32)).toNatClampNeg) := inb_of S155 ⟨by decide, by decide⟩
            have hat155 : cl155.slots[((4 : Int32)).toNatClampNeg]? = some (.int (10000 : Int32)) := Hh155.at hin155 rfl
            obtain ⟨_, _, ⟨T156, L156, k156, n156⟩, -, X156, ⟨Lc156, hQ156, l156, y156, z156⟩, st156⟩ := Jvm.LawKit.callS X153 hx (y := (⟨"com/example/libforeword/libforeword/wordlist/EntryParseFrequencyPinLaw", "d", "(II)C"⟩ : MethodName)) hown (mvT hZ (hw _ (List.mem_of_getElem? (i := 8) rfl))) (mvT hZ (hw _ (List.mem_of_getElem? (i := 9) rfl))) (mvT hZ (hw _ (List.mem_of_getElem? (i := 10) rfl))) (mvT hZ (hw _ (List.mem_of_getElem? (i := 11) rfl))) (by decide) (backOf (W := 2) (rmDD l Z a0 hw [] nv (10000 : Int32) h153 n0 Z153 (by decide)) hZ (hw _ (List.mem_of_getElem? (i := 11) rfl)) (hw _ (List.mem_of_getElem? (i := 10) rfl)) (by decide) (by decide)) (g := (mkF m 186 #[.val (.int p0), .val (.int p1), .val (.int (5 : Int32)), .val (.ref b2), .val (.int nv), .val (.ref b133), .unset] [(.int (10000 : Int32)), (.int nv), (.int (0 : Int32)), (.ref b133)])) rfl (by rw [hml]; rfl) (argsL := [(.int nv), (.int (10000 : Int32))]) (rest := [(.int (0 : Int32)), (.ref b133)]) (lenOf pd_3 rfl) rfl (by show 2 * 0 + _ ≤ _; exact Nat.le_of_eq rfl) (hb hby at_186) (fun _ _ => ⟨rfl, e153, (by decide : 2 + 0 ≤ _), (by decide : 15 + 0 ≤ _)⟩)
            dsimp only [Pt.U, Pt.locs, Pt.cells, Pt.slots] at X156 l156 y156 z156 st156 hQ156
            subst l156 y156 z156
            obtain ⟨rfl, N156q, e156⟩ := hQ156
            have N156 := Fr.app N153 N156q
            obtain ⟨cl157, Ar157, q157, S157, Nn157, Hh157, Gg157⟩ := id V153
            have hin157 : ¬ ((0 : Int32) < 0 ∨ cl157.slots.size ≤ ((0 : Int32)).toNatClampNeg) := inb_of S157 ⟨by decide, by decide⟩
            obtain ⟨T158, h158, X158, e158, W158, st158⟩ := stC X156 hx hZ e156 Ar157 (j := (0 : Int32)) hin157 (g := (mkF m 189 #[.val (.int p0), .val (.int p1), .val (.int (5 : Int32)), .val (.ref b2), .val (.int nv), .val (.ref b133), .unset] [(.int (dV nv (10000 : Int32))), (.int (0 : Int32)), (.ref b133)])) rfl rfl (hb hby at_189)
            have V158 : Arv Z h158 b133 k133 .char (5 : Int32) [(.int (nar .char (dV nv (10000 : Int32)))), (.int (nar .char (dV nv (1000 : Int32)))), (.int (nar .char (dV nv (100 : Int32)))), (.int (nar .char (dV nv (10 : Int32)))), (.int (nar .char (dV nv (1 : Int32))))] (.int (0 : Int32)) := Arv.set Ar157 q157 S157 Nn157 Hh157 Gg157 (fits_nar_char _) W158 0 rfl (Nat.le_of_ble_eq_true rfl)
            have K158 : Keep h0 h158 [] := Keep.wr K153 W158 (Or.inr sz_b133)
            have Z158 : n0 ≤ h158.size := Nat.le_trans Z0 K158.1
            have N158 := Fr.snoc X158 N156 g_b133
            obtain ⟨lx159, Xx159, Nx159⟩ : ∃ lx, Stand p l e room_1 s m #[(.int p0), (.int p1)] below meth c T158 lx 2 15 ∧ Fr n0 lx := ⟨_, X158, N158⟩
            have f160 := (f154.other W158 ne_b2_b133)
            obtain ⟨T161, h161, X161, e161, E161, A161, D161, -, st161⟩ := newO Xx159 hx hZ hown (hw _ (List.mem_of_getElem? (i := 12) rfl)) (hw _ (List.mem_of_getElem? (i := 13) rfl)) (hw _ (List.mem_of_getElem? (i := 14) rfl)) e158 (g := (mkF m 329 #[.val (.int p0), .val (.int p1), .val (.int (5 : Int32)), .val (.ref b2), .val (.int nv), .val (.ref b133), .unset] [])) rfl (hb hby at_329) (by decide) (by decide)
            obtain ⟨b161, g161⟩ : ∃ z, z = h158.size := ⟨_, rfl⟩
            rw [← g161] at A161 D161 st161
            have g_b161 : n0 ≤ b161 := Nat.le_trans Z158 (Nat.le_of_eq g161.symm)
            have sz_b161 : h0.size ≤ b161 := Nat.le_trans K158.1 (Nat.le_of_eq g161.symm)
            have ne_b2_b161 : b2 ≠ b161 := Nat.ne_of_lt (Nat.lt_of_lt_of_le f160.lt (Nat.le_of_eq g161.symm))
            have ne_b133_b161 : b133 ≠ b161 := Nat.ne_of_lt (Nat.lt_of_lt_of_le V158.lt (Nat.le_of_eq g161.symm))
            have K161 : Keep h0 h161 [] := Keep.ext K158 E161
            have Z161 : n0 ≤ h161.size := Nat.le_trans Z0 K161.1
            have F_coder_b161 : Fld Z h161 b161 "java/lang/String" "coder" "B" (.int (0 : Int32)) := D161 (Or.inr (hw _ (List.mem_of_getElem? (i := 38) rfl))) (ty := .byte) (by decide)
            have F_value_b161 : Fld Z h161 b161 "java/lang/String" "value" "[B" .null := D161 (Or.inr (hw _ (List.mem_of_getElem? (i := 40) rfl))) (ty := (.array .byte)) (by decide)
            have hdg : ∀ i, i < 5 → (([(nar .char (dV nv (10000 : Int32))), (nar .char (dV nv (1000 : Int32))), (nar .char (dV nv (100 : Int32))), (nar .char (dV nv (10 : Int32))), (nar .char (dV nv (1 : Int32)))] : List Int32).getD i 0).toInt = 48 + (nv.toInt / 10 ^ (5 - 1 - i)) % 10 := fun i hi => match i, hi with
              | 0, _ => by rw [show (([(nar .char (dV nv (10000 : Int32))), (nar .char (dV nv (1000 : Int32))), (nar .char (dV nv (100 : Int32))), (nar .char (dV nv (10 : Int32))), (nar .char (dV nv (1 : Int32)))] : List Int32)).getD 0 0 = nar .char (dV nv (10000 : Int32)) from rfl, own_dc nv (10000 : Int32) hnb.1 (by decide)]; rfl
              | 1, _ => by rw [show (([(nar .char (dV nv (10000 : Int32))), (nar .char (dV nv (1000 : Int32))), (nar .char (dV nv (100 : Int32))), (nar .char (dV nv (10 : Int32))), (nar .char (dV nv (1 : Int32)))] : List Int32)).getD 1 0 = nar .char (dV nv (1000 : Int32)) from rfl, own_dc nv (1000 : Int32) hnb.1 (by decide)]; rfl
              | 2, _ => by rw [show (([(nar .char (dV nv (10000 : Int32))), (nar .char (dV nv (1000 : Int32))), (nar .char (dV nv (100 : Int32))), (nar .char (dV nv (10 : Int32))), (nar .char (dV nv (1 : Int32)))] : List Int32)).getD 2 0 = nar .char (dV nv (100 : Int32)) from rfl, own_dc nv (100 : Int32) hnb.1 (by decide)]; rfl
              | 3, _ => by rw [show (([(nar .char (dV nv (10000 : Int32))), (nar .char (dV nv (1000 : Int32))), (nar .char (dV nv (100 : Int32))), (nar .char (dV nv (10 : Int32))), (nar .char (dV nv (1 : Int32)))] : List Int32)).getD 3 0 = nar .char (dV nv (10 : Int32)) from rfl, own_dc nv (10 : Int32) hnb.1 (by decide)]; rfl
              | 4, _ => by rw [show (([(nar .char (dV nv (10000 : Int32))), (nar .char (dV nv (1000 : Int32))), (nar .char (dV nv (100 : Int32))), (nar .char (dV nv (10 : Int32))), (nar .char (dV nv (1 : Int32)))] : List Int32)).getD 4 0 = nar .char (dV nv (1 : Int32)) from rfl, own_dc nv (1 : Int32) hnb.1 (by decide)]; rfl
              | k + 5, h => absurd h (by omega)
            obtain ⟨hp, hdig, hval, hfin⟩ := own_facts ([(nar .char (dV nv (10000 : Int32))), (nar .char (dV nv (1000 : Int32))), (nar .char (dV nv (100 : Int32))), (nar .char (dV nv (10 : Int32))), (nar .char (dV nv (1 : Int32)))] : List Int32) nv 5 rfl hnb.1 hnb.2 hdg
            have f163 := (V158.ext E161)
            have f164 := ((((((((((((((((((SC.ext E2).wr W4).wr W6).wr W8).wr W10).wr W12).wr W14).wr W16).wr W18).wr W20).wr W22).ext E133).wr W138).wr W143).wr W148).wr W153).wr W158).ext E161)
            obtain ⟨_, _, ⟨T162, L162, k162, n162⟩, -, X162, ⟨Lc162, hQ162, l162, y162, z162⟩, st162⟩ := X161.specialBack hx (y := (⟨"java/lang/String", "<init>", "([C)V"⟩ : MethodName)) rfl hown (mvT hZ (hw _ (List.mem_of_getElem? (i := 15) rfl))) (mvT hZ (hw _ (List.mem_of_getElem? (i := 16) rfl))) (mvT hZ (hw _ (List.mem_of_getElem? (i := 17) rfl))) (by decide) (StrChars.Road.backV (W := 1) hZ hws (kI := 4) (hw _ (List.mem_of_getElem? (i := 13) rfl)) (cs := ([(nar .char (dV nv (10000 : Int32))), (nar .char (dV nv (1000 : Int32))), (nar .char (dV nv (100 : Int32))), (nar .char (dV nv (10 : Int32))), (nar .char (dV nv (1 : Int32)))] : List Int32)) (bs := (([(nar .char (dV nv (10000 : Int32))), (nar .char (dV nv (1000 : Int32))), (nar .char (dV nv (100 : Int32))), (nar .char (dV nv (10 : Int32))), (nar .char (dV nv (1 : Int32)))] : List Int32)).map (fun c => c.toInt8.toInt32)) (n := 5) g_b161 Z161 A161 F_value_b161 F_coder_b161 f163 f164 hC rfl rfl (by decide) (by decide) hp rfl (by decide) (by decide)) (g := (mkF m 335 #[.val (.int p0), .val (.int p1), .val (.int (5 : Int32)), .val (.ref b2), .val (.int nv), .val (.ref b133), .unset] [(.ref b133), (.ref b161), (.ref b161)])) rfl (by rw [hml]; rfl) (Steps.refl _) (a := b161) (argsL := [(.ref b133)]) (rest := [(.ref b161)]) (lenOf pd_4 rfl) rfl (by show 2 * 0 + _ ≤ _; exact Nat.le_of_eq rfl) (hb hby at_335) (fun _ _ => ⟨rfl, e161, (by decide : 3 + 1 ≤ _), (by decide : 19 + 5 ≤ _)⟩)
            dsimp only [Pt.U, Pt.locs, Pt.cells, Pt.slots] at X162 l162 y162 z162 st162 hQ162
            subst l162 y162 z162
            obtain ⟨rfl, N162q, K162, Ex162, Fc162, bt162, kb162, gt162, ge162, nt162, Fv162, AV162⟩ := hQ162
            have sk165 := own_sta_keep1 f164 A161 K162
            have f166 := ((((((((((((((((((SG.ext E2).wr W4).wr W6).wr W8).wr W10).wr W12).wr W14).wr W16).wr W18).wr W20).wr W22).ext E133).wr W138).wr W143).wr W148).wr W153).wr W158).ext E161)
            have sk167 := own_sta_keep1 f166 A161 K162
            have KK162 : Keep h0 T162.heap [] := Keep.trans K161 K162 (own_side1 (Or.inr sz_b161))
            have Z162 : n0 ≤ T162.heap.size := Nat.le_trans Z0 KK162.1
            have N162 := Fr.app Nx159 N162q
            obtain ⟨lx168, Xx168, Nx168⟩ : ∃ lx, Stand p l e room_1 s m #[(.int p0), (.int p1)] below meth c T162 lx 4 24 ∧ Fr n0 lx := ⟨_, X162, N162⟩
            obtain ⟨_, _, ⟨T169, L169, k169, n169⟩, -, X169, ⟨Lc169, hQ169, l169, y169, z169⟩, st169⟩ := Jvm.LawKit.callS Xx168 hx (y := (⟨"com/example/libforeword/libforeword/wordlist/Entry", "parseFrequency", "(Ljava/lang/String;)I"⟩ : MethodName)) hown (mvT hZ (hw _ (List.mem_of_getElem? (i := 41) rfl))) (mvT hZ (hw _ (List.mem_of_getElem? (i := 42) rfl))) (mvT hZ (hw _ (List.mem_of_getElem? (i := 43) rfl))) (mvT hZ (hw _ (List.mem_of_getElem? (i := 44) rfl))) (by decide) (backOf (W := 0) (rmPF l Z a0 hw [] b161 bt162 kb162 ([(nar .char (dV nv (10000 : Int32))), (nar .char (dV nv (1000 : Int32))), (nar .char (dV nv (100 : Int32))), (nar .char (dV nv (10 : Int32))), (nar .char (dV nv (1 : Int32)))] : List Int32) iC vG T162.heap n0 Z162 Ex162 Fc162 Fv162 AV162 sk165 hC sk167 hvG hp (by show 0 < 5; decide) (by show 5 ≤ 12; decide) hdig hval) hZ (hw _ (List.mem_of_getElem? (i := 44) rfl)) (hw _ (List.mem_of_getElem? (i := 43) rfl)) (by decide) (by decide)) (g := (mkF m 342 #[.val (.int p0), .val (.int p1), .val (.int (5 : Int32)), .val (.ref b2), .val (.int nv), .val (.ref b133), .val (.ref b161)] [(.ref b161)])) rfl (by rw [hml]; rfl) (argsL := [(.ref b161)]) (rest := []) (lenOf pd_5 rfl) rfl (by show 2 * 0 + _ ≤ _; exact Nat.le_of_eq rfl) (hb hby at_342) (fun _ _ => ⟨rfl, rfl, (by decide : 4 + 0 ≤ _), (by decide : 24 + 0 ≤ _)⟩)
            dsimp only [Pt.U, Pt.locs, Pt.cells, Pt.slots] at X169 l169 y169 z169 st169 hQ169
            subst l169 y169 z169
            obtain ⟨rfl, N169q, e169⟩ := hQ169
            have N169 := Fr.app Nx168 N169q
            obtain ⟨fs, hr, hrun, hended, hW, hsame⟩ := X169.leave (v := some (.int (1 : Int32))) (fun h => by rw [Bd.returns] at h; cases h)
            refine ⟨_, _, pre132 _ ?_, hrun, hended, _, _, rfl, ?_, ⟨_, rfl⟩, hW, hsame.mono (by decide) (by decide)⟩
            · show Steps p.tables e below (T22.setTop (mkF m 90 #[.val (.int p0), .val (.int p1), .val (.int (5 : Int32)), .val (.ref b2), .val (.int nv), .unset, .unset] [])) _
              refine XS.iloadN Xx24.here hx rfl (hb hby at_90) rfl ?_
              show Steps p.tables e below (T22.setTop (mkF m 91 #[.val (.int p0), .val (.int p1), .val (.int (5 : Int32)), .val (.ref b2), .val (.int nv), .unset, .unset] [(.int (5 : Int32))])) _
              refine st133 _ ?_
              refine XS.astore X133.here hx rfl (hb hby at_93) rfl rfl (l' := #[.val (.int p0), .val (.int p1), .val (.int (5 : Int32)), .val (.ref b2), .val (.int nv), .val (.ref b133), .unset]) rfl ?_
              refine XS.iloadN X133.here hx rfl (hb hby at_95) rfl ?_
              refine XS.iconst X133.here hx rfl (hb hby at_96) ?_
              show Steps p.tables e below (T133.setTop (mkF m 97 #[.val (.int p0), .val (.int p1), .val (.int (5 : Int32)), .val (.ref b2), .val (.int nv), .val (.ref b133), .unset] [(.int (1 : Int32)), (.int (5 : Int32))])) _
              refine XS.icmpNo X133.here hx rfl (hb hby at_97) rfl (flt (show ¬ ((5 : Int32) < (1 : Int32)) from (by decide))).1 ?_
              refine XS.aload X133.here hx rfl (hb hby at_100) rfl rfl ?_
              refine XS.iloadN X133.here hx rfl (hb hby at_102) rfl ?_
              refine XS.iconst X133.here hx rfl (hb hby at_103) ?_
              show Steps p.tables e below (T133.setTop (mkF m 104 #[.val (.int p0), .val (.int p1), .val (.int (5 : Int32)), .val (.ref b2), .val (.int nv), .val (.ref b133), .unset] [(.int (1 : Int32)), (.int (5 : Int32)), (.ref b133)])) _
              refine XS.isub X133.here hx rfl (hb hby at_104) rfl ?_
              refine XS.iload X133.here hx rfl (hb hby at_105) rfl ?_
              refine XS.aloadN X133.here hx rfl (hb hby at_107) rfl rfl ?_
              refine XS.iconst X133.here hx rfl (hb hby at_108) ?_
              show Steps p.tables e below (T133.setTop (mkF m 109 #[.val (.int p0), .val (.int p1), .val (.int (5 : Int32)), .val (.ref b2), .val (.int nv), .val (.ref b133), .unset] [(.int (0 : Int32)), (.ref b2), (.int nv), (.int (4 : Int32)), (.ref b133)])) _
              refine X133.iaload hx (j := (0 : Int32)) (v := (.int (1 : Int32))) (by rw [e133]; exact Ar135.1) (State.isArrayOf_alike hZ.alike Ar135.2.1) Ar135.2.2 hin135 hat135 (g := (mkF m 109 #[.val (.int p0), .val (.int p1), .val (.int (5 : Int32)), .val (.ref b2), .val (.int nv), .val (.ref b133), .unset] [(.int (0 : Int32)), (.ref b2), (.int nv), (.int (4 : Int32)), (.ref b133)])) rfl rfl (hb hby at_109) _ ?_
              show Steps p.tables e below (T133.setTop (mkF m 110 #[.val (.int p0), .val (.int p1), .val (.int (5 : Int32)), .val (.ref b2), .val (.int nv), .val (.ref b133), .unset] [(.int (1 : Int32)), (.int nv), (.int (4 : Int32)), (.ref b133)])) _
              refine st136 _ ?_
              show Steps p.tables e below (T136.setTop (mkF m 113 #[.val (.int p0), .val (.int p1), .val (.int (5 : Int32)), .val (.ref b2), .val (.int nv), .val (.ref b133), .unset] [(.int (dV nv (1 : Int32))), (.int (4 : Int32)), (.ref b133)])) _
              refine st138 _ ?_
              refine XS.iloadN X138.here hx rfl (hb hby at_114) rfl ?_
              refine XS.iconst X138.here hx rfl (hb hby at_115) ?_
              show Steps p.tables e below (T138.setTop (mkF m 116 #[.val (.int p0), .val (.int p1), .val (.int (5 : Int32)), .val (.ref b2), .val (.int nv), .val (.ref b133), .unset] [(.int (2 : Int32)), (.int (5 : Int32))])) _
              refine XS.icmpNo X138.here hx rfl (hb hby at_116) rfl (flt (show ¬ ((5 : Int32) < (2 : Int32)) from (by decide))).1 ?_
              refine XS.aload X138.here hx rfl (hb hby at_119) rfl rfl ?_
              refine XS.iloadN X138.here hx rfl (hb hby at_121) rfl ?_
              refine XS.iconst X138.here hx rfl (hb hby at_122) ?_
              show Steps p.tables e below (T138.setTop (mkF m 123 #[.val (.int p0), .val (.int p1), .val (.int (5 : Int32)), .val (.ref b2), .val (.int nv), .val (.ref b133), .unset] [(.int (2 : Int32)), (.int (5 : Int32)), (.ref b133)])) _
              refine XS.isub X138.here hx rfl (hb hby at_123) rfl ?_
              refine XS.iload X138.here hx rfl (hb hby at_124) rfl ?_
              refine XS.aloadN X138.here hx rfl (hb hby at_126) rfl rfl ?_
              refine XS.iconst X138.here hx rfl (hb hby at_127) ?_
              show Steps p.tables e below (T138.setTop (mkF m 128 #[.val (.int p0), .val (.int p1), .val (.int (5 : Int32)), .val (.ref b2), .val (.int nv), .val (.ref b133), .unset] [(.int (1 : Int32)), (.ref b2), (.int nv), (.int (3 : Int32)), (.ref b133)])) _
              refine X138.iaload hx (j := (1 : Int32)) (v := (.int (10 : Int32))) (by rw [e138]; exact Ar140.1) (State.isArrayOf_alike hZ.alike Ar140.2.1) Ar140.2.2 hin140 hat140 (g := (mkF m 128 #[.val (.int p0), .val (.int p1), .val (.int (5 : Int32)), .val (.ref b2), .val (.int nv), .val (.ref b133), .unset] [(.int (1 : Int32)), (.ref b2), (.int nv), (.int (3 : Int32)), (.ref b133)])) rfl rfl (hb hby at_128) _ ?_
              show Steps p.tables e below (T138.setTop (mkF m 129 #[.val (.int p0), .val (.int p1), .val (.int (5 : Int32)), .val (.ref b2), .val (.int nv), .val (.ref b133), .unset] [(.int (10 : Int32)), (.int nv), (.int (3 : Int32)), (.ref b133)])) _
              refine st141 _ ?_
              show Steps p.tables e below (T141.setTop (mkF m 132 #[.val (.int p0), .val (.int p1), .val (.int (5 : Int32)), .val (.ref b2), .val (.int nv), .val (.ref b133), .unset] [(.int (dV nv (10 : Int32))), (.int (3 : Int32)), (.ref b133)])) _
              refine st143 _ ?_
              refine XS.iloadN X143.here hx rfl (hb hby at_133) rfl ?_
              refine XS.iconst X143.here hx rfl (hb hby at_134) ?_
              show Steps p.tables e below (T143.setTop (mkF m 135 #[.val (.int p0), .val (.int p1), .val (.int (5 : Int32)), .val (.ref b2), .val (.int nv), .val (.ref b133), .unset] [(.int (3 : Int32)), (.int (5 : Int32))])) _
              refine XS.icmpNo X143.here hx rfl (hb hby at_135) rfl (flt (show ¬ ((5 : Int32) < (3 : Int32)) from (by decide))).1 ?_
              refine XS.aload X143.here hx rfl (hb hby at_138) rfl rfl ?_
              refine XS.iloadN X143.here hx rfl (hb hby at_140) rfl ?_
              refine XS.iconst X143.here hx rfl (hb hby at_141) ?_
              show Steps p.tables e below (T143.setTop (mkF m 142 #[.val (.int p0), .val (.int p1), .val (.int (5 : Int32)), .val (.ref b2), .val (.int nv), .val (.ref b133), .unset] [(.int (3 : Int32)), (.int (5 : Int32)), (.ref b133)])) _
              refine XS.isub X143.here hx rfl (hb hby at_142) rfl ?_
              refine XS.iload X143.here hx rfl (hb hby at_143) rfl ?_
              refine XS.aloadN X143.here hx rfl (hb hby at_145) rfl rfl ?_
              refine XS.iconst X143.here hx rfl (hb hby at_146) ?_
              show Steps p.tables e below (T143.setTop (mkF m 147 #[.val (.int p0), .val (.int p1), .val (.int (5 : Int32)), .val (.ref b2), .val (.int nv), .val (.ref b133), .unset] [(.int (2 : Int32)), (.ref b2), (.int nv), (.int (2 : Int32)), (.ref b133)])) _
              refine X143.iaload hx (j := (2 : Int32)) (v := (.int (100 : Int32))) (by rw [e143]; exact Ar145.1) (State.isArrayOf_alike hZ.alike Ar145.2.1) Ar145.2.2 hin145 hat145 (g := (mkF m 147 #[.val (.int p0), .val (.int p1), .val (.int (5 : Int32)), .val (.ref b2), .val (.int nv), .val (.ref b133), .unset] [(.int (2 : Int32)), (.ref b2), (.int nv), (.int (2 : Int32)), (.ref b133)])) rfl rfl (hb hby at_147) _ ?_
              show Steps p.tables e below (T143.setTop (mkF m 148 #[.val (.int p0), .val (.int p1), .val (.int (5 : Int32)), .val (.ref b2), .val (.int nv), .val (.ref b133), .unset] [(.int (100 : Int32)), (.int nv), (.int (2 : Int32)), (.ref b133)])) _
              refine st146 _ ?_
              show Steps p.tables e below (T146.setTop (mkF m 151 #[.val (.int p0), .val (.int p1), .val (.int (5 : Int32)), .val (.ref b2), .val (.int nv), .val (.ref b133), .unset] [(.int (dV nv (100 : Int32))), (.int (2 : Int32)), (.ref b133)])) _
              refine st148 _ ?_
              refine XS.iloadN X148.here hx rfl (hb hby at_152) rfl ?_
              refine XS.iconst X148.here hx rfl (hb hby at_153) ?_
              show Steps p.tables e below (T148.setTop (mkF m 154 #[.val (.int p0), .val (.int p1), .val (.int (5 : Int32)), .val (.ref b2), .val (.int nv), .val (.ref b133), .unset] [(.int (4 : Int32)), (.int (5 : Int32))])) _
              refine XS.icmpNo X148.here hx rfl (hb hby at_154) rfl (flt (show ¬ ((5 : Int32) < (4 : Int32)) from (by decide))).1 ?_
              refine XS.aload X148.here hx rfl (hb hby at_157) rfl rfl ?_
              refine XS.iloadN X148.here hx rfl (hb hby at_159) rfl ?_
              refine XS.iconst X148.here hx rfl (hb hby at_160) ?_
              show Steps p.tables e below (T148.setTop (mkF m 161 #[.val (.int p0), .val (.int p1), .val (.int (5 : Int32)), .val (.ref b2), .val (.int nv), .val (.ref b133), .unset] [(.int (4 : Int32)), (.int (5 : Int32)), (.ref b133)])) _
              refine XS.isub X148.here hx rfl (hb hby at_161) rfl ?_
              refine XS.iload X148.here hx rfl (hb hby at_162) rfl ?_
              refine XS.aloadN X148.here hx rfl (hb hby at_164) rfl rfl ?_
              refine XS.iconst X148.here hx rfl (hb hby at_165) ?_
              show Steps p.tables e below (T148.setTop (mkF m 166 #[.val (.int p0), .val (.int p1), .val (.int (5 : Int32)), .val (.ref b2), .val (.int nv), .val (.ref b133), .unset] [(.int (3 : Int32)), (.ref b2), (.int nv), (.int (1 : Int32)), (.ref b133)])) _
              refine X148.iaload hx (j := (3 : Int32)) (v := (.int (1000 : Int32))) (by rw [e148]; exact Ar150.1) (State.isArrayOf_alike hZ.alike Ar150.2.1) Ar150.2.2 hin150 hat150 (g := (mkF m 166 #[.val (.int p0), .val (.int p1), .val (.int (5 : Int32)), .val (.ref b2), .val (.int nv), .val (.ref b133), .unset] [(.int (3 : Int32)), (.ref b2), (.int nv), (.int (1 : Int32)), (.ref b133)])) rfl rfl (hb hby at_166) _ ?_
              show Steps p.tables e below (T148.setTop (mkF m 167 #[.val (.int p0), .val (.int p1), .val (.int (5 : Int32)), .val (.ref b2), .val (.int nv), .val (.ref b133), .unset] [(.int (1000 : Int32)), (.int nv), (.int (1 : Int32)), (.ref b133)])) _
              refine st151 _ ?_
              show Steps p.tables e below (T151.setTop (mkF m 170 #[.val (.int p0), .val (.int p1), .val (.int (5 : Int32)), .val (.ref b2), .val (.int nv), .val (.ref b133), .unset] [(.int (dV nv (1000 : Int32))), (.int (1 : Int32)), (.ref b133)])) _
              refine st153 _ ?_
              refine XS.iloadN X153.here hx rfl (hb hby at_171) rfl ?_
              refine XS.iconst X153.here hx rfl (hb hby at_172) ?_
              show Steps p.tables e below (T153.setTop (mkF m 173 #[.val (.int p0), .val (.int p1), .val (.int (5 : Int32)), .val (.ref b2), .val (.int nv), .val (.ref b133), .unset] [(.int (5 : Int32)), (.int (5 : Int32))])) _
              refine XS.icmpNo X153.here hx rfl (hb hby at_173) rfl (flt (show ¬ ((5 : Int32) < (5 : Int32)) from (by decide))).1 ?_
              refine XS.aload X153.here hx rfl (hb hby at_176) rfl rfl ?_
              refine XS.iloadN X153.here hx rfl (hb hby at_178) rfl ?_
              refine XS.iconst X153.here hx rfl (hb hby at_179) ?_
              show Steps p.tables e below (T153.setTop (mkF m 180 #[.val (.int p0), .val (.int p1), .val (.int (5 : Int32)), .val (.ref b2), .val (.int nv), .val (.ref b133), .unset] [(.int (5 : Int32)), (.int (5 : Int32)), (.ref b133)])) _
              refine XS.isub X153.here hx rfl (hb hby at_180) rfl ?_
              refine XS.iload X153.here hx rfl (hb hby at_181) rfl ?_
              refine XS.aloadN X153.here hx rfl (hb hby at_183) rfl rfl ?_
              refine XS.iconst X153.here hx rfl (hb hby at_184) ?_
              show Steps p.tables e below (T153.setTop (mkF m 185 #[.val (.int p0), .val (.int p1), .val (.int (5 : Int32)), .val (.ref b2), .val (.int nv), .val (.ref b133), .unset] [(.int (4 : Int32)), (.ref b2), (.int nv), (.int (0 : Int32)), (.ref b133)])) _
              refine X153.iaload hx (j := (4 : Int32)) (v := (.int (10000 : Int32))) (by rw [e153]; exact Ar155.1) (State.isArrayOf_alike hZ.alike Ar155.2.1) Ar155.2.2 hin155 hat155 (g := (mkF m 185 #[.val (.int p0), .val (.int p1), .val (.int (5 : Int32)), .val (.ref b2), .val (.int nv), .val (.ref b133), .unset] [(.int (4 : Int32)), (.ref b2), (.int nv), (.int (0 : Int32)), (.ref b133)])) rfl rfl (hb hby at_185) _ ?_
              show Steps p.tables e below (T153.setTop (mkF m 186 #[.val (.int p0), .val (.int p1), .val (.int (5 : Int32)), .val (.ref b2), .val (.int nv), .val (.ref b133), .unset] [(.int (10000 : Int32)), (.int nv), (.int (0 : Int32)), (.ref b133)])) _
              refine st156 _ ?_
              show Steps p.tables e below (T156.setTop (mkF m 189 #[.val (.int p0), .val (.int p1), .val (.int (5 : Int32)), .val (.ref b2), .val (.int nv), .val (.ref b133), .unset] [(.int (dV nv (10000 : Int32))), (.int (0 : Int32)), (.ref b133)])) _
              refine st158 _ ?_
              refine XS.iloadN X158.here hx rfl (hb hby at_190) rfl ?_
              refine XS.bipush X158.here hx rfl (hb hby at_191) ?_
              show Steps p.tables e below (T158.setTop (mkF m 193 #[.val (.int p0), .val (.int p1), .val (.int (5 : Int32)), .val (.ref b2), .val (.int nv), .val (.ref b133), .unset] [(.int (6 : Int32)), (.int (5 : Int32))])) _
              refine XS.icmpYes X158.here hx rfl (pc0 := 193) (pc' := 211) rfl (hb hby at_193) rfl (tlt (show (5 : Int32) < (6 : Int32) from (by decide))).1 (by decide) (by decide) ?_
              refine XS.iloadN X158.here hx rfl (hb hby at_211) rfl ?_
              refine XS.bipush X158.here hx rfl (hb hby at_212) ?_
              show Steps p.tables e below (T158.setTop (mkF m 214 #[.val (.int p0), .val (.int p1), .val (.int (5 : Int32)), .val (.ref b2), .val (.int nv), .val (.ref b133), .unset] [(.int (7 : Int32)), (.int (5 : Int32))])) _
              refine XS.icmpYes X158.here hx rfl (pc0 := 214) (pc' := 233) rfl (hb hby at_214) rfl (tlt (show (5 : Int32) < (7 : Int32) from (by decide))).1 (by decide) (by decide) ?_
              refine XS.iloadN X158.here hx rfl (hb hby at_233) rfl ?_
              refine XS.bipush X158.here hx rfl (hb hby at_234) ?_
              show Steps p.tables e below (T158.setTop (mkF m 236 #[.val (.int p0), .val (.int p1), .val (.int (5 : Int32)), .val (.ref b2), .val (.int nv), .val (.ref b133), .unset] [(.int (8 : Int32)), (.int (5 : Int32))])) _
              refine XS.icmpYes X158.here hx rfl (pc0 := 236) (pc' := 255) rfl (hb hby at_236) rfl (tlt (show (5 : Int32) < (8 : Int32) from (by decide))).1 (by decide) (by decide) ?_
              refine XS.iloadN X158.here hx rfl (hb hby at_255) rfl ?_
              refine XS.bipush X158.here hx rfl (hb hby at_256) ?_
              show Steps p.tables e below (T158.setTop (mkF m 258 #[.val (.int p0), .val (.int p1), .val (.int (5 : Int32)), .val (.ref b2), .val (.int nv), .val (.ref b133), .unset] [(.int (9 : Int32)), (.int (5 : Int32))])) _
              refine XS.icmpYes X158.here hx rfl (pc0 := 258) (pc' := 277) rfl (hb hby at_258) rfl (tlt (show (5 : Int32) < (9 : Int32) from (by decide))).1 (by decide) (by decide) ?_
              refine XS.iloadN X158.here hx rfl (hb hby at_277) rfl ?_
              refine XS.bipush X158.here hx rfl (hb hby at_278) ?_
              show Steps p.tables e below (T158.setTop (mkF m 280 #[.val (.int p0), .val (.int p1), .val (.int (5 : Int32)), .val (.ref b2), .val (.int nv), .val (.ref b133), .unset] [(.int (10 : Int32)), (.int (5 : Int32))])) _
              refine XS.icmpYes X158.here hx rfl (pc0 := 280) (pc' := 299) rfl (hb hby at_280) rfl (tlt (show (5 : Int32) < (10 : Int32) from (by decide))).1 (by decide) (by decide) ?_
              refine XS.iloadN X158.here hx rfl (hb hby at_299) rfl ?_
              refine XS.bipush X158.here hx rfl (hb hby at_300) ?_
              show Steps p.tables e below (T158.setTop (mkF m 302 #[.val (.int p0), .val (.int p1), .val (.int (5 : Int32)), .val (.ref b2), .val (.int nv), .val (.ref b133), .unset] [(.int (11 : Int32)), (.int (5 : Int32))])) _
              refine XS.icmpYes X158.here hx rfl (pc0 := 302) (pc' := 314) rfl (hb hby at_302) rfl (tlt (show (5 : Int32) < (11 : Int32) from (by decide))).1 (by decide) (by decide) ?_
              refine XS.iloadN X158.here hx rfl (hb hby at_314) rfl ?_
              refine XS.bipush X158.here hx rfl (hb hby at_315) ?_
              show Steps p.tables e below (T158.setTop (mkF m 317 #[.val (.int p0), .val (.int p1), .val (.int (5 : Int32)), .val (.ref b2), .val (.int nv), .val (.ref b133), .unset] [(.int (12 : Int32)), (.int (5 : Int32))])) _
              refine XS.icmpYes X158.here hx rfl (pc0 := 317) (pc' := 329) rfl (hb hby at_317) rfl (tlt (show (5 : Int32) < (12 : Int32) from (by decide))).1 (by decide) (by decide) ?_
              show Steps p.tables e below (T158.setTop (mkF m 329 #[.val (.int p0), .val (.int p1), .val (.int (5 : Int32)), .val (.ref b2), .val (.int nv), .val (.ref b133), .unset] [])) _
              refine st161 _ ?_
              show Steps p.tables e below (T161.setTop (mkF m 332 #[.val (.int p0), .val (.int p1), .val (.int (5 : Int32)), .val (.ref b2), .val (.int nv), .val (.ref b133), .unset] [(.ref b161)])) _
              refine XS.dup X161.here hx rfl (hb hby at_332) rfl rfl ?_
              refine XS.aload X161.here hx rfl (hb hby at_333) rfl rfl ?_
              show Steps p.tables e below (T161.setTop (mkF m 335 #[.val (.int p0), .val (.int p1), .val (.int (5 : Int32)), .val (.ref b2), .val (.int nv), .val (.ref b133), .unset] [(.ref b133), (.ref b161), (.ref b161)])) _
              refine st162.trans ?_
              refine XS.astore X162.here hx rfl (hb hby at_338) rfl rfl (l' := #[.val (.int p0), .val (.int p1), .val (.int (5 : Int32)), .val (.ref b2), .val (.int nv), .val (.ref b133), .val (.ref b161)]) rfl ?_
              refine XS.aload Xx168.here hx rfl (hb hby at_340) rfl rfl ?_
              show Steps p.tables e below (T162.setTop (mkF m 342 #[.val (.int p0), .val (.int p1), .val (.int (5 : Int32)), .val (.ref b2), .val (.int nv), .val (.ref b133), .val (.ref b161)] [(.ref b161)])) _
              refine st169 _ ?_
              show Steps p.tables e below (T169.setTop (mkF m 345 #[.val (.int p0), .val (.int p1), .val (.int (5 : Int32)), .val (.ref b2), .val (.int nv), .val (.ref b133), .val (.ref b161)] [(.int ((pv ([(nar .char (dV nv (10000 : Int32))), (nar .char (dV nv (1000 : Int32))), (nar .char (dV nv (100 : Int32))), (nar .char (dV nv (10 : Int32))), (nar .char (dV nv (1 : Int32)))] : List Int32) ([(nar .char (dV nv (10000 : Int32))), (nar .char (dV nv (1000 : Int32))), (nar .char (dV nv (100 : Int32))), (nar .char (dV nv (10 : Int32))), (nar .char (dV nv (1 : Int32)))] : List Int32).length).toInt32))])) _
              refine XS.iload X169.here hx rfl (hb hby at_345) rfl ?_
              show Steps p.tables e below (T169.setTop (mkF m 347 #[.val (.int p0), .val (.int p1), .val (.int (5 : Int32)), .val (.ref b2), .val (.int nv), .val (.ref b133), .val (.ref b161)] [(.int nv), (.int ((pv ([(nar .char (dV nv (10000 : Int32))), (nar .char (dV nv (1000 : Int32))), (nar .char (dV nv (100 : Int32))), (nar .char (dV nv (10 : Int32))), (nar .char (dV nv (1 : Int32)))] : List Int32) ([(nar .char (dV nv (10000 : Int32))), (nar .char (dV nv (1000 : Int32))), (nar .char (dV nv (100 : Int32))), (nar .char (dV nv (10 : Int32))), (nar .char (dV nv (1 : Int32)))] : List Int32).length).toInt32))])) _
              refine XS.icmpNo X169.here hx rfl (hb hby at_347) rfl (teq (show ((pv ([(nar .char (dV nv (10000 : Int32))), (nar .char (dV nv (1000 : Int32))), (nar .char (dV nv (100 : Int32))), (nar .char (dV nv (10 : Int32))), (nar .char (dV nv (1 : Int32)))] : List Int32) ([(nar .char (dV nv (10000 : Int32))), (nar .char (dV nv (1000 : Int32))), (nar .char (dV nv (100 : Int32))), (nar .char (dV nv (10 : Int32))), (nar .char (dV nv (1 : Int32)))] : List Int32).length).toInt32) = nv from hfin)).2 ?_
              refine XS.iconst X169.here hx rfl (hb hby at_350) ?_
              refine XS.goto X169.here hx rfl (pc0 := 351) (pc' := 355) rfl (hb hby at_351) (by decide) (by decide) ?_
              show Steps p.tables e below (T169.setTop (mkF m 355 #[.val (.int p0), .val (.int p1), .val (.int (5 : Int32)), .val (.ref b2), .val (.int nv), .val (.ref b133), .val (.ref b161)] [(.int (1 : Int32))])) _
              exact retN X169 hx (t := .boolean) Bd.returns (by simp) (hb hby at_355) hr
            · show Q0 h0 n0 _ T169.heap _
              rw [e169]
              exact ⟨rfl, N169⟩
          · by_cases hl6 : len = (6 : Int32)
            · rw [hl6] at pre23
              obtain ⟨cl170, Ar170, -, S170, Nn170, Hh170, -⟩ := id V22
              have hin170 : ¬ ((6 : Int32) < 0 ∨ cl170.slots.size ≤ ((6 : Int32)).toNatClampNeg) := inb_of S170 ⟨by decide, by decide⟩
              have hat170 : cl170.slots[((6 : Int32)).toNatClampNeg]? = some (.int (1000000 : Int32)) := Hh170.at hin170 rfl
              have pre171 : ∀ t, Steps p.tables e below (T22.setTop (mkF m 90 #[.val (.int p0), .val (.int p1), .val (.int (6 : Int32)), .val (.ref b2), .val (.int ((p0 &&& (2147483647 : Int32)) - ((p0 &&& (2147483647 : Int32)) / (1000000 : Int32)) * (1000000 : Int32))), .unset, .unset] [])) t → Steps p.tables e below (s₁.setTop (entryFrame m #[(.int p0), (.int p1)] maxLocals)) t := fun t kt => pre23 t (by
                  show Steps p.tables e below (T22.setTop (mkF m 70 #[.val (.int p0), .val (.int p1), .val (.int (6 : Int32)), .val (.ref b2), .unset, .unset, .unset] [])) _
                  refine XS.iloadN Xx24.here hx rfl (hb hby at_70) rfl ?_
                  show Steps p.tables e below (T22.setTop (mkF m 71 #[.val (.int p0), .val (.int p1), .val (.int (6 : Int32)), .val (.ref b2), .unset, .unset, .unset] [(.int p0)])) _
                  refine Xx24.ldcI hx hown (mvT hZ (hw _ (List.mem_of_getElem? (i := 6) rfl))) (g := (mkF m 71 #[.val (.int p0), .val (.int p1), .val (.int (6 : Int32)), .val (.ref b2), .unset, .unset, .unset] [(.int p0)])) rfl (hb hby at_71) ?_
                  show Steps p.tables e below (T22.setTop (mkF m 73 #[.val (.int p0), .val (.int p1), .val (.int (6 : Int32)), .val (.ref b2), .unset, .unset, .unset] [(.int (2147483647 : Int32)), (.int p0)])) _
                  refine XS.iand Xx24.here hx rfl (hb hby at_73) rfl ?_
                  refine XS.istore Xx24.here hx rfl (hb hby at_74) rfl (l' := #[.val (.int p0), .val (.int p1), .val (.int (6 : Int32)), .val (.ref b2), .val (.int (p0 &&& (2147483647 : Int32))), .unset, .unset]) rfl ?_
                  refine XS.iloadN Xx24.here hx rfl (hb hby at_76) rfl ?_
                  refine XS.bipush Xx24.here hx rfl (hb hby at_77) ?_
                  show Steps p.tables e below (T22.setTop (mkF m 79 #[.val (.int p0), .val (.int p1), .val (.int (6 : Int32)), .val (.ref b2), .val (.int (p0 &&& (2147483647 : Int32))), .unset, .unset] [(.int (10 : Int32)), (.int (6 : Int32))])) _
                  refine XS.icmpNo Xx24.here hx rfl (hb hby at_79) rfl (tlt (show (6 : Int32) < (10 : Int32) from (by decide))).2.1 ?_
                  refine XS.iload Xx24.here hx rfl (hb hby at_82) rfl ?_
                  refine XS.aloadN Xx24.here hx rfl (hb hby at_84) rfl rfl ?_
                  refine XS.iloadN Xx24.here hx rfl (hb hby at_85) rfl ?_
                  show Steps p.tables e below (T22.setTop (mkF m 86 #[.val (.int p0), .val (.int p1), .val (.int (6 : Int32)), .val (.ref b2), .val (.int (p0 &&& (2147483647 : Int32))), .unset, .unset] [(.int (6 : Int32)), (.ref b2), (.int (p0 &&& (2147483647 : Int32)))])) _
                  refine Xx24.iaload hx (j := (6 : Int32)) (v := (.int (1000000 : Int32))) (by rw [e22]; exact Ar170.1) (State.isArrayOf_alike hZ.alike Ar170.2.1) Ar170.2.2 hin170 hat170 (g := (mkF m 86 #[.val (.int p0), .val (.int p1), .val (.int (6 : Int32)), .val (.ref b2), .val (.int (p0 &&& (2147483647 : Int32))), .unset, .unset] [(.int (6 : Int32)), (.ref b2), (.int (p0 &&& (2147483647 : Int32)))])) rfl rfl (hb hby at_86) _ ?_
                  show Steps p.tables e below (T22.setTop (mkF m 87 #[.val (.int p0), .val (.int p1), .val (.int (6 : Int32)), .val (.ref b2), .val (.int (p0 &&& (2147483647 : Int32))), .unset, .unset] [(.int (1000000 : Int32)), (.int (p0 &&& (2147483647 : Int32)))])) _
                  refine XS.irem Xx24.here hx rfl (hb hby at_87) rfl (by decide) ?_
                  refine XS.istore Xx24.here hx rfl (hb hby at_88) rfl (l' := #[.val (.int p0), .val (.int p1), .val (.int (6 : Int32)), .val (.ref b2), .val (.int ((p0 &&& (2147483647 : Int32)) - ((p0 &&& (2147483647 : Int32)) / (1000000 : Int32)) * (1000000 : Int32))), .unset, .unset]) rfl ?_
                  exact kt)
              obtain ⟨nv, hnv⟩ : ∃ z : Int32, z = ((p0 &&& (2147483647 : Int32)) - ((p0 &&& (2147483647 : Int32)) / (1000000 : Int32)) * (1000000 : Int32)) := ⟨_, rfl⟩
              rw [← hnv] at pre171
              have hnb : 0 ≤ nv.toInt ∧ nv.toInt < 10 ^ 6 := by rw [hnv]; exact own_nlt10 p0 (1000000 : Int32) (by decide)
              obtain ⟨T172, h172, k172, X172, e172, E172, A172, st172⟩ := newP Xx24 hx hZ (hw _ (List.mem_of_getElem? (i := 7) rfl)) e22 (g := (mkF m 91 #[.val (.int p0), .val (.int p1), .val (.int (6 : Int32)), .val (.ref b2), .val (.int nv), .unset, .unset] [(.int (6 : Int32))])) rfl (hb hby at_91) rfl (by decide) (cap := 6) (by decide) (by decide) (by decide) (by decide)
              obtain ⟨b172, g172⟩ : ∃ z, z = h22.size := ⟨_, rfl⟩
              rw [← g172] at A172 st172
              have g_b172 : n0 ≤ b172 := Nat.le_trans Z22 (Nat.le_of_eq g172.symm)
              have sz_b172 : h0.size ≤ b172 := Nat.le_trans K22.1 (Nat.le_of_eq g172.symm)
              have ne_b2_b172 : b2 ≠ b172 := Nat.ne_of_lt (Nat.lt_of_lt_of_le V22.lt (Nat.le_of_eq g172.symm))
              have K172 : Keep h0 h172 [] := Keep.ext K22 E172
              have Z172 : n0 ≤ h172.size := Nat.le_trans Z0 K172.1
              have V_b172 : Arv Z h172 b172 k172 .char (6 : Int32) [(.int (0 : Int32)), (.int (0 : Int32)), (.int (0 : Int32)), (.int (0 : Int32)), (.int (0 : Int32)), (.int (0 : Int32))] (.int (0 : Int32)) := (Arv.new A172 (by decide)).pad (pad_rep [] (.int (0 : Int32)) 6)
              have f173 := (V22.ext E172)
              obtain ⟨cl174, Ar174, -, S174, Nn174, Hh174, -⟩ := id f173
              have hin174 : ¬ ((0 : Int32) < 0 ∨ cl174.slots.size ≤ ((0 : Int32)).toNatClampNeg) := inb_of S174 ⟨by decide, by decide⟩
              have hat174 : cl174.slots[((0 : Int32)).toNatClampNeg]? = some (.int (1 : Int32)) := Hh174.at hin174 rfl
              obtain ⟨_, _, ⟨T175, L175, k175, n175⟩, -, X175, ⟨Lc175, hQ175, l175, y175, z175⟩, st175⟩ := Jvm.LawKit.callS X172 hx (y := (⟨"com/example/libforeword/libforeword/wordlist/EntryParseFrequencyPinLaw", "d", "(II)C"⟩ : MethodName)) hown (mvT hZ (hw _ (List.mem_of_getElem? (i := 8) rfl))) (mvT hZ (hw _ (List.mem_of_getElem? (i := 9) rfl))) (mvT hZ (hw _ (List.mem_of_getElem? (i := 10) rfl))) (mvT hZ (hw _ (List.mem_of_getElem? (i := 11) rfl))) (by decide) (backOf (W := 2) (rmDD l Z a0 hw [] nv (1 : Int32) h172 n0 Z172 (by decide)) hZ (hw _ (List.mem_of_getElem? (i := 11) rfl)) (hw _ (List.mem_of_getElem? (i := 10) rfl)) (by decide) (by decide)) (g := (mkF m 110 #[.val (.int p0), .val (.int p1), .val (.int (6 : Int32)), .val (.ref b2), .val (.int nv), .val (.ref b172), .unset] [(.int (1 : Int32)), (.int nv), (.int (5 : Int32)), (.ref b172)])) rfl (by rw [hml]; rfl) (argsL := [(.int nv), (.int (1 : Int32))]) (rest := [(.int (5 : Int32)), (.ref b172)]) (lenOf pd_3 rfl) rfl (by show 2 * 0 + _ ≤ _; exact Nat.le_of_eq rfl) (hb hby at_110) (fun _ _ => ⟨rfl, e172, (by decide : 2 + 0 ≤ _), (by decide : 16 + 0 ≤ _)⟩)
              dsimp only [Pt.U, Pt.locs, Pt.cells, Pt.slots] at X175 l175 y175 z175 st175 hQ175
              subst l175 y175 z175
              obtain ⟨rfl, N175q, e175⟩ := hQ175
              have N175 := Fr.app Nx24 N175q
              obtain ⟨cl176, Ar176, q176, S176, Nn176, Hh176, Gg176⟩ := id V_b172
              have hin176 : ¬ ((5 : Int32) < 0 ∨ cl176.slots.size ≤ ((5 : Int32)).toNatClampNeg) := inb_of S176 ⟨by decide, by decide⟩
              obtain ⟨T177, h177, X177, e177, W177, st177⟩ := stC X175 hx hZ e175 Ar176 (j := (5 : Int32)) hin176 (g := (mkF m 113 #[.val (.int p0), .val (.int p1), .val (.int (6 : Int32)), .val (.ref b2), .val (.int nv), .val (.ref b172), .unset] [(.int (dV nv (1 : Int32))), (.int (5 : Int32)), (.ref b172)])) rfl rfl (hb hby at_113)
              have V177 : Arv Z h177 b172 k172 .char (6 : Int32) [(.int (0 : Int32)), (.int (0 : Int32)), (.int (0 : Int32)), (.int (0 : Int32)), (.int (0 : Int32)), (.int (nar .char (dV nv (1 : Int32))))] (.int (0 : Int32)) := Arv.set Ar176 q176 S176 Nn176 Hh176 Gg176 (fits_nar_char _) W177 5 rfl (Nat.le_of_ble_eq_true rfl)
              have K177 : Keep h0 h177 [] := Keep.wr K172 W177 (Or.inr sz_b172)
              have Z177 : n0 ≤ h177.size := Nat.le_trans Z0 K177.1
              have N177 := Fr.snoc X177 N175 g_b172
              have f178 := (f173.other W177 ne_b2_b172)
              obtain ⟨cl179, Ar179, -, S179, Nn179, Hh179, -⟩ := id f178
              have hin179 : ¬ ((1 : Int32) < 0 ∨ cl179.slots.size ≤ ((1 : Int32)).toNatClampNeg) := inb_of S179 ⟨by decide, by decide⟩
              have hat179 : cl179.slots[((1 : Int32)).toNatClampNeg]? = some (.int (10 : Int32)) := Hh179.at hin179 rfl
              obtain ⟨_, _, ⟨T180, L180, k180, n180⟩, -, X180, ⟨Lc180, hQ180, l180, y180, z180⟩, st180⟩ := Jvm.LawKit.callS X177 hx (y := (⟨"com/example/libforeword/libforeword/wordlist/EntryParseFrequencyPinLaw", "d", "(II)C"⟩ : MethodName)) hown (mvT hZ (hw _ (List.mem_of_getElem? (i := 8) rfl))) (mvT hZ (hw _ (List.mem_of_getElem? (i := 9) rfl))) (mvT hZ (hw _ (List.mem_of_getElem? (i := 10) rfl))) (mvT hZ (hw _ (List.mem_of_getElem? (i := 11) rfl))) (by decide) (backOf (W := 2) (rmDD l Z a0 hw [] nv (10 : Int32) h177 n0 Z177 (by decide)) hZ (hw _ (List.mem_of_getElem? (i := 11) rfl)) (hw _ (List.mem_of_getElem? (i := 10) rfl)) (by decide) (by decide)) (g := (mkF m 129 #[.val (.int p0), .val (.int p1), .val (.int (6 : Int32)), .val (.ref b2), .val (.int nv), .val (.ref b172), .unset] [(.int (10 : Int32)), (.int nv), (.int (4 : Int32)), (.ref b172)])) rfl (by rw [hml]; rfl) (argsL := [(.int nv), (.int (10 : Int32))]) (rest := [(.int (4 : Int32)), (.ref b172)]) (lenOf pd_3 rfl) rfl (by show 2 * 0 + _ ≤ _; exact Nat.le_of_eq rfl) (hb hby at_129) (fun _ _ => ⟨rfl, e177, (by decide : 2 + 0 ≤ _), (by decide : 16 + 0 ≤ _)⟩)
              dsimp only [Pt.U, Pt.locs, Pt.cells, Pt.slots] at X180 l180 y180 z180 st180 hQ180
              subst l180 y180 z180
              obtain ⟨rfl, N180q, e180⟩ := hQ180
              have N180 := Fr.app N177 N180q
              obtain ⟨cl181, Ar181, q181, S181, Nn181, Hh181, Gg181⟩ := id V177
              have hin181 : ¬ ((4 : Int32) < 0 ∨ cl181.slots.size ≤ ((4 : Int32)).toNatClampNeg) := inb_of S181 ⟨by decide, by decide⟩
              obtain ⟨T182, h182, X182, e182, W182, st182⟩ := stC X180 hx hZ e180 Ar181 (j := (4 : Int32)) hin181 (g := (mkF m 132 #[.val (.int p0), .val (.int p1), .val (.int (6 : Int32)), .val (.ref b2), .val (.int nv), .val (.ref b172), .unset] [(.int (dV nv (10 : Int32))), (.int (4 : Int32)), (.ref b172)])) rfl rfl (hb hby at_132)
              have V182 : Arv Z h182 b172 k172 .char (6 : Int32) [(.int (0 : Int32)), (.int (0 : Int32)), (.int (0 : Int32)), (.int (0 : Int32)), (.int (nar .char (dV nv (10 : Int32)))), (.int (nar .char (dV nv (1 : Int32))))] (.int (0 : Int32)) := Arv.set Ar181 q181 S181 Nn181 Hh181 Gg181 (fits_nar_char _) W182 4 rfl (Nat.le_of_ble_eq_true rfl)
              have K182 : Keep h0 h182 [] := Keep.wr K177 W182 (Or.inr sz_b172)
              have Z182 : n0 ≤ h182.size := Nat.le_trans Z0 K182.1
              have N182 := Fr.snoc X182 N180 g_b172
              have f183 := (f178.other W182 ne_b2_b172)
              obtain ⟨cl184, Ar184, -, S184, Nn184, Hh184, -⟩ := id f183
              have hin184 : ¬ ((2 : Int32) < 0 ∨ cl184.slots.size ≤ ((2 : Int32)).toNatClampNeg) := inb_of S184 ⟨by decide, by decide⟩
              have hat184 : cl184.slots[((2 : Int32)).toNatClampNeg]? = some (.int (100 : Int32)) := Hh184.at hin184 rfl
              obtain ⟨_, _, ⟨T185, L185, k185, n185⟩, -, X185, ⟨Lc185, hQ185, l185, y185, z185⟩, st185⟩ := Jvm.LawKit.callS X182 hx (y := (⟨"com/example/libforeword/libforeword/wordlist/EntryParseFrequencyPinLaw", "d", "(II)C"⟩ : MethodName)) hown (mvT hZ (hw _ (List.mem_of_getElem? (i := 8) rfl))) (mvT hZ (hw _ (List.mem_of_getElem? (i := 9) rfl))) (mvT hZ (hw _ (List.mem_of_getElem? (i := 10) rfl))) (mvT hZ (hw _ (List.mem_of_getElem? (i := 11) rfl))) (by decide) (backOf (W := 2) (rmDD l Z a0 hw [] nv (100 : Int32) h182 n0 Z182 (by decide)) hZ (hw _ (List.mem_of_getElem? (i := 11) rfl)) (hw _ (List.mem_of_getElem? (i := 10) rfl)) (by decide) (by decide)) (g := (mkF m 148 #[.val (.int p0), .val (.int p1), .val (.int (6 : Int32)), .val (.ref b2), .val (.int nv), .val (.ref b172), .unset] [(.int (100 : Int32)), (.int nv), (.int (3 : Int32)), (.ref b172)])) rfl (by rw [hml]; rfl) (argsL := [(.int nv), (.int (100 : Int32))]) (rest := [(.int (3 : Int32)), (.ref b172)]) (lenOf pd_3 rfl) rfl (by show 2 * 0 + _ ≤ _; exact Nat.le_of_eq rfl) (hb hby at_148) (fun _ _ => ⟨rfl, e182, (by decide : 2 + 0 ≤ _), (by decide : 16 + 0 ≤ _)⟩)
              dsimp only [Pt.U, Pt.locs, Pt.cells, Pt.slots] at X185 l185 y185 z185 st185 hQ185
              subst l185 y185 z185
              obtain ⟨rfl, N185q, e185⟩ := hQ185
              have N185 := Fr.app N182 N185q
              obtain ⟨cl186, Ar186, q186, S186, Nn186, Hh186, Gg186⟩ := id V182
              have hin186 : ¬ ((3 : Int32) < 0 ∨ cl186.slots.size ≤ ((3 : Int32)).toNatClampNeg) := inb_of S186 ⟨by decide, by decide⟩
              obtain ⟨T187, h187, X187, e187, W187, st187⟩ := stC X185 hx hZ e185 Ar186 (j := (3 : Int32)) hin186 (g := (mkF m 151 #[.val (.int p0), .val (.int p1), .val (.int (6 : Int32)), .val (.ref b2), .val (.int nv), .val (.ref b172), .unset] [(.int (dV nv (100 : Int32))), (.int (3 : Int32)), (.ref b172)])) rfl rfl (hb hby at_151)
              have V187 : Arv Z h187 b172 k172 .char (6 : Int32) [(.int (0 : Int32)), (.int (0 : Int32)), (.int (0 : Int32)), (.int (nar .char (dV nv (100 : Int32)))), (.int (nar .char (dV nv (10 : Int32)))), (.int (nar .char (dV nv (1 : Int32))))] (.int (0 : Int32)) := Arv.set Ar186 q186 S186 Nn186 Hh186 Gg186 (fits_nar_char _) W187 3 rfl (Nat.le_of_ble_eq_true rfl)
              have K187 : Keep h0 h187 [] := Keep.wr K182 W187 (Or.inr sz_b172)
              have Z187 : n0 ≤ h187.size := Nat.le_trans Z0 K187.1
              have N187 := Fr.snoc X187 N185 g_b172
              have f188 := (f183.other W187 ne_b2_b172)
              obtain ⟨cl189, Ar189, -, S189, Nn189, Hh189, -⟩ := id f188
              have hin189 : ¬ ((3 : Int32) < 0 ∨ cl189.slots.size ≤ ((3 : Int32)).toNatClampNeg) := inb_of S189 ⟨by decide, by decide⟩
              have hat189 : cl189.slots[((3 : Int32)).toNatClampNeg]? = some (.int (1000 : Int32)) := Hh189.at hin189 rfl
              obtain ⟨_, _, ⟨T190, L190, k190, n190⟩, -, X190, ⟨Lc190, hQ190, l190, y190, z190⟩, st190⟩ := Jvm.LawKit.callS X187 hx (y := (⟨"com/example/libforeword/libforeword/wordlist/EntryParseFrequencyPinLaw", "d", "(II)C"⟩ : MethodName)) hown (mvT hZ (hw _ (List.mem_of_getElem? (i := 8) rfl))) (mvT hZ (hw _ (List.mem_of_getElem? (i := 9) rfl))) (mvT hZ (hw _ (List.mem_of_getElem? (i := 10) rfl))) (mvT hZ (hw _ (List.mem_of_getElem? (i := 11) rfl))) (by decide) (backOf (W := 2) (rmDD l Z a0 hw [] nv (1000 : Int32) h187 n0 Z187 (by decide)) hZ (hw _ (List.mem_of_getElem? (i := 11) rfl)) (hw _ (List.mem_of_getElem? (i := 10) rfl)) (by decide) (by decide)) (g := (mkF m 167 #[.val (.int p0), .val (.int p1), .val (.int (6 : Int32)), .val (.ref b2), .val (.int nv), .val (.ref b172), .unset] [(.int (1000 : Int32)), (.int nv), (.int (2 : Int32)), (.ref b172)])) rfl (by rw [hml]; rfl) (argsL := [(.int nv), (.int (1000 : Int32))]) (rest := [(.int (2 : Int32)), (.ref b172)]) (lenOf pd_3 rfl) rfl (by show 2 * 0 + _ ≤ _; exact Nat.le_of_eq rfl) (hb hby at_167) (fun _ _ => ⟨rfl, e187, (by decide : 2 + 0 ≤ _), (by decide : 16 + 0 ≤ _)⟩)
              dsimp only [Pt.U, Pt.locs, Pt.cells, Pt.slots] at X190 l190 y190 z190 st190 hQ190
              subst l190 y190 z190
              obtain ⟨rfl, N190q, e190⟩ := hQ190
              have N190 := Fr.app N187 N190q
              obtain ⟨cl191, Ar191, q191, S191, Nn191, Hh191, Gg191⟩ := id V187
              have hin191 : ¬ ((2 : Int32) < 0 ∨ cl191.slots.size ≤ ((2 : Int32)).toNatClampNeg) := inb_of S191 ⟨by decide, by decide⟩
              obtain ⟨T192, h192, X192, e192, W192, st192⟩ := stC X190 hx hZ e190 Ar191 (j := (2 : Int32)) hin191 (g := (mkF m 170 #[.val (.int p0), .val (.int p1), .val (.int (6 : Int32)), .val (.ref b2), .val (.int nv), .val (.ref b172), .unset] [(.int (dV nv (1000 : Int32))), (.int (2 : Int32)), (.ref b172)])) rfl rfl (hb hby at_170)
              have V192 : Arv Z h192 b172 k172 .char (6 : Int32) [(.int (0 : Int32)), (.int (0 : Int32)), (.int (nar .char (dV nv (1000 : Int32)))), (.int (nar .char (dV nv (100 : Int32)))), (.int (nar .char (dV nv (10 : Int32)))), (.int (nar .char (dV nv (1 : Int32))))] (.int (0 : Int32)) := Arv.set Ar191 q191 S191 Nn191 Hh191 Gg191 (fits_nar_char _) W192 2 rfl (Nat.le_of_ble_eq_true rfl)
              have K192 : Keep h0 h192 [] := Keep.wr K187 W192 (Or.inr sz_b172)
              have Z192 : n0 ≤ h192.size := Nat.le_trans Z0 K192.1
              have N192 := Fr.snoc X192 N190 g_b172
              have f193 := (f188.other W192 ne_b2_b172)
              obtain ⟨cl194, Ar194, -, S194, Nn194, Hh194, -⟩ := id f193
              have hin194 : ¬ ((4 : Int32) < 0 ∨ cl194.slots.size ≤ ((4 : Int32)).toNatClampNeg) := inb_of S194 ⟨by decide, by decide⟩
              have hat194 : cl194.slots[((4 : Int32)).toNatClampNeg]? = some (.int (10000 : Int32)) := Hh194.at hin194 rfl
              obtain ⟨_, _, ⟨T195, L195, k195, n195⟩, -, X195, ⟨Lc195, hQ195, l195, y195, z195⟩, st195⟩ := Jvm.LawKit.callS X192 hx (y := (⟨"com/example/libforeword/libforeword/wordlist/EntryParseFrequencyPinLaw", "d", "(II)C"⟩ : MethodName)) hown (mvT hZ (hw _ (List.mem_of_getElem? (i := 8) rfl))) (mvT hZ (hw _ (List.mem_of_getElem? (i := 9) rfl))) (mvT hZ (hw _ (List.mem_of_getElem? (i := 10) rfl))) (mvT hZ (hw _ (List.mem_of_getElem? (i := 11) rfl))) (by decide) (backOf (W := 2) (rmDD l Z a0 hw [] nv (10000 : Int32) h192 n0 Z192 (by decide)) hZ (hw _ (List.mem_of_getElem? (i := 11) rfl)) (hw _ (List.mem_of_getElem? (i := 10) rfl)) (by decide) (by decide)) (g := (mkF m 186 #[.val (.int p0), .val (.int p1), .val (.int (6 : Int32)), .val (.ref b2), .val (.int nv), .val (.ref b172), .unset] [(.int (10000 : Int32)), (.int nv), (.int (1 : Int32)), (.ref b172)])) rfl (by rw [hml]; rfl) (argsL := [(.int nv), (.int (10000 : Int32))]) (rest := [(.int (1 : Int32)), (.ref b172)]) (lenOf pd_3 rfl) rfl (by show 2 * 0 + _ ≤ _; exact Nat.le_of_eq rfl) (hb hby at_186) (fun _ _ => ⟨rfl, e192, (by decide : 2 + 0 ≤ _), (by decide : 16 + 0 ≤ _)⟩)
              dsimp only [Pt.U, Pt.locs, Pt.cells, Pt.slots] at X195 l195 y195 z195 st195 hQ195
              subst l195 y195 z195
              obtain ⟨rfl, N195q, e195⟩ := hQ195
              have N195 := Fr.app N192 N195q
              obtain ⟨cl196, Ar196, q196, S196, Nn196, Hh196, Gg196⟩ := id V192
              have hin196 : ¬ ((1 : Int32) < 0 ∨ cl196.slots.size ≤ ((1 : Int32)).toNatClampNeg) := inb_of S196 ⟨by decide, by decide⟩
              obtain ⟨T197, h197, X197, e197, W197, st197⟩ := stC X195 hx hZ e195 Ar196 (j := (1 : Int32)) hin196 (g := (mkF m 189 #[.val (.int p0), .val (.int p1), .val (.int (6 : Int32)), .val (.ref b2), .val (.int nv), .val (.ref b172), .unset] [(.int (dV nv (10000 : Int32))), (.int (1 : Int32)), (.ref b172)])) rfl rfl (hb hby at_189)
              have V197 : Arv Z h197 b172 k172 .char (6 : Int32) [(.int (0 : Int32)), (.int (nar .char (dV nv (10000 : Int32)))), (.int (nar .char (dV nv (1000 : Int32)))), (.int (nar .char (dV nv (100 : Int32)))), (.int (nar .char (dV nv (10 : Int32)))), (.int (nar .char (dV nv (1 : Int32))))] (.int (0 : Int32)) := Arv.set Ar196 q196 S196 Nn196 Hh196 Gg196 (fits_nar_char _) W197 1 rfl (Nat.le_of_ble_eq_true rfl)
              have K197 : Keep h0 h197 [] := Keep.wr K192 W197 (Or.inr sz_b172)
              have Z197 : n0 ≤ h197.size := Nat.le_trans Z0 K197.1
              have N197 := Fr.snoc X197 N195 g_b172
              have f198 := (f193.other W197 ne_b2_b172)
              obtain ⟨cl199, Ar199, -, S199, Nn199, Hh199, -⟩ := id f198
              have hin199 : ¬ ((5 : Int32) < 0 ∨ cl199.slots.size ≤ ((5 : Int32)).toNatClampNeg) := inb_of S199 ⟨by decide, by decide⟩
              have hat199 : cl199.slots[((5 : Int32)).toNatClampNeg]? = some (.int (100000 : Int32)) := Hh199.at hin199 rfl
              obtain ⟨_, _, ⟨T200, L200, k200, n200⟩, -, X200, ⟨Lc200, hQ200, l200, y200, z200⟩, st200⟩ := Jvm.LawKit.callS X197 hx (y := (⟨"com/example/libforeword/libforeword/wordlist/EntryParseFrequencyPinLaw", "d", "(II)C"⟩ : MethodName)) hown (mvT hZ (hw _ (List.mem_of_getElem? (i := 8) rfl))) (mvT hZ (hw _ (List.mem_of_getElem? (i := 9) rfl))) (mvT hZ (hw _ (List.mem_of_getElem? (i := 10) rfl))) (mvT hZ (hw _ (List.mem_of_getElem? (i := 11) rfl))) (by decide) (backOf (W := 2) (rmDD l Z a0 hw [] nv (100000 : Int32) h197 n0 Z197 (by decide)) hZ (hw _ (List.mem_of_getElem? (i := 11) rfl)) (hw _ (List.mem_of_getElem? (i := 10) rfl)) (by decide) (by decide)) (g := (mkF m 207 #[.val (.int p0), .val (.int p1), .val (.int (6 : Int32)), .val (.ref b2), .val (.int nv), .val (.ref b172), .unset] [(.int (100000 : Int32)), (.int nv), (.int (0 : Int32)), (.ref b172)])) rfl (by rw [hml]; rfl) (argsL := [(.int nv), (.int (100000 : Int32))]) (rest := [(.int (0 : Int32)), (.ref b172)]) (lenOf pd_3 rfl) rfl (by show 2 * 0 + _ ≤ _; exact Nat.le_of_eq rfl) (hb hby at_207) (fun _ _ => ⟨rfl, e197, (by decide : 2 + 0 ≤ _), (by decide : 16 + 0 ≤ _)⟩)
              dsimp only [Pt.U, Pt.locs, Pt.cells, Pt.slots] at X200 l200 y200 z200 st200 hQ200
              subst l200 y200 z200
              obtain ⟨rfl, N200q, e200⟩ := hQ200
              have N200 := Fr.app N197 N200q
              obtain ⟨cl201, Ar201, q201, S201, Nn201, Hh201, Gg201⟩ := id V197
              have hin201 : ¬ ((0 : Int32) < 0 ∨ cl201.slots.size ≤ ((0 : Int32)).toNatClampNeg) := inb_of S201 ⟨by decide, by decide⟩
              obtain ⟨T202, h202, X202, e202, W202, st202⟩ := stC X200 hx hZ e200 Ar201 (j := (0 : Int32)) hin201 (g := (mkF m 210 #[.val (.int p0), .val (.int p1), .val (.int (6 : Int32)), .val (.ref b2), .val (.int nv), .val (.ref b172), .unset] [(.int (dV nv (100000 : Int32))), (.int (0 : Int32)), (.ref b172)])) rfl rfl (hb hby at_210)
              have V202 : Arv Z h202 b172 k172 .char (6 : Int32) [(.int (nar .char (dV nv (100000 : Int32)))), (.int (nar .char (dV nv (10000 : Int32)))), (.int (nar .char (dV nv (1000 : Int32)))), (.int (nar .char (dV nv (100 : Int32)))), (.int (nar .char (dV nv (10 : Int32)))), (.int (nar .char (dV nv (1 : Int32))))] (.int (0 : Int32)) := Arv.set Ar201 q201 S201 Nn201 Hh201 Gg201 (fits_nar_char _) W202 0 rfl (Nat.le_of_ble_eq_true rfl)
              have K202 : Keep h0 h202 [] := Keep.wr K197 W202 (Or.inr sz_b172)
              have Z202 : n0 ≤ h202.size := Nat.le_trans Z0 K202.1
              have N202 := Fr.snoc X202 N200 g_b172
              obtain ⟨lx203, Xx203, Nx203⟩ : ∃ lx, Stand p l e room_1 s m #[(.int p0), (.int p1)] below meth c T202 lx 2 16 ∧ Fr n0 lx := ⟨_, X202, N202⟩
              have f204 := (f198.other W202 ne_b2_b172)
              obtain ⟨T205, h205, X205, e205, E205, A205, D205, -, st205⟩ := newO Xx203 hx hZ hown (hw _ (List.mem_of_getElem? (i := 12) rfl)) (hw _ (List.mem_of_getElem? (i := 13) rfl)) (hw _ (List.mem_of_getElem? (i := 14) rfl)) e202 (g := (mkF m 329 #[.val (.int p0), .val (.int p1), .val (.int (6 : Int32)), .val (.ref b2), .val (.int nv), .val (.ref b172), .unset] [])) rfl (hb hby at_329) (by decide) (by decide)
              obtain ⟨b205, g205⟩ : ∃ z, z = h202.size := ⟨_, rfl⟩
              rw [← g205] at A205 D205 st205
              have g_b205 : n0 ≤ b205 := Nat.le_trans Z202 (Nat.le_of_eq g205.symm)
              have sz_b205 : h0.size ≤ b205 := Nat.le_trans K202.1 (Nat.le_of_eq g205.symm)
              have ne_b2_b205 : b2 ≠ b205 := Nat.ne_of_lt (Nat.lt_of_lt_of_le f204.lt (Nat.le_of_eq g205.symm))
              have ne_b172_b205 : b172 ≠ b205 := Nat.ne_of_lt (Nat.lt_of_lt_of_le V202.lt (Nat.le_of_eq g205.symm))
              have K205 : Keep h0 h205 [] := Keep.ext K202 E205
              have Z205 : n0 ≤ h205.size := Nat.le_trans Z0 K205.1
              have F_coder_b205 : Fld Z h205 b205 "java/lang/String" "coder" "B" (.int (0 : Int32)) := D205 (Or.inr (hw _ (List.mem_of_getElem? (i := 38) rfl))) (ty := .byte) (by decide)
              have F_value_b205 : Fld Z h205 b205 "java/lang/String" "value" "[B" .null := D205 (Or.inr (hw _ (List.mem_of_getElem? (i := 40) rfl))) (ty := (.array .byte)) (by decide)
              have hdg : ∀ i, i < 6 → (([(nar .char (dV nv (100000 : Int32))), (nar .char (dV nv (10000 : Int32))), (nar .char (dV nv (1000 : Int32))), (nar .char (dV nv (100 : Int32))), (nar .char (dV nv (10 : Int32))), (nar .char (dV nv (1 : Int32)))] : List Int32).getD i 0).toInt = 48 + (nv.toInt / 10 ^ (6 - 1 - i)) % 10 := fun i hi => match i, hi with
                | 0, _ => by rw [show (([(nar .char (dV nv (100000 : Int32))), (nar .char (dV nv (10000 : Int32))), (nar .char (dV nv (1000 : Int32))), (nar .char (dV nv (100 : Int32))), (nar .char (dV nv (10 : Int32))), (nar .char (dV nv (1 : Int32)))] : List Int32)).getD 0 0 = nar .char (dV nv (100000 : Int32)) from rfl, own_dc nv (100000 : Int32) hnb.1 (by decide)]; rfl
                | 1, _ => by rw [show (([(nar .char (dV nv (100000 : Int32))), (nar .char (dV nv (10000 : Int32))), (nar .char (dV nv (1000 : Int32))), (nar .char (dV nv (100 : Int32))), (nar .char (dV nv (10 : Int32))), (nar .char (dV nv (1 : Int32)))] : List Int32)).getD 1 0 = nar .char (dV nv (10000 : Int32)) from rfl, own_dc nv (10000 : Int32) hnb.1 (by decide)]; rfl
                | 2, _ => by rw [show (([(nar .char (dV nv (100000 : Int32))), (nar .char (dV nv (10000 : Int32))), (nar .char (dV nv (1000 : Int32))), (nar .char (dV nv (100 : Int32))), (nar .char (dV nv (10 : Int32))), (nar .char (dV nv (1 : Int32)))] : List Int32)).getD 2 0 = nar .char (dV nv (1000 : Int32)) from rfl, own_dc nv (1000 : Int32) hnb.1 (by decide)]; rfl
                | 3, _ => by rw [show (([(nar .char (dV nv (100000 : Int32))), (nar .char (dV nv (10000 : Int32))), (nar .char (dV nv (1000 : Int32))), (nar .char (dV nv (100 : Int32))), (nar .char (dV nv (10 : Int32))), (nar .char (dV nv (1 : Int32)))] : List Int32)).getD 3 0 = nar .char (dV nv (100 : Int32)) from rfl, own_dc nv (100 : Int32) hnb.1 (by decide)]; rfl
                | 4, _ => by rw [show (([(nar .char (dV nv (100000 : Int32))), (nar .char (dV nv (10000 : Int32))), (nar .char (dV nv (1000 : Int32))), (nar .char (dV nv (100 : Int32))), (nar .char (dV nv (10 : Int32))), (nar .char (dV nv (1 : Int32)))] : List Int32)).getD 4 0 = nar .char (dV nv (10 : Int32)) from rfl, own_dc nv (10 : Int32) hnb.1 (by decide)]; rfl
                | 5, _ => by rw [show (([(nar .char (dV nv (100000 : Int32))), (nar .char (dV nv (10000 : Int32))), (nar .char (dV nv (1000 : Int32))), (nar .char (dV nv (100 : Int32))), (nar .char (dV nv (10 : Int32))), (nar .char (dV nv (1 : Int32)))] : List Int32)).getD 5 0 = nar .char (dV nv (1 : Int32)) from rfl, own_dc nv (1 : Int32) hnb.1 (by decide)]; rfl
                | k + 6, h => absurd h (by omega)
              obtain ⟨hp, hdig, hval, hfin⟩ := own_facts ([(nar .char (dV nv (100000 : Int32))), (nar .char (dV nv (10000 : Int32))), (nar .char (dV nv (1000 : Int32))), (nar .char (dV nv (100 : Int32))), (nar .char (dV nv (10 : Int32))), (nar .char (dV nv (1 : Int32)))] : List Int32) nv 6 rfl hnb.1 hnb.2 hdg
              have f207 := (V202.ext E205)
              have f208 := (((((((((((((((((((SC.ext E2).wr W4).wr W6).wr W8).wr W10).wr W12).wr W14).wr W16).wr W18).wr W20).wr W22).ext E172).wr W177).wr W182).wr W187).wr W192).wr W197).wr W202).ext E205)
              obtain ⟨_, _, ⟨T206, L206, k206, n206⟩, -, X206, ⟨Lc206, hQ206, l206, y206, z206⟩, st206⟩ := X205.specialBack hx (y := (⟨"java/lang/String", "<init>", "([C)V"⟩ : MethodName)) rfl hown (mvT hZ (hw _ (List.mem_of_getElem? (i := 15) rfl))) (mvT hZ (hw _ (List.mem_of_getElem? (i := 16) rfl))) (mvT hZ (hw _ (List.mem_of_getElem? (i := 17) rfl))) (by decide) (StrChars.Road.backV (W := 1) hZ hws (kI := 4) (hw _ (List.mem_of_getElem? (i := 13) rfl)) (cs := ([(nar .char (dV nv (100000 : Int32))), (nar .char (dV nv (10000 : Int32))), (nar .char (dV nv (1000 : Int32))), (nar .char (dV nv (100 : Int32))), (nar .char (dV nv (10 : Int32))), (nar .char (dV nv (1 : Int32)))] : List Int32)) (bs := (([(nar .char (dV nv (100000 : Int32))), (nar .char (dV nv (10000 : Int32))), (nar .char (dV nv (1000 : Int32))), (nar .char (dV nv (100 : Int32))), (nar .char (dV nv (10 : Int32))), (nar .char (dV nv (1 : Int32)))] : List Int32)).map (fun c => c.toInt8.toInt32)) (n := 6) g_b205 Z205 A205 F_value_b205 F_coder_b205 f207 f208 hC rfl rfl (by decide) (by decide) hp rfl (by decide) (by decide)) (g := (mkF m 335 #[.val (.int p0), .val (.int p1), .val (.int (6 : Int32)), .val (.ref b2), .val (.int nv), .val (.ref b172), .unset] [(.ref b172), (.ref b205), (.ref b205)])) rfl (by rw [hml]; rfl) (Steps.refl _) (a := b205) (argsL := [(.ref b172)]) (rest := [(.ref b205)]) (lenOf pd_4 rfl) rfl (by show 2 * 0 + _ ≤ _; exact Nat.le_of_eq rfl) (hb hby at_335) (fun _ _ => ⟨rfl, e205, (by decide : 3 + 1 ≤ _), (by decide : 20 + 6 ≤ _)⟩)
              dsimp only [Pt.U, Pt.locs, Pt.cells, Pt.slots] at X206 l206 y206 z206 st206 hQ206
              subst l206 y206 z206
              obtain ⟨rfl, N206q, K206, Ex206, Fc206, bt206, kb206, gt206, ge206, nt206, Fv206, AV206⟩ := hQ206
              have sk209 := own_sta_keep1 f208 A205 K206
              have f210 := (((((((((((((((((((SG.ext E2).wr W4).wr W6).wr W8).wr W10).wr W12).wr W14).wr W16).wr W18).wr W20).wr W22).ext E172).wr W177).wr W182).wr W187).wr W192).wr W197).wr W202).ext E205)
              have sk211 := own_sta_keep1 f210 A205 K206
              have KK206 : Keep h0 T206.heap [] := Keep.trans K205 K206 (own_side1 (Or.inr sz_b205))
              have Z206 : n0 ≤ T206.heap.size := Nat.le_trans Z0 KK206.1
              have N206 := Fr.app Nx203 N206q
              obtain ⟨lx212, Xx212, Nx212⟩ : ∃ lx, Stand p l e room_1 s m #[(.int p0), (.int p1)] below meth c T206 lx 4 26 ∧ Fr n0 lx := ⟨_, X206, N206⟩
              obtain ⟨_, _, ⟨T213, L213, k213, n213⟩, -, X213, ⟨Lc213, hQ213, l213, y213, z213⟩, st213⟩ := Jvm.LawKit.callS Xx212 hx (y := (⟨"com/example/libforeword/libforeword/wordlist/Entry", "parseFrequency", "(Ljava/lang/String;)I"⟩ : MethodName)) hown (mvT hZ (hw _ (List.mem_of_getElem? (i := 41) rfl))) (mvT hZ (hw _ (List.mem_of_getElem? (i := 42) rfl))) (mvT hZ (hw _ (List.mem_of_getElem? (i := 43) rfl))) (mvT hZ (hw _ (List.mem_of_getElem? (i := 44) rfl))) (by decide) (backOf (W := 0) (rmPF l Z a0 hw [] b205 bt206 kb206 ([(nar .char (dV nv (100000 : Int32))), (nar .char (dV nv (10000 : Int32))), (nar .char (dV nv (1000 : Int32))), (nar .char (dV nv (100 : Int32))), (nar .char (dV nv (10 : Int32))), (nar .char (dV nv (1 : Int32)))] : List Int32) iC vG T206.heap n0 Z206 Ex206 Fc206 Fv206 AV206 sk209 hC sk211 hvG hp (by show 0 < 6; decide) (by show 6 ≤ 12; decide) hdig hval) hZ (hw _ (List.mem_of_getElem? (i := 44) rfl)) (hw _ (List.mem_of_getElem? (i := 43) rfl)) (by decide) (by decide)) (g := (mkF m 342 #[.val (.int p0), .val (.int p1), .val (.int (6 : Int32)), .val (.ref b2), .val (.int nv), .val (.ref b172), .val (.ref b205)] [(.ref b205)])) rfl (by rw [hml]; rfl) (argsL := [(.ref b205)]) (rest := []) (lenOf pd_5 rfl) rfl (by show 2 * 0 + _ ≤ _; exact Nat.le_of_eq rfl) (hb hby at_342) (fun _ _ => ⟨rfl, rfl, (by decide : 4 + 0 ≤ _), (by decide : 26 + 0 ≤ _)⟩)
              dsimp only [Pt.U, Pt.locs, Pt.cells, Pt.slots] at X213 l213 y213 z213 st213 hQ213
              subst l213 y213 z213
              obtain ⟨rfl, N213q, e213⟩ := hQ213
              have N213 := Fr.app Nx212 N213q
              obtain ⟨fs, hr, hrun, hended, hW, hsame⟩ := X213.leave (v := some (.int (1 : Int32))) (fun h => by rw [Bd.returns] at h; cases h)
              refine ⟨_, _, pre171 _ ?_, hrun, hended, _, _, rfl, ?_, ⟨_, rfl⟩, hW, hsame.mono (by decide) (by decide)⟩
              · show Steps p.tables e below (T22.setTop (mkF m 90 #[.val (.int p0), .val (.int p1), .val (.int (6 : Int32)), .val (.ref b2), .val (.int nv), .unset, .unset] [])) _
                refine XS.iloadN Xx24.here hx rfl (hb hby at_90) rfl ?_
                show Steps p.tables e below (T22.setTop (mkF m 91 #[.val (.int p0), .val (.int p1), .val (.int (6 : Int32)), .val (.ref b2), .val (.int nv), .unset, .unset] [(.int (6 : Int32))])) _
                refine st172 _ ?_
                refine XS.astore X172.here hx rfl (hb hby at_93) rfl rfl (l' := #[.val (.int p0), .val (.int p1), .val (.int (6 : Int32)), .val (.ref b2), .val (.int nv), .val (.ref b172), .unset]) rfl ?_
                refine XS.iloadN X172.here hx rfl (hb hby at_95) rfl ?_
                refine XS.iconst X172.here hx rfl (hb hby at_96) ?_
                show Steps p.tables e below (T172.setTop (mkF m 97 #[.val (.int p0), .val (.int p1), .val (.int (6 : Int32)), .val (.ref b2), .val (.int nv), .val (.ref b172), .unset] [(.int (1 : Int32)), (.int (6 : Int32))])) _
                refine XS.icmpNo X172.here hx rfl (hb hby at_97) rfl (flt (show ¬ ((6 : Int32) < (1 : Int32)) from (by decide))).1 ?_
                refine XS.aload X172.here hx rfl (hb hby at_100) rfl rfl ?_
                refine XS.iloadN X172.here hx rfl (hb hby at_102) rfl ?_
                refine XS.iconst X172.here hx rfl (hb hby at_103) ?_
                show Steps p.tables e below (T172.setTop (mkF m 104 #[.val (.int p0), .val (.int p1), .val (.int (6 : Int32)), .val (.ref b2), .val (.int nv), .val (.ref b172), .unset] [(.int (1 : Int32)), (.int (6 : Int32)), (.ref b172)])) _
                refine XS.isub X172.here hx rfl (hb hby at_104) rfl ?_
                refine XS.iload X172.here hx rfl (hb hby at_105) rfl ?_
                refine XS.aloadN X172.here hx rfl (hb hby at_107) rfl rfl ?_
                refine XS.iconst X172.here hx rfl (hb hby at_108) ?_
                show Steps p.tables e below (T172.setTop (mkF m 109 #[.val (.int p0), .val (.int p1), .val (.int (6 : Int32)), .val (.ref b2), .val (.int nv), .val (.ref b172), .unset] [(.int (0 : Int32)), (.ref b2), (.int nv), (.int (5 : Int32)), (.ref b172)])) _
                refine X172.iaload hx (j := (0 : Int32)) (v := (.int (1 : Int32))) (by rw [e172]; exact Ar174.1) (State.isArrayOf_alike hZ.alike Ar174.2.1) Ar174.2.2 hin174 hat174 (g := (mkF m 109 #[.val (.int p0), .val (.int p1), .val (.int (6 : Int32)), .val (.ref b2), .val (.int nv), .val (.ref b172), .unset] [(.int (0 : Int32)), (.ref b2), (.int nv), (.int (5 : Int32)), (.ref b172)])) rfl rfl (hb hby at_109) _ ?_
                show Steps p.tables e below (T172.setTop (mkF m 110 #[.val (.int p0), .val (.int p1), .val (.int (6 : Int32)), .val (.ref b2), .val (.int nv), .val (.ref b172), .unset] [(.int (1 : Int32)), (.int nv), (.int (5 : Int32)), (.ref b172)])) _
                refine st175 _ ?_
                show Steps p.tables e below (T175.setTop (mkF m 113 #[.val (.int p0), .val (.int p1), .val (.int (6 : Int32)), .val (.ref b2), .val (.int nv), .val (.ref b172), .unset] [(.int (dV nv (1 : Int32))), (.int (5 : Int32)), (.ref b172)])) _
                refine st177 _ ?_
                refine XS.iloadN X177.here hx rfl (hb hby at_114) rfl ?_
                refine XS.iconst X177.here hx rfl (hb hby at_115) ?_
                show Steps p.tables e below (T177.setTop (mkF m 116 #[.val (.int p0), .val (.int p1), .val (.int (6 : Int32)), .val (.ref b2), .val (.int nv), .val (.ref b172), .unset] [(.int (2 : Int32)), (.int (6 : Int32))])) _
                refine XS.icmpNo X177.here hx rfl (hb hby at_116) rfl (flt (show ¬ ((6 : Int32) < (2 : Int32)) from (by decide))).1 ?_
                refine XS.aload X177.here hx rfl (hb hby at_119) rfl rfl ?_
                refine XS.iloadN X177.here hx rfl (hb hby at_121) rfl ?_
                refine XS.iconst X177.here hx rfl (hb hby at_122) ?_
                show Steps p.tables e below (T177.setTop (mkF m 123 #[.val (.int p0), .val (.int p1), .val (.int (6 : Int32)), .val (.ref b2), .val (.int nv), .val (.ref b172), .unset] [(.int (2 : Int32)), (.int (6 : Int32)), (.ref b172)])) _
                refine XS.isub X177.here hx rfl (hb hby at_123) rfl ?_
                refine XS.iload X177.here hx rfl (hb hby at_124) rfl ?_
                refine XS.aloadN X177.here hx rfl (hb hby at_126) rfl rfl ?_
                refine XS.iconst X177.here hx rfl (hb hby at_127) ?_
                show Steps p.tables e below (T177.setTop (mkF m 128 #[.val (.int p0), .val (.int p1), .val (.int (6 : Int32)), .val (.ref b2), .val (.int nv), .val (.ref b172), .unset] [(.int (1 : Int32)), (.ref b2), (.int nv), (.int (4 : Int32)), (.ref b172)])) _
                refine X177.iaload hx (j := (1 : Int32)) (v := (.int (10 : Int32))) (by rw [e177]; exact Ar179.1) (State.isArrayOf_alike hZ.alike Ar179.2.1) Ar179.2.2 hin179 hat179 (g := (mkF m 128 #[.val (.int p0), .val (.int p1), .val (.int (6 : Int32)), .val (.ref b2), .val (.int nv), .val (.ref b172), .unset] [(.int (1 : Int32)), (.ref b2), (.int nv), (.int (4 : Int32)), (.ref b172)])) rfl rfl (hb hby at_128) _ ?_
                show Steps p.tables e below (T177.setTop (mkF m 129 #[.val (.int p0), .val (.int p1), .val (.int (6 : Int32)), .val (.ref b2), .val (.int nv), .val (.ref b172), .unset] [(.int (10 : Int32)), (.int nv), (.int (4 : Int32)), (.ref b172)])) _
                refine st180 _ ?_
                show Steps p.tables e below (T180.setTop (mkF m 132 #[.val (.int p0), .val (.int p1), .val (.int (6 : Int32)), .val (.ref b2), .val (.int nv), .val (.ref b172), .unset] [(.int (dV nv (10 : Int32))), (.int (4 : Int32)), (.ref b172)])) _
                refine st182 _ ?_
                refine XS.iloadN X182.here hx rfl (hb hby at_133) rfl ?_
                refine XS.iconst X182.here hx rfl (hb hby at_134) ?_
                show Steps p.tables e below (T182.setTop (mkF m 135 #[.val (.int p0), .val (.int p1), .val (.int (6 : Int32)), .val (.ref b2), .val (.int nv), .val (.ref b172), .unset] [(.int (3 : Int32)), (.int (6 : Int32))])) _
                refine XS.icmpNo X182.here hx rfl (hb hby at_135) rfl (flt (show ¬ ((6 : Int32) < (3 : Int32)) from (by decide))).1 ?_
                refine XS.aload X182.here hx rfl (hb hby at_138) rfl rfl ?_
                refine XS.iloadN X182.here hx rfl (hb hby at_140) rfl ?_
                refine XS.iconst X182.here hx rfl (hb hby at_141) ?_
                show Steps p.tables e below (T182.setTop (mkF m 142 #[.val (.int p0), .val (.int p1), .val (.int (6 : Int32)), .val (.ref b2), .val (.int nv), .val (.ref b172), .unset] [(.int (3 : Int32)), (.int (6 : Int32)), (.ref b172)])) _
                refine XS.isub X182.here hx rfl (hb hby at_142) rfl ?_
                refine XS.iload X182.here hx rfl (hb hby at_143) rfl ?_
                refine XS.aloadN X182.here hx rfl (hb hby at_145) rfl rfl ?_
                refine XS.iconst X182.here hx rfl (hb hby at_146) ?_
                show Steps p.tables e below (T182.setTop (mkF m 147 #[.val (.int p0), .val (.int p1), .val (.int (6 : Int32)), .val (.ref b2), .val (.int nv), .val (.ref b172), .unset] [(.int (2 : Int32)), (.ref b2), (.int nv), (.int (3 : Int32)), (.ref b172)])) _
                refine X182.iaload hx (j := (2 : Int32)) (v := (.int (100 : Int32))) (by rw [e182]; exact Ar184.1) (State.isArrayOf_alike hZ.alike Ar184.2.1) Ar184.2.2 hin184 hat184 (g := (mkF m 147 #[.val (.int p0), .val (.int p1), .val (.int (6 : Int32)), .val (.ref b2), .val (.int nv), .val (.ref b172), .unset] [(.int (2 : Int32)), (.ref b2), (.int nv), (.int (3 : Int32)), (.ref b172)])) rfl rfl (hb hby at_147) _ ?_
                show Steps p.tables e below (T182.setTop (mkF m 148 #[.val (.int p0), .val (.int p1), .val (.int (6 : Int32)), .val (.ref b2), .val (.int nv), .val (.ref b172), .unset] [(.int (100 : Int32)), (.int nv), (.int (3 : Int32)), (.ref b172)])) _
                refine st185 _ ?_
                show Steps p.tables e below (T185.setTop (mkF m 151 #[.val (.int p0), .val (.int p1), .val (.int (6 : Int32)), .val (.ref b2), .val (.int nv), .val (.ref b172), .unset] [(.int (dV nv (100 : Int32))), (.int (3 : Int32)), (.ref b172)])) _
                refine st187 _ ?_
                refine XS.iloadN X187.here hx rfl (hb hby at_152) rfl ?_
                refine XS.iconst X187.here hx rfl (hb hby at_153) ?_
                show Steps p.tables e below (T187.setTop (mkF m 154 #[.val (.int p0), .val (.int p1), .val (.int (6 : Int32)), .val (.ref b2), .val (.int nv), .val (.ref b172), .unset] [(.int (4 : Int32)), (.int (6 : Int32))])) _
                refine XS.icmpNo X187.here hx rfl (hb hby at_154) rfl (flt (show ¬ ((6 : Int32) < (4 : Int32)) from (by decide))).1 ?_
                refine XS.aload X187.here hx rfl (hb hby at_157) rfl rfl ?_
                refine XS.iloadN X187.here hx rfl (hb hby at_159) rfl ?_
                refine XS.iconst X187.here hx rfl (hb hby at_160) ?_
                show Steps p.tables e below (T187.setTop (mkF m 161 #[.val (.int p0), .val (.int p1), .val (.int (6 : Int32)), .val (.ref b2), .val (.int nv), .val (.ref b172), .unset] [(.int (4 : Int32)), (.int (6 : Int32)), (.ref b172)])) _
                refine XS.isub X187.here hx rfl (hb hby at_161) rfl ?_
                refine XS.iload X187.here hx rfl (hb hby at_162) rfl ?_
                refine XS.aloadN X187.here hx rfl (hb hby at_164) rfl rfl ?_
                refine XS.iconst X187.here hx rfl (hb hby at_165) ?_
                show Steps p.tables e below (T187.setTop (mkF m 166 #[.val (.int p0), .val (.int p1), .val (.int (6 : Int32)), .val (.ref b2), .val (.int nv), .val (.ref b172), .unset] [(.int (3 : Int32)), (.ref b2), (.int nv), (.int (2 : Int32)), (.ref b172)])) _
                refine X187.iaload hx (j := (3 : Int32)) (v := (.int (1000 : Int32))) (by rw [e187]; exact Ar189.1) (State.isArrayOf_alike hZ.alike Ar189.2.1) Ar189.2.2 hin189 hat189 (g := (mkF m 166 #[.val (.int p0), .val (.int p1), .val (.int (6 : Int32)), .val (.ref b2), .val (.int nv), .val (.ref b172), .unset] [(.int (3 : Int32)), (.ref b2), (.int nv), (.int (2 : Int32)), (.ref b172)])) rfl rfl (hb hby at_166) _ ?_
                show Steps p.tables e below (T187.setTop (mkF m 167 #[.val (.int p0), .val (.int p1), .val (.int (6 : Int32)), .val (.ref b2), .val (.int nv), .val (.ref b172), .unset] [(.int (1000 : Int32)), (.int nv), (.int (2 : Int32)), (.ref b172)])) _
                refine st190 _ ?_
                show Steps p.tables e below (T190.setTop (mkF m 170 #[.val (.int p0), .val (.int p1), .val (.int (6 : Int32)), .val (.ref b2), .val (.int nv), .val (.ref b172), .unset] [(.int (dV nv (1000 : Int32))), (.int (2 : Int32)), (.ref b172)])) _
                refine st192 _ ?_
                refine XS.iloadN X192.here hx rfl (hb hby at_171) rfl ?_
                refine XS.iconst X192.here hx rfl (hb hby at_172) ?_
                show Steps p.tables e below (T192.setTop (mkF m 173 #[.val (.int p0), .val (.int p1), .val (.int (6 : Int32)), .val (.ref b2), .val (.int nv), .val (.ref b172), .unset] [(.int (5 : Int32)), (.int (6 : Int32))])) _
                refine XS.icmpNo X192.here hx rfl (hb hby at_173) rfl (flt (show ¬ ((6 : Int32) < (5 : Int32)) from (by decide))).1 ?_
                refine XS.aload X192.here hx rfl (hb hby at_176) rfl rfl ?_
                refine XS.iloadN X192.here hx rfl (hb hby at_178) rfl ?_
                refine XS.iconst X192.here hx rfl (hb hby at_179) ?_
                show Steps p.tables e below (T192.setTop (mkF m 180 #[.val (.int p0), .val (.int p1), .val (.int (6 : Int32)), .val (.ref b2), .val (.int nv), .val (.ref b172), .unset] [(.int (5 : Int32)), (.int (6 : Int32)), (.ref b172)])) _
                refine XS.isub X192.here hx rfl (hb hby at_180) rfl ?_
                refine XS.iload X192.here hx rfl (hb hby at_181) rfl ?_
                refine XS.aloadN X192.here hx rfl (hb hby at_183) rfl rfl ?_
                refine XS.iconst X192.here hx rfl (hb hby at_184) ?_
                show Steps p.tables e below (T192.setTop (mkF m 185 #[.val (.int p0), .val (.int p1), .val (.int (6 : Int32)), .val (.ref b2), .val (.int nv), .val (.ref b172), .unset] [(.int (4 : Int32)), (.ref b2), (.int nv), (.int (1 : Int32)), (.ref b172)])) _
                refine X192.iaload hx (j := (4 : Int32)) (v := (.int (10000 : Int32))) (by rw [e192]; exact Ar194.1) (State.isArrayOf_alike hZ.alike Ar194.2.1) Ar194.2.2 hin194 hat194 (g := (mkF m 185 #[.val (.int p0), .val (.int p1), .val (.int (6 : Int32)), .val (.ref b2), .val (.int nv), .val (.ref b172), .unset] [(.int (4 : Int32)), (.ref b2), (.int nv), (.int (1 : Int32)), (.ref b172)])) rfl rfl (hb hby at_185) _ ?_
                show Steps p.tables e below (T192.setTop (mkF m 186 #[.val (.int p0), .val (.int p1), .val (.int (6 : Int32)), .val (.ref b2), .val (.int nv), .val (.ref b172), .unset] [(.int (10000 : Int32)), (.int nv), (.int (1 : Int32)), (.ref b172)])) _
                refine st195 _ ?_
                show Steps p.tables e below (T195.setTop (mkF m 189 #[.val (.int p0), .val (.int p1), .val (.int (6 : Int32)), .val (.ref b2), .val (.int nv), .val (.ref b172), .unset] [(.int (dV nv (10000 : Int32))), (.int (1 : Int32)), (.ref b172)])) _
                refine st197 _ ?_
                refine XS.iloadN X197.here hx rfl (hb hby at_190) rfl ?_
                refine XS.bipush X197.here hx rfl (hb hby at_191) ?_
                show Steps p.tables e below (T197.setTop (mkF m 193 #[.val (.int p0), .val (.int p1), .val (.int (6 : Int32)), .val (.ref b2), .val (.int nv), .val (.ref b172), .unset] [(.int (6 : Int32)), (.int (6 : Int32))])) _
                refine XS.icmpNo X197.here hx rfl (hb hby at_193) rfl (flt (show ¬ ((6 : Int32) < (6 : Int32)) from (by decide))).1 ?_
                refine XS.aload X197.here hx rfl (hb hby at_196) rfl rfl ?_
                refine XS.iloadN X197.here hx rfl (hb hby at_198) rfl ?_
                refine XS.bipush X197.here hx rfl (hb hby at_199) ?_
                show Steps p.tables e below (T197.setTop (mkF m 201 #[.val (.int p0), .val (.int p1), .val (.int (6 : Int32)), .val (.ref b2), .val (.int nv), .val (.ref b172), .unset] [(.int (6 : Int32)), (.int (6 : Int32)), (.ref b172)])) _
                refine XS.isub X197.here hx rfl (hb hby at_201) rfl ?_
                refine XS.iload X197.here hx rfl (hb hby at_202) rfl ?_
                refine XS.aloadN X197.here hx rfl (hb hby at_204) rfl rfl ?_
                refine XS.iconst X197.here hx rfl (hb hby at_205) ?_
                show Steps p.tables e below (T197.setTop (mkF m 206 #[.val (.int p0), .val (.int p1), .val (.int (6 : Int32)), .val (.ref b2), .val (.int nv), .val (.ref b172), .unset] [(.int (5 : Int32)), (.ref b2), (.int nv), (.int (0 : Int32)), (.ref b172)])) _
                refine X197.iaload hx (j := (5 : Int32)) (v := (.int (100000 : Int32))) (by rw [e197]; exact Ar199.1) (State.isArrayOf_alike hZ.alike Ar199.2.1) Ar199.2.2 hin199 hat199 (g := (mkF m 206 #[.val (.int p0), .val (.int p1), .val (.int (6 : Int32)), .val (.ref b2), .val (.int nv), .val (.ref b172), .unset] [(.int (5 : Int32)), (.ref b2), (.int nv), (.int (0 : Int32)), (.ref b172)])) rfl rfl (hb hby at_206) _ ?_
                show Steps p.tables e below (T197.setTop (mkF m 207 #[.val (.int p0), .val (.int p1), .val (.int (6 : Int32)), .val (.ref b2), .val (.int nv), .val (.ref b172), .unset] [(.int (100000 : Int32)), (.int nv), (.int (0 : Int32)), (.ref b172)])) _
                refine st200 _ ?_
                show Steps p.tables e below (T200.setTop (mkF m 210 #[.val (.int p0), .val (.int p1), .val (.int (6 : Int32)), .val (.ref b2), .val (.int nv), .val (.ref b172), .unset] [(.int (dV nv (100000 : Int32))), (.int (0 : Int32)), (.ref b172)])) _
                refine st202 _ ?_
                refine XS.iloadN X202.here hx rfl (hb hby at_211) rfl ?_
                refine XS.bipush X202.here hx rfl (hb hby at_212) ?_
                show Steps p.tables e below (T202.setTop (mkF m 214 #[.val (.int p0), .val (.int p1), .val (.int (6 : Int32)), .val (.ref b2), .val (.int nv), .val (.ref b172), .unset] [(.int (7 : Int32)), (.int (6 : Int32))])) _
                refine XS.icmpYes X202.here hx rfl (pc0 := 214) (pc' := 233) rfl (hb hby at_214) rfl (tlt (show (6 : Int32) < (7 : Int32) from (by decide))).1 (by decide) (by decide) ?_
                refine XS.iloadN X202.here hx rfl (hb hby at_233) rfl ?_
                refine XS.bipush X202.here hx rfl (hb hby at_234) ?_
                show Steps p.tables e below (T202.setTop (mkF m 236 #[.val (.int p0), .val (.int p1), .val (.int (6 : Int32)), .val (.ref b2), .val (.int nv), .val (.ref b172), .unset] [(.int (8 : Int32)), (.int (6 : Int32))])) _
                refine XS.icmpYes X202.here hx rfl (pc0 := 236) (pc' := 255) rfl (hb hby at_236) rfl (tlt (show (6 : Int32) < (8 : Int32) from (by decide))).1 (by decide) (by decide) ?_
                refine XS.iloadN X202.here hx rfl (hb hby at_255) rfl ?_
                refine XS.bipush X202.here hx rfl (hb hby at_256) ?_
                show Steps p.tables e below (T202.setTop (mkF m 258 #[.val (.int p0), .val (.int p1), .val (.int (6 : Int32)), .val (.ref b2), .val (.int nv), .val (.ref b172), .unset] [(.int (9 : Int32)), (.int (6 : Int32))])) _
                refine XS.icmpYes X202.here hx rfl (pc0 := 258) (pc' := 277) rfl (hb hby at_258) rfl (tlt (show (6 : Int32) < (9 : Int32) from (by decide))).1 (by decide) (by decide) ?_
                refine XS.iloadN X202.here hx rfl (hb hby at_277) rfl ?_
                refine XS.bipush X202.here hx rfl (hb hby at_278) ?_
                show Steps p.tables e below (T202.setTop (mkF m 280 #[.val (.int p0), .val (.int p1), .val (.int (6 : Int32)), .val (.ref b2), .val (.int nv), .val (.ref b172), .unset] [(.int (10 : Int32)), (.int (6 : Int32))])) _
                refine XS.icmpYes X202.here hx rfl (pc0 := 280) (pc' := 299) rfl (hb hby at_280) rfl (tlt (show (6 : Int32) < (10 : Int32) from (by decide))).1 (by decide) (by decide) ?_
                refine XS.iloadN X202.here hx rfl (hb hby at_299) rfl ?_
                refine XS.bipush X202.here hx rfl (hb hby at_300) ?_
                show Steps p.tables e below (T202.setTop (mkF m 302 #[.val (.int p0), .val (.int p1), .val (.int (6 : Int32)), .val (.ref b2), .val (.int nv), .val (.ref b172), .unset] [(.int (11 : Int32)), (.int (6 : Int32))])) _
                refine XS.icmpYes X202.here hx rfl (pc0 := 302) (pc' := 314) rfl (hb hby at_302) rfl (tlt (show (6 : Int32) < (11 : Int32) from (by decide))).1 (by decide) (by decide) ?_
                refine XS.iloadN X202.here hx rfl (hb hby at_314) rfl ?_
                refine XS.bipush X202.here hx rfl (hb hby at_315) ?_
                show Steps p.tables e below (T202.setTop (mkF m 317 #[.val (.int p0), .val (.int p1), .val (.int (6 : Int32)), .val (.ref b2), .val (.int nv), .val (.ref b172), .unset] [(.int (12 : Int32)), (.int (6 : Int32))])) _
                refine XS.icmpYes X202.here hx rfl (pc0 := 317) (pc' := 329) rfl (hb hby at_317) rfl (tlt (show (6 : Int32) < (12 : Int32) from (by decide))).1 (by decide) (by decide) ?_
                show Steps p.tables e below (T202.setTop (mkF m 329 #[.val (.int p0), .val (.int p1), .val (.int (6 : Int32)), .val (.ref b2), .val (.int nv), .val (.ref b172), .unset] [])) _
                refine st205 _ ?_
                show Steps p.tables e below (T205.setTop (mkF m 332 #[.val (.int p0), .val (.int p1), .val (.int (6 : Int32)), .val (.ref b2), .val (.int nv), .val (.ref b172), .unset] [(.ref b205)])) _
                refine XS.dup X205.here hx rfl (hb hby at_332) rfl rfl ?_
                refine XS.aload X205.here hx rfl (hb hby at_333) rfl rfl ?_
                show Steps p.tables e below (T205.setTop (mkF m 335 #[.val (.int p0), .val (.int p1), .val (.int (6 : Int32)), .val (.ref b2), .val (.int nv), .val (.ref b172), .unset] [(.ref b172), (.ref b205), (.ref b205)])) _
                refine st206.trans ?_
                refine XS.astore X206.here hx rfl (hb hby at_338) rfl rfl (l' := #[.val (.int p0), .val (.int p1), .val (.int (6 : Int32)), .val (.ref b2), .val (.int nv), .val (.ref b172), .val (.ref b205)]) rfl ?_
                refine XS.aload Xx212.here hx rfl (hb hby at_340) rfl rfl ?_
                show Steps p.tables e below (T206.setTop (mkF m 342 #[.val (.int p0), .val (.int p1), .val (.int (6 : Int32)), .val (.ref b2), .val (.int nv), .val (.ref b172), .val (.ref b205)] [(.ref b205)])) _
                refine st213 _ ?_
                show Steps p.tables e below (T213.setTop (mkF m 345 #[.val (.int p0), .val (.int p1), .val (.int (6 : Int32)), .val (.ref b2), .val (.int nv), .val (.ref b172), .val (.ref b205)] [(.int ((pv ([(nar .char (dV nv (100000 : Int32))), (nar .char (dV nv (10000 : Int32))), (nar .char (dV nv (1000 : Int32))), (nar .char (dV nv (100 : Int32))), (nar .char (dV nv (10 : Int32))), (nar .char (dV nv (1 : Int32)))] : List Int32) ([(nar .char (dV nv (100000 : Int32))), (nar .char (dV nv (10000 : Int32))), (nar .char (dV nv (1000 : Int32))), (nar .char (dV nv (100 : Int32))), (nar .char (dV nv (10 : Int32))), (nar .char (dV nv (1 : Int32)))] : List Int32).length).toInt32))])) _
                refine XS.iload X213.here hx rfl (hb hby at_345) rfl ?_
                show Steps p.tables e below (T213.setTop (mkF m 347 #[.val (.int p0), .val (.int p1), .val (.int (6 : Int32)), .val (.ref b2), .val (.int nv), .val (.ref b172), .val (.ref b205)] [(.int nv), (.int ((pv ([(nar .char (dV nv (100000 : Int32))), (nar .char (dV nv (10000 : Int32))), (nar .char (dV nv (1000 : Int32))), (nar .char (dV nv (100 : Int32))), (nar .char (dV nv (10 : Int32))), (nar .char (dV nv (1 : Int32)))] : List Int32) ([(nar .char (dV nv (100000 : Int32))), (nar .char (dV nv (10000 : Int32))), (nar .char (dV nv (1000 : Int32))), (nar .char (dV nv (100 : Int32))), (nar .char (dV nv (10 : Int32))), (nar .char (dV nv (1 : Int32)))] : List Int32).length).toInt32))])) _
                refine XS.icmpNo X213.here hx rfl (hb hby at_347) rfl (teq (show ((pv ([(nar .char (dV nv (100000 : Int32))), (nar .char (dV nv (10000 : Int32))), (nar .char (dV nv (1000 : Int32))), (nar .char (dV nv (100 : Int32))), (nar .char (dV nv (10 : Int32))), (nar .char (dV nv (1 : Int32)))] : List Int32) ([(nar .char (dV nv (100000 : Int32))), (nar .char (dV nv (10000 : Int32))), (nar .char (dV nv (1000 : Int32))), (nar .char (dV nv (100 : Int32))), (nar .char (dV nv (10 : Int32))), (nar .char (dV nv (1 : Int32)))] : List Int32).length).toInt32) = nv from hfin)).2 ?_
                refine XS.iconst X213.here hx rfl (hb hby at_350) ?_
                refine XS.goto X213.here hx rfl (pc0 := 351) (pc' := 355) rfl (hb hby at_351) (by decide) (by decide) ?_
                show Steps p.tables e below (T213.setTop (mkF m 355 #[.val (.int p0), .val (.int p1), .val (.int (6 : Int32)), .val (.ref b2), .val (.int nv), .val (.ref b172), .val (.ref b205)] [(.int (1 : Int32))])) _
                exact retN X213 hx (t := .boolean) Bd.returns (by simp) (hb hby at_355) hr
              · show Q0 h0 n0 _ T213.heap _
                rw [e213]
                exact ⟨rfl, N213⟩
            · by_cases hl7 : len = (7 : Int32)
              · rw [hl7] at pre23
                obtain ⟨cl214, Ar214, -, S214, Nn214, Hh214, -⟩ := id V22
                have hin214 : ¬ ((7 : Int32) < 0 ∨ cl214.slots.size ≤ ((7 : Int32)).toNatClampNeg) := inb_of S214 ⟨by decide, by decide⟩
                have hat214 : cl214.slots[((7 : Int32)).toNatClampNeg]? = some (.int (10000000 : Int32)) := Hh214.at hin214 rfl
                have pre215 : ∀ t, Steps p.tables e below (T22.setTop (mkF m 90 #[.val (.int p0), .val (.int p1), .val (.int (7 : Int32)), .val (.ref b2), .val (.int ((p0 &&& (2147483647 : Int32)) - ((p0 &&& (2147483647 : Int32)) / (10000000 : Int32)) * (10000000 : Int32))), .unset, .unset] [])) t → Steps p.tables e below (s₁.setTop (entryFrame m #[(.int p0), (.int p1)] maxLocals)) t := fun t kt => pre23 t (by
                    show Steps p.tables e below (T22.setTop (mkF m 70 #[.val (.int p0), .val (.int p1), .val (.int (7 : Int32)), .val (.ref b2), .unset, .unset, .unset] [])) _
                    refine XS.iloadN Xx24.here hx rfl (hb hby at_70) rfl ?_
                    show Steps p.tables e below (T22.setTop (mkF m 71 #[.val (.int p0), .val (.int p1), .val (.int (7 : Int32)), .val (.ref b2), .unset, .unset, .unset] [(.int p0)])) _
                    refine Xx24.ldcI hx hown (mvT hZ (hw _ (List.mem_of_getElem? (i := 6) rfl))) (g := (mkF m 71 #[.val (.int p0), .val (.int p1), .val (.int (7 : Int32)), .val (.ref b2), .unset, .unset, .unset] [(.int p0)])) rfl (hb hby at_71) ?_
                    show Steps p.tables e below (T22.setTop (mkF m 73 #[.val (.int p0), .val (.int p1), .val (.int (7 : Int32)), .val (.ref b2), .unset, .unset, .unset] [(.int (2147483647 : Int32)), (.int p0)])) _
                    refine XS.iand Xx24.here hx rfl (hb hby at_73) rfl ?_
                    refine XS.istore Xx24.here hx rfl (hb hby at_74) rfl (l' := #[.val (.int p0), .val (.int p1), .val (.int (7 : Int32)), .val (.ref b2), .val (.int (p0 &&& (2147483647 : Int32))), .unset, .unset]) rfl ?_
                    refine XS.iloadN Xx24.here hx rfl (hb hby at_76) rfl ?_
                    refine XS.bipush Xx24.here hx rfl (hb hby at_77) ?_
                    show Steps p.tables e below (T22.setTop (mkF m 79 #[.val (.int p0), .val (.int p1), .val (.int (7 : Int32)), .val (.ref b2), .val (.int (p0 &&& (2147483647 : Int32))), .unset, .unset] [(.int (10 : Int32)), (.int (7 : Int32))])) _
                    refine XS.icmpNo Xx24.here hx rfl (hb hby at_79) rfl (tlt (show (7 : Int32) < (10 : Int32) from (by decide))).2.1 ?_
                    refine XS.iload Xx24.here hx rfl (hb hby at_82) rfl ?_
                    refine XS.aloadN Xx24.here hx rfl (hb hby at_84) rfl rfl ?_
                    refine XS.iloadN Xx24.here hx rfl (hb hby at_85) rfl ?_
                    show Steps p.tables e below (T22.setTop (mkF m 86 #[.val (.int p0), .val (.int p1), .val (.int (7 : Int32)), .val (.ref b2), .val (.int (p0 &&& (2147483647 : Int32))), .unset, .unset] [(.int (7 : Int32)), (.ref b2), (.int (p0 &&& (2147483647 : Int32)))])) _
                    refine Xx24.iaload hx (j := (7 : Int32)) (v := (.int (10000000 : Int32))) (by rw [e22]; exact Ar214.1) (State.isArrayOf_alike hZ.alike Ar214.2.1) Ar214.2.2 hin214 hat214 (g := (mkF m 86 #[.val (.int p0), .val (.int p1), .val (.int (7 : Int32)), .val (.ref b2), .val (.int (p0 &&& (2147483647 : Int32))), .unset, .unset] [(.int (7 : Int32)), (.ref b2), (.int (p0 &&& (2147483647 : Int32)))])) rfl rfl (hb hby at_86) _ ?_
                    show Steps p.tables e below (T22.setTop (mkF m 87 #[.val (.int p0), .val (.int p1), .val (.int (7 : Int32)), .val (.ref b2), .val (.int (p0 &&& (2147483647 : Int32))), .unset, .unset] [(.int (10000000 : Int32)), (.int (p0 &&& (2147483647 : Int32)))])) _
                    refine XS.irem Xx24.here hx rfl (hb hby at_87) rfl (by decide) ?_
                    refine XS.istore Xx24.here hx rfl (hb hby at_88) rfl (l' := #[.val (.int p0), .val (.int p1), .val (.int (7 : Int32)), .val (.ref b2), .val (.int ((p0 &&& (2147483647 : Int32)) - ((p0 &&& (2147483647 : Int32)) / (10000000 : Int32)) * (10000000 : Int32))), .unset, .unset]) rfl ?_
                    exact kt)
                obtain ⟨nv, hnv⟩ : ∃ z : Int32, z = ((p0 &&& (2147483647 : Int32)) - ((p0 &&& (2147483647 : Int32)) / (10000000 : Int32)) * (10000000 : Int32)) := ⟨_, rfl⟩
                rw [← hnv] at pre215
                have hnb : 0 ≤ nv.toInt ∧ nv.toInt < 10 ^ 7 := by rw [hnv]; exact own_nlt10 p0 (10000000 : Int32) (by decide)
                obtain ⟨T216, h216, k216, X216, e216, E216, A216, st216⟩ := newP Xx24 hx hZ (hw _ (List.mem_of_getElem? (i := 7) rfl)) e22 (g := (mkF m 91 #[.val (.int p0), .val (.int p1), .val (.int (7 : Int32)), .val (.ref b2), .val (.int nv), .unset, .unset] [(.int (7 : Int32))])) rfl (hb hby at_91) rfl (by decide) (cap := 7) (by decide) (by decide) (by decide) (by decide)
                obtain ⟨b216, g216⟩ : ∃ z, z = h22.size := ⟨_, rfl⟩
                rw [← g216] at A216 st216
                have g_b216 : n0 ≤ b216 := Nat.le_trans Z22 (Nat.le_of_eq g216.symm)
                have sz_b216 : h0.size ≤ b216 := Nat.le_trans K22.1 (Nat.le_of_eq g216.symm)
                have ne_b2_b216 : b2 ≠ b216 := Nat.ne_of_lt (Nat.lt_of_lt_of_le V22.lt (Nat.le_of_eq g216.symm))
                have K216 : Keep h0 h216 [] := Keep.ext K22 E216
                have Z216 : n0 ≤ h216.size := Nat.le_trans Z0 K216.1
                have V_b216 : Arv Z h216 b216 k216 .char (7 : Int32) [(.int (0 : Int32)), (.int (0 : Int32)), (.int (0 : Int32)), (.int (0 : Int32)), (.int (0 : Int32)), (.int (0 : Int32)), (.int (0 : Int32))] (.int (0 : Int32)) := (Arv.new A216 (by decide)).pad (pad_rep [] (.int (0 : Int32)) 7)
                have f217 := (V22.ext E216)
                obtain ⟨cl218, Ar218, -, S218, Nn218, Hh218, -⟩ := id f217
                have hin218 : ¬ ((0 : Int32) < 0 ∨ cl218.slots.size ≤ ((0 : Int32)).toNatClampNeg) := inb_of S218 ⟨by decide, by decide⟩
                have hat218 : cl218.slots[((0 : Int32)).toNatClampNeg]? = some (.int (1 : Int32)) := Hh218.at hin218 rfl
                obtain ⟨_, _, ⟨T219, L219, k219, n219⟩, -, X219, ⟨Lc219, hQ219, l219, y219, z219⟩, st219⟩ := Jvm.LawKit.callS X216 hx (y := (⟨"com/example/libforeword/libforeword/wordlist/EntryParseFrequencyPinLaw", "d", "(II)C"⟩ : MethodName)) hown (mvT hZ (hw _ (List.mem_of_getElem? (i := 8) rfl))) (mvT hZ (hw _ (List.mem_of_getElem? (i := 9) rfl))) (mvT hZ (hw _ (List.mem_of_getElem? (i := 10) rfl))) (mvT hZ (hw _ (List.mem_of_getElem? (i := 11) rfl))) (by decide) (backOf (W := 2) (rmDD l Z a0 hw [] nv (1 : Int32) h216 n0 Z216 (by decide)) hZ (hw _ (List.mem_of_getElem? (i := 11) rfl)) (hw _ (List.mem_of_getElem? (i := 10) rfl)) (by decide) (by decide)) (g := (mkF m 110 #[.val (.int p0), .val (.int p1), .val (.int (7 : Int32)), .val (.ref b2), .val (.int nv), .val (.ref b216), .unset] [(.int (1 : Int32)), (.int nv), (.int (6 : Int32)), (.ref b216)])) rfl (by rw [hml]; rfl) (argsL := [(.int nv), (.int (1 : Int32))]) (rest := [(.int (6 : Int32)), (.ref b216)]) (lenOf pd_3 rfl) rfl (by show 2 * 0 + _ ≤ _; exact Nat.le_of_eq rfl) (hb hby at_110) (fun _ _ => ⟨rfl, e216, (by decide : 2 + 0 ≤ _), (by decide : 17 + 0 ≤ _)⟩)
                dsimp only [Pt.U, Pt.locs, Pt.cells, Pt.slots] at X219 l219 y219 z219 st219 hQ219
                subst l219 y219 z219
                obtain ⟨rfl, N219q, e219⟩ := hQ219
                have N219 := Fr.app Nx24 N219q
                obtain ⟨cl220, Ar220, q220, S220, Nn220, Hh220, Gg220⟩ := id V_b216
                have hin220 : ¬ ((6 : Int32) < 0 ∨ cl220.slots.size ≤ ((6 : Int32)).toNatClampNeg) := inb_of S220 ⟨by decide, by decide⟩
                obtain ⟨T221, h221, X221, e221, W221, st221⟩ := stC X219 hx hZ e219 Ar220 (j := (6 : Int32)) hin220 (g := (mkF m 113 #[.val (.int p0), .val (.int p1), .val (.int (7 : Int32)), .val (.ref b2), .val (.int nv), .val (.ref b216), .unset] [(.int (dV nv (1 : Int32))), (.int (6 : Int32)), (.ref b216)])) rfl rfl (hb hby at_113)
                have V221 : Arv Z h221 b216 k216 .char (7 : Int32) [(.int (0 : Int32)), (.int (0 : Int32)), (.int (0 : Int32)), (.int (0 : Int32)), (.int (0 : Int32)), (.int (0 : Int32)), (.int (nar .char (dV nv (1 : Int32))))] (.int (0 : Int32)) := Arv.set Ar220 q220 S220 Nn220 Hh220 Gg220 (fits_nar_char _) W221 6 rfl (Nat.le_of_ble_eq_true rfl)
                have K221 : Keep h0 h221 [] := Keep.wr K216 W221 (Or.inr sz_b216)
                have Z221 : n0 ≤ h221.size := Nat.le_trans Z0 K221.1
                have N221 := Fr.snoc X221 N219 g_b216
                have f222 := (f217.other W221 ne_b2_b216)
                obtain ⟨cl223, Ar223, -, S223, Nn223, Hh223, -⟩ := id f222
                have hin223 : ¬ ((1 : Int32) < 0 ∨ cl223.slots.size ≤ ((1 : Int32)).toNatClampNeg) := inb_of S223 ⟨by decide, by decide⟩
                have hat223 : cl223.slots[((1 : Int32)).toNatClampNeg]? = some (.int (10 : Int32)) := Hh223.at hin223 rfl
                obtain ⟨_, _, ⟨T224, L224, k224, n224⟩, -, X224, ⟨Lc224, hQ224, l224, y224, z224⟩, st224⟩ := Jvm.LawKit.callS X221 hx (y := (⟨"com/example/libforeword/libforeword/wordlist/EntryParseFrequencyPinLaw", "d", "(II)C"⟩ : MethodName)) hown (mvT hZ (hw _ (List.mem_of_getElem? (i := 8) rfl))) (mvT hZ (hw _ (List.mem_of_getElem? (i := 9) rfl))) (mvT hZ (hw _ (List.mem_of_getElem? (i := 10) rfl))) (mvT hZ (hw _ (List.mem_of_getElem? (i := 11) rfl))) (by decide) (backOf (W := 2) (rmDD l Z a0 hw [] nv (10 : Int32) h221 n0 Z221 (by decide)) hZ (hw _ (List.mem_of_getElem? (i := 11) rfl)) (hw _ (List.mem_of_getElem? (i := 10) rfl)) (by decide) (by decide)) (g := (mkF m 129 #[.val (.int p0), .val (.int p1), .val (.int (7 : Int32)), .val (.ref b2), .val (.int nv), .val (.ref b216), .unset] [(.int (10 : Int32)), (.int nv), (.int (5 : Int32)), (.ref b216)])) rfl (by rw [hml]; rfl) (argsL := [(.int nv), (.int (10 : Int32))]) (rest := [(.int (5 : Int32)), (.ref b216)]) (lenOf pd_3 rfl) rfl (by show 2 * 0 + _ ≤ _; exact Nat.le_of_eq rfl) (hb hby at_129) (fun _ _ => ⟨rfl, e221, (by decide : 2 + 0 ≤ _), (by decide : 17 + 0 ≤ _)⟩)
                dsimp only [Pt.U, Pt.locs, Pt.cells, Pt.slots] at X224 l224 y224 z224 st224 hQ224
                subst l224 y224 z224
                obtain ⟨rfl, N224q, e224⟩ := hQ224
                have N224 := Fr.app N221 N224q
                obtain ⟨cl225, Ar225, q225, S225, Nn225, Hh225, Gg225⟩ := id V221
                have hin225 : ¬ ((5 : Int32) < 0 ∨ cl225.slots.size ≤ ((5 : Int32)).toNatClampNeg) := inb_of S225 ⟨by decide, by decide⟩
                obtain ⟨T226, h226, X226, e226, W226, st226⟩ := stC X224 hx hZ e224 Ar225 (j := (5 : Int32)) hin225 (g := (mkF m 132 #[.val (.int p0), .val (.int p1), .val (.int (7 : Int32)), .val (.ref b2), .val (.int nv), .val (.ref b216), .unset] [(.int (dV nv (10 : Int32))), (.int (5 : Int32)), (.ref b216)])) rfl rfl (hb hby at_132)
                have V226 : Arv Z h226 b216 k216 .char (7 : Int32) [(.int (0 : Int32)), (.int (0 : Int32)), (.int (0 : Int32)), (.int (0 : Int32)), (.int (0 : Int32)), (.int (nar .char (dV nv (10 : Int32)))), (.int (nar .char (dV nv (1 : Int32))))] (.int (0 : Int32)) := Arv.set Ar225 q225 S225 Nn225 Hh225 Gg225 (fits_nar_char _) W226 5 rfl (Nat.le_of_ble_eq_true rfl)
                have K226 : Keep h0 h226 [] := Keep.wr K221 W226 (Or.inr sz_b216)
                have Z226 : n0 ≤ h226.size := Nat.le_trans Z0 K226.1
                have N226 := Fr.snoc X226 N224 g_b216
                have f227 := (f222.other W226 ne_b2_b216)
                obtain ⟨cl228, Ar228, -, S228, Nn228, Hh228, -⟩ := id f227
                have hin228 : ¬ ((2 : Int32) < 0 ∨ cl228.slots.size ≤ ((2 : Int32)).toNatClampNeg) := inb_of S228 ⟨by decide, by decide⟩
                have hat228 : cl228.slots[((2 : Int32)).toNatClampNeg]? = some (.int (100 : Int32)) := Hh228.at hin228 rfl
                obtain ⟨_, _, ⟨T229, L229, k229, n229⟩, -, X229, ⟨Lc229, hQ229, l229, y229, z229⟩, st229⟩ := Jvm.LawKit.callS X226 hx (y := (⟨"com/example/libforeword/libforeword/wordlist/EntryParseFrequencyPinLaw", "d", "(II)C"⟩ : MethodName)) hown (mvT hZ (hw _ (List.mem_of_getElem? (i := 8) rfl))) (mvT hZ (hw _ (List.mem_of_getElem? (i := 9) rfl))) (mvT hZ (hw _ (List.mem_of_getElem? (i := 10) rfl))) (mvT hZ (hw _ (List.mem_of_getElem? (i := 11) rfl))) (by decide) (backOf (W := 2) (rmDD l Z a0 hw [] nv (100 : Int32) h226 n0 Z226 (by decide)) hZ (hw _ (List.mem_of_getElem? (i := 11) rfl)) (hw _ (List.mem_of_getElem? (i := 10) rfl)) (by decide) (by decide)) (g := (mkF m 148 #[.val (.int p0), .val (.int p1), .val (.int (7 : Int32)), .val (.ref b2), .val (.int nv), .val (.ref b216), .unset] [(.int (100 : Int32)), (.int nv), (.int (4 : Int32)), (.ref b216)])) rfl (by rw [hml]; rfl) (argsL := [(.int nv), (.int (100 : Int32))]) (rest := [(.int (4 : Int32)), (.ref b216)]) (lenOf pd_3 rfl) rfl (by show 2 * 0 + _ ≤ _; exact Nat.le_of_eq rfl) (hb hby at_148) (fun _ _ => ⟨rfl, e226, (by decide : 2 + 0 ≤ _), (by decide : 17 + 0 ≤ _)⟩)
                dsimp only [Pt.U, Pt.locs, Pt.cells, Pt.slots] at X229 l229 y229 z229 st229 hQ229
                subst l229 y229 z229
                obtain ⟨rfl, N229q, e229⟩ := hQ229
                have N229 := Fr.app N226 N229q
                obtain ⟨cl230, Ar230, q230, S230, Nn230, Hh230, Gg230⟩ := id V226
                have hin230 : ¬ ((4 : Int32) < 0 ∨ cl230.slots.size ≤ ((4 : Int32)).toNatClampNeg) := inb_of S230 ⟨by decide, by decide⟩
                obtain ⟨T231, h231, X231, e231, W231, st231⟩ := stC X229 hx hZ e229 Ar230 (j := (4 : Int32)) hin230 (g := (mkF m 151 #[.val (.int p0), .val (.int p1), .val (.int (7 : Int32)), .val (.ref b2), .val (.int nv), .val (.ref b216), .unset] [(.int (dV nv (100 : Int32))), (.int (4 : Int32)), (.ref b216)])) rfl rfl (hb hby at_151)
                have V231 : Arv Z h231 b216 k216 .char (7 : Int32) [(.int (0 : Int32)), (.int (0 : Int32)), (.int (0 : Int32)), (.int (0 : Int32)), (.int (nar .char (dV nv (100 : Int32)))), (.int (nar .char (dV nv (10 : Int32)))), (.int (nar .char (dV nv (1 : Int32))))] (.int (0 : Int32)) := Arv.set Ar230 q230 S230 Nn230 Hh230 Gg230 (fits_nar_char _) W231 4 rfl (Nat.le_of_ble_eq_true rfl)
                have K231 : Keep h0 h231 [] := Keep.wr K226 W231 (Or.inr sz_b216)
                have Z231 : n0 ≤ h231.size := Nat.le_trans Z0 K231.1
                have N231 := Fr.snoc X231 N229 g_b216
                have f232 := (f227.other W231 ne_b2_b216)
                obtain ⟨cl233, Ar233, -, S233, Nn233, Hh233, -⟩ := id f232
                have hin233 : ¬ ((3 : Int32) < 0 ∨ cl233.slots.size ≤ ((3 : Int32)).toNatClampNeg) := inb_of S233 ⟨by decide, by decide⟩
                have hat233 : cl233.slots[((3 : Int32)).toNatClampNeg]? = some (.int (1000 : Int32)) := Hh233.at hin233 rfl
                obtain ⟨_, _, ⟨T234, L234, k234, n234⟩, -, X234, ⟨Lc234, hQ234, l234, y234, z234⟩, st234⟩ := Jvm.LawKit.callS X231 hx (y := (⟨"com/example/libforeword/libforeword/wordlist/EntryParseFrequencyPinLaw", "d", "(II)C"⟩ : MethodName)) hown (mvT hZ (hw _ (List.mem_of_getElem? (i := 8) rfl))) (mvT hZ (hw _ (List.mem_of_getElem? (i := 9) rfl))) (mvT hZ (hw _ (List.mem_of_getElem? (i := 10) rfl))) (mvT hZ (hw _ (List.mem_of_getElem? (i := 11) rfl))) (by decide) (backOf (W := 2) (rmDD l Z a0 hw [] nv (1000 : Int32) h231 n0 Z231 (by decide)) hZ (hw _ (List.mem_of_getElem? (i := 11) rfl)) (hw _ (List.mem_of_getElem? (i := 10) rfl)) (by decide) (by decide)) (g := (mkF m 167 #[.val (.int p0), .val (.int p1), .val (.int (7 : Int32)), .val (.ref b2), .val (.int nv), .val (.ref b216), .unset] [(.int (1000 : Int32)), (.int nv), (.int (3 : Int32)), (.ref b216)])) rfl (by rw [hml]; rfl) (argsL := [(.int nv), (.int (1000 : Int32))]) (rest := [(.int (3 : Int32)), (.ref b216)]) (lenOf pd_3 rfl) rfl (by show 2 * 0 + _ ≤ _; exact Nat.le_of_eq rfl) (hb hby at_167) (fun _ _ => ⟨rfl, e231, (by decide : 2 + 0 ≤ _), (by decide : 17 + 0 ≤ _)⟩)
                dsimp only [Pt.U, Pt.locs, Pt.cells, Pt.slots] at X234 l234 y234 z234 st234 hQ234
                subst l234 y234 z234
                obtain ⟨rfl, N234q, e234⟩ := hQ234
                have N234 := Fr.app N231 N234q
                obtain ⟨cl235, Ar235, q235, S235, Nn235, Hh235, Gg235⟩ := id V231
                have hin235 : ¬ ((3 : Int32) < 0 ∨ cl235.slots.size ≤ ((3 : Int32)).toNatClampNeg) := inb_of S235 ⟨by decide, by decide⟩
                obtain ⟨T236, h236, X236, e236, W236, st236⟩ := stC X234 hx hZ e234 Ar235 (j := (3 : Int32)) hin235 (g := (mkF m 170 #[.val (.int p0), .val (.int p1), .val (.int (7 : Int32)), .val (.ref b2), .val (.int nv), .val (.ref b216), .unset] [(.int (dV nv (1000 : Int32))), (.int (3 : Int32)), (.ref b216)])) rfl rfl (hb hby at_170)
                have V236 : Arv Z h236 b216 k216 .char (7 : Int32) [(.int (0 : Int32)), (.int (0 : Int32)), (.int (0 : Int32)), (.int (nar .char (dV nv (1000 : Int32)))), (.int (nar .char (dV nv (100 : Int32)))), (.int (nar .char (dV nv (10 : Int32)))), (.int (nar .char (dV nv (1 : Int32))))] (.int (0 : Int32)) := Arv.set Ar235 q235 S235 Nn235 Hh235 Gg235 (fits_nar_char _) W236 3 rfl (Nat.le_of_ble_eq_true rfl)
                have K236 : Keep h0 h236 [] := Keep.wr K231 W236 (Or.inr sz_b216)
                have Z236 : n0 ≤ h236.size := Nat.le_trans Z0 K236.1
                have N236 := Fr.snoc X236 N234 g_b216
                have f237 := (f232.other W236 ne_b2_b216)
                obtain ⟨cl238, Ar238, -, S238, Nn238, Hh238, -⟩ := id f237
                have hin238 : ¬ ((4 : Int32) < 0 ∨ cl238.slots.size ≤ ((4 : Int32)).toNatClampNeg) := inb_of S238 ⟨by decide, by decide⟩
                have hat238 : cl238.slots[((4 : Int32)).toNatClampNeg]? = some (.int (10000 : Int32)) := Hh238.at hin238 rfl
                obtain ⟨_, _, ⟨T239, L239, k239, n239⟩, -, X239, ⟨Lc239, hQ239, l239, y239, z239⟩, st239⟩ := Jvm.LawKit.callS X236 hx (y := (⟨"com/example/libforeword/libforeword/wordlist/EntryParseFrequencyPinLaw", "d", "(II)C"⟩ : MethodName)) hown (mvT hZ (hw _ (List.mem_of_getElem? (i := 8) rfl))) (mvT hZ (hw _ (List.mem_of_getElem? (i := 9) rfl))) (mvT hZ (hw _ (List.mem_of_getElem? (i := 10) rfl))) (mvT hZ (hw _ (List.mem_of_getElem? (i := 11) rfl))) (by decide) (backOf (W := 2) (rmDD l Z a0 hw [] nv (10000 : Int32) h236 n0 Z236 (by decide)) hZ (hw _ (List.mem_of_getElem? (i := 11) rfl)) (hw _ (List.mem_of_getElem? (i := 10) rfl)) (by decide) (by decide)) (g := (mkF m 186 #[.val (.int p0), .val (.int p1), .val (.int (7 : Int32)), .val (.ref b2), .val (.int nv), .val (.ref b216), .unset] [(.int (10000 : Int32)), (.int nv), (.int (2 : Int32)), (.ref b216)])) rfl (by rw [hml]; rfl) (argsL := [(.int nv), (.int (10000 : Int32))]) (rest := [(.int (2 : Int32)), (.ref b216)]) (lenOf pd_3 rfl) rfl (by show 2 * 0 + _ ≤ _; exact Nat.le_of_eq rfl) (hb hby at_186) (fun _ _ => ⟨rfl, e236, (by decide : 2 + 0 ≤ _), (by decide : 17 + 0 ≤ _)⟩)
                dsimp only [Pt.U, Pt.locs, Pt.cells, Pt.slots] at X239 l239 y239 z239 st239 hQ239
                subst l239 y239 z239
                obtain ⟨rfl, N239q, e239⟩ := hQ239
                have N239 := Fr.app N236 N239q
                obtain ⟨cl240, Ar240, q240, S240, Nn240, Hh240, Gg240⟩ := id V236
                have hin240 : ¬ ((2 : Int32) < 0 ∨ cl240.slots.size ≤ ((2 : Int32)).toNatClampNeg) := inb_of S240 ⟨by decide, by decide⟩
                obtain ⟨T241, h241, X241, e241, W241, st241⟩ := stC X239 hx hZ e239 Ar240 (j := (2 : Int32)) hin240 (g := (mkF m 189 #[.val (.int p0), .val (.int p1), .val (.int (7 : Int32)), .val (.ref b2), .val (.int nv), .val (.ref b216), .unset] [(.int (dV nv (10000 : Int32))), (.int (2 : Int32)), (.ref b216)])) rfl rfl (hb hby at_189)
                have V241 : Arv Z h241 b216 k216 .char (7 : Int32) [(.int (0 : Int32)), (.int (0 : Int32)), (.int (nar .char (dV nv (10000 : Int32)))), (.int (nar .char (dV nv (1000 : Int32)))), (.int (nar .char (dV nv (100 : Int32)))), (.int (nar .char (dV nv (10 : Int32)))), (.int (nar .char (dV nv (1 : Int32))))] (.int (0 : Int32)) := Arv.set Ar240 q240 S240 Nn240 Hh240 Gg240 (fits_nar_char _) W241 2 rfl (Nat.le_of_ble_eq_true rfl)
                have K241 : Keep h0 h241 [] := Keep.wr K236 W241 (Or.inr sz_b216)
                have Z241 : n0 ≤ h241.size := Nat.le_trans Z0 K241.1
                have N241 := Fr.snoc X241 N239 g_b216
                have f242 := (f237.other W241 ne_b2_b216)
                obtain ⟨cl243, Ar243, -, S243, Nn243, Hh243, -⟩ := id f242
                have hin243 : ¬ ((5 : Int32) < 0 ∨ cl243.slots.size ≤ ((5 : Int32)).toNatClampNeg) := inb_of S243 ⟨by decide, by decide⟩
                have hat243 : cl243.slots[((5 : Int32)).toNatClampNeg]? = some (.int (100000 : Int32)) := Hh243.at hin243 rfl
                obtain ⟨_, _, ⟨T244, L244, k244, n244⟩, -, X244, ⟨Lc244, hQ244, l244, y244, z244⟩, st244⟩ := Jvm.LawKit.callS X241 hx (y := (⟨"com/example/libforeword/libforeword/wordlist/EntryParseFrequencyPinLaw", "d", "(II)C"⟩ : MethodName)) hown (mvT hZ (hw _ (List.mem_of_getElem? (i := 8) rfl))) (mvT hZ (hw _ (List.mem_of_getElem? (i := 9) rfl))) (mvT hZ (hw _ (List.mem_of_getElem? (i := 10) rfl))) (mvT hZ (hw _ (List.mem_of_getElem? (i := 11) rfl))) (by decide) (backOf (W := 2) (rmDD l Z a0 hw [] nv (100000 : Int32) h241 n0 Z241 (by decide)) hZ (hw _ (List.mem_of_getElem? (i := 11) rfl)) (hw _ (List.mem_of_getElem? (i := 10) rfl)) (by decide) (by decide)) (g := (mkF m 207 #[.val (.int p0), .val (.int p1), .val (.int (7 : Int32)), .val (.ref b2), .val (.int nv), .val (.ref b216), .unset] [(.int (100000 : Int32)), (.int nv), (.int (1 : Int32)), (.ref b216)])) rfl (by rw [hml]; rfl) (argsL := [(.int nv), (.int (100000 : Int32))]) (rest := [(.int (1 : Int32)), (.ref b216)]) (lenOf pd_3 rfl) rfl (by show 2 * 0 + _ ≤ _; exact Nat.le_of_eq rfl) (hb hby at_207) (fun _ _ => ⟨rfl, e241, (by decide : 2 + 0 ≤ _), (by decide : 17 + 0 ≤ _)⟩)
                dsimp only [Pt.U, Pt.locs, Pt.cells, Pt.slots] at X244 l244 y244 z244 st244 hQ244
                subst l244 y244 z244
                obtain ⟨rfl, N244q, e244⟩ := hQ244
                have N244 := Fr.app N241 N244q
                obtain ⟨cl245, Ar245, q245, S245, Nn245, Hh245, Gg245⟩ := id V241
                have hin245 : ¬ ((1 : Int32) < 0 ∨ cl245.slots.size ≤ ((1 : Int32)).toNatClampNeg) := inb_of S245 ⟨by decide, by decide⟩
                obtain ⟨T246, h246, X246, e246, W246, st246⟩ := stC X244 hx hZ e244 Ar245 (j := (1 : Int32)) hin245 (g := (mkF m 210 #[.val (.int p0), .val (.int p1), .val (.int (7 : Int32)), .val (.ref b2), .val (.int nv), .val (.ref b216), .unset] [(.int (dV nv (100000 : Int32))), (.int (1 : Int32)), (.ref b216)])) rfl rfl (hb hby at_210)
                have V246 : Arv Z h246 b216 k216 .char (7 : Int32) [(.int (0 : Int32)), (.int (nar .char (dV nv (100000 : Int32)))), (.int (nar .char (dV nv (10000 : Int32)))), (.int (nar .char (dV nv (1000 : Int32)))), (.int (nar .char (dV nv (100 : Int32)))), (.int (nar .char (dV nv (10 : Int32)))), (.int (nar .char (dV nv (1 : Int32))))] (.int (0 : Int32)) := Arv.set Ar245 q245 S245 Nn245 Hh245 Gg245 (fits_nar_char _) W246 1 rfl (Nat.le_of_ble_eq_true rfl)
                have K246 : Keep h0 h246 [] := Keep.wr K241 W246 (Or.inr sz_b216)
                have Z246 : n0 ≤ h246.size := Nat.le_trans Z0 K246.1
                have N246 := Fr.snoc X246 N244 g_b216
                have f247 := (f242.other W246 ne_b2_b216)
                obtain ⟨cl248, Ar248, -, S248, Nn248, Hh248, -⟩ := id f247
                have hin248 : ¬ ((6 : Int32) < 0 ∨ cl248.slots.size ≤ ((6 : Int32)).toNatClampNeg) := inb_of S248 ⟨by decide, by decide⟩
                have hat248 : cl248.slots[((6 : Int32)).toNatClampNeg]? = some (.int (1000000 : Int32)) := Hh248.at hin248 rfl
                obtain ⟨_, _, ⟨T249, L249, k249, n249⟩, -, X249, ⟨Lc249, hQ249, l249, y249, z249⟩, st249⟩ := Jvm.LawKit.callS X246 hx (y := (⟨"com/example/libforeword/libforeword/wordlist/EntryParseFrequencyPinLaw", "d", "(II)C"⟩ : MethodName)) hown (mvT hZ (hw _ (List.mem_of_getElem? (i := 8) rfl))) (mvT hZ (hw _ (List.mem_of_getElem? (i := 9) rfl))) (mvT hZ (hw _ (List.mem_of_getElem? (i := 10) rfl))) (mvT hZ (hw _ (List.mem_of_getElem? (i := 11) rfl))) (by decide) (backOf (W := 2) (rmDD l Z a0 hw [] nv (1000000 : Int32) h246 n0 Z246 (by decide)) hZ (hw _ (List.mem_of_getElem? (i := 11) rfl)) (hw _ (List.mem_of_getElem? (i := 10) rfl)) (by decide) (by decide)) (g := (mkF m 229 #[.val (.int p0), .val (.int p1), .val (.int (7 : Int32)), .val (.ref b2), .val (.int nv), .val (.ref b216), .unset] [(.int (1000000 : Int32)), (.int nv), (.int (0 : Int32)), (.ref b216)])) rfl (by rw [hml]; rfl) (argsL := [(.int nv), (.int (1000000 : Int32))]) (rest := [(.int (0 : Int32)), (.ref b216)]) (lenOf pd_3 rfl) rfl (by show 2 * 0 + _ ≤ _; exact Nat.le_of_eq rfl) (hb hby at_229) (fun _ _ => ⟨rfl, e246, (by decide : 2 + 0 ≤ _), (by decide : 17 + 0 ≤ _)⟩)
                dsimp only [Pt.U, Pt.locs, Pt.cells, Pt.slots] at X249 l249 y249 z249 st249 hQ249
                subst l249 y249 z249
                obtain ⟨rfl, N249q, e249⟩ := hQ249
                have N249 := Fr.app N246 N249q
                obtain ⟨cl250, Ar250, q250, S250, Nn250, Hh250, Gg250⟩ := id V246
                have hin250 : ¬ ((0 : Int32) < 0 ∨ cl250.slots.size ≤ ((0 : Int32)).toNatClampNeg) := inb_of S250 ⟨by decide, by decide⟩
                obtain ⟨T251, h251, X251, e251, W251, st251⟩ := stC X249 hx hZ e249 Ar250 (j := (0 : Int32)) hin250 (g := (mkF m 232 #[.val (.int p0), .val (.int p1), .val (.int (7 : Int32)), .val (.ref b2), .val (.int nv), .val (.ref b216), .unset] [(.int (dV nv (1000000 : Int32))), (.int (0 : Int32)), (.ref b216)])) rfl rfl (hb hby at_232)
                have V251 : Arv Z h251 b216 k216 .char (7 : Int32) [(.int (nar .char (dV nv (1000000 : Int32)))), (.int (nar .char (dV nv (100000 : Int32)))), (.int (nar .char (dV nv (10000 : Int32)))), (.int (nar .char (dV nv (1000 : Int32)))), (.int (nar .char (dV nv (100 : Int32)))), (.int (nar .char (dV nv (10 : Int32)))), (.int (nar .char (dV nv (1 : Int32))))] (.int (0 : Int32)) := Arv.set Ar250 q250 S250 Nn250 Hh250 Gg250 (fits_nar_char _) W251 0 rfl (Nat.le_of_ble_eq_true rfl)
                have K251 : Keep h0 h251 [] := Keep.wr K246 W251 (Or.inr sz_b216)
                have Z251 : n0 ≤ h251.size := Nat.le_trans Z0 K251.1
                have N251 := Fr.snoc X251 N249 g_b216
                obtain ⟨lx252, Xx252, Nx252⟩ : ∃ lx, Stand p l e room_1 s m #[(.int p0), (.int p1)] below meth c T251 lx 2 17 ∧ Fr n0 lx := ⟨_, X251, N251⟩
                have f253 := (f247.other W251 ne_b2_b216)
                obtain ⟨T254, h254, X254, e254, E254, A254, D254, -, st254⟩ := newO Xx252 hx hZ hown (hw _ (List.mem_of_getElem? (i := 12) rfl)) (hw _ (List.mem_of_getElem? (i := 13) rfl)) (hw _ (List.mem_of_getElem? (i := 14) rfl)) e251 (g := (mkF m 329 #[.val (.int p0), .val (.int p1), .val (.int (7 : Int32)), .val (.ref b2), .val (.int nv), .val (.ref b216), .unset] [])) rfl (hb hby at_329) (by decide) (by decide)
                obtain ⟨b254, g254⟩ : ∃ z, z = h251.size := ⟨_, rfl⟩
                rw [← g254] at A254 D254 st254
                have g_b254 : n0 ≤ b254 := Nat.le_trans Z251 (Nat.le_of_eq g254.symm)
                have sz_b254 : h0.size ≤ b254 := Nat.le_trans K251.1 (Nat.le_of_eq g254.symm)
                have ne_b2_b254 : b2 ≠ b254 := Nat.ne_of_lt (Nat.lt_of_lt_of_le f253.lt (Nat.le_of_eq g254.symm))
                have ne_b216_b254 : b216 ≠ b254 := Nat.ne_of_lt (Nat.lt_of_lt_of_le V251.lt (Nat.le_of_eq g254.symm))
                have K254 : Keep h0 h254 [] := Keep.ext K251 E254
                have Z254 : n0 ≤ h254.size := Nat.le_trans Z0 K254.1
                have F_coder_b254 : Fld Z h254 b254 "java/lang/String" "coder" "B" (.int (0 : Int32)) := D254 (Or.inr (hw _ (List.mem_of_getElem? (i := 38) rfl))) (ty := .byte) (by decide)
                have F_value_b254 : Fld Z h254 b254 "java/lang/String" "value" "[B" .null := D254 (Or.inr (hw _ (List.mem_of_getElem? (i := 40) rfl))) (ty := (.array .byte)) (by decide)
                have hdg : ∀ i, i < 7 → (([(nar .char (dV nv (1000000 : Int32))), (nar .char (dV nv (100000 : Int32))), (nar .char (dV nv (10000 : Int32))), (nar .char (dV nv (1000 : Int32))), (nar .char (dV nv (100 : Int32))), (nar .char (dV nv (10 : Int32))), (nar .char (dV nv (1 : Int32)))] : List Int32).getD i 0).toInt = 48 + (nv.toInt / 10 ^ (7 - 1 - i)) % 10 := fun i hi => match i, hi with
                  | 0, _ => by rw [show (([(nar .char (dV nv (1000000 : Int32))), (nar .char (dV nv (100000 : Int32))), (nar .char (dV nv (10000 : Int32))), (nar .char (dV nv (1000 : Int32))), (nar .char (dV nv (100 : Int32))), (nar .char (dV nv (10 : Int32))), (nar .char (dV nv (1 : Int32)))] : List Int32)).getD 0 0 = nar .char (dV nv (1000000 : Int32)) from rfl, own_dc nv (1000000 : Int32) hnb.1 (by decide)]; rfl
                  | 1, _ => by rw [show (([(nar .char (dV nv (1000000 : Int32))), (nar .char (dV nv (100000 : Int32))), (nar .char (dV nv (10000 : Int32))), (nar .char (dV nv (1000 : Int32))), (nar .char (dV nv (100 : Int32))), (nar .char (dV nv (10 : Int32))), (nar .char (dV nv (1 : Int32)))] : List Int32)).getD 1 0 = nar .char (dV nv (100000 : Int32)) from rfl, own_dc nv (100000 : Int32) hnb.1 (by decide)]; rfl
                  | 2, _ => by rw [show (([(nar .char (dV nv (1000000 : Int32))), (nar .char (dV nv (100000 : Int32))), (nar .char (dV nv (10000 : Int32))), (nar .char (dV nv (1000 : Int32))), (nar .char (dV nv (100 : Int32))), (nar .char (dV nv (10 : Int32))), (nar .char (dV nv (1 : Int32)))] : List Int32)).getD 2 0 = nar .char (dV nv (10000 : Int32)) from rfl, own_dc nv (10000 : Int32) hnb.1 (by decide)]; rfl
                  | 3, _ => by rw [show (([(nar .char (dV nv (1000000 : Int32))), (nar .char (dV nv (100000 : Int32))), (nar .char (dV nv (10000 : Int32))), (nar .char (dV nv (1000 : Int32))), (nar .char (dV nv (100 : Int32))), (nar .char (dV nv (10 : Int32))), (nar .char (dV nv (1 : Int32)))] : List Int32)).getD 3 0 = nar .char (dV nv (1000 : Int32)) from rfl, own_dc nv (1000 : Int32) hnb.1 (by decide)]; rfl
                  | 4, _ => by rw [show (([(nar .char (dV nv (1000000 : Int32))), (nar .char (dV nv (100000 : Int32))), (nar .char (dV nv (10000 : Int32))), (nar .char (dV nv (1000 : Int32))), (nar .char (dV nv (100 : Int32))), (nar .char (dV nv (10 : Int32))), (nar .char (dV nv (1 : Int32)))] : List Int32)).getD 4 0 = nar .char (dV nv (100 : Int32)) from rfl, own_dc nv (100 : Int32) hnb.1 (by decide)]; rfl
                  | 5, _ => by rw [show (([(nar .char (dV nv (1000000 : Int32))), (nar .char (dV nv (100000 : Int32))), (nar .char (dV nv (10000 : Int32))), (nar .char (dV nv (1000 : Int32))), (nar .char (dV nv (100 : Int32))), (nar .char (dV nv (10 : Int32))), (nar .char (dV nv (1 : Int32)))] : List Int32)).getD 5 0 = nar .char (dV nv (10 : Int32)) from rfl, own_dc nv (10 : Int32) hnb.1 (by decide)]; rfl
                  | 6, _ => by rw [show (([(nar .char (dV nv (1000000 : Int32))), (nar .char (dV nv (100000 : Int32))), (nar .char (dV nv (10000 : Int32))), (nar .char (dV nv (1000 : Int32))), (nar .char (dV nv (100 : Int32))), (nar .char (dV nv (10 : Int32))), (nar .char (dV nv (1 : Int32)))] : List Int32)).getD 6 0 = nar .char (dV nv (1 : Int32)) from rfl, own_dc nv (1 : Int32) hnb.1 (by decide)]; rfl
                  | k + 7, h => absurd h (by omega)
                obtain ⟨hp, hdig, hval, hfin⟩ := own_facts ([(nar .char (dV nv (1000000 : Int32))), (nar .char (dV nv (100000 : Int32))), (nar .char (dV nv (10000 : Int32))), (nar .char (dV nv (1000 : Int32))), (nar .char (dV nv (100 : Int32))), (nar .char (dV nv (10 : Int32))), (nar .char (dV nv (1 : Int32)))] : List Int32) nv 7 rfl hnb.1 hnb.2 hdg
                have f256 := (V251.ext E254)
                have f257 := ((((((((((((((((((((SC.ext E2).wr W4).wr W6).wr W8).wr W10).wr W12).wr W14).wr W16).wr W18).wr W20).wr W22).ext E216).wr W221).wr W226).wr W231).wr W236).wr W241).wr W246).wr W251).ext E254)
                obtain ⟨_, _, ⟨T255, L255, k255, n255⟩, -, X255, ⟨Lc255, hQ255, l255, y255, z255⟩, st255⟩ := X254.specialBack hx (y := (⟨"java/lang/String", "<init>", "([C)V"⟩ : MethodName)) rfl hown (mvT hZ (hw _ (List.mem_of_getElem? (i := 15) rfl))) (mvT hZ (hw _ (List.mem_of_getElem? (i := 16) rfl))) (mvT hZ (hw _ (List.mem_of_getElem? (i := 17) rfl))) (by decide) (StrChars.Road.backV (W := 1) hZ hws (kI := 4) (hw _ (List.mem_of_getElem? (i := 13) rfl)) (cs := ([(nar .char (dV nv (1000000 : Int32))), (nar .char (dV nv (100000 : Int32))), (nar .char (dV nv (10000 : Int32))), (nar .char (dV nv (1000 : Int32))), (nar .char (dV nv (100 : Int32))), (nar .char (dV nv (10 : Int32))), (nar .char (dV nv (1 : Int32)))] : List Int32)) (bs := (([(nar .char (dV nv (1000000 : Int32))), (nar .char (dV nv (100000 : Int32))), (nar .char (dV nv (10000 : Int32))), (nar .char (dV nv (1000 : Int32))), (nar .char (dV nv (100 : Int32))), (nar .char (dV nv (10 : Int32))), (nar .char (dV nv (1 : Int32)))] : List Int32)).map (fun c => c.toInt8.toInt32)) (n := 7) g_b254 Z254 A254 F_value_b254 F_coder_b254 f256 f257 hC rfl rfl (by decide) (by decide) hp rfl (by decide) (by decide)) (g := (mkF m 335 #[.val (.int p0), .val (.int p1), .val (.int (7 : Int32)), .val (.ref b2), .val (.int nv), .val (.ref b216), .unset] [(.ref b216), (.ref b254), (.ref b254)])) rfl (by rw [hml]; rfl) (Steps.refl _) (a := b254) (argsL := [(.ref b216)]) (rest := [(.ref b254)]) (lenOf pd_4 rfl) rfl (by show 2 * 0 + _ ≤ _; exact Nat.le_of_eq rfl) (hb hby at_335) (fun _ _ => ⟨rfl, e254, (by decide : 3 + 1 ≤ _), (by decide : 21 + 7 ≤ _)⟩)
                dsimp only [Pt.U, Pt.locs, Pt.cells, Pt.slots] at X255 l255 y255 z255 st255 hQ255
                subst l255 y255 z255
                obtain ⟨rfl, N255q, K255, Ex255, Fc255, bt255, kb255, gt255, ge255, nt255, Fv255, AV255⟩ := hQ255
                have sk258 := own_sta_keep1 f257 A254 K255
                have f259 := ((((((((((((((((((((SG.ext E2).wr W4).wr W6).wr W8).wr W10).wr W12).wr W14).wr W16).wr W18).wr W20).wr W22).ext E216).wr W221).wr W226).wr W231).wr W236).wr W241).wr W246).wr W251).ext E254)
                have sk260 := own_sta_keep1 f259 A254 K255
                have KK255 : Keep h0 T255.heap [] := Keep.trans K254 K255 (own_side1 (Or.inr sz_b254))
                have Z255 : n0 ≤ T255.heap.size := Nat.le_trans Z0 KK255.1
                have N255 := Fr.app Nx252 N255q
                obtain ⟨lx261, Xx261, Nx261⟩ : ∃ lx, Stand p l e room_1 s m #[(.int p0), (.int p1)] below meth c T255 lx 4 28 ∧ Fr n0 lx := ⟨_, X255, N255⟩
                obtain ⟨_, _, ⟨T262, L262, k262, n262⟩, -, X262, ⟨Lc262, hQ262, l262, y262, z262⟩, st262⟩ := Jvm.LawKit.callS Xx261 hx (y := (⟨"com/example/libforeword/libforeword/wordlist/Entry", "parseFrequency", "(Ljava/lang/String;)I"⟩ : MethodName)) hown (mvT hZ (hw _ (List.mem_of_getElem? (i := 41) rfl))) (mvT hZ (hw _ (List.mem_of_getElem? (i := 42) rfl))) (mvT hZ (hw _ (List.mem_of_getElem? (i := 43) rfl))) (mvT hZ (hw _ (List.mem_of_getElem? (i := 44) rfl))) (by decide) (backOf (W := 0) (rmPF l Z a0 hw [] b254 bt255 kb255 ([(nar .char (dV nv (1000000 : Int32))), (nar .char (dV nv (100000 : Int32))), (nar .char (dV nv (10000 : Int32))), (nar .char (dV nv (1000 : Int32))), (nar .char (dV nv (100 : Int32))), (nar .char (dV nv (10 : Int32))), (nar .char (dV nv (1 : Int32)))] : List Int32) iC vG T255.heap n0 Z255 Ex255 Fc255 Fv255 AV255 sk258 hC sk260 hvG hp (by show 0 < 7; decide) (by show 7 ≤ 12; decide) hdig hval) hZ (hw _ (List.mem_of_getElem? (i := 44) rfl)) (hw _ (List.mem_of_getElem? (i := 43) rfl)) (by decide) (by decide)) (g := (mkF m 342 #[.val (.int p0), .val (.int p1), .val (.int (7 : Int32)), .val (.ref b2), .val (.int nv), .val (.ref b216), .val (.ref b254)] [(.ref b254)])) rfl (by rw [hml]; rfl) (argsL := [(.ref b254)]) (rest := []) (lenOf pd_5 rfl) rfl (by show 2 * 0 + _ ≤ _; exact Nat.le_of_eq rfl) (hb hby at_342) (fun _ _ => ⟨rfl, rfl, (by decide : 4 + 0 ≤ _), (by decide : 28 + 0 ≤ _)⟩)
                dsimp only [Pt.U, Pt.locs, Pt.cells, Pt.slots] at X262 l262 y262 z262 st262 hQ262
                subst l262 y262 z262
                obtain ⟨rfl, N262q, e262⟩ := hQ262
                have N262 := Fr.app Nx261 N262q
                obtain ⟨fs, hr, hrun, hended, hW, hsame⟩ := X262.leave (v := some (.int (1 : Int32))) (fun h => by rw [Bd.returns] at h; cases h)
                refine ⟨_, _, pre215 _ ?_, hrun, hended, _, _, rfl, ?_, ⟨_, rfl⟩, hW, hsame.mono (by decide) (by decide)⟩
                · show Steps p.tables e below (T22.setTop (mkF m 90 #[.val (.int p0), .val (.int p1), .val (.int (7 : Int32)), .val (.ref b2), .val (.int nv), .unset, .unset] [])) _
                  refine XS.iloadN Xx24.here hx rfl (hb hby at_90) rfl ?_
                  show Steps p.tables e below (T22.setTop (mkF m 91 #[.val (.int p0), .val (.int p1), .val (.int (7 : Int32)), .val (.ref b2), .val (.int nv), .unset, .unset] [(.int (7 : Int32))])) _
                  refine st216 _ ?_
                  refine XS.astore X216.here hx rfl (hb hby at_93) rfl rfl (l' := #[.val (.int p0), .val (.int p1), .val (.int (7 : Int32)), .val (.ref b2), .val (.int nv), .val (.ref b216), .unset]) rfl ?_
                  refine XS.iloadN X216.here hx rfl (hb hby at_95) rfl ?_
                  refine XS.iconst X216.here hx rfl (hb hby at_96) ?_
                  show Steps p.tables e below (T216.setTop (mkF m 97 #[.val (.int p0), .val (.int p1), .val (.int (7 : Int32)), .val (.ref b2), .val (.int nv), .val (.ref b216), .unset] [(.int (1 : Int32)), (.int (7 : Int32))])) _
                  refine XS.icmpNo X216.here hx rfl (hb hby at_97) rfl (flt (show ¬ ((7 : Int32) < (1 : Int32)) from (by decide))).1 ?_
                  refine XS.aload X216.here hx rfl (hb hby at_100) rfl rfl ?_
                  refine XS.iloadN X216.here hx rfl (hb hby at_102) rfl ?_
                  refine XS.iconst X216.here hx rfl (hb hby at_103) ?_
                  show Steps p.tables e below (T216.setTop (mkF m 104 #[.val (.int p0), .val (.int p1), .val (.int (7 : Int32)), .val (.ref b2), .val (.int nv), .val (.ref b216), .unset] [(.int (1 : Int32)), (.int (7 : Int32)), (.ref b216)])) _
                  refine XS.isub X216.here hx rfl (hb hby at_104) rfl ?_
                  refine XS.iload X216.here hx rfl (hb hby at_105) rfl ?_
                  refine XS.aloadN X216.here hx rfl (hb hby at_107) rfl rfl ?_
                  refine XS.iconst X216.here hx rfl (hb hby at_108) ?_
                  show Steps p.tables e below (T216.setTop (mkF m 109 #[.val (.int p0), .val (.int p1), .val (.int (7 : Int32)), .val (.ref b2), .val (.int nv), .val (.ref b216), .unset] [(.int (0 : Int32)), (.ref b2), (.int nv), (.int (6 : Int32)), (.ref b216)])) _
                  refine X216.iaload hx (j := (0 : Int32)) (v := (.int (1 : Int32))) (by rw [e216]; exact Ar218.1) (State.isArrayOf_alike hZ.alike Ar218.2.1) Ar218.2.2 hin218 hat218 (g := (mkF m 109 #[.val (.int p0), .val (.int p1), .val (.int (7 : Int32)), .val (.ref b2), .val (.int nv), .val (.ref b216), .unset] [(.int (0 : Int32)), (.ref b2), (.int nv), (.int (6 : Int32)), (.ref b216)])) rfl rfl (hb hby at_109) _ ?_
                  show Steps p.tables e below (T216.setTop (mkF m 110 #[.val (.int p0), .val (.int p1), .val (.int (7 : Int32)), .val (.ref b2), .val (.int nv), .val (.ref b216), .unset] [(.int (1 : Int32)), (.int nv), (.int (6 : Int32)), (.ref b216)])) _
                  refine st219 _ ?_
                  show Steps p.tables e below (T219.setTop (mkF m 113 #[.val (.int p0), .val (.int p1), .val (.int (7 : Int32)), .val (.ref b2), .val (.int nv), .val (.ref b216), .unset] [(.int (dV nv (1 : Int32))), (.int (6 : Int32)), (.ref b216)])) _
                  refine st221 _ ?_
                  refine XS.iloadN X221.here hx rfl (hb hby at_114) rfl ?_
                  refine XS.iconst X221.here hx rfl (hb hby at_115) ?_
                  show Steps p.tables e below (T221.setTop (mkF m 116 #[.val (.int p0), .val (.int p1), .val (.int (7 : Int32)), .val (.ref b2), .val (.int nv), .val (.ref b216), .unset] [(.int (2 : Int32)), (.int (7 : Int32))])) _
                  refine XS.icmpNo X221.here hx rfl (hb hby at_116) rfl (flt (show ¬ ((7 : Int32) < (2 : Int32)) from (by decide))).1 ?_
                  refine XS.aload X221.here hx rfl (hb hby at_119) rfl rfl ?_
                  refine XS.iloadN X221.here hx rfl (hb hby at_121) rfl ?_
                  refine XS.iconst X221.here hx rfl (hb hby at_122) ?_
                  show Steps p.tables e below (T221.setTop (mkF m 123 #[.val (.int p0), .val (.int p1), .val (.int (7 : Int32)), .val (.ref b2), .val (.int nv), .val (.ref b216), .unset] [(.int (2 : Int32)), (.int (7 : Int32)), (.ref b216)])) _
                  refine XS.isub X221.here hx rfl (hb hby at_123) rfl ?_
                  refine XS.iload X221.here hx rfl (hb hby at_124) rfl ?_
                  refine XS.aloadN X221.here hx rfl (hb hby at_126) rfl rfl ?_
                  refine XS.iconst X221.here hx rfl (hb hby at_127) ?_
                  show Steps p.tables e below (T221.setTop (mkF m 128 #[.val (.int p0), .val (.int p1), .val (.int (7 : Int32)), .val (.ref b2), .val (.int nv), .val (.ref b216), .unset] [(.int (1 : Int32)), (.ref b2), (.int nv), (.int (5 : Int32)), (.ref b216)])) _
                  refine X221.iaload hx (j := (1 : Int32)) (v := (.int (10 : Int32))) (by rw [e221]; exact Ar223.1) (State.isArrayOf_alike hZ.alike Ar223.2.1) Ar223.2.2 hin223 hat223 (g := (mkF m 128 #[.val (.int p0), .val (.int p1), .val (.int (7 : Int32)), .val (.ref b2), .val (.int nv), .val (.ref b216), .unset] [(.int (1 : Int32)), (.ref b2), (.int nv), (.int (5 : Int32)), (.ref b216)])) rfl rfl (hb hby at_128) _ ?_
                  show Steps p.tables e below (T221.setTop (mkF m 129 #[.val (.int p0), .val (.int p1), .val (.int (7 : Int32)), .val (.ref b2), .val (.int nv), .val (.ref b216), .unset] [(.int (10 : Int32)), (.int nv), (.int (5 : Int32)), (.ref b216)])) _
                  refine st224 _ ?_
                  show Steps p.tables e below (T224.setTop (mkF m 132 #[.val (.int p0), .val (.int p1), .val (.int (7 : Int32)), .val (.ref b2), .val (.int nv), .val (.ref b216), .unset] [(.int (dV nv (10 : Int32))), (.int (5 : Int32)), (.ref b216)])) _
                  refine st226 _ ?_
                  refine XS.iloadN X226.here hx rfl (hb hby at_133) rfl ?_
                  refine XS.iconst X226.here hx rfl (hb hby at_134) ?_
                  show Steps p.tables e below (T226.setTop (mkF m 135 #[.val (.int p0), .val (.int p1), .val (.int (7 : Int32)), .val (.ref b2), .val (.int nv), .val (.ref b216), .unset] [(.int (3 : Int32)), (.int (7 : Int32))])) _
                  refine XS.icmpNo X226.here hx rfl (hb hby at_135) rfl (flt (show ¬ ((7 : Int32) < (3 : Int32)) from (by decide))).1 ?_
                  refine XS.aload X226.here hx rfl (hb hby at_138) rfl rfl ?_
                  refine XS.iloadN X226.here hx rfl (hb hby at_140) rfl ?_
                  refine XS.iconst X226.here hx rfl (hb hby at_141) ?_
                  show Steps p.tables e below (T226.setTop (mkF m 142 #[.val (.int p0), .val (.int p1), .val (.int (7 : Int32)), .val (.ref b2), .val (.int nv), .val (.ref b216), .unset] [(.int (3 : Int32)), (.int (7 : Int32)), (.ref b216)])) _
                  refine XS.isub X226.here hx rfl (hb hby at_142) rfl ?_
                  refine XS.iload X226.here hx rfl (hb hby at_143) rfl ?_
                  refine XS.aloadN X226.here hx rfl (hb hby at_145) rfl rfl ?_
                  refine XS.iconst X226.here hx rfl (hb hby at_146) ?_
                  show Steps p.tables e below (T226.setTop (mkF m 147 #[.val (.int p0), .val (.int p1), .val (.int (7 : Int32)), .val (.ref b2), .val (.int nv), .val (.ref b216), .unset] [(.int (2 : Int32)), (.ref b2), (.int nv), (.int (4 : Int32)), (.ref b216)])) _
                  refine X226.iaload hx (j := (2 : Int32)) (v := (.int (100 : Int32))) (by rw [e226]; exact Ar228.1) (State.isArrayOf_alike hZ.alike Ar228.2.1) Ar228.2.2 hin228 hat228 (g := (mkF m 147 #[.val (.int p0), .val (.int p1), .val (.int (7 : Int32)), .val (.ref b2), .val (.int nv), .val (.ref b216), .unset] [(.int (2 : Int32)), (.ref b2), (.int nv), (.int (4 : Int32)), (.ref b216)])) rfl rfl (hb hby at_147) _ ?_
                  show Steps p.tables e below (T226.setTop (mkF m 148 #[.val (.int p0), .val (.int p1), .val (.int (7 : Int32)), .val (.ref b2), .val (.int nv), .val (.ref b216), .unset] [(.int (100 : Int32)), (.int nv), (.int (4 : Int32)), (.ref b216)])) _
                  refine st229 _ ?_
                  show Steps p.tables e below (T229.setTop (mkF m 151 #[.val (.int p0), .val (.int p1), .val (.int (7 : Int32)), .val (.ref b2), .val (.int nv), .val (.ref b216), .unset] [(.int (dV nv (100 : Int32))), (.int (4 : Int32)), (.ref b216)])) _
                  refine st231 _ ?_
                  refine XS.iloadN X231.here hx rfl (hb hby at_152) rfl ?_
                  refine XS.iconst X231.here hx rfl (hb hby at_153) ?_
                  show Steps p.tables e below (T231.setTop (mkF m 154 #[.val (.int p0), .val (.int p1), .val (.int (7 : Int32)), .val (.ref b2), .val (.int nv), .val (.ref b216), .unset] [(.int (4 : Int32)), (.int (7 : Int32))])) _
                  refine XS.icmpNo X231.here hx rfl (hb hby at_154) rfl (flt (show ¬ ((7 : Int32) < (4 : Int32)) from (by decide))).1 ?_
                  refine XS.aload X231.here hx rfl (hb hby at_157) rfl rfl ?_
                  refine XS.iloadN X231.here hx rfl (hb hby at_159) rfl ?_
                  refine XS.iconst X231.here hx rfl (hb hby at_160) ?_
                  show Steps p.tables e below (T231.setTop (mkF m 161 #[.val (.int p0), .val (.int p1), .val (.int (7 : Int32)), .val (.ref b2), .val (.int nv), .val (.ref b216), .unset] [(.int (4 : Int32)), (.int (7 : Int32)), (.ref b216)])) _
                  refine XS.isub X231.here hx rfl (hb hby at_161) rfl ?_
                  refine XS.iload X231.here hx rfl (hb hby at_162) rfl ?_
                  refine XS.aloadN X231.here hx rfl (hb hby at_164) rfl rfl ?_
                  refine XS.iconst X231.here hx rfl (hb hby at_165) ?_
                  show Steps p.tables e below (T231.setTop (mkF m 166 #[.val (.int p0), .val (.int p1), .val (.int (7 : Int32)), .val (.ref b2), .val (.int nv), .val (.ref b216), .unset] [(.int (3 : Int32)), (.ref b2), (.int nv), (.int (3 : Int32)), (.ref b216)])) _
                  refine X231.iaload hx (j := (3 : Int32)) (v := (.int (1000 : Int32))) (by rw [e231]; exact Ar233.1) (State.isArrayOf_alike hZ.alike Ar233.2.1) Ar233.2.2 hin233 hat233 (g := (mkF m 166 #[.val (.int p0), .val (.int p1), .val (.int (7 : Int32)), .val (.ref b2), .val (.int nv), .val (.ref b216), .unset] [(.int (3 : Int32)), (.ref b2), (.int nv), (.int (3 : Int32)), (.ref b216)])) rfl rfl (hb hby at_166) _ ?_
                  show Steps p.tables e below (T231.setTop (mkF m 167 #[.val (.int p0), .val (.int p1), .val (.int (7 : Int32)), .val (.ref b2), .val (.int nv), .val (.ref b216), .unset] [(.int (1000 : Int32)), (.int nv), (.int (3 : Int32)), (.ref b216)])) _
                  refine st234 _ ?_
                  show Steps p.tables e below (T234.setTop (mkF m 170 #[.val (.int p0), .val (.int p1), .val (.int (7 : Int32)), .val (.ref b2), .val (.int nv), .val (.ref b216), .unset] [(.int (dV nv (1000 : Int32))), (.int (3 : Int32)), (.ref b216)])) _
                  refine st236 _ ?_
                  refine XS.iloadN X236.here hx rfl (hb hby at_171) rfl ?_
                  refine XS.iconst X236.here hx rfl (hb hby at_172) ?_
                  show Steps p.tables e below (T236.setTop (mkF m 173 #[.val (.int p0), .val (.int p1), .val (.int (7 : Int32)), .val (.ref b2), .val (.int nv), .val (.ref b216), .unset] [(.int (5 : Int32)), (.int (7 : Int32))])) _
                  refine XS.icmpNo X236.here hx rfl (hb hby at_173) rfl (flt (show ¬ ((7 : Int32) < (5 : Int32)) from (by decide))).1 ?_
                  refine XS.aload X236.here hx rfl (hb hby at_176) rfl rfl ?_
                  refine XS.iloadN X236.here hx rfl (hb hby at_178) rfl ?_
                  refine XS.iconst X236.here hx rfl (hb hby at_179) ?_
                  show Steps p.tables e below (T236.setTop (mkF m 180 #[.val (.int p0), .val (.int p1), .val (.int (7 : Int32)), .val (.ref b2), .val (.int nv), .val (.ref b216), .unset] [(.int (5 : Int32)), (.int (7 : Int32)), (.ref b216)])) _
                  refine XS.isub X236.here hx rfl (hb hby at_180) rfl ?_
                  refine XS.iload X236.here hx rfl (hb hby at_181) rfl ?_
                  refine XS.aloadN X236.here hx rfl (hb hby at_183) rfl rfl ?_
                  refine XS.iconst X236.here hx rfl (hb hby at_184) ?_
                  show Steps p.tables e below (T236.setTop (mkF m 185 #[.val (.int p0), .val (.int p1), .val (.int (7 : Int32)), .val (.ref b2), .val (.int nv), .val (.ref b216), .unset] [(.int (4 : Int32)), (.ref b2), (.int nv), (.int (2 : Int32)), (.ref b216)])) _
                  refine X236.iaload hx (j := (4 : Int32)) (v := (.int (10000 : Int32))) (by rw [e236]; exact Ar238.1) (State.isArrayOf_alike hZ.alike Ar238.2.1) Ar238.2.2 hin238 hat238 (g := (mkF m 185 #[.val (.int p0), .val (.int p1), .val (.int (7 : Int32)), .val (.ref b2), .val (.int nv), .val (.ref b216), .unset] [(.int (4 : Int32)), (.ref b2), (.int nv), (.int (2 : Int32)), (.ref b216)])) rfl rfl (hb hby at_185) _ ?_
                  show Steps p.tables e below (T236.setTop (mkF m 186 #[.val (.int p0), .val (.int p1), .val (.int (7 : Int32)), .val (.ref b2), .val (.int nv), .val (.ref b216), .unset] [(.int (10000 : Int32)), (.int nv), (.int (2 : Int32)), (.ref b216)])) _
                  refine st239 _ ?_
                  show Steps p.tables e below (T239.setTop (mkF m 189 #[.val (.int p0), .val (.int p1), .val (.int (7 : Int32)), .val (.ref b2), .val (.int nv), .val (.ref b216), .unset] [(.int (dV nv (10000 : Int32))), (.int (2 : Int32)), (.ref b216)])) _
                  refine st241 _ ?_
                  refine XS.iloadN X241.here hx rfl (hb hby at_190) rfl ?_
                  refine XS.bipush X241.here hx rfl (hb hby at_191) ?_
                  show Steps p.tables e below (T241.setTop (mkF m 193 #[.val (.int p0), .val (.int p1), .val (.int (7 : Int32)), .val (.ref b2), .val (.int nv), .val (.ref b216), .unset] [(.int (6 : Int32)), (.int (7 : Int32))])) _
                  refine XS.icmpNo X241.here hx rfl (hb hby at_193) rfl (flt (show ¬ ((7 : Int32) < (6 : Int32)) from (by decide))).1 ?_
                  refine XS.aload X241.here hx rfl (hb hby at_196) rfl rfl ?_
                  refine XS.iloadN X241.here hx rfl (hb hby at_198) rfl ?_
                  refine XS.bipush X241.here hx rfl (hb hby at_199) ?_
                  show Steps p.tables e below (T241.setTop (mkF m 201 #[.val (.int p0), .val (.int p1), .val (.int (7 : Int32)), .val (.ref b2), .val (.int nv), .val (.ref b216), .unset] [(.int (6 : Int32)), (.int (7 : Int32)), (.ref b216)])) _
                  refine XS.isub X241.here hx rfl (hb hby at_201) rfl ?_
                  refine XS.iload X241.here hx rfl (hb hby at_202) rfl ?_
                  refine XS.aloadN X241.here hx rfl (hb hby at_204) rfl rfl ?_
                  refine XS.iconst X241.here hx rfl (hb hby at_205) ?_
                  show Steps p.tables e below (T241.setTop (mkF m 206 #[.val (.int p0), .val (.int p1), .val (.int (7 : Int32)), .val (.ref b2), .val (.int nv), .val (.ref b216), .unset] [(.int (5 : Int32)), (.ref b2), (.int nv), (.int (1 : Int32)), (.ref b216)])) _
                  refine X241.iaload hx (j := (5 : Int32)) (v := (.int (100000 : Int32))) (by rw [e241]; exact Ar243.1) (State.isArrayOf_alike hZ.alike Ar243.2.1) Ar243.2.2 hin243 hat243 (g := (mkF m 206 #[.val (.int p0), .val (.int p1), .val (.int (7 : Int32)), .val (.ref b2), .val (.int nv), .val (.ref b216), .unset] [(.int (5 : Int32)), (.ref b2), (.int nv), (.int (1 : Int32)), (.ref b216)])) rfl rfl (hb hby at_206) _ ?_
                  show Steps p.tables e below (T241.setTop (mkF m 207 #[.val (.int p0), .val (.int p1), .val (.int (7 : Int32)), .val (.ref b2), .val (.int nv), .val (.ref b216), .unset] [(.int (100000 : Int32)), (.int nv), (.int (1 : Int32)), (.ref b216)])) _
                  refine st244 _ ?_
                  show Steps p.tables e below (T244.setTop (mkF m 210 #[.val (.int p0), .val (.int p1), .val (.int (7 : Int32)), .val (.ref b2), .val (.int nv), .val (.ref b216), .unset] [(.int (dV nv (100000 : Int32))), (.int (1 : Int32)), (.ref b216)])) _
                  refine st246 _ ?_
                  refine XS.iloadN X246.here hx rfl (hb hby at_211) rfl ?_
                  refine XS.bipush X246.here hx rfl (hb hby at_212) ?_
                  show Steps p.tables e below (T246.setTop (mkF m 214 #[.val (.int p0), .val (.int p1), .val (.int (7 : Int32)), .val (.ref b2), .val (.int nv), .val (.ref b216), .unset] [(.int (7 : Int32)), (.int (7 : Int32))])) _
                  refine XS.icmpNo X246.here hx rfl (hb hby at_214) rfl (flt (show ¬ ((7 : Int32) < (7 : Int32)) from (by decide))).1 ?_
                  refine XS.aload X246.here hx rfl (hb hby at_217) rfl rfl ?_
                  refine XS.iloadN X246.here hx rfl (hb hby at_219) rfl ?_
                  refine XS.bipush X246.here hx rfl (hb hby at_220) ?_
                  show Steps p.tables e below (T246.setTop (mkF m 222 #[.val (.int p0), .val (.int p1), .val (.int (7 : Int32)), .val (.ref b2), .val (.int nv), .val (.ref b216), .unset] [(.int (7 : Int32)), (.int (7 : Int32)), (.ref b216)])) _
                  refine XS.isub X246.here hx rfl (hb hby at_222) rfl ?_
                  refine XS.iload X246.here hx rfl (hb hby at_223) rfl ?_
                  refine XS.aloadN X246.here hx rfl (hb hby at_225) rfl rfl ?_
                  refine XS.bipush X246.here hx rfl (hb hby at_226) ?_
                  show Steps p.tables e below (T246.setTop (mkF m 228 #[.val (.int p0), .val (.int p1), .val (.int (7 : Int32)), .val (.ref b2), .val (.int nv), .val (.ref b216), .unset] [(.int (6 : Int32)), (.ref b2), (.int nv), (.int (0 : Int32)), (.ref b216)])) _
                  refine X246.iaload hx (j := (6 : Int32)) (v := (.int (1000000 : Int32))) (by rw [e246]; exact Ar248.1) (State.isArrayOf_alike hZ.alike Ar248.2.1) Ar248.2.2 hin248 hat248 (g := (mkF m 228 #[.val (.int p0), .val (.int p1), .val (.int (7 : Int32)), .val (.ref b2), .val (.int nv), .val (.ref b216), .unset] [(.int (6 : Int32)), (.ref b2), (.int nv), (.int (0 : Int32)), (.ref b216)])) rfl rfl (hb hby at_228) _ ?_
                  show Steps p.tables e below (T246.setTop (mkF m 229 #[.val (.int p0), .val (.int p1), .val (.int (7 : Int32)), .val (.ref b2), .val (.int nv), .val (.ref b216), .unset] [(.int (1000000 : Int32)), (.int nv), (.int (0 : Int32)), (.ref b216)])) _
                  refine st249 _ ?_
                  show Steps p.tables e below (T249.setTop (mkF m 232 #[.val (.int p0), .val (.int p1), .val (.int (7 : Int32)), .val (.ref b2), .val (.int nv), .val (.ref b216), .unset] [(.int (dV nv (1000000 : Int32))), (.int (0 : Int32)), (.ref b216)])) _
                  refine st251 _ ?_
                  refine XS.iloadN X251.here hx rfl (hb hby at_233) rfl ?_
                  refine XS.bipush X251.here hx rfl (hb hby at_234) ?_
                  show Steps p.tables e below (T251.setTop (mkF m 236 #[.val (.int p0), .val (.int p1), .val (.int (7 : Int32)), .val (.ref b2), .val (.int nv), .val (.ref b216), .unset] [(.int (8 : Int32)), (.int (7 : Int32))])) _
                  refine XS.icmpYes X251.here hx rfl (pc0 := 236) (pc' := 255) rfl (hb hby at_236) rfl (tlt (show (7 : Int32) < (8 : Int32) from (by decide))).1 (by decide) (by decide) ?_
                  refine XS.iloadN X251.here hx rfl (hb hby at_255) rfl ?_
                  refine XS.bipush X251.here hx rfl (hb hby at_256) ?_
                  show Steps p.tables e below (T251.setTop (mkF m 258 #[.val (.int p0), .val (.int p1), .val (.int (7 : Int32)), .val (.ref b2), .val (.int nv), .val (.ref b216), .unset] [(.int (9 : Int32)), (.int (7 : Int32))])) _
                  refine XS.icmpYes X251.here hx rfl (pc0 := 258) (pc' := 277) rfl (hb hby at_258) rfl (tlt (show (7 : Int32) < (9 : Int32) from (by decide))).1 (by decide) (by decide) ?_
                  refine XS.iloadN X251.here hx rfl (hb hby at_277) rfl ?_
                  refine XS.bipush X251.here hx rfl (hb hby at_278) ?_
                  show Steps p.tables e below (T251.setTop (mkF m 280 #[.val (.int p0), .val (.int p1), .val (.int (7 : Int32)), .val (.ref b2), .val (.int nv), .val (.ref b216), .unset] [(.int (10 : Int32)), (.int (7 : Int32))])) _
                  refine XS.icmpYes X251.here hx rfl (pc0 := 280) (pc' := 299) rfl (hb hby at_280) rfl (tlt (show (7 : Int32) < (10 : Int32) from (by decide))).1 (by decide) (by decide) ?_
                  refine XS.iloadN X251.here hx rfl (hb hby at_299) rfl ?_
                  refine XS.bipush X251.here hx rfl (hb hby at_300) ?_
                  show Steps p.tables e below (T251.setTop (mkF m 302 #[.val (.int p0), .val (.int p1), .val (.int (7 : Int32)), .val (.ref b2), .val (.int nv), .val (.ref b216), .unset] [(.int (11 : Int32)), (.int (7 : Int32))])) _
                  refine XS.icmpYes X251.here hx rfl (pc0 := 302) (pc' := 314) rfl (hb hby at_302) rfl (tlt (show (7 : Int32) < (11 : Int32) from (by decide))).1 (by decide) (by decide) ?_
                  refine XS.iloadN X251.here hx rfl (hb hby at_314) rfl ?_
                  refine XS.bipush X251.here hx rfl (hb hby at_315) ?_
                  show Steps p.tables e below (T251.setTop (mkF m 317 #[.val (.int p0), .val (.int p1), .val (.int (7 : Int32)), .val (.ref b2), .val (.int nv), .val (.ref b216), .unset] [(.int (12 : Int32)), (.int (7 : Int32))])) _
                  refine XS.icmpYes X251.here hx rfl (pc0 := 317) (pc' := 329) rfl (hb hby at_317) rfl (tlt (show (7 : Int32) < (12 : Int32) from (by decide))).1 (by decide) (by decide) ?_
                  show Steps p.tables e below (T251.setTop (mkF m 329 #[.val (.int p0), .val (.int p1), .val (.int (7 : Int32)), .val (.ref b2), .val (.int nv), .val (.ref b216), .unset] [])) _
                  refine st254 _ ?_
                  show Steps p.tables e below (T254.setTop (mkF m 332 #[.val (.int p0), .val (.int p1), .val (.int (7 : Int32)), .val (.ref b2), .val (.int nv), .val (.ref b216), .unset] [(.ref b254)])) _
                  refine XS.dup X254.here hx rfl (hb hby at_332) rfl rfl ?_
                  refine XS.aload X254.here hx rfl (hb hby at_333) rfl rfl ?_
                  show Steps p.tables e below (T254.setTop (mkF m 335 #[.val (.int p0), .val (.int p1), .val (.int (7 : Int32)), .val (.ref b2), .val (.int nv), .val (.ref b216), .unset] [(.ref b216), (.ref b254), (.ref b254)])) _
                  refine st255.trans ?_
                  refine XS.astore X255.here hx rfl (hb hby at_338) rfl rfl (l' := #[.val (.int p0), .val (.int p1), .val (.int (7 : Int32)), .val (.ref b2), .val (.int nv), .val (.ref b216), .val (.ref b254)]) rfl ?_
                  refine XS.aload Xx261.here hx rfl (hb hby at_340) rfl rfl ?_
                  show Steps p.tables e below (T255.setTop (mkF m 342 #[.val (.int p0), .val (.int p1), .val (.int (7 : Int32)), .val (.ref b2), .val (.int nv), .val (.ref b216), .val (.ref b254)] [(.ref b254)])) _
                  refine st262 _ ?_
                  show Steps p.tables e below (T262.setTop (mkF m 345 #[.val (.int p0), .val (.int p1), .val (.int (7 : Int32)), .val (.ref b2), .val (.int nv), .val (.ref b216), .val (.ref b254)] [(.int ((pv ([(nar .char (dV nv (1000000 : Int32))), (nar .char (dV nv (100000 : Int32))), (nar .char (dV nv (10000 : Int32))), (nar .char (dV nv (1000 : Int32))), (nar .char (dV nv (100 : Int32))), (nar .char (dV nv (10 : Int32))), (nar .char (dV nv (1 : Int32)))] : List Int32) ([(nar .char (dV nv (1000000 : Int32))), (nar .char (dV nv (100000 : Int32))), (nar .char (dV nv (10000 : Int32))), (nar .char (dV nv (1000 : Int32))), (nar .char (dV nv (100 : Int32))), (nar .char (dV nv (10 : Int32))), (nar .char (dV nv (1 : Int32)))] : List Int32).length).toInt32))])) _
                  refine XS.iload X262.here hx rfl (hb hby at_345) rfl ?_
                  show Steps p.tables e below (T262.setTop (mkF m 347 #[.val (.int p0), .val (.int p1), .val (.int (7 : Int32)), .val (.ref b2), .val (.int nv), .val (.ref b216), .val (.ref b254)] [(.int nv), (.int ((pv ([(nar .char (dV nv (1000000 : Int32))), (nar .char (dV nv (100000 : Int32))), (nar .char (dV nv (10000 : Int32))), (nar .char (dV nv (1000 : Int32))), (nar .char (dV nv (100 : Int32))), (nar .char (dV nv (10 : Int32))), (nar .char (dV nv (1 : Int32)))] : List Int32) ([(nar .char (dV nv (1000000 : Int32))), (nar .char (dV nv (100000 : Int32))), (nar .char (dV nv (10000 : Int32))), (nar .char (dV nv (1000 : Int32))), (nar .char (dV nv (100 : Int32))), (nar .char (dV nv (10 : Int32))), (nar .char (dV nv (1 : Int32)))] : List Int32).length).toInt32))])) _
                  refine XS.icmpNo X262.here hx rfl (hb hby at_347) rfl (teq (show ((pv ([(nar .char (dV nv (1000000 : Int32))), (nar .char (dV nv (100000 : Int32))), (nar .char (dV nv (10000 : Int32))), (nar .char (dV nv (1000 : Int32))), (nar .char (dV nv (100 : Int32))), (nar .char (dV nv (10 : Int32))), (nar .char (dV nv (1 : Int32)))] : List Int32) ([(nar .char (dV nv (1000000 : Int32))), (nar .char (dV nv (100000 : Int32))), (nar .char (dV nv (10000 : Int32))), (nar .char (dV nv (1000 : Int32))), (nar .char (dV nv (100 : Int32))), (nar .char (dV nv (10 : Int32))), (nar .char (dV nv (1 : Int32)))] : List Int32).length).toInt32) = nv from hfin)).2 ?_
                  refine XS.iconst X262.here hx rfl (hb hby at_350) ?_
                  refine XS.goto X262.here hx rfl (pc0 := 351) (pc' := 355) rfl (hb hby at_351) (by decide) (by decide) ?_
                  show Steps p.tables e below (T262.setTop (mkF m 355 #[.val (.int p0), .val (.int p1), .val (.int (7 : Int32)), .val (.ref b2), .val (.int nv), .val (.ref b216), .val (.ref b254)] [(.int (1 : Int32))])) _
                  exact retN X262 hx (t := .boolean) Bd.returns (by simp) (hb hby at_355) hr
                · show Q0 h0 n0 _ T262.heap _
                  rw [e262]
                  exact ⟨rfl, N262⟩
              · by_cases hl8 : len = (8 : Int32)
                · rw [hl8] at pre23
                  obtain ⟨cl263, Ar263, -, S263, Nn263, Hh263, -⟩ := id V22
                  have hin263 : ¬ ((8 : Int32) < 0 ∨ cl263.slots.size ≤ ((8 : Int32)).toNatClampNeg) := inb_of S263 ⟨by decide, by decide⟩
                  have hat263 : cl263.slots[((8 : Int32)).toNatClampNeg]? = some (.int (100000000 : Int32)) := Hh263.at hin263 rfl
                  have pre264 : ∀ t, Steps p.tables e below (T22.setTop (mkF m 90 #[.val (.int p0), .val (.int p1), .val (.int (8 : Int32)), .val (.ref b2), .val (.int ((p0 &&& (2147483647 : Int32)) - ((p0 &&& (2147483647 : Int32)) / (100000000 : Int32)) * (100000000 : Int32))), .unset, .unset] [])) t → Steps p.tables e below (s₁.setTop (entryFrame m #[(.int p0), (.int p1)] maxLocals)) t := fun t kt => pre23 t (by
                      show Steps p.tables e below (T22.setTop (mkF m 70 #[.val (.int p0), .val (.int p1), .val (.int (8 : Int32)), .val (.ref b2), .unset, .unset, .unset] [])) _
                      refine XS.iloadN Xx24.here hx rfl (hb hby at_70) rfl ?_
                      show Steps p.tables e below (T22.setTop (mkF m 71 #[.val (.int p0), .val (.int p1), .val (.int (8 : Int32)), .val (.ref b2), .unset, .unset, .unset] [(.int p0)])) _
                      refine Xx24.ldcI hx hown (mvT hZ (hw _ (List.mem_of_getElem? (i := 6) rfl))) (g := (mkF m 71 #[.val (.int p0), .val (.int p1), .val (.int (8 : Int32)), .val (.ref b2), .unset, .unset, .unset] [(.int p0)])) rfl (hb hby at_71) ?_
                      show Steps p.tables e below (T22.setTop (mkF m 73 #[.val (.int p0), .val (.int p1), .val (.int (8 : Int32)), .val (.ref b2), .unset, .unset, .unset] [(.int (2147483647 : Int32)), (.int p0)])) _
                      refine XS.iand Xx24.here hx rfl (hb hby at_73) rfl ?_
                      refine XS.istore Xx24.here hx rfl (hb hby at_74) rfl (l' := #[.val (.int p0), .val (.int p1), .val (.int (8 : Int32)), .val (.ref b2), .val (.int (p0 &&& (2147483647 : Int32))), .unset, .unset]) rfl ?_
                      refine XS.iloadN Xx24.here hx rfl (hb hby at_76) rfl ?_
                      refine XS.bipush Xx24.here hx rfl (hb hby at_77) ?_
                      show Steps p.tables e below (T22.setTop (mkF m 79 #[.val (.int p0), .val (.int p1), .val (.int (8 : Int32)), .val (.ref b2), .val (.int (p0 &&& (2147483647 : Int32))), .unset, .unset] [(.int (10 : Int32)), (.int (8 : Int32))])) _
                      refine XS.icmpNo Xx24.here hx rfl (hb hby at_79) rfl (tlt (show (8 : Int32) < (10 : Int32) from (by decide))).2.1 ?_
                      refine XS.iload Xx24.here hx rfl (hb hby at_82) rfl ?_
                      refine XS.aloadN Xx24.here hx rfl (hb hby at_84) rfl rfl ?_
                      refine XS.iloadN Xx24.here hx rfl (hb hby at_85) rfl ?_
                      show Steps p.tables e below (T22.setTop (mkF m 86 #[.val (.int p0), .val (.int p1), .val (.int (8 : Int32)), .val (.ref b2), .val (.int (p0 &&& (2147483647 : Int32))), .unset, .unset] [(.int (8 : Int32)), (.ref b2), (.int (p0 &&& (2147483647 : Int32)))])) _
                      refine Xx24.iaload hx (j := (8 : Int32)) (v := (.int (100000000 : Int32))) (by rw [e22]; exact Ar263.1) (State.isArrayOf_alike hZ.alike Ar263.2.1) Ar263.2.2 hin263 hat263 (g := (mkF m 86 #[.val (.int p0), .val (.int p1), .val (.int (8 : Int32)), .val (.ref b2), .val (.int (p0 &&& (2147483647 : Int32))), .unset, .unset] [(.int (8 : Int32)), (.ref b2), (.int (p0 &&& (2147483647 : Int32)))])) rfl rfl (hb hby at_86) _ ?_
                      show Steps p.tables e below (T22.setTop (mkF m 87 #[.val (.int p0), .val (.int p1), .val (.int (8 : Int32)), .val (.ref b2), .val (.int (p0 &&& (2147483647 : Int32))), .unset, .unset] [(.int (100000000 : Int32)), (.int (p0 &&& (2147483647 : Int32)))])) _
                      refine XS.irem Xx24.here hx rfl (hb hby at_87) rfl (by decide) ?_
                      refine XS.istore Xx24.here hx rfl (hb hby at_88) rfl (l' := #[.val (.int p0), .val (.int p1), .val (.int (8 : Int32)), .val (.ref b2), .val (.int ((p0 &&& (2147483647 : Int32)) - ((p0 &&& (2147483647 : Int32)) / (100000000 : Int32)) * (100000000 : Int32))), .unset, .unset]) rfl ?_
                      exact kt)
                  obtain ⟨nv, hnv⟩ : ∃ z : Int32, z = ((p0 &&& (2147483647 : Int32)) - ((p0 &&& (2147483647 : Int32)) / (100000000 : Int32)) * (100000000 : Int32)) := ⟨_, rfl⟩
                  rw [← hnv] at pre264
                  have hnb : 0 ≤ nv.toInt ∧ nv.toInt < 10 ^ 8 := by rw [hnv]; exact own_nlt10 p0 (100000000 : Int32) (by decide)
                  obtain ⟨T265, h265, k265, X265, e265, E265, A265, st265⟩ := newP Xx24 hx hZ (hw _ (List.mem_of_getElem? (i := 7) rfl)) e22 (g := (mkF m 91 #[.val (.int p0), .val (.int p1), .val (.int (8 : Int32)), .val (.ref b2), .val (.int nv), .unset, .unset] [(.int (8 : Int32))])) rfl (hb hby at_91) rfl (by decide) (cap := 8) (by decide) (by decide) (by decide) (by decide)
                  obtain ⟨b265, g265⟩ : ∃ z, z = h22.size := ⟨_, rfl⟩
                  rw [← g265] at A265 st265
                  have g_b265 : n0 ≤ b265 := Nat.le_trans Z22 (Nat.le_of_eq g265.symm)
                  have sz_b265 : h0.size ≤ b265 := Nat.le_trans K22.1 (Nat.le_of_eq g265.symm)
                  have ne_b2_b265 : b2 ≠ b265 := Nat.ne_of_lt (Nat.lt_of_lt_of_le V22.lt (Nat.le_of_eq g265.symm))
                  have K265 : Keep h0 h265 [] := Keep.ext K22 E265
                  have Z265 : n0 ≤ h265.size := Nat.le_trans Z0 K265.1
                  have V_b265 : Arv Z h265 b265 k265 .char (8 : Int32) [(.int (0 : Int32)), (.int (0 : Int32)), (.int (0 : Int32)), (.int (0 : Int32)), (.int (0 : Int32)), (.int (0 : Int32)), (.int (0 : Int32)), (.int (0 : Int32))] (.int (0 : Int32)) := (Arv.new A265 (by decide)).pad (pad_rep [] (.int (0 : Int32)) 8)
                  have f266 := (V22.ext E265)
                  obtain ⟨cl267, Ar267, -, S267, Nn267, Hh267, -⟩ := id f266
                  have hin267 : ¬ ((0 : Int32) < 0 ∨ cl267.slots.size ≤ ((0 : Int32)).toNatClampNeg) := inb_of S267 ⟨by decide, by decide⟩
                  have hat267 : cl267.slots[((0 : Int32)).toNatClampNeg]? = some (.int (1 : Int32)) := Hh267.at hin267 rfl
                  obtain ⟨_, _, ⟨T268, L268, k268, n268⟩, -, X268, ⟨Lc268, hQ268, l268, y268, z268⟩, st268⟩ := Jvm.LawKit.callS X265 hx (y := (⟨"com/example/libforeword/libforeword/wordlist/EntryParseFrequencyPinLaw", "d", "(II)C"⟩ : MethodName)) hown (mvT hZ (hw _ (List.mem_of_getElem? (i := 8) rfl))) (mvT hZ (hw _ (List.mem_of_getElem? (i := 9) rfl))) (mvT hZ (hw _ (List.mem_of_getElem? (i := 10) rfl))) (mvT hZ (hw _ (List.mem_of_getElem? (i := 11) rfl))) (by decide) (backOf (W := 2) (rmDD l Z a0 hw [] nv (1 : Int32) h265 n0 Z265 (by decide)) hZ (hw _ (List.mem_of_getElem? (i := 11) rfl)) (hw _ (List.mem_of_getElem? (i := 10) rfl)) (by decide) (by decide)) (g := (mkF m 110 #[.val (.int p0), .val (.int p1), .val (.int (8 : Int32)), .val (.ref b2), .val (.int nv), .val (.ref b265), .unset] [(.int (1 : Int32)), (.int nv), (.int (7 : Int32)), (.ref b265)])) rfl (by rw [hml]; rfl) (argsL := [(.int nv), (.int (1 : Int32))]) (rest := [(.int (7 : Int32)), (.ref b265)]) (lenOf pd_3 rfl) rfl (by show 2 * 0 + _ ≤ _; exact Nat.le_of_eq rfl) (hb hby at_110) (fun _ _ => ⟨rfl, e265, (by decide : 2 + 0 ≤ _), (by decide : 18 + 0 ≤ _)⟩)
                  dsimp only [Pt.U, Pt.locs, Pt.cells, Pt.slots] at X268 l268 y268 z268 st268 hQ268
                  subst l268 y268 z268
                  obtain ⟨rfl, N268q, e268⟩ := hQ268
                  have N268 := Fr.app Nx24 N268q
                  obtain ⟨cl269, Ar269, q269, S269, Nn269, Hh269, Gg269⟩ := id V_b265
                  have hin269 : ¬ ((7 : Int32) < 0 ∨ cl269.slots.size ≤ ((7 : Int32)).toNatClampNeg) := inb_of S269 ⟨by decide, by decide⟩
                  obtain ⟨T270, h270, X270, e270, W270, st270⟩ := stC X268 hx hZ e268 Ar269 (j := (7 : Int32)) hin269 (g := (mkF m 113 #[.val (.int p0), .val (.int p1), .val (.int (8 : Int32)), .val (.ref b2), .val (.int nv), .val (.ref b265), .unset] [(.int (dV nv (1 : Int32))), (.int (7 : Int32)), (.ref b265)])) rfl rfl (hb hby at_113)
                  have V270 : Arv Z h270 b265 k265 .char (8 : Int32) [(.int (0 : Int32)), (.int (0 : Int32)), (.int (0 : Int32)), (.int (0 : Int32)), (.int (0 : Int32)), (.int (0 : Int32)), (.int (0 : Int32)), (.int (nar .char (dV nv (1 : Int32))))] (.int (0 : Int32)) := Arv.set Ar269 q269 S269 Nn269 Hh269 Gg269 (fits_nar_char _) W270 7 rfl (Nat.le_of_ble_eq_true rfl)
                  have K270 : Keep h0 h270 [] := Keep.wr K265 W270 (Or.inr sz_b265)
                  have Z270 : n0 ≤ h270.size := Nat.le_trans Z0 K270.1
                  have N270 := Fr.snoc X270 N268 g_b265
                  have f271 := (f266.other W270 ne_b2_b265)
                  obtain ⟨cl272, Ar272, -, S272, Nn272, Hh272, -⟩ := id f271
                  have hin272 : ¬ ((1 : Int32) < 0 ∨ cl272.slots.size ≤ ((1 : Int32)).toNatClampNeg) := inb_of S272 ⟨by decide, by decide⟩
                  have hat272 : cl272.slots[((1 : Int32)).toNatClampNeg]? = some (.int (10 : Int32)) := Hh272.at hin272 rfl
                  obtain ⟨_, _, ⟨T273, L273, k273, n273⟩, -, X273, ⟨Lc273, hQ273, l273, y273, z273⟩, st273⟩ := Jvm.LawKit.callS X270 hx (y := (⟨"com/example/libforeword/libforeword/wordlist/EntryParseFrequencyPinLaw", "d", "(II)C"⟩ : MethodName)) hown (mvT hZ (hw _ (List.mem_of_getElem? (i := 8) rfl))) (mvT hZ (hw _ (List.mem_of_getElem? (i := 9) rfl))) (mvT hZ (hw _ (List.mem_of_getElem? (i := 10) rfl))) (mvT hZ (hw _ (List.mem_of_getElem? (i := 11) rfl))) (by decide) (backOf (W := 2) (rmDD l Z a0 hw [] nv (10 : Int32) h270 n0 Z270 (by decide)) hZ (hw _ (List.mem_of_getElem? (i := 11) rfl)) (hw _ (List.mem_of_getElem? (i := 10) rfl)) (by decide) (by decide)) (g := (mkF m 129 #[.val (.int p0), .val (.int p1), .val (.int (8 : Int32)), .val (.ref b2), .val (.int nv), .val (.ref b265), .unset] [(.int (10 : Int32)), (.int nv), (.int (6 : Int32)), (.ref b265)])) rfl (by rw [hml]; rfl) (argsL := [(.int nv), (.int (10 : Int32))]) (rest := [(.int (6 : Int32)), (.ref b265)]) (lenOf pd_3 rfl) rfl (by show 2 * 0 + _ ≤ _; exact Nat.le_of_eq rfl) (hb hby at_129) (fun _ _ => ⟨rfl, e270, (by decide : 2 + 0 ≤ _), (by decide : 18 + 0 ≤ _)⟩)
                  dsimp only [Pt.U, Pt.locs, Pt.cells, Pt.slots] at X273 l273 y273 z273 st273 hQ273
                  subst l273 y273 z273
                  obtain ⟨rfl, N273q, e273⟩ := hQ273
                  have N273 := Fr.app N270 N273q
                  obtain ⟨cl274, Ar274, q274, S274, Nn274, Hh274, Gg274⟩ := id V270
                  have hin274 : ¬ ((6 : Int32) < 0 ∨ cl274.slots.size ≤ ((6 : Int32)).toNatClampNeg) := inb_of S274 ⟨by decide, by decide⟩
                  obtain ⟨T275, h275, X275, e275, W275, st275⟩ := stC X273 hx hZ e273 Ar274 (j := (6 : Int32)) hin274 (g := (mkF m 132 #[.val (.int p0), .val (.int p1), .val (.int (8 : Int32)), .val (.ref b2), .val (.int nv), .val (.ref b265), .unset] [(.int (dV nv (10 : Int32))), (.int (6 : Int32)), (.ref b265)])) rfl rfl (hb hby at_132)
                  have V275 : Arv Z h275 b265 k265 .char (8 : Int32) [(.int (0 : Int32)), (.int (0 : Int32)), (.int (0 : Int32)), (.int (0 : Int32)), (.int (0 : Int32)), (.int (0 : Int32)), (.int (nar .char (dV nv (10 : Int32)))), (.int (nar .char (dV nv (1 : Int32))))] (.int (0 : Int32)) := Arv.set Ar274 q274 S274 Nn274 Hh274 Gg274 (fits_nar_char _) W275 6 rfl (Nat.le_of_ble_eq_true rfl)
                  have K275 : Keep h0 h275 [] := Keep.wr K270 W275 (Or.inr sz_b265)
                  have Z275 : n0 ≤ h275.size := Nat.le_trans Z0 K275.1
                  have N275 := Fr.snoc X275 N273 g_b265
                  have f276 := (f271.other W275 ne_b2_b265)
                  obtain ⟨cl277, Ar277, -, S277, Nn277, Hh277, -⟩ := id f276
                  have hin277 : ¬ ((2 : Int32) < 0 ∨ cl277.slots.size ≤ ((2 : Int32)).toNatClampNeg) := inb_of S277 ⟨by decide, by decide⟩
                  have hat277 : cl277.slots[((2 : Int32)).toNatClampNeg]? = some (.int (100 : Int32)) := Hh277.at hin277 rfl
                  obtain ⟨_, _, ⟨T278, L278, k278, n278⟩, -, X278, ⟨Lc278, hQ278, l278, y278, z278⟩, st278⟩ := Jvm.LawKit.callS X275 hx (y := (⟨"com/example/libforeword/libforeword/wordlist/EntryParseFrequencyPinLaw", "d", "(II)C"⟩ : MethodName)) hown (mvT hZ (hw _ (List.mem_of_getElem? (i := 8) rfl))) (mvT hZ (hw _ (List.mem_of_getElem? (i := 9) rfl))) (mvT hZ (hw _ (List.mem_of_getElem? (i := 10) rfl))) (mvT hZ (hw _ (List.mem_of_getElem? (i := 11) rfl))) (by decide) (backOf (W := 2) (rmDD l Z a0 hw [] nv (100 : Int32) h275 n0 Z275 (by decide)) hZ (hw _ (List.mem_of_getElem? (i := 11) rfl)) (hw _ (List.mem_of_getElem? (i := 10) rfl)) (by decide) (by decide)) (g := (mkF m 148 #[.val (.int p0), .val (.int p1), .val (.int (8 : Int32)), .val (.ref b2), .val (.int nv), .val (.ref b265), .unset] [(.int (100 : Int32)), (.int nv), (.int (5 : Int32)), (.ref b265)])) rfl (by rw [hml]; rfl) (argsL := [(.int nv), (.int (100 : Int32))]) (rest := [(.int (5 : Int32)), (.ref b265)]) (lenOf pd_3 rfl) rfl (by show 2 * 0 + _ ≤ _; exact Nat.le_of_eq rfl) (hb hby at_148) (fun _ _ => ⟨rfl, e275, (by decide : 2 + 0 ≤ _), (by decide : 18 + 0 ≤ _)⟩)
                  dsimp only [Pt.U, Pt.locs, Pt.cells, Pt.slots] at X278 l278 y278 z278 st278 hQ278
                  subst l278 y278 z278
                  obtain ⟨rfl, N278q, e278⟩ := hQ278
                  have N278 := Fr.app N275 N278q
                  obtain ⟨cl279, Ar279, q279, S279, Nn279, Hh279, Gg279⟩ := id V275
                  have hin279 : ¬ ((5 : Int32) < 0 ∨ cl279.slots.size ≤ ((5 : Int32)).toNatClampNeg) := inb_of S279 ⟨by decide, by decide⟩
                  obtain ⟨T280, h280, X280, e280, W280, st280⟩ := stC X278 hx hZ e278 Ar279 (j := (5 : Int32)) hin279 (g := (mkF m 151 #[.val (.int p0), .val (.int p1), .val (.int (8 : Int32)), .val (.ref b2), .val (.int nv), .val (.ref b265), .unset] [(.int (dV nv (100 : Int32))), (.int (5 : Int32)), (.ref b265)])) rfl rfl (hb hby at_151)
                  have V280 : Arv Z h280 b265 k265 .char (8 : Int32) [(.int (0 : Int32)), (.int (0 : Int32)), (.int (0 : Int32)), (.int (0 : Int32)), (.int (0 : Int32)), (.int (nar .char (dV nv (100 : Int32)))), (.int (nar .char (dV nv (10 : Int32)))), (.int (nar .char (dV nv (1 : Int32))))] (.int (0 : Int32)) := Arv.set Ar279 q279 S279 Nn279 Hh279 Gg279 (fits_nar_char _) W280 5 rfl (Nat.le_of_ble_eq_true rfl)
                  have K280 : Keep h0 h280 [] := Keep.wr K275 W280 (Or.inr sz_b265)
                  have Z280 : n0 ≤ h280.size := Nat.le_trans Z0 K280.1
                  have N280 := Fr.snoc X280 N278 g_b265
                  have f281 := (f276.other W280 ne_b2_b265)
                  obtain ⟨cl282, Ar282, -, S282, Nn282, Hh282, -⟩ := id f281
                  have hin282 : ¬ ((3 : Int32) < 0 ∨ cl282.slots.size ≤ ((3 : Int32)).toNatClampNeg) := inb_of S282 ⟨by decide, by decide⟩
                  have hat282 : cl282.slots[((3 : Int32)).toNatClampNeg]? = some (.int (1000 : Int32)) := Hh282.at hin282 rfl
                  obtain ⟨_, _, ⟨T283, L283, k283, n283⟩, -, X283, ⟨Lc283, hQ283, l283, y283, z283⟩, st283⟩ := Jvm.LawKit.callS X280 hx (y := (⟨"com/example/libforeword/libforeword/wordlist/EntryParseFrequencyPinLaw", "d", "(II)C"⟩ : MethodName)) hown (mvT hZ (hw _ (List.mem_of_getElem? (i := 8) rfl))) (mvT hZ (hw _ (List.mem_of_getElem? (i := 9) rfl))) (mvT hZ (hw _ (List.mem_of_getElem? (i := 10) rfl))) (mvT hZ (hw _ (List.mem_of_getElem? (i := 11) rfl))) (by decide) (backOf (W := 2) (rmDD l Z a0 hw [] nv (1000 : Int32) h280 n0 Z280 (by decide)) hZ (hw _ (List.mem_of_getElem? (i := 11) rfl)) (hw _ (List.mem_of_getElem? (i := 10) rfl)) (by decide) (by decide)) (g := (mkF m 167 #[.val (.int p0), .val (.int p1), .val (.int (8 : Int32)), .val (.ref b2), .val (.int nv), .val (.ref b265), .unset] [(.int (1000 : Int32)), (.int nv), (.int (4 : Int32)), (.ref b265)])) rfl (by rw [hml]; rfl) (argsL := [(.int nv), (.int (1000 : Int32))]) (rest := [(.int (4 : Int32)), (.ref b265)]) (lenOf pd_3 rfl) rfl (by show 2 * 0 + _ ≤ _; exact Nat.le_of_eq rfl) (hb hby at_167) (fun _ _ => ⟨rfl, e280, (by decide : 2 + 0 ≤ _), (by decide : 18 + 0 ≤ _)⟩)
                  dsimp only [Pt.U, Pt.locs, Pt.cells, Pt.slots] at X283 l283 y283 z283 st283 hQ283
                  subst l283 y283 z283
                  obtain ⟨rfl, N283q, e283⟩ := hQ283
                  have N283 := Fr.app N280 N283q
                  obtain ⟨cl284, Ar284, q284, S284, Nn284, Hh284, Gg284⟩ := id V280
                  have hin284 : ¬ ((4 : Int32) < 0 ∨ cl284.slots.size ≤ ((4 : Int32)).toNatClampNeg) := inb_of S284 ⟨by decide, by decide⟩
                  obtain ⟨T285, h285, X285, e285, W285, st285⟩ := stC X283 hx hZ e283 Ar284 (j := (4 : Int32)) hin284 (g := (mkF m 170 #[.val (.int p0), .val (.int p1), .val (.int (8 : Int32)), .val (.ref b2), .val (.int nv), .val (.ref b265), .unset] [(.int (dV nv (1000 : Int32))), (.int (4 : Int32)), (.ref b265)])) rfl rfl (hb hby at_170)
                  have V285 : Arv Z h285 b265 k265 .char (8 : Int32) [(.int (0 : Int32)), (.int (0 : Int32)), (.int (0 : Int32)), (.int (0 : Int32)), (.int (nar .char (dV nv (1000 : Int32)))), (.int (nar .char (dV nv (100 : Int32)))), (.int (nar .char (dV nv (10 : Int32)))), (.int (nar .char (dV nv (1 : Int32))))] (.int (0 : Int32)) := Arv.set Ar284 q284 S284 Nn284 Hh284 Gg284 (fits_nar_char _) W285 4 rfl (Nat.le_of_ble_eq_true rfl)
                  have K285 : Keep h0 h285 [] := Keep.wr K280 W285 (Or.inr sz_b265)
                  have Z285 : n0 ≤ h285.size := Nat.le_trans Z0 K285.1
                  have N285 := Fr.snoc X285 N283 g_b265
                  have f286 := (f281.other W285 ne_b2_b265)
                  obtain ⟨cl287, Ar287, -, S287, Nn287, Hh287, -⟩ := id f286
                  have hin287 : ¬ ((4 : Int32) < 0 ∨ cl287.slots.size ≤ ((4 : Int32)).toNatClampNeg) := inb_of S287 ⟨by decide, by decide⟩
                  have hat287 : cl287.slots[((4 : Int32)).toNatClampNeg]? = some (.int (10000 : Int32)) := Hh287.at hin287 rfl
                  obtain ⟨_, _, ⟨T288, L288, k288, n288⟩, -, X288, ⟨Lc288, hQ288, l288, y288, z288⟩, st288⟩ := Jvm.LawKit.callS X285 hx (y := (⟨"com/example/libforeword/libforeword/wordlist/EntryParseFrequencyPinLaw", "d", "(II)C"⟩ : MethodName)) hown (mvT hZ (hw _ (List.mem_of_getElem? (i := 8) rfl))) (mvT hZ (hw _ (List.mem_of_getElem? (i := 9) rfl))) (mvT hZ (hw _ (List.mem_of_getElem? (i := 10) rfl))) (mvT hZ (hw _ (List.mem_of_getElem? (i := 11) rfl))) (by decide) (backOf (W := 2) (rmDD l Z a0 hw [] nv (10000 : Int32) h285 n0 Z285 (by decide)) hZ (hw _ (List.mem_of_getElem? (i := 11) rfl)) (hw _ (List.mem_of_getElem? (i := 10) rfl)) (by decide) (by decide)) (g := (mkF m 186 #[.val (.int p0), .val (.int p1), .val (.int (8 : Int32)), .val (.ref b2), .val (.int nv), .val (.ref b265), .unset] [(.int (10000 : Int32)), (.int nv), (.int (3 : Int32)), (.ref b265)])) rfl (by rw [hml]; rfl) (argsL := [(.int nv), (.int (10000 : Int32))]) (rest := [(.int (3 : Int32)), (.ref b265)]) (lenOf pd_3 rfl) rfl (by show 2 * 0 + _ ≤ _; exact Nat.le_of_eq rfl) (hb hby at_186) (fun _ _ => ⟨rfl, e285, (by decide : 2 + 0 ≤ _), (by decide : 18 + 0 ≤ _)⟩)
                  dsimp only [Pt.U, Pt.locs, Pt.cells, Pt.slots] at X288 l288 y288 z288 st288 hQ288
                  subst l288 y288 z288
                  obtain ⟨rfl, N288q, e288⟩ := hQ288
                  have N288 := Fr.app N285 N288q
                  obtain ⟨cl289, Ar289, q289, S289, Nn289, Hh289, Gg289⟩ := id V285
                  have hin289 : ¬ ((3 : Int32) < 0 ∨ cl289.slots.size ≤ ((3 : Int32)).toNatClampNeg) := inb_of S289 ⟨by decide, by decide⟩
                  obtain ⟨T290, h290, X290, e290, W290, st290⟩ := stC X288 hx hZ e288 Ar289 (j := (3 : Int32)) hin289 (g := (mkF m 189 #[.val (.int p0), .val (.int p1), .val (.int (8 : Int32)), .val (.ref b2), .val (.int nv), .val (.ref b265), .unset] [(.int (dV nv (10000 : Int32))), (.int (3 : Int32)), (.ref b265)])) rfl rfl (hb hby at_189)
                  have V290 : Arv Z h290 b265 k265 .char (8 : Int32) [(.int (0 : Int32)), (.int (0 : Int32)), (.int (0 : Int32)), (.int (nar .char (dV nv (10000 : Int32)))), (.int (nar .char (dV nv (1000 : Int32)))), (.int (nar .char (dV nv (100 : Int32)))), (.int (nar .char (dV nv (10 : Int32)))), (.int (nar .char (dV nv (1 : Int32))))] (.int (0 : Int32)) := Arv.set Ar289 q289 S289 Nn289 Hh289 Gg289 (fits_nar_char _) W290 3 rfl (Nat.le_of_ble_eq_true rfl)
                  have K290 : Keep h0 h290 [] := Keep.wr K285 W290 (Or.inr sz_b265)
                  have Z290 : n0 ≤ h290.size := Nat.le_trans Z0 K290.1
                  have N290 := Fr.snoc X290 N288 g_b265
                  have f291 := (f286.other W290 ne_b2_b265)
                  obtain ⟨cl292, Ar292, -, S292, Nn292, Hh292, -⟩ := id f291
                  have hin292 : ¬ ((5 : Int32) < 0 ∨ cl292.slots.size ≤ ((5 : Int32)).toNatClampNeg) := inb_of S292 ⟨by decide, by decide⟩
                  have hat292 : cl292.slots[((5 : Int32)).toNatClampNeg]? = some (.int (100000 : Int32)) := Hh292.at hin292 rfl
                  obtain ⟨_, _, ⟨T293, L293, k293, n293⟩, -, X293, ⟨Lc293, hQ293, l293, y293, z293⟩, st293⟩ := Jvm.LawKit.callS X290 hx (y := (⟨"com/example/libforeword/libforeword/wordlist/EntryParseFrequencyPinLaw", "d", "(II)C"⟩ : MethodName)) hown (mvT hZ (hw _ (List.mem_of_getElem? (i := 8) rfl))) (mvT hZ (hw _ (List.mem_of_getElem? (i := 9) rfl))) (mvT hZ (hw _ (List.mem_of_getElem? (i := 10) rfl))) (mvT hZ (hw _ (List.mem_of_getElem? (i := 11) rfl))) (by decide) (backOf (W := 2) (rmDD l Z a0 hw [] nv (100000 : Int32) h290 n0 Z290 (by decide)) hZ (hw _ (List.mem_of_getElem? (i := 11) rfl)) (hw _ (List.mem_of_getElem? (i := 10) rfl)) (by decide) (by decide)) (g := (mkF m 207 #[.val (.int p0), .val (.int p1), .val (.int (8 : Int32)), .val (.ref b2), .val (.int nv), .val (.ref b265), .unset] [(.int (100000 : Int32)), (.int nv), (.int (2 : Int32)), (.ref b265)])) rfl (by rw [hml]; rfl) (argsL := [(.int nv), (.int (100000 : Int32))]) (rest := [(.int (2 : Int32)), (.ref b265)]) (lenOf pd_3 rfl) rfl (by show 2 * 0 + _ ≤ _; exact Nat.le_of_eq rfl) (hb hby at_207) (fun _ _ => ⟨rfl, e290, (by decide : 2 + 0 ≤ _), (by decide : 18 + 0 ≤ _)⟩)
                  dsimp only [Pt.U, Pt.locs, Pt.cells, Pt.slots] at X293 l293 y293 z293 st293 hQ293
                  subst l293 y293 z293
                  obtain ⟨rfl, N293q, e293⟩ := hQ293
                  have N293 := Fr.app N290 N293q
                  obtain ⟨cl294, Ar294, q294, S294, Nn294, Hh294, Gg294⟩ := id V290
                  have hin294 : ¬ ((2 : Int32) < 0 ∨ cl294.slots.size ≤ ((2 : Int32)).toNatClampNeg) := inb_of S294 ⟨by decide, by decide⟩
                  obtain ⟨T295, h295, X295, e295, W295, st295⟩ := stC X293 hx hZ e293 Ar294 (j := (2 : Int32)) hin294 (g := (mkF m 210 #[.val (.int p0), .val (.int p1), .val (.int (8 : Int32)), .val (.ref b2), .val (.int nv), .val (.ref b265), .unset] [(.int (dV nv (100000 : Int32))), (.int (2 : Int32)), (.ref b265)])) rfl rfl (hb hby at_210)
                  have V295 : Arv Z h295 b265 k265 .char (8 : Int32) [(.int (0 : Int32)), (.int (0 : Int32)), (.int (nar .char (dV nv (100000 : Int32)))), (.int (nar .char (dV nv (10000 : Int32)))), (.int (nar .char (dV nv (1000 : Int32)))), (.int (nar .char (dV nv (100 : Int32)))), (.int (nar .char (dV nv (10 : Int32)))), (.int (nar .char (dV nv (1 : Int32))))] (.int (0 : Int32)) := Arv.set Ar294 q294 S294 Nn294 Hh294 Gg294 (fits_nar_char _) W295 2 rfl (Nat.le_of_ble_eq_true rfl)
                  have K295 : Keep h0 h295 [] := Keep.wr K290 W295 (Or.inr sz_b265)
                  have Z295 : n0 ≤ h295.size := Nat.le_trans Z0 K295.1
                  have N295 := Fr.snoc X295 N293 g_b265
                  have f296 := (f291.other W295 ne_b2_b265)
                  obtain ⟨cl297, Ar297, -, S297, Nn297, Hh297, -⟩ := id f296
                  have hin297 : ¬ ((6 : Int32) < 0 ∨ cl297.slots.size ≤ ((6 : Int32)).toNatClampNeg) := inb_of S297 ⟨by decide, by decide⟩
                  have hat297 : cl297.slots[((6 : Int32)).toNatClampNeg]? = some (.int (1000000 : Int32)) := Hh297.at hin297 rfl
                  obtain ⟨_, _, ⟨T298, L298, k298, n298⟩, -, X298, ⟨Lc298, hQ298, l298, y298, z298⟩, st298⟩ := Jvm.LawKit.callS X295 hx (y := (⟨"com/example/libforeword/libforeword/wordlist/EntryParseFrequencyPinLaw", "d", "(II)C"⟩ : MethodName)) hown (mvT hZ (hw _ (List.mem_of_getElem? (i := 8) rfl))) (mvT hZ (hw _ (List.mem_of_getElem? (i := 9) rfl))) (mvT hZ (hw _ (List.mem_of_getElem? (i := 10) rfl))) (mvT hZ (hw _ (List.mem_of_getElem? (i := 11) rfl))) (by decide) (backOf (W := 2) (rmDD l Z a0 hw [] nv (1000000 : Int32) h295 n0 Z295 (by decide)) hZ (hw _ (List.mem_of_getElem? (i := 11) rfl)) (hw _ (List.mem_of_getElem? (i := 10) rfl)) (by decide) (by decide)) (g := (mkF m 229 #[.val (.int p0), .val (.int p1), .val (.int (8 : Int32)), .val (.ref b2), .val (.int nv), .val (.ref b265), .unset] [(.int (1000000 : Int32)), (.int nv), (.int (1 : Int32)), (.ref b265)])) rfl (by rw [hml]; rfl) (argsL := [(.int nv), (.int (1000000 : Int32))]) (rest := [(.int (1 : Int32)), (.ref b265)]) (lenOf pd_3 rfl) rfl (by show 2 * 0 + _ ≤ _; exact Nat.le_of_eq rfl) (hb hby at_229) (fun _ _ => ⟨rfl, e295, (by decide : 2 + 0 ≤ _), (by decide : 18 + 0 ≤ _)⟩)
                  dsimp only [Pt.U, Pt.locs, Pt.cells, Pt.slots] at X298 l298 y298 z298 st298 hQ298
                  subst l298 y298 z298
                  obtain ⟨rfl, N298q, e298⟩ := hQ298
                  have N298 := Fr.app N295 N298q
                  obtain ⟨cl299, Ar299, q299, S299, Nn299, Hh299, Gg299⟩ := id V295
                  have hin299 : ¬ ((1 : Int32) < 0 ∨ cl299.slots.size ≤ ((1 : Int32)).toNatClampNeg) := inb_of S299 ⟨by decide, by decide⟩
                  obtain ⟨T300, h300, X300, e300, W300, st300⟩ := stC X298 hx hZ e298 Ar299 (j := (1 : Int32)) hin299 (g := (mkF m 232 #[.val (.int p0), .val (.int p1), .val (.int (8 : Int32)), .val (.ref b2), .val (.int nv), .val (.ref b265), .unset] [(.int (dV nv (1000000 : Int32))), (.int (1 : Int32)), (.ref b265)])) rfl rfl (hb hby at_232)
                  have V300 : Arv Z h300 b265 k265 .char (8 : Int32) [(.int (0 : Int32)), (.int (nar .char (dV nv (1000000 : Int32)))), (.int (nar .char (dV nv (100000 : Int32)))), (.int (nar .char (dV nv (10000 : Int32)))), (.int (nar .char (dV nv (1000 : Int32)))), (.int (nar .char (dV nv (100 : Int32)))), (.int (nar .char (dV nv (10 : Int32)))), (.int (nar .char (dV nv (1 : Int32))))] (.int (0 : Int32)) := Arv.set Ar299 q299 S299 Nn299 Hh299 Gg299 (fits_nar_char _) W300 1 rfl (Nat.le_of_ble_eq_true rfl)
                  have K300 : Keep h0 h300 [] := Keep.wr K295 W300 (Or.inr sz_b265)
                  have Z300 : n0 ≤ h300.size := Nat.le_trans Z0 K300.1
                  have N300 := Fr.snoc X300 N298 g_b265
                  have f301 := (f296.other W300 ne_b2_b265)
                  obtain ⟨cl302, Ar302, -, S302, Nn302, Hh302, -⟩ := id f301
                  have hin302 : ¬ ((7 : Int32) < 0 ∨ cl302.slots.size ≤ ((7 : Int32)).toNatClampNeg) := inb_of S302 ⟨by decide, by decide⟩
                  have hat302 : cl302.slots[((7 : Int32)).toNatClampNeg]? = some (.int (10000000 : Int32)) := Hh302.at hin302 rfl
                  obtain ⟨_, _, ⟨T303, L303, k303, n303⟩, -, X303, ⟨Lc303, hQ303, l303, y303, z303⟩, st303⟩ := Jvm.LawKit.callS X300 hx (y := (⟨"com/example/libforeword/libforeword/wordlist/EntryParseFrequencyPinLaw", "d", "(II)C"⟩ : MethodName)) hown (mvT hZ (hw _ (List.mem_of_getElem? (i := 8) rfl))) (mvT hZ (hw _ (List.mem_of_getElem? (i := 9) rfl))) (mvT hZ (hw _ (List.mem_of_getElem? (i := 10) rfl))) (mvT hZ (hw _ (List.mem_of_getElem? (i := 11) rfl))) (by decide) (backOf (W := 2) (rmDD l Z a0 hw [] nv (10000000 : Int32) h300 n0 Z300 (by decide)) hZ (hw _ (List.mem_of_getElem? (i := 11) rfl)) (hw _ (List.mem_of_getElem? (i := 10) rfl)) (by decide) (by decide)) (g := (mkF m 251 #[.val (.int p0), .val (.int p1), .val (.int (8 : Int32)), .val (.ref b2), .val (.int nv), .val (.ref b265), .unset] [(.int (10000000 : Int32)), (.int nv), (.int (0 : Int32)), (.ref b265)])) rfl (by rw [hml]; rfl) (argsL := [(.int nv), (.int (10000000 : Int32))]) (rest := [(.int (0 : Int32)), (.ref b265)]) (lenOf pd_3 rfl) rfl (by show 2 * 0 + _ ≤ _; exact Nat.le_of_eq rfl) (hb hby at_251) (fun _ _ => ⟨rfl, e300, (by decide : 2 + 0 ≤ _), (by decide : 18 + 0 ≤ _)⟩)
                  dsimp only [Pt.U, Pt.locs, Pt.cells, Pt.slots] at X303 l303 y303 z303 st303 hQ303
                  subst l303 y303 z303
                  obtain ⟨rfl, N303q, e303⟩ := hQ303
                  have N303 := Fr.app N300 N303q
                  obtain ⟨cl304, Ar304, q304, S304, Nn304, Hh304, Gg304⟩ := id V300
                  have hin304 : ¬ ((0 : Int32) < 0 ∨ cl304.slots.size ≤ ((0 : Int32)).toNatClampNeg) := inb_of S304 ⟨by decide, by decide⟩
                  obtain ⟨T305, h305, X305, e305, W305, st305⟩ := stC X303 hx hZ e303 Ar304 (j := (0 : Int32)) hin304 (g := (mkF m 254 #[.val (.int p0), .val (.int p1), .val (.int (8 : Int32)), .val (.ref b2), .val (.int nv), .val (.ref b265), .unset] [(.int (dV nv (10000000 : Int32))), (.int (0 : Int32)), (.ref b265)])) rfl rfl (hb hby at_254)
                  have V305 : Arv Z h305 b265 k265 .char (8 : Int32) [(.int (nar .char (dV nv (10000000 : Int32)))), (.int (nar .char (dV nv (1000000 : Int32)))), (.int (nar .char (dV nv (100000 : Int32)))), (.int (nar .char (dV nv (10000 : Int32)))), (.int (nar .char (dV nv (1000 : Int32)))), (.int (nar .char (dV nv (100 : Int32)))), (.int (nar .char (dV nv (10 : Int32)))), (.int (nar .char (dV nv (1 : Int32))))] (.int (0 : Int32)) := Arv.set Ar304 q304 S304 Nn304 Hh304 Gg304 (fits_nar_char _) W305 0 rfl (Nat.le_of_ble_eq_true rfl)
                  have K305 : Keep h0 h305 [] := Keep.wr K300 W305 (Or.inr sz_b265)
                  have Z305 : n0 ≤ h305.size := Nat.le_trans Z0 K305.1
                  have N305 := Fr.snoc X305 N303 g_b265
                  obtain ⟨lx306, Xx306, Nx306⟩ : ∃ lx, Stand p l e room_1 s m #[(.int p0), (.int p1)] below meth c T305 lx 2 18 ∧ Fr n0 lx := ⟨_, X305, N305⟩
                  have f307 := (f301.other W305 ne_b2_b265)
                  obtain ⟨T308, h308, X308, e308, E308, A308, D308, -, st308⟩ := newO Xx306 hx hZ hown (hw _ (List.mem_of_getElem? (i := 12) rfl)) (hw _ (List.mem_of_getElem? (i := 13) rfl)) (hw _ (List.mem_of_getElem? (i := 14) rfl)) e305 (g := (mkF m 329 #[.val (.int p0), .val (.int p1), .val (.int (8 : Int32)), .val (.ref b2), .val (.int nv), .val (.ref b265), .unset] [])) rfl (hb hby at_329) (by decide) (by decide)
                  obtain ⟨b308, g308⟩ : ∃ z, z = h305.size := ⟨_, rfl⟩
                  rw [← g308] at A308 D308 st308
                  have g_b308 : n0 ≤ b308 := Nat.le_trans Z305 (Nat.le_of_eq g308.symm)
                  have sz_b308 : h0.size ≤ b308 := Nat.le_trans K305.1 (Nat.le_of_eq g308.symm)
                  have ne_b2_b308 : b2 ≠ b308 := Nat.ne_of_lt (Nat.lt_of_lt_of_le f307.lt (Nat.le_of_eq g308.symm))
                  have ne_b265_b308 : b265 ≠ b308 := Nat.ne_of_lt (Nat.lt_of_lt_of_le V305.lt (Nat.le_of_eq g308.symm))
                  have K308 : Keep h0 h308 [] := Keep.ext K305 E308
                  have Z308 : n0 ≤ h308.size := Nat.le_trans Z0 K308.1
                  have F_coder_b308 : Fld Z h308 b308 "java/lang/String" "coder" "B" (.int (0 : Int32)) := D308 (Or.inr (hw _ (List.mem_of_getElem? (i := 38) rfl))) (ty := .byte) (by decide)
                  have F_value_b308 : Fld Z h308 b308 "java/lang/String" "value" "[B" .null := D308 (Or.inr (hw _ (List.mem_of_getElem? (i := 40) rfl))) (ty := (.array .byte)) (by decide)
                  have hdg : ∀ i, i < 8 → (([(nar .char (dV nv (10000000 : Int32))), (nar .char (dV nv (1000000 : Int32))), (nar .char (dV nv (100000 : Int32))), (nar .char (dV nv (10000 : Int32))), (nar .char (dV nv (1000 : Int32))), (nar .char (dV nv (100 : Int32))), (nar .char (dV nv (10 : Int32))), (nar .char (dV nv (1 : Int32)))] : List Int32).getD i 0).toInt = 48 + (nv.toInt / 10 ^ (8 - 1 - i)) % 10 := fun i hi => match i, hi with
                    | 0, _ => by rw [show (([(nar .char (dV nv (10000000 : Int32))), (nar .char (dV nv (1000000 : Int32))), (nar .char (dV nv (100000 : Int32))), (nar .char (dV nv (10000 : Int32))), (nar .char (dV nv (1000 : Int32))), (nar .char (dV nv (100 : Int32))), (nar .char (dV nv (10 : Int32))), (nar .char (dV nv (1 : Int32)))] : List Int32)).getD 0 0 = nar .char (dV nv (10000000 : Int32)) from rfl, own_dc nv (10000000 : Int32) hnb.1 (by decide)]; rfl
                    | 1, _ => by rw [show (([(nar .char (dV nv (10000000 : Int32))), (nar .char (dV nv (1000000 : Int32))), (nar .char (dV nv (100000 : Int32))), (nar .char (dV nv (10000 : Int32))), (nar .char (dV nv (1000 : Int32))), (nar .char (dV nv (100 : Int32))), (nar .char (dV nv (10 : Int32))), (nar .char (dV nv (1 : Int32)))] : List Int32)).getD 1 0 = nar .char (dV nv (1000000 : Int32)) from rfl, own_dc nv (1000000 : Int32) hnb.1 (by decide)]; rfl
                    | 2, _ => by rw [show (([(nar .char (dV nv (10000000 : Int32))), (nar .char (dV nv (1000000 : Int32))), (nar .char (dV nv (100000 : Int32))), (nar .char (dV nv (10000 : Int32))), (nar .char (dV nv (1000 : Int32))), (nar .char (dV nv (100 : Int32))), (nar .char (dV nv (10 : Int32))), (nar .char (dV nv (1 : Int32)))] : List Int32)).getD 2 0 = nar .char (dV nv (100000 : Int32)) from rfl, own_dc nv (100000 : Int32) hnb.1 (by decide)]; rfl
                    | 3, _ => by rw [show (([(nar .char (dV nv (10000000 : Int32))), (nar .char (dV nv (1000000 : Int32))), (nar .char (dV nv (100000 : Int32))), (nar .char (dV nv (10000 : Int32))), (nar .char (dV nv (1000 : Int32))), (nar .char (dV nv (100 : Int32))), (nar .char (dV nv (10 : Int32))), (nar .char (dV nv (1 : Int32)))] : List Int32)).getD 3 0 = nar .char (dV nv (10000 : Int32)) from rfl, own_dc nv (10000 : Int32) hnb.1 (by decide)]; rfl
                    | 4, _ => by rw [show (([(nar .char (dV nv (10000000 : Int32))), (nar .char (dV nv (1000000 : Int32))), (nar .char (dV nv (100000 : Int32))), (nar .char (dV nv (10000 : Int32))), (nar .char (dV nv (1000 : Int32))), (nar .char (dV nv (100 : Int32))), (nar .char (dV nv (10 : Int32))), (nar .char (dV nv (1 : Int32)))] : List Int32)).getD 4 0 = nar .char (dV nv (1000 : Int32)) from rfl, own_dc nv (1000 : Int32) hnb.1 (by decide)]; rfl
                    | 5, _ => by rw [show (([(nar .char (dV nv (10000000 : Int32))), (nar .char (dV nv (1000000 : Int32))), (nar .char (dV nv (100000 : Int32))), (nar .char (dV nv (10000 : Int32))), (nar .char (dV nv (1000 : Int32))), (nar .char (dV nv (100 : Int32))), (nar .char (dV nv (10 : Int32))), (nar .char (dV nv (1 : Int32)))] : List Int32)).getD 5 0 = nar .char (dV nv (100 : Int32)) from rfl, own_dc nv (100 : Int32) hnb.1 (by decide)]; rfl
                    | 6, _ => by rw [show (([(nar .char (dV nv (10000000 : Int32))), (nar .char (dV nv (1000000 : Int32))), (nar .char (dV nv (100000 : Int32))), (nar .char (dV nv (10000 : Int32))), (nar .char (dV nv (1000 : Int32))), (nar .char (dV nv (100 : Int32))), (nar .char (dV nv (10 : Int32))), (nar .char (dV nv (1 : Int32)))] : List Int32)).getD 6 0 = nar .char (dV nv (10 : Int32)) from rfl, own_dc nv (10 : Int32) hnb.1 (by decide)]; rfl
                    | 7, _ => by rw [show (([(nar .char (dV nv (10000000 : Int32))), (nar .char (dV nv (1000000 : Int32))), (nar .char (dV nv (100000 : Int32))), (nar .char (dV nv (10000 : Int32))), (nar .char (dV nv (1000 : Int32))), (nar .char (dV nv (100 : Int32))), (nar .char (dV nv (10 : Int32))), (nar .char (dV nv (1 : Int32)))] : List Int32)).getD 7 0 = nar .char (dV nv (1 : Int32)) from rfl, own_dc nv (1 : Int32) hnb.1 (by decide)]; rfl
                    | k + 8, h => absurd h (by omega)
                  obtain ⟨hp, hdig, hval, hfin⟩ := own_facts ([(nar .char (dV nv (10000000 : Int32))), (nar .char (dV nv (1000000 : Int32))), (nar .char (dV nv (100000 : Int32))), (nar .char (dV nv (10000 : Int32))), (nar .char (dV nv (1000 : Int32))), (nar .char (dV nv (100 : Int32))), (nar .char (dV nv (10 : Int32))), (nar .char (dV nv (1 : Int32)))] : List Int32) nv 8 rfl hnb.1 hnb.2 hdg
                  have f310 := (V305.ext E308)
                  have f311 := (((((((((((((((((((((SC.ext E2).wr W4).wr W6).wr W8).wr W10).wr W12).wr W14).wr W16).wr W18).wr W20).wr W22).ext E265).wr W270).wr W275).wr W280).wr W285).wr W290).wr W295).wr W300).wr W305).ext E308)
                  obtain ⟨_, _, ⟨T309, L309, k309, n309⟩, -, X309, ⟨Lc309, hQ309, l309, y309, z309⟩, st309⟩ := X308.specialBack hx (y := (⟨"java/lang/String", "<init>", "([C)V"⟩ : MethodName)) rfl hown (mvT hZ (hw _ (List.mem_of_getElem? (i := 15) rfl))) (mvT hZ (hw _ (List.mem_of_getElem? (i := 16) rfl))) (mvT hZ (hw _ (List.mem_of_getElem? (i := 17) rfl))) (by decide) (StrChars.Road.backV (W := 1) hZ hws (kI := 4) (hw _ (List.mem_of_getElem? (i := 13) rfl)) (cs := ([(nar .char (dV nv (10000000 : Int32))), (nar .char (dV nv (1000000 : Int32))), (nar .char (dV nv (100000 : Int32))), (nar .char (dV nv (10000 : Int32))), (nar .char (dV nv (1000 : Int32))), (nar .char (dV nv (100 : Int32))), (nar .char (dV nv (10 : Int32))), (nar .char (dV nv (1 : Int32)))] : List Int32)) (bs := (([(nar .char (dV nv (10000000 : Int32))), (nar .char (dV nv (1000000 : Int32))), (nar .char (dV nv (100000 : Int32))), (nar .char (dV nv (10000 : Int32))), (nar .char (dV nv (1000 : Int32))), (nar .char (dV nv (100 : Int32))), (nar .char (dV nv (10 : Int32))), (nar .char (dV nv (1 : Int32)))] : List Int32)).map (fun c => c.toInt8.toInt32)) (n := 8) g_b308 Z308 A308 F_value_b308 F_coder_b308 f310 f311 hC rfl rfl (by decide) (by decide) hp rfl (by decide) (by decide)) (g := (mkF m 335 #[.val (.int p0), .val (.int p1), .val (.int (8 : Int32)), .val (.ref b2), .val (.int nv), .val (.ref b265), .unset] [(.ref b265), (.ref b308), (.ref b308)])) rfl (by rw [hml]; rfl) (Steps.refl _) (a := b308) (argsL := [(.ref b265)]) (rest := [(.ref b308)]) (lenOf pd_4 rfl) rfl (by show 2 * 0 + _ ≤ _; exact Nat.le_of_eq rfl) (hb hby at_335) (fun _ _ => ⟨rfl, e308, (by decide : 3 + 1 ≤ _), (by decide : 22 + 8 ≤ _)⟩)
                  dsimp only [Pt.U, Pt.locs, Pt.cells, Pt.slots] at X309 l309 y309 z309 st309 hQ309
                  subst l309 y309 z309
                  obtain ⟨rfl, N309q, K309, Ex309, Fc309, bt309, kb309, gt309, ge309, nt309, Fv309, AV309⟩ := hQ309
                  have sk312 := own_sta_keep1 f311 A308 K309
                  have f313 := (((((((((((((((((((((SG.ext E2).wr W4).wr W6).wr W8).wr W10).wr W12).wr W14).wr W16).wr W18).wr W20).wr W22).ext E265).wr W270).wr W275).wr W280).wr W285).wr W290).wr W295).wr W300).wr W305).ext E308)
                  have sk314 := own_sta_keep1 f313 A308 K309
                  have KK309 : Keep h0 T309.heap [] := Keep.trans K308 K309 (own_side1 (Or.inr sz_b308))
                  have Z309 : n0 ≤ T309.heap.size := Nat.le_trans Z0 KK309.1
                  have N309 := Fr.app Nx306 N309q
                  obtain ⟨lx315, Xx315, Nx315⟩ : ∃ lx, Stand p l e room_1 s m #[(.int p0), (.int p1)] below meth c T309 lx 4 30 ∧ Fr n0 lx := ⟨_, X309, N309⟩
                  obtain ⟨_, _, ⟨T316, L316, k316, n316⟩, -, X316, ⟨Lc316, hQ316, l316, y316, z316⟩, st316⟩ := Jvm.LawKit.callS Xx315 hx (y := (⟨"com/example/libforeword/libforeword/wordlist/Entry", "parseFrequency", "(Ljava/lang/String;)I"⟩ : MethodName)) hown (mvT hZ (hw _ (List.mem_of_getElem? (i := 41) rfl))) (mvT hZ (hw _ (List.mem_of_getElem? (i := 42) rfl))) (mvT hZ (hw _ (List.mem_of_getElem? (i := 43) rfl))) (mvT hZ (hw _ (List.mem_of_getElem? (i := 44) rfl))) (by decide) (backOf (W := 0) (rmPF l Z a0 hw [] b308 bt309 kb309 ([(nar .char (dV nv (10000000 : Int32))), (nar .char (dV nv (1000000 : Int32))), (nar .char (dV nv (100000 : Int32))), (nar .char (dV nv (10000 : Int32))), (nar .char (dV nv (1000 : Int32))), (nar .char (dV nv (100 : Int32))), (nar .char (dV nv (10 : Int32))), (nar .char (dV nv (1 : Int32)))] : List Int32) iC vG T309.heap n0 Z309 Ex309 Fc309 Fv309 AV309 sk312 hC sk314 hvG hp (by show 0 < 8; decide) (by show 8 ≤ 12; decide) hdig hval) hZ (hw _ (List.mem_of_getElem? (i := 44) rfl)) (hw _ (List.mem_of_getElem? (i := 43) rfl)) (by decide) (by decide)) (g := (mkF m 342 #[.val (.int p0), .val (.int p1), .val (.int (8 : Int32)), .val (.ref b2), .val (.int nv), .val (.ref b265), .val (.ref b308)] [(.ref b308)])) rfl (by rw [hml]; rfl) (argsL := [(.ref b308)]) (rest := []) (lenOf pd_5 rfl) rfl (by show 2 * 0 + _ ≤ _; exact Nat.le_of_eq rfl) (hb hby at_342) (fun _ _ => ⟨rfl, rfl, (by decide : 4 + 0 ≤ _), (by decide : 30 + 0 ≤ _)⟩)
                  dsimp only [Pt.U, Pt.locs, Pt.cells, Pt.slots] at X316 l316 y316 z316 st316 hQ316
                  subst l316 y316 z316
                  obtain ⟨rfl, N316q, e316⟩ := hQ316
                  have N316 := Fr.app Nx315 N316q
                  obtain ⟨fs, hr, hrun, hended, hW, hsame⟩ := X316.leave (v := some (.int (1 : Int32))) (fun h => by rw [Bd.returns] at h; cases h)
                  refine ⟨_, _, pre264 _ ?_, hrun, hended, _, _, rfl, ?_, ⟨_, rfl⟩, hW, hsame.mono (by decide) (by decide)⟩
                  · show Steps p.tables e below (T22.setTop (mkF m 90 #[.val (.int p0), .val (.int p1), .val (.int (8 : Int32)), .val (.ref b2), .val (.int nv), .unset, .unset] [])) _
                    refine XS.iloadN Xx24.here hx rfl (hb hby at_90) rfl ?_
                    show Steps p.tables e below (T22.setTop (mkF m 91 #[.val (.int p0), .val (.int p1), .val (.int (8 : Int32)), .val (.ref b2), .val (.int nv), .unset, .unset] [(.int (8 : Int32))])) _
                    refine st265 _ ?_
                    refine XS.astore X265.here hx rfl (hb hby at_93) rfl rfl (l' := #[.val (.int p0), .val (.int p1), .val (.int (8 : Int32)), .val (.ref b2), .val (.int nv), .val (.ref b265), .unset]) rfl ?_
                    refine XS.iloadN X265.here hx rfl (hb hby at_95) rfl ?_
                    refine XS.iconst X265.here hx rfl (hb hby at_96) ?_
                    show Steps p.tables e below (T265.setTop (mkF m 97 #[.val (.int p0), .val (.int p1), .val (.int (8 : Int32)), .val (.ref b2), .val (.int nv), .val (.ref b265), .unset] [(.int (1 : Int32)), (.int (8 : Int32))])) _
                    refine XS.icmpNo X265.here hx rfl (hb hby at_97) rfl (flt (show ¬ ((8 : Int32) < (1 : Int32)) from (by decide))).1 ?_
                    refine XS.aload X265.here hx rfl (hb hby at_100) rfl rfl ?_
                    refine XS.iloadN X265.here hx rfl (hb hby at_102) rfl ?_
                    refine XS.iconst X265.here hx rfl (hb hby at_103) ?_
                    show Steps p.tables e below (T265.setTop (mkF m 104 #[.val (.int p0), .val (.int p1), .val (.int (8 : Int32)), .val (.ref b2), .val (.int nv), .val (.ref b265), .unset] [(.int (1 : Int32)), (.int (8 : Int32)), (.ref b265)])) _
                    refine XS.isub X265.here hx rfl (hb hby at_104) rfl ?_
                    refine XS.iload X265.here hx rfl (hb hby at_105) rfl ?_
                    refine XS.aloadN X265.here hx rfl (hb hby at_107) rfl rfl ?_
                    refine XS.iconst X265.here hx rfl (hb hby at_108) ?_
                    show Steps p.tables e below (T265.setTop (mkF m 109 #[.val (.int p0), .val (.int p1), .val (.int (8 : Int32)), .val (.ref b2), .val (.int nv), .val (.ref b265), .unset] [(.int (0 : Int32)), (.ref b2), (.int nv), (.int (7 : Int32)), (.ref b265)])) _
                    refine X265.iaload hx (j := (0 : Int32)) (v := (.int (1 : Int32))) (by rw [e265]; exact Ar267.1) (State.isArrayOf_alike hZ.alike Ar267.2.1) Ar267.2.2 hin267 hat267 (g := (mkF m 109 #[.val (.int p0), .val (.int p1), .val (.int (8 : Int32)), .val (.ref b2), .val (.int nv), .val (.ref b265), .unset] [(.int (0 : Int32)), (.ref b2), (.int nv), (.int (7 : Int32)), (.ref b265)])) rfl rfl (hb hby at_109) _ ?_
                    show Steps p.tables e below (T265.setTop (mkF m 110 #[.val (.int p0), .val (.int p1), .val (.int (8 : Int32)), .val (.ref b2), .val (.int nv), .val (.ref b265), .unset] [(.int (1 : Int32)), (.int nv), (.int (7 : Int32)), (.ref b265)])) _
                    refine st268 _ ?_
                    show Steps p.tables e below (T268.setTop (mkF m 113 #[.val (.int p0), .val (.int p1), .val (.int (8 : Int32)), .val (.ref b2), .val (.int nv), .val (.ref b265), .unset] [(.int (dV nv (1 : Int32))), (.int (7 : Int32)), (.ref b265)])) _
                    refine st270 _ ?_
                    refine XS.iloadN X270.here hx rfl (hb hby at_114) rfl ?_
                    refine XS.iconst X270.here hx rfl (hb hby at_115) ?_
                    show Steps p.tables e below (T270.setTop (mkF m 116 #[.val (.int p0), .val (.int p1), .val (.int (8 : Int32)), .val (.ref b2), .val (.int nv), .val (.ref b265), .unset] [(.int (2 : Int32)), (.int (8 : Int32))])) _
                    refine XS.icmpNo X270.here hx rfl (hb hby at_116) rfl (flt (show ¬ ((8 : Int32) < (2 : Int32)) from (by decide))).1 ?_
                    refine XS.aload X270.here hx rfl (hb hby at_119) rfl rfl ?_
                    refine XS.iloadN X270.here hx rfl (hb hby at_121) rfl ?_
                    refine XS.iconst X270.here hx rfl (hb hby at_122) ?_
                    show Steps p.tables e below (T270.setTop (mkF m 123 #[.val (.int p0), .val (.int p1), .val (.int (8 : Int32)), .val (.ref b2), .val (.int nv), .val (.ref b265), .unset] [(.int (2 : Int32)), (.int (8 : Int32)), (.ref b265)])) _
                    refine XS.isub X270.here hx rfl (hb hby at_123) rfl ?_
                    refine XS.iload X270.here hx rfl (hb hby at_124) rfl ?_
                    refine XS.aloadN X270.here hx rfl (hb hby at_126) rfl rfl ?_
                    refine XS.iconst X270.here hx rfl (hb hby at_127) ?_
                    show Steps p.tables e below (T270.setTop (mkF m 128 #[.val (.int p0), .val (.int p1), .val (.int (8 : Int32)), .val (.ref b2), .val (.int nv), .val (.ref b265), .unset] [(.int (1 : Int32)), (.ref b2), (.int nv), (.int (6 : Int32)), (.ref b265)])) _
                    refine X270.iaload hx (j := (1 : Int32)) (v := (.int (10 : Int32))) (by rw [e270]; exact Ar272.1) (State.isArrayOf_alike hZ.alike Ar272.2.1) Ar272.2.2 hin272 hat272 (g := (mkF m 128 #[.val (.int p0), .val (.int p1), .val (.int (8 : Int32)), .val (.ref b2), .val (.int nv), .val (.ref b265), .unset] [(.int (1 : Int32)), (.ref b2), (.int nv), (.int (6 : Int32)), (.ref b265)])) rfl rfl (hb hby at_128) _ ?_
                    show Steps p.tables e below (T270.setTop (mkF m 129 #[.val (.int p0), .val (.int p1), .val (.int (8 : Int32)), .val (.ref b2), .val (.int nv), .val (.ref b265), .unset] [(.int (10 : Int32)), (.int nv), (.int (6 : Int32)), (.ref b265)])) _
                    refine st273 _ ?_
                    show Steps p.tables e below (T273.setTop (mkF m 132 #[.val (.int p0), .val (.int p1), .val (.int (8 : Int32)), .val (.ref b2), .val (.int nv), .val (.ref b265), .unset] [(.int (dV nv (10 : Int32))), (.int (6 : Int32)), (.ref b265)])) _
                    refine st275 _ ?_
                    refine XS.iloadN X275.here hx rfl (hb hby at_133) rfl ?_
                    refine XS.iconst X275.here hx rfl (hb hby at_134) ?_
                    show Steps p.tables e below (T275.setTop (mkF m 135 #[.val (.int p0), .val (.int p1), .val (.int (8 : Int32)), .val (.ref b2), .val (.int nv), .val (.ref b265), .unset] [(.int (3 : Int32)), (.int (8 : Int32))])) _
                    refine XS.icmpNo X275.here hx rfl (hb hby at_135) rfl (flt (show ¬ ((8 : Int32) < (3 : Int32)) from (by decide))).1 ?_
                    refine XS.aload X275.here hx rfl (hb hby at_138) rfl rfl ?_
                    refine XS.iloadN X275.here hx rfl (hb hby at_140) rfl ?_
                    refine XS.iconst X275.here hx rfl (hb hby at_141) ?_
                    show Steps p.tables e below (T275.setTop (mkF m 142 #[.val (.int p0), .val (.int p1), .val (.int (8 : Int32)), .val (.ref b2), .val (.int nv), .val (.ref b265), .unset] [(.int (3 : Int32)), (.int (8 : Int32)), (.ref b265)])) _
                    refine XS.isub X275.here hx rfl (hb hby at_142) rfl ?_
                    refine XS.iload X275.here hx rfl (hb hby at_143) rfl ?_
                    refine XS.aloadN X275.here hx rfl (hb hby at_145) rfl rfl ?_
                    refine XS.iconst X275.here hx rfl (hb hby at_146) ?_
                    show Steps p.tables e below (T275.setTop (mkF m 147 #[.val (.int p0), .val (.int p1), .val (.int (8 : Int32)), .val (.ref b2), .val (.int nv), .val (.ref b265), .unset] [(.int (2 : Int32)), (.ref b2), (.int nv), (.int (5 : Int32)), (.ref b265)])) _
                    refine X275.iaload hx (j := (2 : Int32)) (v := (.int (100 : Int32))) (by rw [e275]; exact Ar277.1) (State.isArrayOf_alike hZ.alike Ar277.2.1) Ar277.2.2 hin277 hat277 (g := (mkF m 147 #[.val (.int p0), .val (.int p1), .val (.int (8 : Int32)), .val (.ref b2), .val (.int nv), .val (.ref b265), .unset] [(.int (2 : Int32)), (.ref b2), (.int nv), (.int (5 : Int32)), (.ref b265)])) rfl rfl (hb hby at_147) _ ?_
                    show Steps p.tables e below (T275.setTop (mkF m 148 #[.val (.int p0), .val (.int p1), .val (.int (8 : Int32)), .val (.ref b2), .val (.int nv), .val (.ref b265), .unset] [(.int (100 : Int32)), (.int nv), (.int (5 : Int32)), (.ref b265)])) _
                    refine st278 _ ?_
                    show Steps p.tables e below (T278.setTop (mkF m 151 #[.val (.int p0), .val (.int p1), .val (.int (8 : Int32)), .val (.ref b2), .val (.int nv), .val (.ref b265), .unset] [(.int (dV nv (100 : Int32))), (.int (5 : Int32)), (.ref b265)])) _
                    refine st280 _ ?_
                    refine XS.iloadN X280.here hx rfl (hb hby at_152) rfl ?_
                    refine XS.iconst X280.here hx rfl (hb hby at_153) ?_
                    show Steps p.tables e below (T280.setTop (mkF m 154 #[.val (.int p0), .val (.int p1), .val (.int (8 : Int32)), .val (.ref b2), .val (.int nv), .val (.ref b265), .unset] [(.int (4 : Int32)), (.int (8 : Int32))])) _
                    refine XS.icmpNo X280.here hx rfl (hb hby at_154) rfl (flt (show ¬ ((8 : Int32) < (4 : Int32)) from (by decide))).1 ?_
                    refine XS.aload X280.here hx rfl (hb hby at_157) rfl rfl ?_
                    refine XS.iloadN X280.here hx rfl (hb hby at_159) rfl ?_
                    refine XS.iconst X280.here hx rfl (hb hby at_160) ?_
                    show Steps p.tables e below (T280.setTop (mkF m 161 #[.val (.int p0), .val (.int p1), .val (.int (8 : Int32)), .val (.ref b2), .val (.int nv), .val (.ref b265), .unset] [(.int (4 : Int32)), (.int (8 : Int32)), (.ref b265)])) _
                    refine XS.isub X280.here hx rfl (hb hby at_161) rfl ?_
                    refine XS.iload X280.here hx rfl (hb hby at_162) rfl ?_
                    refine XS.aloadN X280.here hx rfl (hb hby at_164) rfl rfl ?_
                    refine XS.iconst X280.here hx rfl (hb hby at_165) ?_
                    show Steps p.tables e below (T280.setTop (mkF m 166 #[.val (.int p0), .val (.int p1), .val (.int (8 : Int32)), .val (.ref b2), .val (.int nv), .val (.ref b265), .unset] [(.int (3 : Int32)), (.ref b2), (.int nv), (.int (4 : Int32)), (.ref b265)])) _
                    refine X280.iaload hx (j := (3 : Int32)) (v := (.int (1000 : Int32))) (by rw [e280]; exact Ar282.1) (State.isArrayOf_alike hZ.alike Ar282.2.1) Ar282.2.2 hin282 hat282 (g := (mkF m 166 #[.val (.int p0), .val (.int p1), .val (.int (8 : Int32)), .val (.ref b2), .val (.int nv), .val (.ref b265), .unset] [(.int (3 : Int32)), (.ref b2), (.int nv), (.int (4 : Int32)), (.ref b265)])) rfl rfl (hb hby at_166) _ ?_
                    show Steps p.tables e below (T280.setTop (mkF m 167 #[.val (.int p0), .val (.int p1), .val (.int (8 : Int32)), .val (.ref b2), .val (.int nv), .val (.ref b265), .unset] [(.int (1000 : Int32)), (.int nv), (.int (4 : Int32)), (.ref b265)])) _
                    refine st283 _ ?_
                    show Steps p.tables e below (T283.setTop (mkF m 170 #[.val (.int p0), .val (.int p1), .val (.int (8 : Int32)), .val (.ref b2), .val (.int nv), .val (.ref b265), .unset] [(.int (dV nv (1000 : Int32))), (.int (4 : Int32)), (.ref b265)])) _
                    refine st285 _ ?_
                    refine XS.iloadN X285.here hx rfl (hb hby at_171) rfl ?_
                    refine XS.iconst X285.here hx rfl (hb hby at_172) ?_
                    show Steps p.tables e below (T285.setTop (mkF m 173 #[.val (.int p0), .val (.int p1), .val (.int (8 : Int32)), .val (.ref b2), .val (.int nv), .val (.ref b265), .unset] [(.int (5 : Int32)), (.int (8 : Int32))])) _
                    refine XS.icmpNo X285.here hx rfl (hb hby at_173) rfl (flt (show ¬ ((8 : Int32) < (5 : Int32)) from (by decide))).1 ?_
                    refine XS.aload X285.here hx rfl (hb hby at_176) rfl rfl ?_
                    refine XS.iloadN X285.here hx rfl (hb hby at_178) rfl ?_
                    refine XS.iconst X285.here hx rfl (hb hby at_179) ?_
                    show Steps p.tables e below (T285.setTop (mkF m 180 #[.val (.int p0), .val (.int p1), .val (.int (8 : Int32)), .val (.ref b2), .val (.int nv), .val (.ref b265), .unset] [(.int (5 : Int32)), (.int (8 : Int32)), (.ref b265)])) _
                    refine XS.isub X285.here hx rfl (hb hby at_180) rfl ?_
                    refine XS.iload X285.here hx rfl (hb hby at_181) rfl ?_
                    refine XS.aloadN X285.here hx rfl (hb hby at_183) rfl rfl ?_
                    refine XS.iconst X285.here hx rfl (hb hby at_184) ?_
                    show Steps p.tables e below (T285.setTop (mkF m 185 #[.val (.int p0), .val (.int p1), .val (.int (8 : Int32)), .val (.ref b2), .val (.int nv), .val (.ref b265), .unset] [(.int (4 : Int32)), (.ref b2), (.int nv), (.int (3 : Int32)), (.ref b265)])) _
                    refine X285.iaload hx (j := (4 : Int32)) (v := (.int (10000 : Int32))) (by rw [e285]; exact Ar287.1) (State.isArrayOf_alike hZ.alike Ar287.2.1) Ar287.2.2 hin287 hat287 (g := (mkF m 185 #[.val (.int p0), .val (.int p1), .val (.int (8 : Int32)), .val (.ref b2), .val (.int nv), .val (.ref b265), .unset] [(.int (4 : Int32)), (.ref b2), (.int nv), (.int (3 : Int32)), (.ref b265)])) rfl rfl (hb hby at_185) _ ?_
                    show Steps p.tables e below (T285.setTop (mkF m 186 #[.val (.int p0), .val (.int p1), .val (.int (8 : Int32)), .val (.ref b2), .val (.int nv), .val (.ref b265), .unset] [(.int (10000 : Int32)), (.int nv), (.int (3 : Int32)), (.ref b265)])) _
                    refine st288 _ ?_
                    show Steps p.tables e below (T288.setTop (mkF m 189 #[.val (.int p0), .val (.int p1), .val (.int (8 : Int32)), .val (.ref b2), .val (.int nv), .val (.ref b265), .unset] [(.int (dV nv (10000 : Int32))), (.int (3 : Int32)), (.ref b265)])) _
                    refine st290 _ ?_
                    refine XS.iloadN X290.here hx rfl (hb hby at_190) rfl ?_
                    refine XS.bipush X290.here hx rfl (hb hby at_191) ?_
                    show Steps p.tables e below (T290.setTop (mkF m 193 #[.val (.int p0), .val (.int p1), .val (.int (8 : Int32)), .val (.ref b2), .val (.int nv), .val (.ref b265), .unset] [(.int (6 : Int32)), (.int (8 : Int32))])) _
                    refine XS.icmpNo X290.here hx rfl (hb hby at_193) rfl (flt (show ¬ ((8 : Int32) < (6 : Int32)) from (by decide))).1 ?_
                    refine XS.aload X290.here hx rfl (hb hby at_196) rfl rfl ?_
                    refine XS.iloadN X290.here hx rfl (hb hby at_198) rfl ?_
                    refine XS.bipush X290.here hx rfl (hb hby at_199) ?_
                    show Steps p.tables e below (T290.setTop (mkF m 201 #[.val (.int p0), .val (.int p1), .val (.int (8 : Int32)), .val (.ref b2), .val (.int nv), .val (.ref b265), .unset] [(.int (6 : Int32)), (.int (8 : Int32)), (.ref b265)])) _
                    refine XS.isub X290.here hx rfl (hb hby at_201) rfl ?_
                    refine XS.iload X290.here hx rfl (hb hby at_202) rfl ?_
                    refine XS.aloadN X290.here hx rfl (hb hby at_204) rfl rfl ?_
                    refine XS.iconst X290.here hx rfl (hb hby at_205) ?_
                    show Steps p.tables e below (T290.setTop (mkF m 206 #[.val (.int p0), .val (.int p1), .val (.int (8 : Int32)), .val (.ref b2), .val (.int nv), .val (.ref b265), .unset] [(.int (5 : Int32)), (.ref b2), (.int nv), (.int (2 : Int32)), (.ref b265)])) _
                    refine X290.iaload hx (j := (5 : Int32)) (v := (.int (100000 : Int32))) (by rw [e290]; exact Ar292.1) (State.isArrayOf_alike hZ.alike Ar292.2.1) Ar292.2.2 hin292 hat292 (g := (mkF m 206 #[.val (.int p0), .val (.int p1), .val (.int (8 : Int32)), .val (.ref b2), .val (.int nv), .val (.ref b265), .unset] [(.int (5 : Int32)), (.ref b2), (.int nv), (.int (2 : Int32)), (.ref b265)])) rfl rfl (hb hby at_206) _ ?_
                    show Steps p.tables e below (T290.setTop (mkF m 207 #[.val (.int p0), .val (.int p1), .val (.int (8 : Int32)), .val (.ref b2), .val (.int nv), .val (.ref b265), .unset] [(.int (100000 : Int32)), (.int nv), (.int (2 : Int32)), (.ref b265)])) _
                    refine st293 _ ?_
                    show Steps p.tables e below (T293.setTop (mkF m 210 #[.val (.int p0), .val (.int p1), .val (.int (8 : Int32)), .val (.ref b2), .val (.int nv), .val (.ref b265), .unset] [(.int (dV nv (100000 : Int32))), (.int (2 : Int32)), (.ref b265)])) _
                    refine st295 _ ?_
                    refine XS.iloadN X295.here hx rfl (hb hby at_211) rfl ?_
                    refine XS.bipush X295.here hx rfl (hb hby at_212) ?_
                    show Steps p.tables e below (T295.setTop (mkF m 214 #[.val (.int p0), .val (.int p1), .val (.int (8 : Int32)), .val (.ref b2), .val (.int nv), .val (.ref b265), .unset] [(.int (7 : Int32)), (.int (8 : Int32))])) _
                    refine XS.icmpNo X295.here hx rfl (hb hby at_214) rfl (flt (show ¬ ((8 : Int32) < (7 : Int32)) from (by decide))).1 ?_
                    refine XS.aload X295.here hx rfl (hb hby at_217) rfl rfl ?_
                    refine XS.iloadN X295.here hx rfl (hb hby at_219) rfl ?_
                    refine XS.bipush X295.here hx rfl (hb hby at_220) ?_
                    show Steps p.tables e below (T295.setTop (mkF m 222 #[.val (.int p0), .val (.int p1), .val (.int (8 : Int32)), .val (.ref b2), .val (.int nv), .val (.ref b265), .unset] [(.int (7 : Int32)), (.int (8 : Int32)), (.ref b265)])) _
                    refine XS.isub X295.here hx rfl (hb hby at_222) rfl ?_
                    refine XS.iload X295.here hx rfl (hb hby at_223) rfl ?_
                    refine XS.aloadN X295.here hx rfl (hb hby at_225) rfl rfl ?_
                    refine XS.bipush X295.here hx rfl (hb hby at_226) ?_
                    show Steps p.tables e below (T295.setTop (mkF m 228 #[.val (.int p0), .val (.int p1), .val (.int (8 : Int32)), .val (.ref b2), .val (.int nv), .val (.ref b265), .unset] [(.int (6 : Int32)), (.ref b2), (.int nv), (.int (1 : Int32)), (.ref b265)])) _
                    refine X295.iaload hx (j := (6 : Int32)) (v := (.int (1000000 : Int32))) (by rw [e295]; exact Ar297.1) (State.isArrayOf_alike hZ.alike Ar297.2.1) Ar297.2.2 hin297 hat297 (g := (mkF m 228 #[.val (.int p0), .val (.int p1), .val (.int (8 : Int32)), .val (.ref b2), .val (.int nv), .val (.ref b265), .unset] [(.int (6 : Int32)), (.ref b2), (.int nv), (.int (1 : Int32)), (.ref b265)])) rfl rfl (hb hby at_228) _ ?_
                    show Steps p.tables e below (T295.setTop (mkF m 229 #[.val (.int p0), .val (.int p1), .val (.int (8 : Int32)), .val (.ref b2), .val (.int nv), .val (.ref b265), .unset] [(.int (1000000 : Int32)), (.int nv), (.int (1 : Int32)), (.ref b265)])) _
                    refine st298 _ ?_
                    show Steps p.tables e below (T298.setTop (mkF m 232 #[.val (.int p0), .val (.int p1), .val (.int (8 : Int32)), .val (.ref b2), .val (.int nv), .val (.ref b265), .unset] [(.int (dV nv (1000000 : Int32))), (.int (1 : Int32)), (.ref b265)])) _
                    refine st300 _ ?_
                    refine XS.iloadN X300.here hx rfl (hb hby at_233) rfl ?_
                    refine XS.bipush X300.here hx rfl (hb hby at_234) ?_
                    show Steps p.tables e below (T300.setTop (mkF m 236 #[.val (.int p0), .val (.int p1), .val (.int (8 : Int32)), .val (.ref b2), .val (.int nv), .val (.ref b265), .unset] [(.int (8 : Int32)), (.int (8 : Int32))])) _
                    refine XS.icmpNo X300.here hx rfl (hb hby at_236) rfl (flt (show ¬ ((8 : Int32) < (8 : Int32)) from (by decide))).1 ?_
                    refine XS.aload X300.here hx rfl (hb hby at_239) rfl rfl ?_
                    refine XS.iloadN X300.here hx rfl (hb hby at_241) rfl ?_
                    refine XS.bipush X300.here hx rfl (hb hby at_242) ?_
                    show Steps p.tables e below (T300.setTop (mkF m 244 #[.val (.int p0), .val (.int p1), .val (.int (8 : Int32)), .val (.ref b2), .val (.int nv), .val (.ref b265), .unset] [(.int (8 : Int32)), (.int (8 : Int32)), (.ref b265)])) _
                    refine XS.isub X300.here hx rfl (hb hby at_244) rfl ?_
                    refine XS.iload X300.here hx rfl (hb hby at_245) rfl ?_
                    refine XS.aloadN X300.here hx rfl (hb hby at_247) rfl rfl ?_
                    refine XS.bipush X300.here hx rfl (hb hby at_248) ?_
                    show Steps p.tables e below (T300.setTop (mkF m 250 #[.val (.int p0), .val (.int p1), .val (.int (8 : Int32)), .val (.ref b2), .val (.int nv), .val (.ref b265), .unset] [(.int (7 : Int32)), (.ref b2), (.int nv), (.int (0 : Int32)), (.ref b265)])) _
                    refine X300.iaload hx (j := (7 : Int32)) (v := (.int (10000000 : Int32))) (by rw [e300]; exact Ar302.1) (State.isArrayOf_alike hZ.alike Ar302.2.1) Ar302.2.2 hin302 hat302 (g := (mkF m 250 #[.val (.int p0), .val (.int p1), .val (.int (8 : Int32)), .val (.ref b2), .val (.int nv), .val (.ref b265), .unset] [(.int (7 : Int32)), (.ref b2), (.int nv), (.int (0 : Int32)), (.ref b265)])) rfl rfl (hb hby at_250) _ ?_
                    show Steps p.tables e below (T300.setTop (mkF m 251 #[.val (.int p0), .val (.int p1), .val (.int (8 : Int32)), .val (.ref b2), .val (.int nv), .val (.ref b265), .unset] [(.int (10000000 : Int32)), (.int nv), (.int (0 : Int32)), (.ref b265)])) _
                    refine st303 _ ?_
                    show Steps p.tables e below (T303.setTop (mkF m 254 #[.val (.int p0), .val (.int p1), .val (.int (8 : Int32)), .val (.ref b2), .val (.int nv), .val (.ref b265), .unset] [(.int (dV nv (10000000 : Int32))), (.int (0 : Int32)), (.ref b265)])) _
                    refine st305 _ ?_
                    refine XS.iloadN X305.here hx rfl (hb hby at_255) rfl ?_
                    refine XS.bipush X305.here hx rfl (hb hby at_256) ?_
                    show Steps p.tables e below (T305.setTop (mkF m 258 #[.val (.int p0), .val (.int p1), .val (.int (8 : Int32)), .val (.ref b2), .val (.int nv), .val (.ref b265), .unset] [(.int (9 : Int32)), (.int (8 : Int32))])) _
                    refine XS.icmpYes X305.here hx rfl (pc0 := 258) (pc' := 277) rfl (hb hby at_258) rfl (tlt (show (8 : Int32) < (9 : Int32) from (by decide))).1 (by decide) (by decide) ?_
                    refine XS.iloadN X305.here hx rfl (hb hby at_277) rfl ?_
                    refine XS.bipush X305.here hx rfl (hb hby at_278) ?_
                    show Steps p.tables e below (T305.setTop (mkF m 280 #[.val (.int p0), .val (.int p1), .val (.int (8 : Int32)), .val (.ref b2), .val (.int nv), .val (.ref b265), .unset] [(.int (10 : Int32)), (.int (8 : Int32))])) _
                    refine XS.icmpYes X305.here hx rfl (pc0 := 280) (pc' := 299) rfl (hb hby at_280) rfl (tlt (show (8 : Int32) < (10 : Int32) from (by decide))).1 (by decide) (by decide) ?_
                    refine XS.iloadN X305.here hx rfl (hb hby at_299) rfl ?_
                    refine XS.bipush X305.here hx rfl (hb hby at_300) ?_
                    show Steps p.tables e below (T305.setTop (mkF m 302 #[.val (.int p0), .val (.int p1), .val (.int (8 : Int32)), .val (.ref b2), .val (.int nv), .val (.ref b265), .unset] [(.int (11 : Int32)), (.int (8 : Int32))])) _
                    refine XS.icmpYes X305.here hx rfl (pc0 := 302) (pc' := 314) rfl (hb hby at_302) rfl (tlt (show (8 : Int32) < (11 : Int32) from (by decide))).1 (by decide) (by decide) ?_
                    refine XS.iloadN X305.here hx rfl (hb hby at_314) rfl ?_
                    refine XS.bipush X305.here hx rfl (hb hby at_315) ?_
                    show Steps p.tables e below (T305.setTop (mkF m 317 #[.val (.int p0), .val (.int p1), .val (.int (8 : Int32)), .val (.ref b2), .val (.int nv), .val (.ref b265), .unset] [(.int (12 : Int32)), (.int (8 : Int32))])) _
                    refine XS.icmpYes X305.here hx rfl (pc0 := 317) (pc' := 329) rfl (hb hby at_317) rfl (tlt (show (8 : Int32) < (12 : Int32) from (by decide))).1 (by decide) (by decide) ?_
                    show Steps p.tables e below (T305.setTop (mkF m 329 #[.val (.int p0), .val (.int p1), .val (.int (8 : Int32)), .val (.ref b2), .val (.int nv), .val (.ref b265), .unset] [])) _
                    refine st308 _ ?_
                    show Steps p.tables e below (T308.setTop (mkF m 332 #[.val (.int p0), .val (.int p1), .val (.int (8 : Int32)), .val (.ref b2), .val (.int nv), .val (.ref b265), .unset] [(.ref b308)])) _
                    refine XS.dup X308.here hx rfl (hb hby at_332) rfl rfl ?_
                    refine XS.aload X308.here hx rfl (hb hby at_333) rfl rfl ?_
                    show Steps p.tables e below (T308.setTop (mkF m 335 #[.val (.int p0), .val (.int p1), .val (.int (8 : Int32)), .val (.ref b2), .val (.int nv), .val (.ref b265), .unset] [(.ref b265), (.ref b308), (.ref b308)])) _
                    refine st309.trans ?_
                    refine XS.astore X309.here hx rfl (hb hby at_338) rfl rfl (l' := #[.val (.int p0), .val (.int p1), .val (.int (8 : Int32)), .val (.ref b2), .val (.int nv), .val (.ref b265), .val (.ref b308)]) rfl ?_
                    refine XS.aload Xx315.here hx rfl (hb hby at_340) rfl rfl ?_
                    show Steps p.tables e below (T309.setTop (mkF m 342 #[.val (.int p0), .val (.int p1), .val (.int (8 : Int32)), .val (.ref b2), .val (.int nv), .val (.ref b265), .val (.ref b308)] [(.ref b308)])) _
                    refine st316 _ ?_
                    show Steps p.tables e below (T316.setTop (mkF m 345 #[.val (.int p0), .val (.int p1), .val (.int (8 : Int32)), .val (.ref b2), .val (.int nv), .val (.ref b265), .val (.ref b308)] [(.int ((pv ([(nar .char (dV nv (10000000 : Int32))), (nar .char (dV nv (1000000 : Int32))), (nar .char (dV nv (100000 : Int32))), (nar .char (dV nv (10000 : Int32))), (nar .char (dV nv (1000 : Int32))), (nar .char (dV nv (100 : Int32))), (nar .char (dV nv (10 : Int32))), (nar .char (dV nv (1 : Int32)))] : List Int32) ([(nar .char (dV nv (10000000 : Int32))), (nar .char (dV nv (1000000 : Int32))), (nar .char (dV nv (100000 : Int32))), (nar .char (dV nv (10000 : Int32))), (nar .char (dV nv (1000 : Int32))), (nar .char (dV nv (100 : Int32))), (nar .char (dV nv (10 : Int32))), (nar .char (dV nv (1 : Int32)))] : List Int32).length).toInt32))])) _
                    refine XS.iload X316.here hx rfl (hb hby at_345) rfl ?_
                    show Steps p.tables e below (T316.setTop (mkF m 347 #[.val (.int p0), .val (.int p1), .val (.int (8 : Int32)), .val (.ref b2), .val (.int nv), .val (.ref b265), .val (.ref b308)] [(.int nv), (.int ((pv ([(nar .char (dV nv (10000000 : Int32))), (nar .char (dV nv (1000000 : Int32))), (nar .char (dV nv (100000 : Int32))), (nar .char (dV nv (10000 : Int32))), (nar .char (dV nv (1000 : Int32))), (nar .char (dV nv (100 : Int32))), (nar .char (dV nv (10 : Int32))), (nar .char (dV nv (1 : Int32)))] : List Int32) ([(nar .char (dV nv (10000000 : Int32))), (nar .char (dV nv (1000000 : Int32))), (nar .char (dV nv (100000 : Int32))), (nar .char (dV nv (10000 : Int32))), (nar .char (dV nv (1000 : Int32))), (nar .char (dV nv (100 : Int32))), (nar .char (dV nv (10 : Int32))), (nar .char (dV nv (1 : Int32)))] : List Int32).length).toInt32))])) _
                    refine XS.icmpNo X316.here hx rfl (hb hby at_347) rfl (teq (show ((pv ([(nar .char (dV nv (10000000 : Int32))), (nar .char (dV nv (1000000 : Int32))), (nar .char (dV nv (100000 : Int32))), (nar .char (dV nv (10000 : Int32))), (nar .char (dV nv (1000 : Int32))), (nar .char (dV nv (100 : Int32))), (nar .char (dV nv (10 : Int32))), (nar .char (dV nv (1 : Int32)))] : List Int32) ([(nar .char (dV nv (10000000 : Int32))), (nar .char (dV nv (1000000 : Int32))), (nar .char (dV nv (100000 : Int32))), (nar .char (dV nv (10000 : Int32))), (nar .char (dV nv (1000 : Int32))), (nar .char (dV nv (100 : Int32))), (nar .char (dV nv (10 : Int32))), (nar .char (dV nv (1 : Int32)))] : List Int32).length).toInt32) = nv from hfin)).2 ?_
                    refine XS.iconst X316.here hx rfl (hb hby at_350) ?_
                    refine XS.goto X316.here hx rfl (pc0 := 351) (pc' := 355) rfl (hb hby at_351) (by decide) (by decide) ?_
                    show Steps p.tables e below (T316.setTop (mkF m 355 #[.val (.int p0), .val (.int p1), .val (.int (8 : Int32)), .val (.ref b2), .val (.int nv), .val (.ref b265), .val (.ref b308)] [(.int (1 : Int32))])) _
                    exact retN X316 hx (t := .boolean) Bd.returns (by simp) (hb hby at_355) hr
                  · show Q0 h0 n0 _ T316.heap _
                    rw [e316]
                    exact ⟨rfl, N316⟩
                · by_cases hl9 : len = (9 : Int32)
                  · rw [hl9] at pre23
                    obtain ⟨cl317, Ar317, -, S317, Nn317, Hh317, -⟩ := id V22
                    have hin317 : ¬ ((9 : Int32) < 0 ∨ cl317.slots.size ≤ ((9 : Int32)).toNatClampNeg) := inb_of S317 ⟨by decide, by decide⟩
                    have hat317 : cl317.slots[((9 : Int32)).toNatClampNeg]? = some (.int (1000000000 : Int32)) := Hh317.at hin317 rfl
                    have pre318 : ∀ t, Steps p.tables e below (T22.setTop (mkF m 90 #[.val (.int p0), .val (.int p1), .val (.int (9 : Int32)), .val (.ref b2), .val (.int ((p0 &&& (2147483647 : Int32)) - ((p0 &&& (2147483647 : Int32)) / (1000000000 : Int32)) * (1000000000 : Int32))), .unset, .unset] [])) t → Steps p.tables e below (s₁.setTop (entryFrame m #[(.int p0), (.int p1)] maxLocals)) t := fun t kt => pre23 t (by
                        show Steps p.tables e below (T22.setTop (mkF m 70 #[.val (.int p0), .val (.int p1), .val (.int (9 : Int32)), .val (.ref b2), .unset, .unset, .unset] [])) _
                        refine XS.iloadN Xx24.here hx rfl (hb hby at_70) rfl ?_
                        show Steps p.tables e below (T22.setTop (mkF m 71 #[.val (.int p0), .val (.int p1), .val (.int (9 : Int32)), .val (.ref b2), .unset, .unset, .unset] [(.int p0)])) _
                        refine Xx24.ldcI hx hown (mvT hZ (hw _ (List.mem_of_getElem? (i := 6) rfl))) (g := (mkF m 71 #[.val (.int p0), .val (.int p1), .val (.int (9 : Int32)), .val (.ref b2), .unset, .unset, .unset] [(.int p0)])) rfl (hb hby at_71) ?_
                        show Steps p.tables e below (T22.setTop (mkF m 73 #[.val (.int p0), .val (.int p1), .val (.int (9 : Int32)), .val (.ref b2), .unset, .unset, .unset] [(.int (2147483647 : Int32)), (.int p0)])) _
                        refine XS.iand Xx24.here hx rfl (hb hby at_73) rfl ?_
                        refine XS.istore Xx24.here hx rfl (hb hby at_74) rfl (l' := #[.val (.int p0), .val (.int p1), .val (.int (9 : Int32)), .val (.ref b2), .val (.int (p0 &&& (2147483647 : Int32))), .unset, .unset]) rfl ?_
                        refine XS.iloadN Xx24.here hx rfl (hb hby at_76) rfl ?_
                        refine XS.bipush Xx24.here hx rfl (hb hby at_77) ?_
                        show Steps p.tables e below (T22.setTop (mkF m 79 #[.val (.int p0), .val (.int p1), .val (.int (9 : Int32)), .val (.ref b2), .val (.int (p0 &&& (2147483647 : Int32))), .unset, .unset] [(.int (10 : Int32)), (.int (9 : Int32))])) _
                        refine XS.icmpNo Xx24.here hx rfl (hb hby at_79) rfl (tlt (show (9 : Int32) < (10 : Int32) from (by decide))).2.1 ?_
                        refine XS.iload Xx24.here hx rfl (hb hby at_82) rfl ?_
                        refine XS.aloadN Xx24.here hx rfl (hb hby at_84) rfl rfl ?_
                        refine XS.iloadN Xx24.here hx rfl (hb hby at_85) rfl ?_
                        show Steps p.tables e below (T22.setTop (mkF m 86 #[.val (.int p0), .val (.int p1), .val (.int (9 : Int32)), .val (.ref b2), .val (.int (p0 &&& (2147483647 : Int32))), .unset, .unset] [(.int (9 : Int32)), (.ref b2), (.int (p0 &&& (2147483647 : Int32)))])) _
                        refine Xx24.iaload hx (j := (9 : Int32)) (v := (.int (1000000000 : Int32))) (by rw [e22]; exact Ar317.1) (State.isArrayOf_alike hZ.alike Ar317.2.1) Ar317.2.2 hin317 hat317 (g := (mkF m 86 #[.val (.int p0), .val (.int p1), .val (.int (9 : Int32)), .val (.ref b2), .val (.int (p0 &&& (2147483647 : Int32))), .unset, .unset] [(.int (9 : Int32)), (.ref b2), (.int (p0 &&& (2147483647 : Int32)))])) rfl rfl (hb hby at_86) _ ?_
                        show Steps p.tables e below (T22.setTop (mkF m 87 #[.val (.int p0), .val (.int p1), .val (.int (9 : Int32)), .val (.ref b2), .val (.int (p0 &&& (2147483647 : Int32))), .unset, .unset] [(.int (1000000000 : Int32)), (.int (p0 &&& (2147483647 : Int32)))])) _
                        refine XS.irem Xx24.here hx rfl (hb hby at_87) rfl (by decide) ?_
                        refine XS.istore Xx24.here hx rfl (hb hby at_88) rfl (l' := #[.val (.int p0), .val (.int p1), .val (.int (9 : Int32)), .val (.ref b2), .val (.int ((p0 &&& (2147483647 : Int32)) - ((p0 &&& (2147483647 : Int32)) / (1000000000 : Int32)) * (1000000000 : Int32))), .unset, .unset]) rfl ?_
                        exact kt)
                    obtain ⟨nv, hnv⟩ : ∃ z : Int32, z = ((p0 &&& (2147483647 : Int32)) - ((p0 &&& (2147483647 : Int32)) / (1000000000 : Int32)) * (1000000000 : Int32)) := ⟨_, rfl⟩
                    rw [← hnv] at pre318
                    have hnb : 0 ≤ nv.toInt ∧ nv.toInt < 10 ^ 9 := by rw [hnv]; exact own_nlt10 p0 (1000000000 : Int32) (by decide)
                    obtain ⟨T319, h319, k319, X319, e319, E319, A319, st319⟩ := newP Xx24 hx hZ (hw _ (List.mem_of_getElem? (i := 7) rfl)) e22 (g := (mkF m 91 #[.val (.int p0), .val (.int p1), .val (.int (9 : Int32)), .val (.ref b2), .val (.int nv), .unset, .unset] [(.int (9 : Int32))])) rfl (hb hby at_91) rfl (by decide) (cap := 9) (by decide) (by decide) (by decide) (by decide)
                    obtain ⟨b319, g319⟩ : ∃ z, z = h22.size := ⟨_, rfl⟩
                    rw [← g319] at A319 st319
                    have g_b319 : n0 ≤ b319 := Nat.le_trans Z22 (Nat.le_of_eq g319.symm)
                    have sz_b319 : h0.size ≤ b319 := Nat.le_trans K22.1 (Nat.le_of_eq g319.symm)
                    have ne_b2_b319 : b2 ≠ b319 := Nat.ne_of_lt (Nat.lt_of_lt_of_le V22.lt (Nat.le_of_eq g319.symm))
                    have K319 : Keep h0 h319 [] := Keep.ext K22 E319
                    have Z319 : n0 ≤ h319.size := Nat.le_trans Z0 K319.1
                    have V_b319 : Arv Z h319 b319 k319 .char (9 : Int32) [(.int (0 : Int32)), (.int (0 : Int32)), (.int (0 : Int32)), (.int (0 : Int32)), (.int (0 : Int32)), (.int (0 : Int32)), (.int (0 : Int32)), (.int (0 : Int32)), (.int (0 : Int32))] (.int (0 : Int32)) := (Arv.new A319 (by decide)).pad (pad_rep [] (.int (0 : Int32)) 9)
                    have f320 := (V22.ext E319)
                    obtain ⟨cl321, Ar321, -, S321, Nn321, Hh321, -⟩ := id f320
                    have hin321 : ¬ ((0 : Int32) < 0 ∨ cl321.slots.size ≤ ((0 : Int32)).toNatClampNeg) := inb_of S321 ⟨by decide, by decide⟩
                    have hat321 : cl321.slots[((0 : Int32)).toNatClampNeg]? = some (.int (1 : Int32)) := Hh321.at hin321 rfl
                    obtain ⟨_, _, ⟨T322, L322, k322, n322⟩, -, X322, ⟨Lc322, hQ322, l322, y322, z322⟩, st322⟩ := Jvm.LawKit.callS X319 hx (y := (⟨"com/example/libforeword/libforeword/wordlist/EntryParseFrequencyPinLaw", "d", "(II)C"⟩ : MethodName)) hown (mvT hZ (hw _ (List.mem_of_getElem? (i := 8) rfl))) (mvT hZ (hw _ (List.mem_of_getElem? (i := 9) rfl))) (mvT hZ (hw _ (List.mem_of_getElem? (i := 10) rfl))) (mvT hZ (hw _ (List.mem_of_getElem? (i := 11) rfl))) (by decide) (backOf (W := 2) (rmDD l Z a0 hw [] nv (1 : Int32) h319 n0 Z319 (by decide)) hZ (hw _ (List.mem_of_getElem? (i := 11) rfl)) (hw _ (List.mem_of_getElem? (i := 10) rfl)) (by decide) (by decide)) (g := (mkF m 110 #[.val (.int p0), .val (.int p1), .val (.int (9 : Int32)), .val (.ref b2), .val (.int nv), .val (.ref b319), .unset] [(.int (1 : Int32)), (.int nv), (.int (8 : Int32)), (.ref b319)])) rfl (by rw [hml]; rfl) (argsL := [(.int nv), (.int (1 : Int32))]) (rest := [(.int (8 : Int32)), (.ref b319)]) (lenOf pd_3 rfl) rfl (by show 2 * 0 + _ ≤ _; exact Nat.le_of_eq rfl) (hb hby at_110) (fun _ _ => ⟨rfl, e319, (by decide : 2 + 0 ≤ _), (by decide : 19 + 0 ≤ _)⟩)
                    dsimp only [Pt.U, Pt.locs, Pt.cells, Pt.slots] at X322 l322 y322 z322 st322 hQ322
                    subst l322 y322 z322
                    obtain ⟨rfl, N322q, e322⟩ := hQ322
                    have N322 := Fr.app Nx24 N322q
                    obtain ⟨cl323, Ar323, q323, S323, Nn323, Hh323, Gg323⟩ := id V_b319
                    have hin323 : ¬ ((8 : Int32) < 0 ∨ cl323.slots.size ≤ ((8 : Int32)).toNatClampNeg) := inb_of S323 ⟨by decide, by decide⟩
                    obtain ⟨T324, h324, X324, e324, W324, st324⟩ := stC X322 hx hZ e322 Ar323 (j := (8 : Int32)) hin323 (g := (mkF m 113 #[.val (.int p0), .val (.int p1), .val (.int (9 : Int32)), .val (.ref b2), .val (.int nv), .val (.ref b319), .unset] [(.int (dV nv (1 : Int32))), (.int (8 : Int32)), (.ref b319)])) rfl rfl (hb hby at_113)
                    have V324 : Arv Z h324 b319 k319 .char (9 : Int32) [(.int (0 : Int32)), (.int (0 : Int32)), (.int (0 : Int32)), (.int (0 : Int32)), (.int (0 : Int32)), (.int (0 : Int32)), (.int (0 : Int32)), (.int (0 : Int32)), (.int (nar .char (dV nv (1 : Int32))))] (.int (0 : Int32)) := Arv.set Ar323 q323 S323 Nn323 Hh323 Gg323 (fits_nar_char _) W324 8 rfl (Nat.le_of_ble_eq_true rfl)
                    have K324 : Keep h0 h324 [] := Keep.wr K319 W324 (Or.inr sz_b319)
                    have Z324 : n0 ≤ h324.size := Nat.le_trans Z0 K324.1
                    have N324 := Fr.snoc X324 N322 g_b319
                    have f325 := (f320.other W324 ne_b2_b319)
                    obtain ⟨cl326, Ar326, -, S326, Nn326, Hh326, -⟩ := id f325
                    have hin326 : ¬ ((1 : Int32) < 0 ∨ cl326.slots.size ≤ ((1 : Int32)).toNatClampNeg) := inb_of S326 ⟨by decide, by decide⟩
                    have hat326 : cl326.slots[((1 : Int32)).toNatClampNeg]? = some (.int (10 : Int32)) := Hh326.at hin326 rfl
                    obtain ⟨_, _, ⟨T327, L327, k327, n327⟩, -, X327, ⟨Lc327, hQ327, l327, y327, z327⟩, st327⟩ := Jvm.LawKit.callS X324 hx (y := (⟨"com/example/libforeword/libforeword/wordlist/EntryParseFrequencyPinLaw", "d", "(II)C"⟩ : MethodName)) hown (mvT hZ (hw _ (List.mem_of_getElem? (i := 8) rfl))) (mvT hZ (hw _ (List.mem_of_getElem? (i := 9) rfl))) (mvT hZ (hw _ (List.mem_of_getElem? (i := 10) rfl))) (mvT hZ (hw _ (List.mem_of_getElem? (i := 11) rfl))) (by decide) (backOf (W := 2) (rmDD l Z a0 hw [] nv (10 : Int32) h324 n0 Z324 (by decide)) hZ (hw _ (List.mem_of_getElem? (i := 11) rfl)) (hw _ (List.mem_of_getElem? (i := 10) rfl)) (by decide) (by decide)) (g := (mkF m 129 #[.val (.int p0), .val (.int p1), .val (.int (9 : Int32)), .val (.ref b2), .val (.int nv), .val (.ref b319), .unset] [(.int (10 : Int32)), (.int nv), (.int (7 : Int32)), (.ref b319)])) rfl (by rw [hml]; rfl) (argsL := [(.int nv), (.int (10 : Int32))]) (rest := [(.int (7 : Int32)), (.ref b319)]) (lenOf pd_3 rfl) rfl (by show 2 * 0 + _ ≤ _; exact Nat.le_of_eq rfl) (hb hby at_129) (fun _ _ => ⟨rfl, e324, (by decide : 2 + 0 ≤ _), (by decide : 19 + 0 ≤ _)⟩)
                    dsimp only [Pt.U, Pt.locs, Pt.cells, Pt.slots] at X327 l327 y327 z327 st327 hQ327
                    subst l327 y327 z327
                    obtain ⟨rfl, N327q, e327⟩ := hQ327
                    have N327 := Fr.app N324 N327q
                    obtain ⟨cl328, Ar328, q328, S328, Nn328, Hh328, Gg328⟩ := id V324
                    have hin328 : ¬ ((7 : Int32) < 0 ∨ cl328.slots.size ≤ ((7 : Int32)).toNatClampNeg) := inb_of S328 ⟨by decide, by decide⟩
                    obtain ⟨T329, h329, X329, e329, W329, st329⟩ := stC X327 hx hZ e327 Ar328 (j := (7 : Int32)) hin328 (g := (mkF m 132 #[.val (.int p0), .val (.int p1), .val (.int (9 : Int32)), .val (.ref b2), .val (.int nv), .val (.ref b319), .unset] [(.int (dV nv (10 : Int32))), (.int (7 : Int32)), (.ref b319)])) rfl rfl (hb hby at_132)
                    have V329 : Arv Z h329 b319 k319 .char (9 : Int32) [(.int (0 : Int32)), (.int (0 : Int32)), (.int (0 : Int32)), (.int (0 : Int32)), (.int (0 : Int32)), (.int (0 : Int32)), (.int (0 : Int32)), (.int (nar .char (dV nv (10 : Int32)))), (.int (nar .char (dV nv (1 : Int32))))] (.int (0 : Int32)) := Arv.set Ar328 q328 S328 Nn328 Hh328 Gg328 (fits_nar_char _) W329 7 rfl (Nat.le_of_ble_eq_true rfl)
                    have K329 : Keep h0 h329 [] := Keep.wr K324 W329 (Or.inr sz_b319)
                    have Z329 : n0 ≤ h329.size := Nat.le_trans Z0 K329.1
                    have N329 := Fr.snoc X329 N327 g_b319
                    have f330 := (f325.other W329 ne_b2_b319)
                    obtain ⟨cl331, Ar331, -, S331, Nn331, Hh331, -⟩ := id f330
                    have hin331 : ¬ ((2 : Int32) < 0 ∨ cl331.slots.size ≤ ((2 : Int32)).toNatClampNeg) := inb_of S331 ⟨by decide, by decide⟩
                    have hat331 : cl331.slots[((2 : Int32)).toNatClampNeg]? = some (.int (100 : Int32)) := Hh331.at hin331 rfl
                    obtain ⟨_, _, ⟨T332, L332, k332, n332⟩, -, X332, ⟨Lc332, hQ332, l332, y332, z332⟩, st332⟩ := Jvm.LawKit.callS X329 hx (y := (⟨"com/example/libforeword/libforeword/wordlist/EntryParseFrequencyPinLaw", "d", "(II)C"⟩ : MethodName)) hown (mvT hZ (hw _ (List.mem_of_getElem? (i := 8) rfl))) (mvT hZ (hw _ (List.mem_of_getElem? (i := 9) rfl))) (mvT hZ (hw _ (List.mem_of_getElem? (i := 10) rfl))) (mvT hZ (hw _ (List.mem_of_getElem? (i := 11) rfl))) (by decide) (backOf (W := 2) (rmDD l Z a0 hw [] nv (100 : Int32) h329 n0 Z329 (by decide)) hZ (hw _ (List.mem_of_getElem? (i := 11) rfl)) (hw _ (List.mem_of_getElem? (i := 10) rfl)) (by decide) (by decide)) (g := (mkF m 148 #[.val (.int p0), .val (.int p1), .val (.int (9 : Int32)), .val (.ref b2), .val (.int nv), .val (.ref b319), .unset] [(.int (100 : Int32)), (.int nv), (.int (6 : Int32)), (.ref b319)])) rfl (by rw [hml]; rfl) (argsL := [(.int nv), (.int (100 : Int32))]) (rest := [(.int (6 : Int32)), (.ref b319)]) (lenOf pd_3 rfl) rfl (by show 2 * 0 + _ ≤ _; exact Nat.le_of_eq rfl) (hb hby at_148) (fun _ _ => ⟨rfl, e329, (by decide : 2 + 0 ≤ _), (by decide : 19 + 0 ≤ _)⟩)
                    dsimp only [Pt.U, Pt.locs, Pt.cells, Pt.slots] at X332 l332 y332 z332 st332 hQ332
                    subst l332 y332 z332
                    obtain ⟨rfl, N332q, e332⟩ := hQ332
                    have N332 := Fr.app N329 N332q
                    obtain ⟨cl333, Ar333, q333, S333, Nn333, Hh333, Gg333⟩ := id V329
                    have hin333 : ¬ ((6 : Int32) < 0 ∨ cl333.slots.size ≤ ((6 : Int32)).toNatClampNeg) := inb_of S333 ⟨by decide, by decide⟩
                    obtain ⟨T334, h334, X334, e334, W334, st334⟩ := stC X332 hx hZ e332 Ar333 (j := (6 : Int32)) hin333 (g := (mkF m 151 #[.val (.int p0), .val (.int p1), .val (.int (9 : Int32)), .val (.ref b2), .val (.int nv), .val (.ref b319), .unset] [(.int (dV nv (100 : Int32))), (.int (6 : Int32)), (.ref b319)])) rfl rfl (hb hby at_151)
                    have V334 : Arv Z h334 b319 k319 .char (9 : Int32) [(.int (0 : Int32)), (.int (0 : Int32)), (.int (0 : Int32)), (.int (0 : Int32)), (.int (0 : Int32)), (.int (0 : Int32)), (.int (nar .char (dV nv (100 : Int32)))), (.int (nar .char (dV nv (10 : Int32)))), (.int (nar .char (dV nv (1 : Int32))))] (.int (0 : Int32)) := Arv.set Ar333 q333 S333 Nn333 Hh333 Gg333 (fits_nar_char _) W334 6 rfl (Nat.le_of_ble_eq_true rfl)
                    have K334 : Keep h0 h334 [] := Keep.wr K329 W334 (Or.inr sz_b319)
                    have Z334 : n0 ≤ h334.size := Nat.le_trans Z0 K334.1
                    have N334 := Fr.snoc X334 N332 g_b319
                    have f335 := (f330.other W334 ne_b2_b319)
                    obtain ⟨cl336, Ar336, -, S336, Nn336, Hh336, -⟩ := id f335
                    have hin336 : ¬ ((3 : Int32) < 0 ∨ cl336.slots.size ≤ ((3 : Int32)).toNatClampNeg) := inb_of S336 ⟨by decide, by decide⟩
                    have hat336 : cl336.slots[((3 : Int32)).toNatClampNeg]? = some (.int (1000 : Int32)) := Hh336.at hin336 rfl
                    obtain ⟨_, _, ⟨T337, L337, k337, n337⟩, -, X337, ⟨Lc337, hQ337, l337, y337, z337⟩, st337⟩ := Jvm.LawKit.callS X334 hx (y := (⟨"com/example/libforeword/libforeword/wordlist/EntryParseFrequencyPinLaw", "d", "(II)C"⟩ : MethodName)) hown (mvT hZ (hw _ (List.mem_of_getElem? (i := 8) rfl))) (mvT hZ (hw _ (List.mem_of_getElem? (i := 9) rfl))) (mvT hZ (hw _ (List.mem_of_getElem? (i := 10) rfl))) (mvT hZ (hw _ (List.mem_of_getElem? (i := 11) rfl))) (by decide) (backOf (W := 2) (rmDD l Z a0 hw [] nv (1000 : Int32) h334 n0 Z334 (by decide)) hZ (hw _ (List.mem_of_getElem? (i := 11) rfl)) (hw _ (List.mem_of_getElem? (i := 10) rfl)) (by decide) (by decide)) (g := (mkF m 167 #[.val (.int p0), .val (.int p1), .val (.int (9 : Int32)), .val (.ref b2), .val (.int nv), .val (.ref b319), .unset] [(.int (1000 : Int32)), (.int nv), (.int (5 : Int32)), (.ref b319)])) rfl (by rw [hml]; rfl) (argsL := [(.int nv), (.int (1000 : Int32))]) (rest := [(.int (5 : Int32)), (.ref b319)]) (lenOf pd_3 rfl) rfl (by show 2 * 0 + _ ≤ _; exact Nat.le_of_eq rfl) (hb hby at_167) (fun _ _ => ⟨rfl, e334, (by decide : 2 + 0 ≤ _), (by decide : 19 + 0 ≤ _)⟩)
                    dsimp only [Pt.U, Pt.locs, Pt.cells, Pt.slots] at X337 l337 y337 z337 st337 hQ337
                    subst l337 y337 z337
                    obtain ⟨rfl, N337q, e337⟩ := hQ337
                    have N337 := Fr.app N334 N337q
                    obtain ⟨cl338, Ar338, q338, S338, Nn338, Hh338, Gg338⟩ := id V334
                    have hin338 : ¬ ((5 : Int32) < 0 ∨ cl338.slots.size ≤ ((5 : Int32)).toNatClampNeg) := inb_of S338 ⟨by decide, by decide⟩
                    obtain ⟨T339, h339, X339, e339, W339, st339⟩ := stC X337 hx hZ e337 Ar338 (j := (5 : Int32)) hin338 (g := (mkF m 170 #[.val (.int p0), .val (.int p1), .val (.int (9 : Int32)), .val (.ref b2), .val (.int nv), .val (.ref b319), .unset] [(.int (dV nv (1000 : Int32))), (.int (5 : Int32)), (.ref b319)])) rfl rfl (hb hby at_170)
                    have V339 : Arv Z h339 b319 k319 .char (9 : Int32) [(.int (0 : Int32)), (.int (0 : Int32)), (.int (0 : Int32)), (.int (0 : Int32)), (.int (0 : Int32)), (.int (nar .char (dV nv (1000 : Int32)))), (.int (nar .char (dV nv (100 : Int32)))), (.int (nar .char (dV nv (10 : Int32)))), (.int (nar .char (dV nv (1 : Int32))))] (.int (0 : Int32)) := Arv.set Ar338 q338 S338 Nn338 Hh338 Gg338 (fits_nar_char _) W339 5 rfl (Nat.le_of_ble_eq_true rfl)
                    have K339 : Keep h0 h339 [] := Keep.wr K334 W339 (Or.inr sz_b319)
                    have Z339 : n0 ≤ h339.size := Nat.le_trans Z0 K339.1
                    have N339 := Fr.snoc X339 N337 g_b319
                    have f340 := (f335.other W339 ne_b2_b319)
                    obtain ⟨cl341, Ar341, -, S341, Nn341, Hh341, -⟩ := id f340
                    have hin341 : ¬ ((4 : Int32) < 0 ∨ cl341.slots.size ≤ ((4 : Int32)).toNatClampNeg) := inb_of S341 ⟨by decide, by decide⟩
                    have hat341 : cl341.slots[((4 : Int32)).toNatClampNeg]? = some (.int (10000 : Int32)) := Hh341.at hin341 rfl
                    obtain ⟨_, _, ⟨T342, L342, k342, n342⟩, -, X342, ⟨Lc342, hQ342, l342, y342, z342⟩, st342⟩ := Jvm.LawKit.callS X339 hx (y := (⟨"com/example/libforeword/libforeword/wordlist/EntryParseFrequencyPinLaw", "d", "(II)C"⟩ : MethodName)) hown (mvT hZ (hw _ (List.mem_of_getElem? (i := 8) rfl))) (mvT hZ (hw _ (List.mem_of_getElem? (i := 9) rfl))) (mvT hZ (hw _ (List.mem_of_getElem? (i := 10) rfl))) (mvT hZ (hw _ (List.mem_of_getElem? (i := 11) rfl))) (by decide) (backOf (W := 2) (rmDD l Z a0 hw [] nv (10000 : Int32) h339 n0 Z339 (by decide)) hZ (hw _ (List.mem_of_getElem? (i := 11) rfl)) (hw _ (List.mem_of_getElem? (i := 10) rfl)) (by decide) (by decide)) (g := (mkF m 186 #[.val (.int p0), .val (.int p1), .val (.int (9 : Int32)), .val (.ref b2), .val (.int nv), .val (.ref b319), .unset] [(.int (10000 : Int32)), (.int nv), (.int (4 : Int32)), (.ref b319)])) rfl (by rw [hml]; rfl) (argsL := [(.int nv), (.int (10000 : Int32))]) (rest := [(.int (4 : Int32)), (.ref b319)]) (lenOf pd_3 rfl) rfl (by show 2 * 0 + _ ≤ _; exact Nat.le_of_eq rfl) (hb hby at_186) (fun _ _ => ⟨rfl, e339, (by decide : 2 + 0 ≤ _), (by decide : 19 + 0 ≤ _)⟩)
                    dsimp only [Pt.U, Pt.locs, Pt.cells, Pt.slots] at X342 l342 y342 z342 st342 hQ342
                    subst l342 y342 z342
                    obtain ⟨rfl, N342q, e342⟩ := hQ342
                    have N342 := Fr.app N339 N342q
                    obtain ⟨cl343, Ar343, q343, S343, Nn343, Hh343, Gg343⟩ := id V339
                    have hin343 : ¬ ((4 : Int32) < 0 ∨ cl343.slots.size ≤ ((4 : Int32)).toNatClampNeg) := inb_of S343 ⟨by decide, by decide⟩
                    obtain ⟨T344, h344, X344, e344, W344, st344⟩ := stC X342 hx hZ e342 Ar343 (j := (4 : Int32)) hin343 (g := (mkF m 189 #[.val (.int p0), .val (.int p1), .val (.int (9 : Int32)), .val (.ref b2), .val (.int nv), .val (.ref b319), .unset] [(.int (dV nv (10000 : Int32))), (.int (4 : Int32)), (.ref b319)])) rfl rfl (hb hby at_189)
                    have V344 : Arv Z h344 b319 k319 .char (9 : Int32) [(.int (0 : Int32)), (.int (0 : Int32)), (.int (0 : Int32)), (.int (0 : Int32)), (.int (nar .char (dV nv (10000 : Int32)))), (.int (nar .char (dV nv (1000 : Int32)))), (.int (nar .char (dV nv (100 : Int32)))), (.int (nar .char (dV nv (10 : Int32)))), (.int (nar .char (dV nv (1 : Int32))))] (.int (0 : Int32)) := Arv.set Ar343 q343 S343 Nn343 Hh343 Gg343 (fits_nar_char _) W344 4 rfl (Nat.le_of_ble_eq_true rfl)
                    have K344 : Keep h0 h344 [] := Keep.wr K339 W344 (Or.inr sz_b319)
                    have Z344 : n0 ≤ h344.size := Nat.le_trans Z0 K344.1
                    have N344 := Fr.snoc X344 N342 g_b319
                    have f345 := (f340.other W344 ne_b2_b319)
                    obtain ⟨cl346, Ar346, -, S346, Nn346, Hh346, -⟩ := id f345
                    have hin346 : ¬ ((5 : Int32) < 0 ∨ cl346.slots.size ≤ ((5 : Int32)).toNatClampNeg) := inb_of S346 ⟨by decide, by decide⟩
                    have hat346 : cl346.slots[((5 : Int32)).toNatClampNeg]? = some (.int (100000 : Int32)) := Hh346.at hin346 rfl
                    obtain ⟨_, _, ⟨T347, L347, k347, n347⟩, -, X347, ⟨Lc347, hQ347, l347, y347, z347⟩, st347⟩ := Jvm.LawKit.callS X344 hx (y := (⟨"com/example/libforeword/libforeword/wordlist/EntryParseFrequencyPinLaw", "d", "(II)C"⟩ : MethodName)) hown (mvT hZ (hw _ (List.mem_of_getElem? (i := 8) rfl))) (mvT hZ (hw _ (List.mem_of_getElem? (i := 9) rfl))) (mvT hZ (hw _ (List.mem_of_getElem? (i := 10) rfl))) (mvT hZ (hw _ (List.mem_of_getElem? (i := 11) rfl))) (by decide) (backOf (W := 2) (rmDD l Z a0 hw [] nv (100000 : Int32) h344 n0 Z344 (by decide)) hZ (hw _ (List.mem_of_getElem? (i := 11) rfl)) (hw _ (List.mem_of_getElem? (i := 10) rfl)) (by decide) (by decide)) (g := (mkF m 207 #[.val (.int p0), .val (.int p1), .val (.int (9 : Int32)), .val (.ref b2), .val (.int nv), .val (.ref b319), .unset] [(.int (100000 : Int32)), (.int nv), (.int (3 : Int32)), (.ref b319)])) rfl (by rw [hml]; rfl) (argsL := [(.int nv), (.int (100000 : Int32))]) (rest := [(.int (3 : Int32)), (.ref b319)]) (lenOf pd_3 rfl) rfl (by show 2 * 0 + _ ≤ _; exact Nat.le_of_eq rfl) (hb hby at_207) (fun _ _ => ⟨rfl, e344, (by decide : 2 + 0 ≤ _), (by decide : 19 + 0 ≤ _)⟩)
                    dsimp only [Pt.U, Pt.locs, Pt.cells, Pt.slots] at X347 l347 y347 z347 st347 hQ347
                    subst l347 y347 z347
                    obtain ⟨rfl, N347q, e347⟩ := hQ347
                    have N347 := Fr.app N344 N347q
                    obtain ⟨cl348, Ar348, q348, S348, Nn348, Hh348, Gg348⟩ := id V344
                    have hin348 : ¬ ((3 : Int32) < 0 ∨ cl348.slots.size ≤ ((3 : Int32)).toNatClampNeg) := inb_of S348 ⟨by decide, by decide⟩
                    obtain ⟨T349, h349, X349, e349, W349, st349⟩ := stC X347 hx hZ e347 Ar348 (j := (3 : Int32)) hin348 (g := (mkF m 210 #[.val (.int p0), .val (.int p1), .val (.int (9 : Int32)), .val (.ref b2), .val (.int nv), .val (.ref b319), .unset] [(.int (dV nv (100000 : Int32))), (.int (3 : Int32)), (.ref b319)])) rfl rfl (hb hby at_210)
                    have V349 : Arv Z h349 b319 k319 .char (9 : Int32) [(.int (0 : Int32)), (.int (0 : Int32)), (.int (0 : Int32)), (.int (nar .char (dV nv (100000 : Int32)))), (.int (nar .char (dV nv (10000 : Int32)))), (.int (nar .char (dV nv (1000 : Int32)))), (.int (nar .char (dV nv (100 : Int32)))), (.int (nar .char (dV nv (10 : Int32)))), (.int (nar .char (dV nv (1 : Int32))))] (.int (0 : Int32)) := Arv.set Ar348 q348 S348 Nn348 Hh348 Gg348 (fits_nar_char _) W349 3 rfl (Nat.le_of_ble_eq_true rfl)
                    have K349 : Keep h0 h349 [] := Keep.wr K344 W349 (Or.inr sz_b319)
                    have Z349 : n0 ≤ h349.size := Nat.le_trans Z0 K349.1
                    have N349 := Fr.snoc X349 N347 g_b319
                    have f350 := (f345.other W349 ne_b2_b319)
                    obtain ⟨cl351, Ar351, -, S351, Nn351, Hh351, -⟩ := id f350
                    have hin351 : ¬ ((6 : Int32) < 0 ∨ cl351.slots.size ≤ ((6 : Int32)).toNatClampNeg) := inb_of S351 ⟨by decide, by decide⟩
                    have hat351 : cl351.slots[((6 : Int32)).toNatClampNeg]? = some (.int (1000000 : Int32)) := Hh351.at hin351 rfl
                    obtain ⟨_, _, ⟨T352, L352, k352, n352⟩, -, X352, ⟨Lc352, hQ352, l352, y352, z352⟩, st352⟩ := Jvm.LawKit.callS X349 hx (y := (⟨"com/example/libforeword/libforeword/wordlist/EntryParseFrequencyPinLaw", "d", "(II)C"⟩ : MethodName)) hown (mvT hZ (hw _ (List.mem_of_getElem? (i := 8) rfl))) (mvT hZ (hw _ (List.mem_of_getElem? (i := 9) rfl))) (mvT hZ (hw _ (List.mem_of_getElem? (i := 10) rfl))) (mvT hZ (hw _ (List.mem_of_getElem? (i := 11) rfl))) (by decide) (backOf (W := 2) (rmDD l Z a0 hw [] nv (1000000 : Int32) h349 n0 Z349 (by decide)) hZ (hw _ (List.mem_of_getElem? (i := 11) rfl)) (hw _ (List.mem_of_getElem? (i := 10) rfl)) (by decide) (by decide)) (g := (mkF m 229 #[.val (.int p0), .val (.int p1), .val (.int (9 : Int32)), .val (.ref b2), .val (.int nv), .val (.ref b319), .unset] [(.int (1000000 : Int32)), (.int nv), (.int (2 : Int32)), (.ref b319)])) rfl (by rw [hml]; rfl) (argsL := [(.int nv), (.int (1000000 : Int32))]) (rest := [(.int (2 : Int32)), (.ref b319)]) (lenOf pd_3 rfl) rfl (by show 2 * 0 + _ ≤ _; exact Nat.le_of_eq rfl) (hb hby at_229) (fun _ _ => ⟨rfl, e349, (by decide : 2 + 0 ≤ _), (by decide : 19 + 0 ≤ _)⟩)
                    dsimp only [Pt.U, Pt.locs, Pt.cells, Pt.slots] at X352 l352 y352 z352 st352 hQ352
                    subst l352 y352 z352
                    obtain ⟨rfl, N352q, e352⟩ := hQ352
                    have N352 := Fr.app N349 N352q
                    obtain ⟨cl353, Ar353, q353, S353, Nn353, Hh353, Gg353⟩ := id V349
                    have hin353 : ¬ ((2 : Int32) < 0 ∨ cl353.slots.size ≤ ((2 : Int32)).toNatClampNeg) := inb_of S353 ⟨by decide, by decide⟩
                    obtain ⟨T354, h354, X354, e354, W354, st354⟩ := stC X352 hx hZ e352 Ar353 (j := (2 : Int32)) hin353 (g := (mkF m 232 #[.val (.int p0), .val (.int p1), .val (.int (9 : Int32)), .val (.ref b2), .val (.int nv), .val (.ref b319), .unset] [(.int (dV nv (1000000 : Int32))), (.int (2 : Int32)), (.ref b319)])) rfl rfl (hb hby at_232)
                    have V354 : Arv Z h354 b319 k319 .char (9 : Int32) [(.int (0 : Int32)), (.int (0 : Int32)), (.int (nar .char (dV nv (1000000 : Int32)))), (.int (nar .char (dV nv (100000 : Int32)))), (.int (nar .char (dV nv (10000 : Int32)))), (.int (nar .char (dV nv (1000 : Int32)))), (.int (nar .char (dV nv (100 : Int32)))), (.int (nar .char (dV nv (10 : Int32)))), (.int (nar .char (dV nv (1 : Int32))))] (.int (0 : Int32)) := Arv.set Ar353 q353 S353 Nn353 Hh353 Gg353 (fits_nar_char _) W354 2 rfl (Nat.le_of_ble_eq_true rfl)
                    have K354 : Keep h0 h354 [] := Keep.wr K349 W354 (Or.inr sz_b319)
                    have Z354 : n0 ≤ h354.size := Nat.le_trans Z0 K354.1
                    have N354 := Fr.snoc X354 N352 g_b319
                    have f355 := (f350.other W354 ne_b2_b319)
                    obtain ⟨cl356, Ar356, -, S356, Nn356, Hh356, -⟩ := id f355
                    have hin356 : ¬ ((7 : Int32) < 0 ∨ cl356.slots.size ≤ ((7 : Int32)).toNatClampNeg) := inb_of S356 ⟨by decide, by decide⟩
                    have hat356 : cl356.slots[((7 : Int32)).toNatClampNeg]? = some (.int (10000000 : Int32)) := Hh356.at hin356 rfl
                    obtain ⟨_, _, ⟨T357, L357, k357, n357⟩, -, X357, ⟨Lc357, hQ357, l357, y357, z357⟩, st357⟩ := Jvm.LawKit.callS X354 hx (y := (⟨"com/example/libforeword/libforeword/wordlist/EntryParseFrequencyPinLaw", "d", "(II)C"⟩ : MethodName)) hown (mvT hZ (hw _ (List.mem_of_getElem? (i := 8) rfl))) (mvT hZ (hw _ (List.mem_of_getElem? (i := 9) rfl))) (mvT hZ (hw _ (List.mem_of_getElem? (i := 10) rfl))) (mvT hZ (hw _ (List.mem_of_getElem? (i := 11) rfl))) (by decide) (backOf (W := 2) (rmDD l Z a0 hw [] nv (10000000 : Int32) h354 n0 Z354 (by decide)) hZ (hw _ (List.mem_of_getElem? (i := 11) rfl)) (hw _ (List.mem_of_getElem? (i := 10) rfl)) (by decide) (by decide)) (g := (mkF m 251 #[.val (.int p0), .val (.int p1), .val (.int (9 : Int32)), .val (.ref b2), .val (.int nv), .val (.ref b319), .unset] [(.int (10000000 : Int32)), (.int nv), (.int (1 : Int32)), (.ref b319)])) rfl (by rw [hml]; rfl) (argsL := [(.int nv), (.int (10000000 : Int32))]) (rest := [(.int (1 : Int32)), (.ref b319)]) (lenOf pd_3 rfl) rfl (by show 2 * 0 + _ ≤ _; exact Nat.le_of_eq rfl) (hb hby at_251) (fun _ _ => ⟨rfl, e354, (by decide : 2 + 0 ≤ _), (by decide : 19 + 0 ≤ _)⟩)
                    dsimp only [Pt.U, Pt.locs, Pt.cells, Pt.slots] at X357 l357 y357 z357 st357 hQ357
                    subst l357 y357 z357
                    obtain ⟨rfl, N357q, e357⟩ := hQ357
                    have N357 := Fr.app N354 N357q
                    obtain ⟨cl358, Ar358, q358, S358, Nn358, Hh358, Gg358⟩ := id V354
                    have hin358 : ¬ ((1 : Int32) < 0 ∨ cl358.slots.size ≤ ((1 : Int32)).toNatClampNeg) := inb_of S358 ⟨by decide, by decide⟩
                    obtain ⟨T359, h359, X359, e359, W359, st359⟩ := stC X357 hx hZ e357 Ar358 (j := (1 : Int32)) hin358 (g := (mkF m 254 #[.val (.int p0), .val (.int p1), .val (.int (9 : Int32)), .val (.ref b2), .val (.int nv), .val (.ref b319), .unset] [(.int (dV nv (10000000 : Int32))), (.int (1 : Int32)), (.ref b319)])) rfl rfl (hb hby at_254)
                    have V359 : Arv Z h359 b319 k319 .char (9 : Int32) [(.int (0 : Int32)), (.int (nar .char (dV nv (10000000 : Int32)))), (.int (nar .char (dV nv (1000000 : Int32)))), (.int (nar .char (dV nv (100000 : Int32)))), (.int (nar .char (dV nv (10000 : Int32)))), (.int (nar .char (dV nv (1000 : Int32)))), (.int (nar .char (dV nv (100 : Int32)))), (.int (nar .char (dV nv (10 : Int32)))), (.int (nar .char (dV nv (1 : Int32))))] (.int (0 : Int32)) := Arv.set Ar358 q358 S358 Nn358 Hh358 Gg358 (fits_nar_char _) W359 1 rfl (Nat.le_of_ble_eq_true rfl)
                    have K359 : Keep h0 h359 [] := Keep.wr K354 W359 (Or.inr sz_b319)
                    have Z359 : n0 ≤ h359.size := Nat.le_trans Z0 K359.1
                    have N359 := Fr.snoc X359 N357 g_b319
                    have f360 := (f355.other W359 ne_b2_b319)
                    obtain ⟨cl361, Ar361, -, S361, Nn361, Hh361, -⟩ := id f360
                    have hin361 : ¬ ((8 : Int32) < 0 ∨ cl361.slots.size ≤ ((8 : Int32)).toNatClampNeg) := inb_of S361 ⟨by decide, by decide⟩
                    have hat361 : cl361.slots[((8 : Int32)).toNatClampNeg]? = some (.int (100000000 : Int32)) := Hh361.at hin361 rfl
                    obtain ⟨_, _, ⟨T362, L362, k362, n362⟩, -, X362, ⟨Lc362, hQ362, l362, y362, z362⟩, st362⟩ := Jvm.LawKit.callS X359 hx (y := (⟨"com/example/libforeword/libforeword/wordlist/EntryParseFrequencyPinLaw", "d", "(II)C"⟩ : MethodName)) hown (mvT hZ (hw _ (List.mem_of_getElem? (i := 8) rfl))) (mvT hZ (hw _ (List.mem_of_getElem? (i := 9) rfl))) (mvT hZ (hw _ (List.mem_of_getElem? (i := 10) rfl))) (mvT hZ (hw _ (List.mem_of_getElem? (i := 11) rfl))) (by decide) (backOf (W := 2) (rmDD l Z a0 hw [] nv (100000000 : Int32) h359 n0 Z359 (by decide)) hZ (hw _ (List.mem_of_getElem? (i := 11) rfl)) (hw _ (List.mem_of_getElem? (i := 10) rfl)) (by decide) (by decide)) (g := (mkF m 273 #[.val (.int p0), .val (.int p1), .val (.int (9 : Int32)), .val (.ref b2), .val (.int nv), .val (.ref b319), .unset] [(.int (100000000 : Int32)), (.int nv), (.int (0 : Int32)), (.ref b319)])) rfl (by rw [hml]; rfl) (argsL := [(.int nv), (.int (100000000 : Int32))]) (rest := [(.int (0 : Int32)), (.ref b319)]) (lenOf pd_3 rfl) rfl (by show 2 * 0 + _ ≤ _; exact Nat.le_of_eq rfl) (hb hby at_273) (fun _ _ => ⟨rfl, e359, (by decide : 2 + 0 ≤ _), (by decide : 19 + 0 ≤ _)⟩)
                    dsimp only [Pt.U, Pt.locs, Pt.cells, Pt.slots] at X362 l362 y362 z362 st362 hQ362
                    subst l362 y362 z362
                    obtain ⟨rfl, N362q, e362⟩ := hQ362
                    have N362 := Fr.app N359 N362q
                    obtain ⟨cl363, Ar363, q363, S363, Nn363, Hh363, Gg363⟩ := id V359
                    have hin363 : ¬ ((0 : Int32) < 0 ∨ cl363.slots.size ≤ ((0 : Int32)).toNatClampNeg) := inb_of S363 ⟨by decide, by decide⟩
                    obtain ⟨T364, h364, X364, e364, W364, st364⟩ := stC X362 hx hZ e362 Ar363 (j := (0 : Int32)) hin363 (g := (mkF m 276 #[.val (.int p0), .val (.int p1), .val (.int (9 : Int32)), .val (.ref b2), .val (.int nv), .val (.ref b319), .unset] [(.int (dV nv (100000000 : Int32))), (.int (0 : Int32)), (.ref b319)])) rfl rfl (hb hby at_276)
                    have V364 : Arv Z h364 b319 k319 .char (9 : Int32) [(.int (nar .char (dV nv (100000000 : Int32)))), (.int (nar .char (dV nv (10000000 : Int32)))), (.int (nar .char (dV nv (1000000 : Int32)))), (.int (nar .char (dV nv (100000 : Int32)))), (.int (nar .char (dV nv (10000 : Int32)))), (.int (nar .char (dV nv (1000 : Int32)))), (.int (nar .char (dV nv (100 : Int32)))), (.int (nar .char (dV nv (10 : Int32)))), (.int (nar .char (dV nv (1 : Int32))))] (.int (0 : Int32)) := Arv.set Ar363 q363 S363 Nn363 Hh363 Gg363 (fits_nar_char _) W364 0 rfl (Nat.le_of_ble_eq_true rfl)
                    have K364 : Keep h0 h364 [] := Keep.wr K359 W364 (Or.inr sz_b319)
                    have Z364 : n0 ≤ h364.size := Nat.le_trans Z0 K364.1
                    have N364 := Fr.snoc X364 N362 g_b319
                    obtain ⟨lx365, Xx365, Nx365⟩ : ∃ lx, Stand p l e room_1 s m #[(.int p0), (.int p1)] below meth c T364 lx 2 19 ∧ Fr n0 lx := ⟨_, X364, N364⟩
                    have f366 := (f360.other W364 ne_b2_b319)
                    obtain ⟨T367, h367, X367, e367, E367, A367, D367, -, st367⟩ := newO Xx365 hx hZ hown (hw _ (List.mem_of_getElem? (i := 12) rfl)) (hw _ (List.mem_of_getElem? (i := 13) rfl)) (hw _ (List.mem_of_getElem? (i := 14) rfl)) e364 (g := (mkF m 329 #[.val (.int p0), .val (.int p1), .val (.int (9 : Int32)), .val (.ref b2), .val (.int nv), .val (.ref b319), .unset] [])) rfl (hb hby at_329) (by decide) (by decide)
                    obtain ⟨b367, g367⟩ : ∃ z, z = h364.size := ⟨_, rfl⟩
                    rw [← g367] at A367 D367 st367
                    have g_b367 : n0 ≤ b367 := Nat.le_trans Z364 (Nat.le_of_eq g367.symm)
                    have sz_b367 : h0.size ≤ b367 := Nat.le_trans K364.1 (Nat.le_of_eq g367.symm)
                    have ne_b2_b367 : b2 ≠ b367 := Nat.ne_of_lt (Nat.lt_of_lt_of_le f366.lt (Nat.le_of_eq g367.symm))
                    have ne_b319_b367 : b319 ≠ b367 := Nat.ne_of_lt (Nat.lt_of_lt_of_le V364.lt (Nat.le_of_eq g367.symm))
                    have K367 : Keep h0 h367 [] := Keep.ext K364 E367
                    have Z367 : n0 ≤ h367.size := Nat.le_trans Z0 K367.1
                    have F_coder_b367 : Fld Z h367 b367 "java/lang/String" "coder" "B" (.int (0 : Int32)) := D367 (Or.inr (hw _ (List.mem_of_getElem? (i := 38) rfl))) (ty := .byte) (by decide)
                    have F_value_b367 : Fld Z h367 b367 "java/lang/String" "value" "[B" .null := D367 (Or.inr (hw _ (List.mem_of_getElem? (i := 40) rfl))) (ty := (.array .byte)) (by decide)
                    have hdg : ∀ i, i < 9 → (([(nar .char (dV nv (100000000 : Int32))), (nar .char (dV nv (10000000 : Int32))), (nar .char (dV nv (1000000 : Int32))), (nar .char (dV nv (100000 : Int32))), (nar .char (dV nv (10000 : Int32))), (nar .char (dV nv (1000 : Int32))), (nar .char (dV nv (100 : Int32))), (nar .char (dV nv (10 : Int32))), (nar .char (dV nv (1 : Int32)))] : List Int32).getD i 0).toInt = 48 + (nv.toInt / 10 ^ (9 - 1 - i)) % 10 := fun i hi => match i, hi with
                      | 0, _ => by rw [show (([(nar .char (dV nv (100000000 : Int32))), (nar .char (dV nv (10000000 : Int32))), (nar .char (dV nv (1000000 : Int32))), (nar .char (dV nv (100000 : Int32))), (nar .char (dV nv (10000 : Int32))), (nar .char (dV nv (1000 : Int32))), (nar .char (dV nv (100 : Int32))), (nar .char (dV nv (10 : Int32))), (nar .char (dV nv (1 : Int32)))] : List Int32)).getD 0 0 = nar .char (dV nv (100000000 : Int32)) from rfl, own_dc nv (100000000 : Int32) hnb.1 (by decide)]; rfl
                      | 1, _ => by rw [show (([(nar .char (dV nv (100000000 : Int32))), (nar .char (dV nv (10000000 : Int32))), (nar .char (dV nv (1000000 : Int32))), (nar .char (dV nv (100000 : Int32))), (nar .char (dV nv (10000 : Int32))), (nar .char (dV nv (1000 : Int32))), (nar .char (dV nv (100 : Int32))), (nar .char (dV nv (10 : Int32))), (nar .char (dV nv (1 : Int32)))] : List Int32)).getD 1 0 = nar .char (dV nv (10000000 : Int32)) from rfl, own_dc nv (10000000 : Int32) hnb.1 (by decide)]; rfl
                      | 2, _ => by rw [show (([(nar .char (dV nv (100000000 : Int32))), (nar .char (dV nv (10000000 : Int32))), (nar .char (dV nv (1000000 : Int32))), (nar .char (dV nv (100000 : Int32))), (nar .char (dV nv (10000 : Int32))), (nar .char (dV nv (1000 : Int32))), (nar .char (dV nv (100 : Int32))), (nar .char (dV nv (10 : Int32))), (nar .char (dV nv (1 : Int32)))] : List Int32)).getD 2 0 = nar .char (dV nv (1000000 : Int32)) from rfl, own_dc nv (1000000 : Int32) hnb.1 (by decide)]; rfl
                      | 3, _ => by rw [show (([(nar .char (dV nv (100000000 : Int32))), (nar .char (dV nv (10000000 : Int32))), (nar .char (dV nv (1000000 : Int32))), (nar .char (dV nv (100000 : Int32))), (nar .char (dV nv (10000 : Int32))), (nar .char (dV nv (1000 : Int32))), (nar .char (dV nv (100 : Int32))), (nar .char (dV nv (10 : Int32))), (nar .char (dV nv (1 : Int32)))] : List Int32)).getD 3 0 = nar .char (dV nv (100000 : Int32)) from rfl, own_dc nv (100000 : Int32) hnb.1 (by decide)]; rfl
                      | 4, _ => by rw [show (([(nar .char (dV nv (100000000 : Int32))), (nar .char (dV nv (10000000 : Int32))), (nar .char (dV nv (1000000 : Int32))), (nar .char (dV nv (100000 : Int32))), (nar .char (dV nv (10000 : Int32))), (nar .char (dV nv (1000 : Int32))), (nar .char (dV nv (100 : Int32))), (nar .char (dV nv (10 : Int32))), (nar .char (dV nv (1 : Int32)))] : List Int32)).getD 4 0 = nar .char (dV nv (10000 : Int32)) from rfl, own_dc nv (10000 : Int32) hnb.1 (by decide)]; rfl
                      | 5, _ => by rw [show (([(nar .char (dV nv (100000000 : Int32))), (nar .char (dV nv (10000000 : Int32))), (nar .char (dV nv (1000000 : Int32))), (nar .char (dV nv (100000 : Int32))), (nar .char (dV nv (10000 : Int32))), (nar .char (dV nv (1000 : Int32))), (nar .char (dV nv (100 : Int32))), (nar .char (dV nv (10 : Int32))), (nar .char (dV nv (1 : Int32)))] : List Int32)).getD 5 0 = nar .char (dV nv (1000 : Int32)) from rfl, own_dc nv (1000 : Int32) hnb.1 (by decide)]; rfl
                      | 6, _ => by rw [show (([(nar .char (dV nv (100000000 : Int32))), (nar .char (dV nv (10000000 : Int32))), (nar .char (dV nv (1000000 : Int32))), (nar .char (dV nv (100000 : Int32))), (nar .char (dV nv (10000 : Int32))), (nar .char (dV nv (1000 : Int32))), (nar .char (dV nv (100 : Int32))), (nar .char (dV nv (10 : Int32))), (nar .char (dV nv (1 : Int32)))] : List Int32)).getD 6 0 = nar .char (dV nv (100 : Int32)) from rfl, own_dc nv (100 : Int32) hnb.1 (by decide)]; rfl
                      | 7, _ => by rw [show (([(nar .char (dV nv (100000000 : Int32))), (nar .char (dV nv (10000000 : Int32))), (nar .char (dV nv (1000000 : Int32))), (nar .char (dV nv (100000 : Int32))), (nar .char (dV nv (10000 : Int32))), (nar .char (dV nv (1000 : Int32))), (nar .char (dV nv (100 : Int32))), (nar .char (dV nv (10 : Int32))), (nar .char (dV nv (1 : Int32)))] : List Int32)).getD 7 0 = nar .char (dV nv (10 : Int32)) from rfl, own_dc nv (10 : Int32) hnb.1 (by decide)]; rfl
                      | 8, _ => by rw [show (([(nar .char (dV nv (100000000 : Int32))), (nar .char (dV nv (10000000 : Int32))), (nar .char (dV nv (1000000 : Int32))), (nar .char (dV nv (100000 : Int32))), (nar .char (dV nv (10000 : Int32))), (nar .char (dV nv (1000 : Int32))), (nar .char (dV nv (100 : Int32))), (nar .char (dV nv (10 : Int32))), (nar .char (dV nv (1 : Int32)))] : List Int32)).getD 8 0 = nar .char (dV nv (1 : Int32)) from rfl, own_dc nv (1 : Int32) hnb.1 (by decide)]; rfl
                      | k + 9, h => absurd h (by omega)
                    obtain ⟨hp, hdig, hval, hfin⟩ := own_facts ([(nar .char (dV nv (100000000 : Int32))), (nar .char (dV nv (10000000 : Int32))), (nar .char (dV nv (1000000 : Int32))), (nar .char (dV nv (100000 : Int32))), (nar .char (dV nv (10000 : Int32))), (nar .char (dV nv (1000 : Int32))), (nar .char (dV nv (100 : Int32))), (nar .char (dV nv (10 : Int32))), (nar .char (dV nv (1 : Int32)))] : List Int32) nv 9 rfl hnb.1 hnb.2 hdg
                    have f369 := (V364.ext E367)
                    have f370 := ((((((((((((((((((((((SC.ext E2).wr W4).wr W6).wr W8).wr W10).wr W12).wr W14).wr W16).wr W18).wr W20).wr W22).ext E319).wr W324).wr W329).wr W334).wr W339).wr W344).wr W349).wr W354).wr W359).wr W364).ext E367)
                    obtain ⟨_, _, ⟨T368, L368, k368, n368⟩, -, X368, ⟨Lc368, hQ368, l368, y368, z368⟩, st368⟩ := X367.specialBack hx (y := (⟨"java/lang/String", "<init>", "([C)V"⟩ : MethodName)) rfl hown (mvT hZ (hw _ (List.mem_of_getElem? (i := 15) rfl))) (mvT hZ (hw _ (List.mem_of_getElem? (i := 16) rfl))) (mvT hZ (hw _ (List.mem_of_getElem? (i := 17) rfl))) (by decide) (StrChars.Road.backV (W := 1) hZ hws (kI := 4) (hw _ (List.mem_of_getElem? (i := 13) rfl)) (cs := ([(nar .char (dV nv (100000000 : Int32))), (nar .char (dV nv (10000000 : Int32))), (nar .char (dV nv (1000000 : Int32))), (nar .char (dV nv (100000 : Int32))), (nar .char (dV nv (10000 : Int32))), (nar .char (dV nv (1000 : Int32))), (nar .char (dV nv (100 : Int32))), (nar .char (dV nv (10 : Int32))), (nar .char (dV nv (1 : Int32)))] : List Int32)) (bs := (([(nar .char (dV nv (100000000 : Int32))), (nar .char (dV nv (10000000 : Int32))), (nar .char (dV nv (1000000 : Int32))), (nar .char (dV nv (100000 : Int32))), (nar .char (dV nv (10000 : Int32))), (nar .char (dV nv (1000 : Int32))), (nar .char (dV nv (100 : Int32))), (nar .char (dV nv (10 : Int32))), (nar .char (dV nv (1 : Int32)))] : List Int32)).map (fun c => c.toInt8.toInt32)) (n := 9) g_b367 Z367 A367 F_value_b367 F_coder_b367 f369 f370 hC rfl rfl (by decide) (by decide) hp rfl (by decide) (by decide)) (g := (mkF m 335 #[.val (.int p0), .val (.int p1), .val (.int (9 : Int32)), .val (.ref b2), .val (.int nv), .val (.ref b319), .unset] [(.ref b319), (.ref b367), (.ref b367)])) rfl (by rw [hml]; rfl) (Steps.refl _) (a := b367) (argsL := [(.ref b319)]) (rest := [(.ref b367)]) (lenOf pd_4 rfl) rfl (by show 2 * 0 + _ ≤ _; exact Nat.le_of_eq rfl) (hb hby at_335) (fun _ _ => ⟨rfl, e367, (by decide : 3 + 1 ≤ _), (by decide : 23 + 9 ≤ _)⟩)
                    dsimp only [Pt.U, Pt.locs, Pt.cells, Pt.slots] at X368 l368 y368 z368 st368 hQ368
                    subst l368 y368 z368
                    obtain ⟨rfl, N368q, K368, Ex368, Fc368, bt368, kb368, gt368, ge368, nt368, Fv368, AV368⟩ := hQ368
                    have sk371 := own_sta_keep1 f370 A367 K368
                    have f372 := ((((((((((((((((((((((SG.ext E2).wr W4).wr W6).wr W8).wr W10).wr W12).wr W14).wr W16).wr W18).wr W20).wr W22).ext E319).wr W324).wr W329).wr W334).wr W339).wr W344).wr W349).wr W354).wr W359).wr W364).ext E367)
                    have sk373 := own_sta_keep1 f372 A367 K368
                    have KK368 : Keep h0 T368.heap [] := Keep.trans K367 K368 (own_side1 (Or.inr sz_b367))
                    have Z368 : n0 ≤ T368.heap.size := Nat.le_trans Z0 KK368.1
                    have N368 := Fr.app Nx365 N368q
                    obtain ⟨lx374, Xx374, Nx374⟩ : ∃ lx, Stand p l e room_1 s m #[(.int p0), (.int p1)] below meth c T368 lx 4 32 ∧ Fr n0 lx := ⟨_, X368, N368⟩
                    obtain ⟨_, _, ⟨T375, L375, k375, n375⟩, -, X375, ⟨Lc375, hQ375, l375, y375, z375⟩, st375⟩ := Jvm.LawKit.callS Xx374 hx (y := (⟨"com/example/libforeword/libforeword/wordlist/Entry", "parseFrequency", "(Ljava/lang/String;)I"⟩ : MethodName)) hown (mvT hZ (hw _ (List.mem_of_getElem? (i := 41) rfl))) (mvT hZ (hw _ (List.mem_of_getElem? (i := 42) rfl))) (mvT hZ (hw _ (List.mem_of_getElem? (i := 43) rfl))) (mvT hZ (hw _ (List.mem_of_getElem? (i := 44) rfl))) (by decide) (backOf (W := 0) (rmPF l Z a0 hw [] b367 bt368 kb368 ([(nar .char (dV nv (100000000 : Int32))), (nar .char (dV nv (10000000 : Int32))), (nar .char (dV nv (1000000 : Int32))), (nar .char (dV nv (100000 : Int32))), (nar .char (dV nv (10000 : Int32))), (nar .char (dV nv (1000 : Int32))), (nar .char (dV nv (100 : Int32))), (nar .char (dV nv (10 : Int32))), (nar .char (dV nv (1 : Int32)))] : List Int32) iC vG T368.heap n0 Z368 Ex368 Fc368 Fv368 AV368 sk371 hC sk373 hvG hp (by show 0 < 9; decide) (by show 9 ≤ 12; decide) hdig hval) hZ (hw _ (List.mem_of_getElem? (i := 44) rfl)) (hw _ (List.mem_of_getElem? (i := 43) rfl)) (by decide) (by decide)) (g := (mkF m 342 #[.val (.int p0), .val (.int p1), .val (.int (9 : Int32)), .val (.ref b2), .val (.int nv), .val (.ref b319), .val (.ref b367)] [(.ref b367)])) rfl (by rw [hml]; rfl) (argsL := [(.ref b367)]) (rest := []) (lenOf pd_5 rfl) rfl (by show 2 * 0 + _ ≤ _; exact Nat.le_of_eq rfl) (hb hby at_342) (fun _ _ => ⟨rfl, rfl, (by decide : 4 + 0 ≤ _), (by decide : 32 + 0 ≤ _)⟩)
                    dsimp only [Pt.U, Pt.locs, Pt.cells, Pt.slots] at X375 l375 y375 z375 st375 hQ375
                    subst l375 y375 z375
                    obtain ⟨rfl, N375q, e375⟩ := hQ375
                    have N375 := Fr.app Nx374 N375q
                    obtain ⟨fs, hr, hrun, hended, hW, hsame⟩ := X375.leave (v := some (.int (1 : Int32))) (fun h => by rw [Bd.returns] at h; cases h)
                    refine ⟨_, _, pre318 _ ?_, hrun, hended, _, _, rfl, ?_, ⟨_, rfl⟩, hW, hsame.mono (by decide) (by decide)⟩
                    · show Steps p.tables e below (T22.setTop (mkF m 90 #[.val (.int p0), .val (.int p1), .val (.int (9 : Int32)), .val (.ref b2), .val (.int nv), .unset, .unset] [])) _
                      refine XS.iloadN Xx24.here hx rfl (hb hby at_90) rfl ?_
                      show Steps p.tables e below (T22.setTop (mkF m 91 #[.val (.int p0), .val (.int p1), .val (.int (9 : Int32)), .val (.ref b2), .val (.int nv), .unset, .unset] [(.int (9 : Int32))])) _
                      refine st319 _ ?_
                      refine XS.astore X319.here hx rfl (hb hby at_93) rfl rfl (l' := #[.val (.int p0), .val (.int p1), .val (.int (9 : Int32)), .val (.ref b2), .val (.int nv), .val (.ref b319), .unset]) rfl ?_
                      refine XS.iloadN X319.here hx rfl (hb hby at_95) rfl ?_
                      refine XS.iconst X319.here hx rfl (hb hby at_96) ?_
                      show Steps p.tables e below (T319.setTop (mkF m 97 #[.val (.int p0), .val (.int p1), .val (.int (9 : Int32)), .val (.ref b2), .val (.int nv), .val (.ref b319), .unset] [(.int (1 : Int32)), (.int (9 : Int32))])) _
                      refine XS.icmpNo X319.here hx rfl (hb hby at_97) rfl (flt (show ¬ ((9 : Int32) < (1 : Int32)) from (by decide))).1 ?_
                      refine XS.aload X319.here hx rfl (hb hby at_100) rfl rfl ?_
                      refine XS.iloadN X319.here hx rfl (hb hby at_102) rfl ?_
                      refine XS.iconst X319.here hx rfl (hb hby at_103) ?_
                      show Steps p.tables e below (T319.setTop (mkF m 104 #[.val (.int p0), .val (.int p1), .val (.int (9 : Int32)), .val (.ref b2), .val (.int nv), .val (.ref b319), .unset] [(.int (1 : Int32)), (.int (9 : Int32)), (.ref b319)])) _
                      refine XS.isub X319.here hx rfl (hb hby at_104) rfl ?_
                      refine XS.iload X319.here hx rfl (hb hby at_105) rfl ?_
                      refine XS.aloadN X319.here hx rfl (hb hby at_107) rfl rfl ?_
                      refine XS.iconst X319.here hx rfl (hb hby at_108) ?_
                      show Steps p.tables e below (T319.setTop (mkF m 109 #[.val (.int p0), .val (.int p1), .val (.int (9 : Int32)), .val (.ref b2), .val (.int nv), .val (.ref b319), .unset] [(.int (0 : Int32)), (.ref b2), (.int nv), (.int (8 : Int32)), (.ref b319)])) _
                      refine X319.iaload hx (j := (0 : Int32)) (v := (.int (1 : Int32))) (by rw [e319]; exact Ar321.1) (State.isArrayOf_alike hZ.alike Ar321.2.1) Ar321.2.2 hin321 hat321 (g := (mkF m 109 #[.val (.int p0), .val (.int p1), .val (.int (9 : Int32)), .val (.ref b2), .val (.int nv), .val (.ref b319), .unset] [(.int (0 : Int32)), (.ref b2), (.int nv), (.int (8 : Int32)), (.ref b319)])) rfl rfl (hb hby at_109) _ ?_
                      show Steps p.tables e below (T319.setTop (mkF m 110 #[.val (.int p0), .val (.int p1), .val (.int (9 : Int32)), .val (.ref b2), .val (.int nv), .val (.ref b319), .unset] [(.int (1 : Int32)), (.int nv), (.int (8 : Int32)), (.ref b319)])) _
                      refine st322 _ ?_
                      show Steps p.tables e below (T322.setTop (mkF m 113 #[.val (.int p0), .val (.int p1), .val (.int (9 : Int32)), .val (.ref b2), .val (.int nv), .val (.ref b319), .unset] [(.int (dV nv (1 : Int32))), (.int (8 : Int32)), (.ref b319)])) _
                      refine st324 _ ?_
                      refine XS.iloadN X324.here hx rfl (hb hby at_114) rfl ?_
                      refine XS.iconst X324.here hx rfl (hb hby at_115) ?_
                      show Steps p.tables e below (T324.setTop (mkF m 116 #[.val (.int p0), .val (.int p1), .val (.int (9 : Int32)), .val (.ref b2), .val (.int nv), .val (.ref b319), .unset] [(.int (2 : Int32)), (.int (9 : Int32))])) _
                      refine XS.icmpNo X324.here hx rfl (hb hby at_116) rfl (flt (show ¬ ((9 : Int32) < (2 : Int32)) from (by decide))).1 ?_
                      refine XS.aload X324.here hx rfl (hb hby at_119) rfl rfl ?_
                      refine XS.iloadN X324.here hx rfl (hb hby at_121) rfl ?_
                      refine XS.iconst X324.here hx rfl (hb hby at_122) ?_
                      show Steps p.tables e below (T324.setTop (mkF m 123 #[.val (.int p0), .val (.int p1), .val (.int (9 : Int32)), .val (.ref b2), .val (.int nv), .val (.ref b319), .unset] [(.int (2 : Int32)), (.int (9 : Int32)), (.ref b319)])) _
                      refine XS.isub X324.here hx rfl (hb hby at_123) rfl ?_
                      refine XS.iload X324.here hx rfl (hb hby at_124) rfl ?_
                      refine XS.aloadN X324.here hx rfl (hb hby at_126) rfl rfl ?_
                      refine XS.iconst X324.here hx rfl (hb hby at_127) ?_
                      show Steps p.tables e below (T324.setTop (mkF m 128 #[.val (.int p0), .val (.int p1), .val (.int (9 : Int32)), .val (.ref b2), .val (.int nv), .val (.ref b319), .unset] [(.int (1 : Int32)), (.ref b2), (.int nv), (.int (7 : Int32)), (.ref b319)])) _
                      refine X324.iaload hx (j := (1 : Int32)) (v := (.int (10 : Int32))) (by rw [e324]; exact Ar326.1) (State.isArrayOf_alike hZ.alike Ar326.2.1) Ar326.2.2 hin326 hat326 (g := (mkF m 128 #[.val (.int p0), .val (.int p1), .val (.int (9 : Int32)), .val (.ref b2), .val (.int nv), .val (.ref b319), .unset] [(.int (1 : Int32)), (.ref b2), (.int nv), (.int (7 : Int32)), (.ref b319)])) rfl rfl (hb hby at_128) _ ?_
                      show Steps p.tables e below (T324.setTop (mkF m 129 #[.val (.int p0), .val (.int p1), .val (.int (9 : Int32)), .val (.ref b2), .val (.int nv), .val (.ref b319), .unset] [(.int (10 : Int32)), (.int nv), (.int (7 : Int32)), (.ref b319)])) _
                      refine st327 _ ?_
                      show Steps p.tables e below (T327.setTop (mkF m 132 #[.val (.int p0), .val (.int p1), .val (.int (9 : Int32)), .val (.ref b2), .val (.int nv), .val (.ref b319), .unset] [(.int (dV nv (10 : Int32))), (.int (7 : Int32)), (.ref b319)])) _
                      refine st329 _ ?_
                      refine XS.iloadN X329.here hx rfl (hb hby at_133) rfl ?_
                      refine XS.iconst X329.here hx rfl (hb hby at_134) ?_
                      show Steps p.tables e below (T329.setTop (mkF m 135 #[.val (.int p0), .val (.int p1), .val (.int (9 : Int32)), .val (.ref b2), .val (.int nv), .val (.ref b319), .unset] [(.int (3 : Int32)), (.int (9 : Int32))])) _
                      refine XS.icmpNo X329.here hx rfl (hb hby at_135) rfl (flt (show ¬ ((9 : Int32) < (3 : Int32)) from (by decide))).1 ?_
                      refine XS.aload X329.here hx rfl (hb hby at_138) rfl rfl ?_
                      refine XS.iloadN X329.here hx rfl (hb hby at_140) rfl ?_
                      refine XS.iconst X329.here hx rfl (hb hby at_141) ?_
                      show Steps p.tables e below (T329.setTop (mkF m 142 #[.val (.int p0), .val (.int p1), .val (.int (9 : Int32)), .val (.ref b2), .val (.int nv), .val (.ref b319), .unset] [(.int (3 : Int32)), (.int (9 : Int32)), (.ref b319)])) _
                      refine XS.isub X329.here hx rfl (hb hby at_142) rfl ?_
                      refine XS.iload X329.here hx rfl (hb hby at_143) rfl ?_
                      refine XS.aloadN X329.here hx rfl (hb hby at_145) rfl rfl ?_
                      refine XS.iconst X329.here hx rfl (hb hby at_146) ?_
                      show Steps p.tables e below (T329.setTop (mkF m 147 #[.val (.int p0), .val (.int p1), .val (.int (9 : Int32)), .val (.ref b2), .val (.int nv), .val (.ref b319), .unset] [(.int (2 : Int32)), (.ref b2), (.int nv), (.int (6 : Int32)), (.ref b319)])) _
                      refine X329.iaload hx (j := (2 : Int32)) (v := (.int (100 : Int32))) (by rw [e329]; exact Ar331.1) (State.isArrayOf_alike hZ.alike Ar331.2.1) Ar331.2.2 hin331 hat331 (g := (mkF m 147 #[.val (.int p0), .val (.int p1), .val (.int (9 : Int32)), .val (.ref b2), .val (.int nv), .val (.ref b319), .unset] [(.int (2 : Int32)), (.ref b2), (.int nv), (.int (6 : Int32)), (.ref b319)])) rfl rfl (hb hby at_147) _ ?_
                      show Steps p.tables e below (T329.setTop (mkF m 148 #[.val (.int p0), .val (.int p1), .val (.int (9 : Int32)), .val (.ref b2), .val (.int nv), .val (.ref b319), .unset] [(.int (100 : Int32)), (.int nv), (.int (6 : Int32)), (.ref b319)])) _
                      refine st332 _ ?_
                      show Steps p.tables e below (T332.setTop (mkF m 151 #[.val (.int p0), .val (.int p1), .val (.int (9 : Int32)), .val (.ref b2), .val (.int nv), .val (.ref b319), .unset] [(.int (dV nv (100 : Int32))), (.int (6 : Int32)), (.ref b319)])) _
                      refine st334 _ ?_
                      refine XS.iloadN X334.here hx rfl (hb hby at_152) rfl ?_
                      refine XS.iconst X334.here hx rfl (hb hby at_153) ?_
                      show Steps p.tables e below (T334.setTop (mkF m 154 #[.val (.int p0), .val (.int p1), .val (.int (9 : Int32)), .val (.ref b2), .val (.int nv), .val (.ref b319), .unset] [(.int (4 : Int32)), (.int (9 : Int32))])) _
                      refine XS.icmpNo X334.here hx rfl (hb hby at_154) rfl (flt (show ¬ ((9 : Int32) < (4 : Int32)) from (by decide))).1 ?_
                      refine XS.aload X334.here hx rfl (hb hby at_157) rfl rfl ?_
                      refine XS.iloadN X334.here hx rfl (hb hby at_159) rfl ?_
                      refine XS.iconst X334.here hx rfl (hb hby at_160) ?_
                      show Steps p.tables e below (T334.setTop (mkF m 161 #[.val (.int p0), .val (.int p1), .val (.int (9 : Int32)), .val (.ref b2), .val (.int nv), .val (.ref b319), .unset] [(.int (4 : Int32)), (.int (9 : Int32)), (.ref b319)])) _
                      refine XS.isub X334.here hx rfl (hb hby at_161) rfl ?_
                      refine XS.iload X334.here hx rfl (hb hby at_162) rfl ?_
                      refine XS.aloadN X334.here hx rfl (hb hby at_164) rfl rfl ?_
                      refine XS.iconst X334.here hx rfl (hb hby at_165) ?_
                      show Steps p.tables e below (T334.setTop (mkF m 166 #[.val (.int p0), .val (.int p1), .val (.int (9 : Int32)), .val (.ref b2), .val (.int nv), .val (.ref b319), .unset] [(.int (3 : Int32)), (.ref b2), (.int nv), (.int (5 : Int32)), (.ref b319)])) _
                      refine X334.iaload hx (j := (3 : Int32)) (v := (.int (1000 : Int32))) (by rw [e334]; exact Ar336.1) (State.isArrayOf_alike hZ.alike Ar336.2.1) Ar336.2.2 hin336 hat336 (g := (mkF m 166 #[.val (.int p0), .val (.int p1), .val (.int (9 : Int32)), .val (.ref b2), .val (.int nv), .val (.ref b319), .unset] [(.int (3 : Int32)), (.ref b2), (.int nv), (.int (5 : Int32)), (.ref b319)])) rfl rfl (hb hby at_166) _ ?_
                      show Steps p.tables e below (T334.setTop (mkF m 167 #[.val (.int p0), .val (.int p1), .val (.int (9 : Int32)), .val (.ref b2), .val (.int nv), .val (.ref b319), .unset] [(.int (1000 : Int32)), (.int nv), (.int (5 : Int32)), (.ref b319)])) _
                      refine st337 _ ?_
                      show Steps p.tables e below (T337.setTop (mkF m 170 #[.val (.int p0), .val (.int p1), .val (.int (9 : Int32)), .val (.ref b2), .val (.int nv), .val (.ref b319), .unset] [(.int (dV nv (1000 : Int32))), (.int (5 : Int32)), (.ref b319)])) _
                      refine st339 _ ?_
                      refine XS.iloadN X339.here hx rfl (hb hby at_171) rfl ?_
                      refine XS.iconst X339.here hx rfl (hb hby at_172) ?_
                      show Steps p.tables e below (T339.setTop (mkF m 173 #[.val (.int p0), .val (.int p1), .val (.int (9 : Int32)), .val (.ref b2), .val (.int nv), .val (.ref b319), .unset] [(.int (5 : Int32)), (.int (9 : Int32))])) _
                      refine XS.icmpNo X339.here hx rfl (hb hby at_173) rfl (flt (show ¬ ((9 : Int32) < (5 : Int32)) from (by decide))).1 ?_
                      refine XS.aload X339.here hx rfl (hb hby at_176) rfl rfl ?_
                      refine XS.iloadN X339.here hx rfl (hb hby at_178) rfl ?_
                      refine XS.iconst X339.here hx rfl (hb hby at_179) ?_
                      show Steps p.tables e below (T339.setTop (mkF m 180 #[.val (.int p0), .val (.int p1), .val (.int (9 : Int32)), .val (.ref b2), .val (.int nv), .val (.ref b319), .unset] [(.int (5 : Int32)), (.int (9 : Int32)), (.ref b319)])) _
                      refine XS.isub X339.here hx rfl (hb hby at_180) rfl ?_
                      refine XS.iload X339.here hx rfl (hb hby at_181) rfl ?_
                      refine XS.aloadN X339.here hx rfl (hb hby at_183) rfl rfl ?_
                      refine XS.iconst X339.here hx rfl (hb hby at_184) ?_
                      show Steps p.tables e below (T339.setTop (mkF m 185 #[.val (.int p0), .val (.int p1), .val (.int (9 : Int32)), .val (.ref b2), .val (.int nv), .val (.ref b319), .unset] [(.int (4 : Int32)), (.ref b2), (.int nv), (.int (4 : Int32)), (.ref b319)])) _
                      refine X339.iaload hx (j := (4 : Int32)) (v := (.int (10000 : Int32))) (by rw [e339]; exact Ar341.1) (State.isArrayOf_alike hZ.alike Ar341.2.1) Ar341.2.2 hin341 hat341 (g := (mkF m 185 #[.val (.int p0), .val (.int p1), .val (.int (9 : Int32)), .val (.ref b2), .val (.int nv), .val (.ref b319), .unset] [(.int (4 : Int32)), (.ref b2), (.int nv), (.int (4 : Int32)), (.ref b319)])) rfl rfl (hb hby at_185) _ ?_
                      show Steps p.tables e below (T339.setTop (mkF m 186 #[.val (.int p0), .val (.int p1), .val (.int (9 : Int32)), .val (.ref b2), .val (.int nv), .val (.ref b319), .unset] [(.int (10000 : Int32)), (.int nv), (.int (4 : Int32)), (.ref b319)])) _
                      refine st342 _ ?_
                      show Steps p.tables e below (T342.setTop (mkF m 189 #[.val (.int p0), .val (.int p1), .val (.int (9 : Int32)), .val (.ref b2), .val (.int nv), .val (.ref b319), .unset] [(.int (dV nv (10000 : Int32))), (.int (4 : Int32)), (.ref b319)])) _
                      refine st344 _ ?_
                      refine XS.iloadN X344.here hx rfl (hb hby at_190) rfl ?_
                      refine XS.bipush X344.here hx rfl (hb hby at_191) ?_
                      show Steps p.tables e below (T344.setTop (mkF m 193 #[.val (.int p0), .val (.int p1), .val (.int (9 : Int32)), .val (.ref b2), .val (.int nv), .val (.ref b319), .unset] [(.int (6 : Int32)), (.int (9 : Int32))])) _
                      refine XS.icmpNo X344.here hx rfl (hb hby at_193) rfl (flt (show ¬ ((9 : Int32) < (6 : Int32)) from (by decide))).1 ?_
                      refine XS.aload X344.here hx rfl (hb hby at_196) rfl rfl ?_
                      refine XS.iloadN X344.here hx rfl (hb hby at_198) rfl ?_
                      refine XS.bipush X344.here hx rfl (hb hby at_199) ?_
                      show Steps p.tables e below (T344.setTop (mkF m 201 #[.val (.int p0), .val (.int p1), .val (.int (9 : Int32)), .val (.ref b2), .val (.int nv), .val (.ref b319), .unset] [(.int (6 : Int32)), (.int (9 : Int32)), (.ref b319)])) _
                      refine XS.isub X344.here hx rfl (hb hby at_201) rfl ?_
                      refine XS.iload X344.here hx rfl (hb hby at_202) rfl ?_
                      refine XS.aloadN X344.here hx rfl (hb hby at_204) rfl rfl ?_
                      refine XS.iconst X344.here hx rfl (hb hby at_205) ?_
                      show Steps p.tables e below (T344.setTop (mkF m 206 #[.val (.int p0), .val (.int p1), .val (.int (9 : Int32)), .val (.ref b2), .val (.int nv), .val (.ref b319), .unset] [(.int (5 : Int32)), (.ref b2), (.int nv), (.int (3 : Int32)), (.ref b319)])) _
                      refine X344.iaload hx (j := (5 : Int32)) (v := (.int (100000 : Int32))) (by rw [e344]; exact Ar346.1) (State.isArrayOf_alike hZ.alike Ar346.2.1) Ar346.2.2 hin346 hat346 (g := (mkF m 206 #[.val (.int p0), .val (.int p1), .val (.int (9 : Int32)), .val (.ref b2), .val (.int nv), .val (.ref b319), .unset] [(.int (5 : Int32)), (.ref b2), (.int nv), (.int (3 : Int32)), (.ref b319)])) rfl rfl (hb hby at_206) _ ?_
                      show Steps p.tables e below (T344.setTop (mkF m 207 #[.val (.int p0), .val (.int p1), .val (.int (9 : Int32)), .val (.ref b2), .val (.int nv), .val (.ref b319), .unset] [(.int (100000 : Int32)), (.int nv), (.int (3 : Int32)), (.ref b319)])) _
                      refine st347 _ ?_
                      show Steps p.tables e below (T347.setTop (mkF m 210 #[.val (.int p0), .val (.int p1), .val (.int (9 : Int32)), .val (.ref b2), .val (.int nv), .val (.ref b319), .unset] [(.int (dV nv (100000 : Int32))), (.int (3 : Int32)), (.ref b319)])) _
                      refine st349 _ ?_
                      refine XS.iloadN X349.here hx rfl (hb hby at_211) rfl ?_
                      refine XS.bipush X349.here hx rfl (hb hby at_212) ?_
                      show Steps p.tables e below (T349.setTop (mkF m 214 #[.val (.int p0), .val (.int p1), .val (.int (9 : Int32)), .val (.ref b2), .val (.int nv), .val (.ref b319), .unset] [(.int (7 : Int32)), (.int (9 : Int32))])) _
                      refine XS.icmpNo X349.here hx rfl (hb hby at_214) rfl (flt (show ¬ ((9 : Int32) < (7 : Int32)) from (by decide))).1 ?_
                      refine XS.aload X349.here hx rfl (hb hby at_217) rfl rfl ?_
                      refine XS.iloadN X349.here hx rfl (hb hby at_219) rfl ?_
                      refine XS.bipush X349.here hx rfl (hb hby at_220) ?_
                      show Steps p.tables e below (T349.setTop (mkF m 222 #[.val (.int p0), .val (.int p1), .val (.int (9 : Int32)), .val (.ref b2), .val (.int nv), .val (.ref b319), .unset] [(.int (7 : Int32)), (.int (9 : Int32)), (.ref b319)])) _
                      refine XS.isub X349.here hx rfl (hb hby at_222) rfl ?_
                      refine XS.iload X349.here hx rfl (hb hby at_223) rfl ?_
                      refine XS.aloadN X349.here hx rfl (hb hby at_225) rfl rfl ?_
                      refine XS.bipush X349.here hx rfl (hb hby at_226) ?_
                      show Steps p.tables e below (T349.setTop (mkF m 228 #[.val (.int p0), .val (.int p1), .val (.int (9 : Int32)), .val (.ref b2), .val (.int nv), .val (.ref b319), .unset] [(.int (6 : Int32)), (.ref b2), (.int nv), (.int (2 : Int32)), (.ref b319)])) _
                      refine X349.iaload hx (j := (6 : Int32)) (v := (.int (1000000 : Int32))) (by rw [e349]; exact Ar351.1) (State.isArrayOf_alike hZ.alike Ar351.2.1) Ar351.2.2 hin351 hat351 (g := (mkF m 228 #[.val (.int p0), .val (.int p1), .val (.int (9 : Int32)), .val (.ref b2), .val (.int nv), .val (.ref b319), .unset] [(.int (6 : Int32)), (.ref b2), (.int nv), (.int (2 : Int32)), (.ref b319)])) rfl rfl (hb hby at_228) _ ?_
                      show Steps p.tables e below (T349.setTop (mkF m 229 #[.val (.int p0), .val (.int p1), .val (.int (9 : Int32)), .val (.ref b2), .val (.int nv), .val (.ref b319), .unset] [(.int (1000000 : Int32)), (.int nv), (.int (2 : Int32)), (.ref b319)])) _
                      refine st352 _ ?_
                      show Steps p.tables e below (T352.setTop (mkF m 232 #[.val (.int p0), .val (.int p1), .val (.int (9 : Int32)), .val (.ref b2), .val (.int nv), .val (.ref b319), .unset] [(.int (dV nv (1000000 : Int32))), (.int (2 : Int32)), (.ref b319)])) _
                      refine st354 _ ?_
                      refine XS.iloadN X354.here hx rfl (hb hby at_233) rfl ?_
                      refine XS.bipush X354.here hx rfl (hb hby at_234) ?_
                      show Steps p.tables e below (T354.setTop (mkF m 236 #[.val (.int p0), .val (.int p1), .val (.int (9 : Int32)), .val (.ref b2), .val (.int nv), .val (.ref b319), .unset] [(.int (8 : Int32)), (.int (9 : Int32))])) _
                      refine XS.icmpNo X354.here hx rfl (hb hby at_236) rfl (flt (show ¬ ((9 : Int32) < (8 : Int32)) from (by decide))).1 ?_
                      refine XS.aload X354.here hx rfl (hb hby at_239) rfl rfl ?_
                      refine XS.iloadN X354.here hx rfl (hb hby at_241) rfl ?_
                      refine XS.bipush X354.here hx rfl (hb hby at_242) ?_
                      show Steps p.tables e below (T354.setTop (mkF m 244 #[.val (.int p0), .val (.int p1), .val (.int (9 : Int32)), .val (.ref b2), .val (.int nv), .val (.ref b319), .unset] [(.int (8 : Int32)), (.int (9 : Int32)), (.ref b319)])) _
                      refine XS.isub X354.here hx rfl (hb hby at_244) rfl ?_
                      refine XS.iload X354.here hx rfl (hb hby at_245) rfl ?_
                      refine XS.aloadN X354.here hx rfl (hb hby at_247) rfl rfl ?_
                      refine XS.bipush X354.here hx rfl (hb hby at_248) ?_
                      show Steps p.tables e below (T354.setTop (mkF m 250 #[.val (.int p0), .val (.int p1), .val (.int (9 : Int32)), .val (.ref b2), .val (.int nv), .val (.ref b319), .unset] [(.int (7 : Int32)), (.ref b2), (.int nv), (.int (1 : Int32)), (.ref b319)])) _
                      refine X354.iaload hx (j := (7 : Int32)) (v := (.int (10000000 : Int32))) (by rw [e354]; exact Ar356.1) (State.isArrayOf_alike hZ.alike Ar356.2.1) Ar356.2.2 hin356 hat356 (g := (mkF m 250 #[.val (.int p0), .val (.int p1), .val (.int (9 : Int32)), .val (.ref b2), .val (.int nv), .val (.ref b319), .unset] [(.int (7 : Int32)), (.ref b2), (.int nv), (.int (1 : Int32)), (.ref b319)])) rfl rfl (hb hby at_250) _ ?_
                      show Steps p.tables e below (T354.setTop (mkF m 251 #[.val (.int p0), .val (.int p1), .val (.int (9 : Int32)), .val (.ref b2), .val (.int nv), .val (.ref b319), .unset] [(.int (10000000 : Int32)), (.int nv), (.int (1 : Int32)), (.ref b319)])) _
                      refine st357 _ ?_
                      show Steps p.tables e below (T357.setTop (mkF m 254 #[.val (.int p0), .val (.int p1), .val (.int (9 : Int32)), .val (.ref b2), .val (.int nv), .val (.ref b319), .unset] [(.int (dV nv (10000000 : Int32))), (.int (1 : Int32)), (.ref b319)])) _
                      refine st359 _ ?_
                      refine XS.iloadN X359.here hx rfl (hb hby at_255) rfl ?_
                      refine XS.bipush X359.here hx rfl (hb hby at_256) ?_
                      show Steps p.tables e below (T359.setTop (mkF m 258 #[.val (.int p0), .val (.int p1), .val (.int (9 : Int32)), .val (.ref b2), .val (.int nv), .val (.ref b319), .unset] [(.int (9 : Int32)), (.int (9 : Int32))])) _
                      refine XS.icmpNo X359.here hx rfl (hb hby at_258) rfl (flt (show ¬ ((9 : Int32) < (9 : Int32)) from (by decide))).1 ?_
                      refine XS.aload X359.here hx rfl (hb hby at_261) rfl rfl ?_
                      refine XS.iloadN X359.here hx rfl (hb hby at_263) rfl ?_
                      refine XS.bipush X359.here hx rfl (hb hby at_264) ?_
                      show Steps p.tables e below (T359.setTop (mkF m 266 #[.val (.int p0), .val (.int p1), .val (.int (9 : Int32)), .val (.ref b2), .val (.int nv), .val (.ref b319), .unset] [(.int (9 : Int32)), (.int (9 : Int32)), (.ref b319)])) _
                      refine XS.isub X359.here hx rfl (hb hby at_266) rfl ?_
                      refine XS.iload X359.here hx rfl (hb hby at_267) rfl ?_
                      refine XS.aloadN X359.here hx rfl (hb hby at_269) rfl rfl ?_
                      refine XS.bipush X359.here hx rfl (hb hby at_270) ?_
                      show Steps p.tables e below (T359.setTop (mkF m 272 #[.val (.int p0), .val (.int p1), .val (.int (9 : Int32)), .val (.ref b2), .val (.int nv), .val (.ref b319), .unset] [(.int (8 : Int32)), (.ref b2), (.int nv), (.int (0 : Int32)), (.ref b319)])) _
                      refine X359.iaload hx (j := (8 : Int32)) (v := (.int (100000000 : Int32))) (by rw [e359]; exact Ar361.1) (State.isArrayOf_alike hZ.alike Ar361.2.1) Ar361.2.2 hin361 hat361 (g := (mkF m 272 #[.val (.int p0), .val (.int p1), .val (.int (9 : Int32)), .val (.ref b2), .val (.int nv), .val (.ref b319), .unset] [(.int (8 : Int32)), (.ref b2), (.int nv), (.int (0 : Int32)), (.ref b319)])) rfl rfl (hb hby at_272) _ ?_
                      show Steps p.tables e below (T359.setTop (mkF m 273 #[.val (.int p0), .val (.int p1), .val (.int (9 : Int32)), .val (.ref b2), .val (.int nv), .val (.ref b319), .unset] [(.int (100000000 : Int32)), (.int nv), (.int (0 : Int32)), (.ref b319)])) _
                      refine st362 _ ?_
                      show Steps p.tables e below (T362.setTop (mkF m 276 #[.val (.int p0), .val (.int p1), .val (.int (9 : Int32)), .val (.ref b2), .val (.int nv), .val (.ref b319), .unset] [(.int (dV nv (100000000 : Int32))), (.int (0 : Int32)), (.ref b319)])) _
                      refine st364 _ ?_
                      refine XS.iloadN X364.here hx rfl (hb hby at_277) rfl ?_
                      refine XS.bipush X364.here hx rfl (hb hby at_278) ?_
                      show Steps p.tables e below (T364.setTop (mkF m 280 #[.val (.int p0), .val (.int p1), .val (.int (9 : Int32)), .val (.ref b2), .val (.int nv), .val (.ref b319), .unset] [(.int (10 : Int32)), (.int (9 : Int32))])) _
                      refine XS.icmpYes X364.here hx rfl (pc0 := 280) (pc' := 299) rfl (hb hby at_280) rfl (tlt (show (9 : Int32) < (10 : Int32) from (by decide))).1 (by decide) (by decide) ?_
                      refine XS.iloadN X364.here hx rfl (hb hby at_299) rfl ?_
                      refine XS.bipush X364.here hx rfl (hb hby at_300) ?_
                      show Steps p.tables e below (T364.setTop (mkF m 302 #[.val (.int p0), .val (.int p1), .val (.int (9 : Int32)), .val (.ref b2), .val (.int nv), .val (.ref b319), .unset] [(.int (11 : Int32)), (.int (9 : Int32))])) _
                      refine XS.icmpYes X364.here hx rfl (pc0 := 302) (pc' := 314) rfl (hb hby at_302) rfl (tlt (show (9 : Int32) < (11 : Int32) from (by decide))).1 (by decide) (by decide) ?_
                      refine XS.iloadN X364.here hx rfl (hb hby at_314) rfl ?_
                      refine XS.bipush X364.here hx rfl (hb hby at_315) ?_
                      show Steps p.tables e below (T364.setTop (mkF m 317 #[.val (.int p0), .val (.int p1), .val (.int (9 : Int32)), .val (.ref b2), .val (.int nv), .val (.ref b319), .unset] [(.int (12 : Int32)), (.int (9 : Int32))])) _
                      refine XS.icmpYes X364.here hx rfl (pc0 := 317) (pc' := 329) rfl (hb hby at_317) rfl (tlt (show (9 : Int32) < (12 : Int32) from (by decide))).1 (by decide) (by decide) ?_
                      show Steps p.tables e below (T364.setTop (mkF m 329 #[.val (.int p0), .val (.int p1), .val (.int (9 : Int32)), .val (.ref b2), .val (.int nv), .val (.ref b319), .unset] [])) _
                      refine st367 _ ?_
                      show Steps p.tables e below (T367.setTop (mkF m 332 #[.val (.int p0), .val (.int p1), .val (.int (9 : Int32)), .val (.ref b2), .val (.int nv), .val (.ref b319), .unset] [(.ref b367)])) _
                      refine XS.dup X367.here hx rfl (hb hby at_332) rfl rfl ?_
                      refine XS.aload X367.here hx rfl (hb hby at_333) rfl rfl ?_
                      show Steps p.tables e below (T367.setTop (mkF m 335 #[.val (.int p0), .val (.int p1), .val (.int (9 : Int32)), .val (.ref b2), .val (.int nv), .val (.ref b319), .unset] [(.ref b319), (.ref b367), (.ref b367)])) _
                      refine st368.trans ?_
                      refine XS.astore X368.here hx rfl (hb hby at_338) rfl rfl (l' := #[.val (.int p0), .val (.int p1), .val (.int (9 : Int32)), .val (.ref b2), .val (.int nv), .val (.ref b319), .val (.ref b367)]) rfl ?_
                      refine XS.aload Xx374.here hx rfl (hb hby at_340) rfl rfl ?_
                      show Steps p.tables e below (T368.setTop (mkF m 342 #[.val (.int p0), .val (.int p1), .val (.int (9 : Int32)), .val (.ref b2), .val (.int nv), .val (.ref b319), .val (.ref b367)] [(.ref b367)])) _
                      refine st375 _ ?_
                      show Steps p.tables e below (T375.setTop (mkF m 345 #[.val (.int p0), .val (.int p1), .val (.int (9 : Int32)), .val (.ref b2), .val (.int nv), .val (.ref b319), .val (.ref b367)] [(.int ((pv ([(nar .char (dV nv (100000000 : Int32))), (nar .char (dV nv (10000000 : Int32))), (nar .char (dV nv (1000000 : Int32))), (nar .char (dV nv (100000 : Int32))), (nar .char (dV nv (10000 : Int32))), (nar .char (dV nv (1000 : Int32))), (nar .char (dV nv (100 : Int32))), (nar .char (dV nv (10 : Int32))), (nar .char (dV nv (1 : Int32)))] : List Int32) ([(nar .char (dV nv (100000000 : Int32))), (nar .char (dV nv (10000000 : Int32))), (nar .char (dV nv (1000000 : Int32))), (nar .char (dV nv (100000 : Int32))), (nar .char (dV nv (10000 : Int32))), (nar .char (dV nv (1000 : Int32))), (nar .char (dV nv (100 : Int32))), (nar .char (dV nv (10 : Int32))), (nar .char (dV nv (1 : Int32)))] : List Int32).length).toInt32))])) _
                      refine XS.iload X375.here hx rfl (hb hby at_345) rfl ?_
                      show Steps p.tables e below (T375.setTop (mkF m 347 #[.val (.int p0), .val (.int p1), .val (.int (9 : Int32)), .val (.ref b2), .val (.int nv), .val (.ref b319), .val (.ref b367)] [(.int nv), (.int ((pv ([(nar .char (dV nv (100000000 : Int32))), (nar .char (dV nv (10000000 : Int32))), (nar .char (dV nv (1000000 : Int32))), (nar .char (dV nv (100000 : Int32))), (nar .char (dV nv (10000 : Int32))), (nar .char (dV nv (1000 : Int32))), (nar .char (dV nv (100 : Int32))), (nar .char (dV nv (10 : Int32))), (nar .char (dV nv (1 : Int32)))] : List Int32) ([(nar .char (dV nv (100000000 : Int32))), (nar .char (dV nv (10000000 : Int32))), (nar .char (dV nv (1000000 : Int32))), (nar .char (dV nv (100000 : Int32))), (nar .char (dV nv (10000 : Int32))), (nar .char (dV nv (1000 : Int32))), (nar .char (dV nv (100 : Int32))), (nar .char (dV nv (10 : Int32))), (nar .char (dV nv (1 : Int32)))] : List Int32).length).toInt32))])) _
                      refine XS.icmpNo X375.here hx rfl (hb hby at_347) rfl (teq (show ((pv ([(nar .char (dV nv (100000000 : Int32))), (nar .char (dV nv (10000000 : Int32))), (nar .char (dV nv (1000000 : Int32))), (nar .char (dV nv (100000 : Int32))), (nar .char (dV nv (10000 : Int32))), (nar .char (dV nv (1000 : Int32))), (nar .char (dV nv (100 : Int32))), (nar .char (dV nv (10 : Int32))), (nar .char (dV nv (1 : Int32)))] : List Int32) ([(nar .char (dV nv (100000000 : Int32))), (nar .char (dV nv (10000000 : Int32))), (nar .char (dV nv (1000000 : Int32))), (nar .char (dV nv (100000 : Int32))), (nar .char (dV nv (10000 : Int32))), (nar .char (dV nv (1000 : Int32))), (nar .char (dV nv (100 : Int32))), (nar .char (dV nv (10 : Int32))), (nar .char (dV nv (1 : Int32)))] : List Int32).length).toInt32) = nv from hfin)).2 ?_
                      refine XS.iconst X375.here hx rfl (hb hby at_350) ?_
                      refine XS.goto X375.here hx rfl (pc0 := 351) (pc' := 355) rfl (hb hby at_351) (by decide) (by decide) ?_
                      show Steps p.tables e below (T375.setTop (mkF m 355 #[.val (.int p0), .val (.int p1), .val (.int (9 : Int32)), .val (.ref b2), .val (.int nv), .val (.ref b319), .val (.ref b367)] [(.int (1 : Int32))])) _
                      exact retN X375 hx (t := .boolean) Bd.returns (by simp) (hb hby at_355) hr
                    · show Q0 h0 n0 _ T375.heap _
                      rw [e375]
                      exact ⟨rfl, N375⟩
                  · by_cases hl10 : len = (10 : Int32)
                    · rw [hl10] at pre23
                      have pre376 : ∀ t, Steps p.tables e below (T22.setTop (mkF m 90 #[.val (.int p0), .val (.int p1), .val (.int (10 : Int32)), .val (.ref b2), .val (.int (p0 &&& (2147483647 : Int32))), .unset, .unset] [])) t → Steps p.tables e below (s₁.setTop (entryFrame m #[(.int p0), (.int p1)] maxLocals)) t := fun t kt => pre23 t (by
                          show Steps p.tables e below (T22.setTop (mkF m 70 #[.val (.int p0), .val (.int p1), .val (.int (10 : Int32)), .val (.ref b2), .unset, .unset, .unset] [])) _
                          refine XS.iloadN Xx24.here hx rfl (hb hby at_70) rfl ?_
                          show Steps p.tables e below (T22.setTop (mkF m 71 #[.val (.int p0), .val (.int p1), .val (.int (10 : Int32)), .val (.ref b2), .unset, .unset, .unset] [(.int p0)])) _
                          refine Xx24.ldcI hx hown (mvT hZ (hw _ (List.mem_of_getElem? (i := 6) rfl))) (g := (mkF m 71 #[.val (.int p0), .val (.int p1), .val (.int (10 : Int32)), .val (.ref b2), .unset, .unset, .unset] [(.int p0)])) rfl (hb hby at_71) ?_
                          show Steps p.tables e below (T22.setTop (mkF m 73 #[.val (.int p0), .val (.int p1), .val (.int (10 : Int32)), .val (.ref b2), .unset, .unset, .unset] [(.int (2147483647 : Int32)), (.int p0)])) _
                          refine XS.iand Xx24.here hx rfl (hb hby at_73) rfl ?_
                          refine XS.istore Xx24.here hx rfl (hb hby at_74) rfl (l' := #[.val (.int p0), .val (.int p1), .val (.int (10 : Int32)), .val (.ref b2), .val (.int (p0 &&& (2147483647 : Int32))), .unset, .unset]) rfl ?_
                          refine XS.iloadN Xx24.here hx rfl (hb hby at_76) rfl ?_
                          refine XS.bipush Xx24.here hx rfl (hb hby at_77) ?_
                          show Steps p.tables e below (T22.setTop (mkF m 79 #[.val (.int p0), .val (.int p1), .val (.int (10 : Int32)), .val (.ref b2), .val (.int (p0 &&& (2147483647 : Int32))), .unset, .unset] [(.int (10 : Int32)), (.int (10 : Int32))])) _
                          refine XS.icmpYes Xx24.here hx rfl (pc0 := 79) (pc' := 90) rfl (hb hby at_79) rfl (flt (show ¬ ((10 : Int32) < (10 : Int32)) from (by decide))).2.1 (by decide) (by decide) ?_
                          exact kt)
                      obtain ⟨nv, hnv⟩ : ∃ z : Int32, z = (p0 &&& (2147483647 : Int32)) := ⟨_, rfl⟩
                      rw [← hnv] at pre376
                      have hnb : 0 ≤ nv.toInt ∧ nv.toInt < 10 ^ 10 := ⟨by rw [hnv]; exact own_and31 p0, Int.lt_of_lt_of_le nv.toInt_lt (by decide)⟩
                      obtain ⟨T377, h377, k377, X377, e377, E377, A377, st377⟩ := newP Xx24 hx hZ (hw _ (List.mem_of_getElem? (i := 7) rfl)) e22 (g := (mkF m 91 #[.val (.int p0), .val (.int p1), .val (.int (10 : Int32)), .val (.ref b2), .val (.int nv), .unset, .unset] [(.int (10 : Int32))])) rfl (hb hby at_91) rfl (by decide) (cap := 10) (by decide) (by decide) (by decide) (by decide)
                      obtain ⟨b377, g377⟩ : ∃ z, z = h22.size := ⟨_, rfl⟩
                      rw [← g377] at A377 st377
                      have g_b377 : n0 ≤ b377 := Nat.le_trans Z22 (Nat.le_of_eq g377.symm)
                      have sz_b377 : h0.size ≤ b377 := Nat.le_trans K22.1 (Nat.le_of_eq g377.symm)
                      have ne_b2_b377 : b2 ≠ b377 := Nat.ne_of_lt (Nat.lt_of_lt_of_le V22.lt (Nat.le_of_eq g377.symm))
                      have K377 : Keep h0 h377 [] := Keep.ext K22 E377
                      have Z377 : n0 ≤ h377.size := Nat.le_trans Z0 K377.1
                      have V_b377 : Arv Z h377 b377 k377 .char (10 : Int32) [(.int (0 : Int32)), (.int (0 : Int32)), (.int (0 : Int32)), (.int (0 : Int32)), (.int (0 : Int32)), (.int (0 : Int32)), (.int (0 : Int32)), (.int (0 : Int32)), (.int (0 : Int32)), (.int (0 : Int32))] (.int (0 : Int32)) := (Arv.new A377 (by decide)).pad (pad_rep [] (.int (0 : Int32)) 10)
                      have f378 := (V22.ext E377)
                      obtain ⟨cl379, Ar379, -, S379, Nn379, Hh379, -⟩ := id f378
                      have hin379 : ¬ ((0 : Int32) < 0 ∨ cl379.slots.size ≤ ((0 : Int32)).toNatClampNeg) := inb_of S379 ⟨by decide, by decide⟩
                      have hat379 : cl379.slots[((0 : Int32)).toNatClampNeg]? = some (.int (1 : Int32)) := Hh379.at hin379 rfl
                      obtain ⟨_, _, ⟨T380, L380, k380, n380⟩, -, X380, ⟨Lc380, hQ380, l380, y380, z380⟩, st380⟩ := Jvm.LawKit.callS X377 hx (y := (⟨"com/example/libforeword/libforeword/wordlist/EntryParseFrequencyPinLaw", "d", "(II)C"⟩ : MethodName)) hown (mvT hZ (hw _ (List.mem_of_getElem? (i := 8) rfl))) (mvT hZ (hw _ (List.mem_of_getElem? (i := 9) rfl))) (mvT hZ (hw _ (List.mem_of_getElem? (i := 10) rfl))) (mvT hZ (hw _ (List.mem_of_getElem? (i := 11) rfl))) (by decide) (backOf (W := 2) (rmDD l Z a0 hw [] nv (1 : Int32) h377 n0 Z377 (by decide)) hZ (hw _ (List.mem_of_getElem? (i := 11) rfl)) (hw _ (List.mem_of_getElem? (i := 10) rfl)) (by decide) (by decide)) (g := (mkF m 110 #[.val (.int p0), .val (.int p1), .val (.int (10 : Int32)), .val (.ref b2), .val (.int nv), .val (.ref b377), .unset] [(.int (1 : Int32)), (.int nv), (.int (9 : Int32)), (.ref b377)])) rfl (by rw [hml]; rfl) (argsL := [(.int nv), (.int (1 : Int32))]) (rest := [(.int (9 : Int32)), (.ref b377)]) (lenOf pd_3 rfl) rfl (by show 2 * 0 + _ ≤ _; exact Nat.le_of_eq rfl) (hb hby at_110) (fun _ _ => ⟨rfl, e377, (by decide : 2 + 0 ≤ _), (by decide : 20 + 0 ≤ _)⟩)
                      dsimp only [Pt.U, Pt.locs, Pt.cells, Pt.slots] at X380 l380 y380 z380 st380 hQ380
                      subst l380 y380 z380
                      obtain ⟨rfl, N380q, e380⟩ := hQ380
                      have N380 := Fr.app Nx24 N380q
                      obtain ⟨cl381, Ar381, q381, S381, Nn381, Hh381, Gg381⟩ := id V_b377
                      have hin381 : ¬ ((9 : Int32) < 0 ∨ cl381.slots.size ≤ ((9 : Int32)).toNatClampNeg) := inb_of S381 ⟨by decide, by decide⟩
                      obtain ⟨T382, h382, X382, e382, W382, st382⟩ := stC X380 hx hZ e380 Ar381 (j := (9 : Int32)) hin381 (g := (mkF m 113 #[.val (.int p0), .val (.int p1), .val (.int (10 : Int32)), .val (.ref b2), .val (.int nv), .val (.ref b377), .unset] [(.int (dV nv (1 : Int32))), (.int (9 : Int32)), (.ref b377)])) rfl rfl (hb hby at_113)
                      have V382 : Arv Z h382 b377 k377 .char (10 : Int32) [(.int (0 : Int32)), (.int (0 : Int32)), (.int (0 : Int32)), (.int (0 : Int32)), (.int (0 : Int32)), (.int (0 : Int32)), (.int (0 : Int32)), (.int (0 : Int32)), (.int (0 : Int32)), (.int (nar .char (dV nv (1 : Int32))))] (.int (0 : Int32)) := Arv.set Ar381 q381 S381 Nn381 Hh381 Gg381 (fits_nar_char _) W382 9 rfl (Nat.le_of_ble_eq_true rfl)
                      have K382 : Keep h0 h382 [] := Keep.wr K377 W382 (Or.inr sz_b377)
                      have Z382 : n0 ≤ h382.size := Nat.le_trans Z0 K382.1
                      have N382 := Fr.snoc X382 N380 g_b377
                      have f383 := (f378.other W382 ne_b2_b377)
                      obtain ⟨cl384, Ar384, -, S384, Nn384, Hh384, -⟩ := id f383
                      have hin384 : ¬ ((1 : Int32) < 0 ∨ cl384.slots.size ≤ ((1 : Int32)).toNatClampNeg) := inb_of S384 ⟨by decide, by decide⟩
                      have hat384 : cl384.slots[((1 : Int32)).toNatClampNeg]? = some (.int (10 : Int32)) := Hh384.at hin384 rfl
                      obtain ⟨_, _, ⟨T385, L385, k385, n385⟩, -, X385, ⟨Lc385, hQ385, l385, y385, z385⟩, st385⟩ := Jvm.LawKit.callS X382 hx (y := (⟨"com/example/libforeword/libforeword/wordlist/EntryParseFrequencyPinLaw", "d", "(II)C"⟩ : MethodName)) hown (mvT hZ (hw _ (List.mem_of_getElem? (i := 8) rfl))) (mvT hZ (hw _ (List.mem_of_getElem? (i := 9) rfl))) (mvT hZ (hw _ (List.mem_of_getElem? (i := 10) rfl))) (mvT hZ (hw _ (List.mem_of_getElem? (i := 11) rfl))) (by decide) (backOf (W := 2) (rmDD l Z a0 hw [] nv (10 : Int32) h382 n0 Z382 (by decide)) hZ (hw _ (List.mem_of_getElem? (i := 11) rfl)) (hw _ (List.mem_of_getElem? (i := 10) rfl)) (by decide) (by decide)) (g := (mkF m 129 #[.val (.int p0), .val (.int p1), .val (.int (10 : Int32)), .val (.ref b2), .val (.int nv), .val (.ref b377), .unset] [(.int (10 : Int32)), (.int nv), (.int (8 : Int32)), (.ref b377)])) rfl (by rw [hml]; rfl) (argsL := [(.int nv), (.int (10 : Int32))]) (rest := [(.int (8 : Int32)), (.ref b377)]) (lenOf pd_3 rfl) rfl (by show 2 * 0 + _ ≤ _; exact Nat.le_of_eq rfl) (hb hby at_129) (fun _ _ => ⟨rfl, e382, (by decide : 2 + 0 ≤ _), (by decide : 20 + 0 ≤ _)⟩)
                      dsimp only [Pt.U, Pt.locs, Pt.cells, Pt.slots] at X385 l385 y385 z385 st385 hQ385
                      subst l385 y385 z385
                      obtain ⟨rfl, N385q, e385⟩ := hQ385
                      have N385 := Fr.app N382 N385q
                      obtain ⟨cl386, Ar386, q386, S386, Nn386, Hh386, Gg386⟩ := id V382
                      have hin386 : ¬ ((8 : Int32) < 0 ∨ cl386.slots.size ≤ ((8 : Int32)).toNatClampNeg) := inb_of S386 ⟨by decide, by decide⟩
                      obtain ⟨T387, h387, X387, e387, W387, st387⟩ := stC X385 hx hZ e385 Ar386 (j := (8 : Int32)) hin386 (g := (mkF m 132 #[.val (.int p0), .val (.int p1), .val (.int (10 : Int32)), .val (.ref b2), .val (.int nv), .val (.ref b377), .unset] [(.int (dV nv (10 : Int32))), (.int (8 : Int32)), (.ref b377)])) rfl rfl (hb hby at_132)
                      have V387 : Arv Z h387 b377 k377 .char (10 : Int32) [(.int (0 : Int32)), (.int (0 : Int32)), (.int (0 : Int32)), (.int (0 : Int32)), (.int (0 : Int32)), (.int (0 : Int32)), (.int (0 : Int32)), (.int (0 : Int32)), (.int (nar .char (dV nv (10 : Int32)))), (.int (nar .char (dV nv (1 : Int32))))] (.int (0 : Int32)) := Arv.set Ar386 q386 S386 Nn386 Hh386 Gg386 (fits_nar_char _) W387 8 rfl (Nat.le_of_ble_eq_true rfl)
                      have K387 : Keep h0 h387 [] := Keep.wr K382 W387 (Or.inr sz_b377)
                      have Z387 : n0 ≤ h387.size := Nat.le_trans Z0 K387.1
                      have N387 := Fr.snoc X387 N385 g_b377
                      have f388 := (f383.other W387 ne_b2_b377)
                      obtain ⟨cl389, Ar389, -, S389, Nn389, Hh389, -⟩ := id f388
                      have hin389 : ¬ ((2 : Int32) < 0 ∨ cl389.slots.size ≤ ((2 : Int32)).toNatClampNeg) := inb_of S389 ⟨by decide, by decide⟩
                      have hat389 : cl389.slots[((2 : Int32)).toNatClampNeg]? = some (.int (100 : Int32)) := Hh389.at hin389 rfl
                      obtain ⟨_, _, ⟨T390, L390, k390, n390⟩, -, X390, ⟨Lc390, hQ390, l390, y390, z390⟩, st390⟩ := Jvm.LawKit.callS X387 hx (y := (⟨"com/example/libforeword/libforeword/wordlist/EntryParseFrequencyPinLaw", "d", "(II)C"⟩ : MethodName)) hown (mvT hZ (hw _ (List.mem_of_getElem? (i := 8) rfl))) (mvT hZ (hw _ (List.mem_of_getElem? (i := 9) rfl))) (mvT hZ (hw _ (List.mem_of_getElem? (i := 10) rfl))) (mvT hZ (hw _ (List.mem_of_getElem? (i := 11) rfl))) (by decide) (backOf (W := 2) (rmDD l Z a0 hw [] nv (100 : Int32) h387 n0 Z387 (by decide)) hZ (hw _ (List.mem_of_getElem? (i := 11) rfl)) (hw _ (List.mem_of_getElem? (i := 10) rfl)) (by decide) (by decide)) (g := (mkF m 148 #[.val (.int p0), .val (.int p1), .val (.int (10 : Int32)), .val (.ref b2), .val (.int nv), .val (.ref b377), .unset] [(.int (100 : Int32)), (.int nv), (.int (7 : Int32)), (.ref b377)])) rfl (by rw [hml]; rfl) (argsL := [(.int nv), (.int (100 : Int32))]) (rest := [(.int (7 : Int32)), (.ref b377)]) (lenOf pd_3 rfl) rfl (by show 2 * 0 + _ ≤ _; exact Nat.le_of_eq rfl) (hb hby at_148) (fun _ _ => ⟨rfl, e387, (by decide : 2 + 0 ≤ _), (by decide : 20 + 0 ≤ _)⟩)
                      dsimp only [Pt.U, Pt.locs, Pt.cells, Pt.slots] at X390 l390 y390 z390 st390 hQ390
                      subst l390 y390 z390
                      obtain ⟨rfl, N390q, e390⟩ := hQ390
                      have N390 := Fr.app N387 N390q
                      obtain ⟨cl391, Ar391, q391, S391, Nn391, Hh391, Gg391⟩ := id V387
                      have hin391 : ¬ ((7 : Int32) < 0 ∨ cl391.slots.size ≤ ((7 : Int32)).toNatClampNeg) := inb_of S391 ⟨by decide, by decide⟩
                      obtain ⟨T392, h392, X392, e392, W392, st392⟩ := stC X390 hx hZ e390 Ar391 (j := (7 : Int32)) hin391 (g := (mkF m 151 #[.val (.int p0), .val (.int p1), .val (.int (10 : Int32)), .val (.ref b2), .val (.int nv), .val (.ref b377), .unset] [(.int (dV nv (100 : Int32))), (.int (7 : Int32)), (.ref b377)])) rfl rfl (hb hby at_151)
                      have V392 : Arv Z h392 b377 k377 .char (10 : Int32) [(.int (0 : Int32)), (.int (0 : Int32)), (.int (0 : Int32)), (.int (0 : Int32)), (.int (0 : Int32)), (.int (0 : Int32)), (.int (0 : Int32)), (.int (nar .char (dV nv (100 : Int32)))), (.int (nar .char (dV nv (10 : Int32)))), (.int (nar .char (dV nv (1 : Int32))))] (.int (0 : Int32)) := Arv.set Ar391 q391 S391 Nn391 Hh391 Gg391 (fits_nar_char _) W392 7 rfl (Nat.le_of_ble_eq_true rfl)
                      have K392 : Keep h0 h392 [] := Keep.wr K387 W392 (Or.inr sz_b377)
                      have Z392 : n0 ≤ h392.size := Nat.le_trans Z0 K392.1
                      have N392 := Fr.snoc X392 N390 g_b377
                      have f393 := (f388.other W392 ne_b2_b377)
                      obtain ⟨cl394, Ar394, -, S394, Nn394, Hh394, -⟩ := id f393
                      have hin394 : ¬ ((3 : Int32) < 0 ∨ cl394.slots.size ≤ ((3 : Int32)).toNatClampNeg) := inb_of S394 ⟨by decide, by decide⟩
                      have hat394 : cl394.slots[((3 : Int32)).toNatClampNeg]? = some (.int (1000 : Int32)) := Hh394.at hin394 rfl
                      obtain ⟨_, _, ⟨T395, L395, k395, n395⟩, -, X395, ⟨Lc395, hQ395, l395, y395, z395⟩, st395⟩ := Jvm.LawKit.callS X392 hx (y := (⟨"com/example/libforeword/libforeword/wordlist/EntryParseFrequencyPinLaw", "d", "(II)C"⟩ : MethodName)) hown (mvT hZ (hw _ (List.mem_of_getElem? (i := 8) rfl))) (mvT hZ (hw _ (List.mem_of_getElem? (i := 9) rfl))) (mvT hZ (hw _ (List.mem_of_getElem? (i := 10) rfl))) (mvT hZ (hw _ (List.mem_of_getElem? (i := 11) rfl))) (by decide) (backOf (W := 2) (rmDD l Z a0 hw [] nv (1000 : Int32) h392 n0 Z392 (by decide)) hZ (hw _ (List.mem_of_getElem? (i := 11) rfl)) (hw _ (List.mem_of_getElem? (i := 10) rfl)) (by decide) (by decide)) (g := (mkF m 167 #[.val (.int p0), .val (.int p1), .val (.int (10 : Int32)), .val (.ref b2), .val (.int nv), .val (.ref b377), .unset] [(.int (1000 : Int32)), (.int nv), (.int (6 : Int32)), (.ref b377)])) rfl (by rw [hml]; rfl) (argsL := [(.int nv), (.int (1000 : Int32))]) (rest := [(.int (6 : Int32)), (.ref b377)]) (lenOf pd_3 rfl) rfl (by show 2 * 0 + _ ≤ _; exact Nat.le_of_eq rfl) (hb hby at_167) (fun _ _ => ⟨rfl, e392, (by decide : 2 + 0 ≤ _), (by decide : 20 + 0 ≤ _)⟩)
                      dsimp only [Pt.U, Pt.locs, Pt.cells, Pt.slots] at X395 l395 y395 z395 st395 hQ395
                      subst l395 y395 z395
                      obtain ⟨rfl, N395q, e395⟩ := hQ395
                      have N395 := Fr.app N392 N395q
                      obtain ⟨cl396, Ar396, q396, S396, Nn396, Hh396, Gg396⟩ := id V392
                      have hin396 : ¬ ((6 : Int32) < 0 ∨ cl396.slots.size ≤ ((6 : Int32)).toNatClampNeg) := inb_of S396 ⟨by decide, by decide⟩
                      obtain ⟨T397, h397, X397, e397, W397, st397⟩ := stC X395 hx hZ e395 Ar396 (j := (6 : Int32)) hin396 (g := (mkF m 170 #[.val (.int p0), .val (.int p1), .val (.int (10 : Int32)), .val (.ref b2), .val (.int nv), .val (.ref b377), .unset] [(.int (dV nv (1000 : Int32))), (.int (6 : Int32)), (.ref b377)])) rfl rfl (hb hby at_170)
                      have V397 : Arv Z h397 b377 k377 .char (10 : Int32) [(.int (0 : Int32)), (.int (0 : Int32)), (.int (0 : Int32)), (.int (0 : Int32)), (.int (0 : Int32)), (.int (0 : Int32)), (.int (nar .char (dV nv (1000 : Int32)))), (.int (nar .char (dV nv (100 : Int32)))), (.int (nar .char (dV nv (10 : Int32)))), (.int (nar .char (dV nv (1 : Int32))))] (.int (0 : Int32)) := Arv.set Ar396 q396 S396 Nn396 Hh396 Gg396 (fits_nar_char _) W397 6 rfl (Nat.le_of_ble_eq_true rfl)
                      have K397 : Keep h0 h397 [] := Keep.wr K392 W397 (Or.inr sz_b377)
                      have Z397 : n0 ≤ h397.size := Nat.le_trans Z0 K397.1
                      have N397 := Fr.snoc X397 N395 g_b377
                      have f398 := (f393.other W397 ne_b2_b377)
                      obtain ⟨cl399, Ar399, -, S399, Nn399, Hh399, -⟩ := id f398
                      have hin399 : ¬ ((4 : Int32) < 0 ∨ cl399.slots.size ≤ ((4 : Int32)).toNatClampNeg) := inb_of S399 ⟨by decide, by decide⟩
                      have hat399 : cl399.slots[((4 : Int32)).toNatClampNeg]? = some (.int (10000 : Int32)) := Hh399.at hin399 rfl
                      obtain ⟨_, _, ⟨T400, L400, k400, n400⟩, -, X400, ⟨Lc400, hQ400, l400, y400, z400⟩, st400⟩ := Jvm.LawKit.callS X397 hx (y := (⟨"com/example/libforeword/libforeword/wordlist/EntryParseFrequencyPinLaw", "d", "(II)C"⟩ : MethodName)) hown (mvT hZ (hw _ (List.mem_of_getElem? (i := 8) rfl))) (mvT hZ (hw _ (List.mem_of_getElem? (i := 9) rfl))) (mvT hZ (hw _ (List.mem_of_getElem? (i := 10) rfl))) (mvT hZ (hw _ (List.mem_of_getElem? (i := 11) rfl))) (by decide) (backOf (W := 2) (rmDD l Z a0 hw [] nv (10000 : Int32) h397 n0 Z397 (by decide)) hZ (hw _ (List.mem_of_getElem? (i := 11) rfl)) (hw _ (List.mem_of_getElem? (i := 10) rfl)) (by decide) (by decide)) (g := (mkF m 186 #[.val (.int p0), .val (.int p1), .val (.int (10 : Int32)), .val (.ref b2), .val (.int nv), .val (.ref b377), .unset] [(.int (10000 : Int32)), (.int nv), (.int (5 : Int32)), (.ref b377)])) rfl (by rw [hml]; rfl) (argsL := [(.int nv), (.int (10000 : Int32))]) (rest := [(.int (5 : Int32)), (.ref b377)]) (lenOf pd_3 rfl) rfl (by show 2 * 0 + _ ≤ _; exact Nat.le_of_eq rfl) (hb hby at_186) (fun _ _ => ⟨rfl, e397, (by decide : 2 + 0 ≤ _), (by decide : 20 + 0 ≤ _)⟩)
                      dsimp only [Pt.U, Pt.locs, Pt.cells, Pt.slots] at X400 l400 y400 z400 st400 hQ400
                      subst l400 y400 z400
                      obtain ⟨rfl, N400q, e400⟩ := hQ400
                      have N400 := Fr.app N397 N400q
                      obtain ⟨cl401, Ar401, q401, S401, Nn401, Hh401, Gg401⟩ := id V397
                      have hin401 : ¬ ((5 : Int32) < 0 ∨ cl401.slots.size ≤ ((5 : Int32)).toNatClampNeg) := inb_of S401 ⟨by decide, by decide⟩
                      obtain ⟨T402, h402, X402, e402, W402, st402⟩ := stC X400 hx hZ e400 Ar401 (j := (5 : Int32)) hin401 (g := (mkF m 189 #[.val (.int p0), .val (.int p1), .val (.int (10 : Int32)), .val (.ref b2), .val (.int nv), .val (.ref b377), .unset] [(.int (dV nv (10000 : Int32))), (.int (5 : Int32)), (.ref b377)])) rfl rfl (hb hby at_189)
                      have V402 : Arv Z h402 b377 k377 .char (10 : Int32) [(.int (0 : Int32)), (.int (0 : Int32)), (.int (0 : Int32)), (.int (0 : Int32)), (.int (0 : Int32)), (.int (nar .char (dV nv (10000 : Int32)))), (.int (nar .char (dV nv (1000 : Int32)))), (.int (nar .char (dV nv (100 : Int32)))), (.int (nar .char (dV nv (10 : Int32)))), (.int (nar .char (dV nv (1 : Int32))))] (.int (0 : Int32)) := Arv.set Ar401 q401 S401 Nn401 Hh401 Gg401 (fits_nar_char _) W402 5 rfl (Nat.le_of_ble_eq_true rfl)
                      have K402 : Keep h0 h402 [] := Keep.wr K397 W402 (Or.inr sz_b377)
                      have Z402 : n0 ≤ h402.size := Nat.le_trans Z0 K402.1
                      have N402 := Fr.snoc X402 N400 g_b377
                      have f403 := (f398.other W402 ne_b2_b377)
                      obtain ⟨cl404, Ar404, -, S404, Nn404, Hh404, -⟩ := id f403
                      have hin404 : ¬ ((5 : Int32) < 0 ∨ cl404.slots.size ≤ ((5 : Int32)).toNatClampNeg) := inb_of S404 ⟨by decide, by decide⟩
                      have hat404 : cl404.slots[((5 : Int32)).toNatClampNeg]? = some (.int (100000 : Int32)) := Hh404.at hin404 rfl
                      obtain ⟨_, _, ⟨T405, L405, k405, n405⟩, -, X405, ⟨Lc405, hQ405, l405, y405, z405⟩, st405⟩ := Jvm.LawKit.callS X402 hx (y := (⟨"com/example/libforeword/libforeword/wordlist/EntryParseFrequencyPinLaw", "d", "(II)C"⟩ : MethodName)) hown (mvT hZ (hw _ (List.mem_of_getElem? (i := 8) rfl))) (mvT hZ (hw _ (List.mem_of_getElem? (i := 9) rfl))) (mvT hZ (hw _ (List.mem_of_getElem? (i := 10) rfl))) (mvT hZ (hw _ (List.mem_of_getElem? (i := 11) rfl))) (by decide) (backOf (W := 2) (rmDD l Z a0 hw [] nv (100000 : Int32) h402 n0 Z402 (by decide)) hZ (hw _ (List.mem_of_getElem? (i := 11) rfl)) (hw _ (List.mem_of_getElem? (i := 10) rfl)) (by decide) (by decide)) (g := (mkF m 207 #[.val (.int p0), .val (.int p1), .val (.int (10 : Int32)), .val (.ref b2), .val (.int nv), .val (.ref b377), .unset] [(.int (100000 : Int32)), (.int nv), (.int (4 : Int32)), (.ref b377)])) rfl (by rw [hml]; rfl) (argsL := [(.int nv), (.int (100000 : Int32))]) (rest := [(.int (4 : Int32)), (.ref b377)]) (lenOf pd_3 rfl) rfl (by show 2 * 0 + _ ≤ _; exact Nat.le_of_eq rfl) (hb hby at_207) (fun _ _ => ⟨rfl, e402, (by decide : 2 + 0 ≤ _), (by decide : 20 + 0 ≤ _)⟩)
                      dsimp only [Pt.U, Pt.locs, Pt.cells, Pt.slots] at X405 l405 y405 z405 st405 hQ405
                      subst l405 y405 z405
                      obtain ⟨rfl, N405q, e405⟩ := hQ405
                      have N405 := Fr.app N402 N405q
                      obtain ⟨cl406, Ar406, q406, S406, Nn406, Hh406, Gg406⟩ := id V402
                      have hin406 : ¬ ((4 : Int32) < 0 ∨ cl406.slots.size ≤ ((4 : Int32)).toNatClampNeg) := inb_of S406 ⟨by decide, by decide⟩
                      obtain ⟨T407, h407, X407, e407, W407, st407⟩ := stC X405 hx hZ e405 Ar406 (j := (4 : Int32)) hin406 (g := (mkF m 210 #[.val (.int p0), .val (.int p1), .val (.int (10 : Int32)), .val (.ref b2), .val (.int nv), .val (.ref b377), .unset] [(.int (dV nv (100000 : Int32))), (.int (4 : Int32)), (.ref b377)])) rfl rfl (hb hby at_210)
                      have V407 : Arv Z h407 b377 k377 .char (10 : Int32) [(.int (0 : Int32)), (.int (0 : Int32)), (.int (0 : Int32)), (.int (0 : Int32)), (.int (nar .char (dV nv (100000 : Int32)))), (.int (nar .char (dV nv (10000 : Int32)))), (.int (nar .char (dV nv (1000 : Int32)))), (.int (nar .char (dV nv (100 : Int32)))), (.int (nar .char (dV nv (10 : Int32)))), (.int (nar .char (dV nv (1 : Int32))))] (.int (0 : Int32)) := Arv.set Ar406 q406 S406 Nn406 Hh406 Gg406 (fits_nar_char _) W407 4 rfl (Nat.le_of_ble_eq_true rfl)
                      have K407 : Keep h0 h407 [] := Keep.wr K402 W407 (Or.inr sz_b377)
                      have Z407 : n0 ≤ h407.size := Nat.le_trans Z0 K407.1
                      have N407 := Fr.snoc X407 N405 g_b377
                      have f408 := (f403.other W407 ne_b2_b377)
                      obtain ⟨cl409, Ar409, -, S409, Nn409, Hh409, -⟩ := id f408
                      have hin409 : ¬ ((6 : Int32) < 0 ∨ cl409.slots.size ≤ ((6 : Int32)).toNatClampNeg) := inb_of S409 ⟨by decide, by decide⟩
                      have hat409 : cl409.slots[((6 : Int32)).toNatClampNeg]? = some (.int (1000000 : Int32)) := Hh409.at hin409 rfl
                      obtain ⟨_, _, ⟨T410, L410, k410, n410⟩, -, X410, ⟨Lc410, hQ410, l410, y410, z410⟩, st410⟩ := Jvm.LawKit.callS X407 hx (y := (⟨"com/example/libforeword/libforeword/wordlist/EntryParseFrequencyPinLaw", "d", "(II)C"⟩ : MethodName)) hown (mvT hZ (hw _ (List.mem_of_getElem? (i := 8) rfl))) (mvT hZ (hw _ (List.mem_of_getElem? (i := 9) rfl))) (mvT hZ (hw _ (List.mem_of_getElem? (i := 10) rfl))) (mvT hZ (hw _ (List.mem_of_getElem? (i := 11) rfl))) (by decide) (backOf (W := 2) (rmDD l Z a0 hw [] nv (1000000 : Int32) h407 n0 Z407 (by decide)) hZ (hw _ (List.mem_of_getElem? (i := 11) rfl)) (hw _ (List.mem_of_getElem? (i := 10) rfl)) (by decide) (by decide)) (g := (mkF m 229 #[.val (.int p0), .val (.int p1), .val (.int (10 : Int32)), .val (.ref b2), .val (.int nv), .val (.ref b377), .unset] [(.int (1000000 : Int32)), (.int nv), (.int (3 : Int32)), (.ref b377)])) rfl (by rw [hml]; rfl) (argsL := [(.int nv), (.int (1000000 : Int32))]) (rest := [(.int (3 : Int32)), (.ref b377)]) (lenOf pd_3 rfl) rfl (by show 2 * 0 + _ ≤ _; exact Nat.le_of_eq rfl) (hb hby at_229) (fun _ _ => ⟨rfl, e407, (by decide : 2 + 0 ≤ _), (by decide : 20 + 0 ≤ _)⟩)
                      dsimp only [Pt.U, Pt.locs, Pt.cells, Pt.slots] at X410 l410 y410 z410 st410 hQ410
                      subst l410 y410 z410
                      obtain ⟨rfl, N410q, e410⟩ := hQ410
                      have N410 := Fr.app N407 N410q
                      obtain ⟨cl411, Ar411, q411, S411, Nn411, Hh411, Gg411⟩ := id V407
                      have hin411 : ¬ ((3 : Int32) < 0 ∨ cl411.slots.size ≤ ((3 : Int32)).toNatClampNeg) := inb_of S411 ⟨by decide, by decide⟩
                      obtain ⟨T412, h412, X412, e412, W412, st412⟩ := stC X410 hx hZ e410 Ar411 (j := (3 : Int32)) hin411 (g := (mkF m 232 #[.val (.int p0), .val (.int p1), .val (.int (10 : Int32)), .val (.ref b2), .val (.int nv), .val (.ref b377), .unset] [(.int (dV nv (1000000 : Int32))), (.int (3 : Int32)), (.ref b377)])) rfl rfl (hb hby at_232)
                      have V412 : Arv Z h412 b377 k377 .char (10 : Int32) [(.int (0 : Int32)), (.int (0 : Int32)), (.int (0 : Int32)), (.int (nar .char (dV nv (1000000 : Int32)))), (.int (nar .char (dV nv (100000 : Int32)))), (.int (nar .char (dV nv (10000 : Int32)))), (.int (nar .char (dV nv (1000 : Int32)))), (.int (nar .char (dV nv (100 : Int32)))), (.int (nar .char (dV nv (10 : Int32)))), (.int (nar .char (dV nv (1 : Int32))))] (.int (0 : Int32)) := Arv.set Ar411 q411 S411 Nn411 Hh411 Gg411 (fits_nar_char _) W412 3 rfl (Nat.le_of_ble_eq_true rfl)
                      have K412 : Keep h0 h412 [] := Keep.wr K407 W412 (Or.inr sz_b377)
                      have Z412 : n0 ≤ h412.size := Nat.le_trans Z0 K412.1
                      have N412 := Fr.snoc X412 N410 g_b377
                      have f413 := (f408.other W412 ne_b2_b377)
                      obtain ⟨cl414, Ar414, -, S414, Nn414, Hh414, -⟩ := id f413
                      have hin414 : ¬ ((7 : Int32) < 0 ∨ cl414.slots.size ≤ ((7 : Int32)).toNatClampNeg) := inb_of S414 ⟨by decide, by decide⟩
                      have hat414 : cl414.slots[((7 : Int32)).toNatClampNeg]? = some (.int (10000000 : Int32)) := Hh414.at hin414 rfl
                      obtain ⟨_, _, ⟨T415, L415, k415, n415⟩, -, X415, ⟨Lc415, hQ415, l415, y415, z415⟩, st415⟩ := Jvm.LawKit.callS X412 hx (y := (⟨"com/example/libforeword/libforeword/wordlist/EntryParseFrequencyPinLaw", "d", "(II)C"⟩ : MethodName)) hown (mvT hZ (hw _ (List.mem_of_getElem? (i := 8) rfl))) (mvT hZ (hw _ (List.mem_of_getElem? (i := 9) rfl))) (mvT hZ (hw _ (List.mem_of_getElem? (i := 10) rfl))) (mvT hZ (hw _ (List.mem_of_getElem? (i := 11) rfl))) (by decide) (backOf (W := 2) (rmDD l Z a0 hw [] nv (10000000 : Int32) h412 n0 Z412 (by decide)) hZ (hw _ (List.mem_of_getElem? (i := 11) rfl)) (hw _ (List.mem_of_getElem? (i := 10) rfl)) (by decide) (by decide)) (g := (mkF m 251 #[.val (.int p0), .val (.int p1), .val (.int (10 : Int32)), .val (.ref b2), .val (.int nv), .val (.ref b377), .unset] [(.int (10000000 : Int32)), (.int nv), (.int (2 : Int32)), (.ref b377)])) rfl (by rw [hml]; rfl) (argsL := [(.int nv), (.int (10000000 : Int32))]) (rest := [(.int (2 : Int32)), (.ref b377)]) (lenOf pd_3 rfl) rfl (by show 2 * 0 + _ ≤ _; exact Nat.le_of_eq rfl) (hb hby at_251) (fun _ _ => ⟨rfl, e412, (by decide : 2 + 0 ≤ _), (by decide : 20 + 0 ≤ _)⟩)
                      dsimp only [Pt.U, Pt.locs, Pt.cells, Pt.slots] at X415 l415 y415 z415 st415 hQ415
                      subst l415 y415 z415
                      obtain ⟨rfl, N415q, e415⟩ := hQ415
                      have N415 := Fr.app N412 N415q
                      obtain ⟨cl416, Ar416, q416, S416, Nn416, Hh416, Gg416⟩ := id V412
                      have hin416 : ¬ ((2 : Int32) < 0 ∨ cl416.slots.size ≤ ((2 : Int32)).toNatClampNeg) := inb_of S416 ⟨by decide, by decide⟩
                      obtain ⟨T417, h417, X417, e417, W417, st417⟩ := stC X415 hx hZ e415 Ar416 (j := (2 : Int32)) hin416 (g := (mkF m 254 #[.val (.int p0), .val (.int p1), .val (.int (10 : Int32)), .val (.ref b2), .val (.int nv), .val (.ref b377), .unset] [(.int (dV nv (10000000 : Int32))), (.int (2 : Int32)), (.ref b377)])) rfl rfl (hb hby at_254)
                      have V417 : Arv Z h417 b377 k377 .char (10 : Int32) [(.int (0 : Int32)), (.int (0 : Int32)), (.int (nar .char (dV nv (10000000 : Int32)))), (.int (nar .char (dV nv (1000000 : Int32)))), (.int (nar .char (dV nv (100000 : Int32)))), (.int (nar .char (dV nv (10000 : Int32)))), (.int (nar .char (dV nv (1000 : Int32)))), (.int (nar .char (dV nv (100 : Int32)))), (.int (nar .char (dV nv (10 : Int32)))), (.int (nar .char (dV nv (1 : Int32))))] (.int (0 : Int32)) := Arv.set Ar416 q416 S416 Nn416 Hh416 Gg416 (fits_nar_char _) W417 2 rfl (Nat.le_of_ble_eq_true rfl)
                      have K417 : Keep h0 h417 [] := Keep.wr K412 W417 (Or.inr sz_b377)
                      have Z417 : n0 ≤ h417.size := Nat.le_trans Z0 K417.1
                      have N417 := Fr.snoc X417 N415 g_b377
                      have f418 := (f413.other W417 ne_b2_b377)
                      obtain ⟨cl419, Ar419, -, S419, Nn419, Hh419, -⟩ := id f418
                      have hin419 : ¬ ((8 : Int32) < 0 ∨ cl419.slots.size ≤ ((8 : Int32)).toNatClampNeg) := inb_of S419 ⟨by decide, by decide⟩
                      have hat419 : cl419.slots[((8 : Int32)).toNatClampNeg]? = some (.int (100000000 : Int32)) := Hh419.at hin419 rfl
                      obtain ⟨_, _, ⟨T420, L420, k420, n420⟩, -, X420, ⟨Lc420, hQ420, l420, y420, z420⟩, st420⟩ := Jvm.LawKit.callS X417 hx (y := (⟨"com/example/libforeword/libforeword/wordlist/EntryParseFrequencyPinLaw", "d", "(II)C"⟩ : MethodName)) hown (mvT hZ (hw _ (List.mem_of_getElem? (i := 8) rfl))) (mvT hZ (hw _ (List.mem_of_getElem? (i := 9) rfl))) (mvT hZ (hw _ (List.mem_of_getElem? (i := 10) rfl))) (mvT hZ (hw _ (List.mem_of_getElem? (i := 11) rfl))) (by decide) (backOf (W := 2) (rmDD l Z a0 hw [] nv (100000000 : Int32) h417 n0 Z417 (by decide)) hZ (hw _ (List.mem_of_getElem? (i := 11) rfl)) (hw _ (List.mem_of_getElem? (i := 10) rfl)) (by decide) (by decide)) (g := (mkF m 273 #[.val (.int p0), .val (.int p1), .val (.int (10 : Int32)), .val (.ref b2), .val (.int nv), .val (.ref b377), .unset] [(.int (100000000 : Int32)), (.int nv), (.int (1 : Int32)), (.ref b377)])) rfl (by rw [hml]; rfl) (argsL := [(.int nv), (.int (100000000 : Int32))]) (rest := [(.int (1 : Int32)), (.ref b377)]) (lenOf pd_3 rfl) rfl (by show 2 * 0 + _ ≤ _; exact Nat.le_of_eq rfl) (hb hby at_273) (fun _ _ => ⟨rfl, e417, (by decide : 2 + 0 ≤ _), (by decide : 20 + 0 ≤ _)⟩)
                      dsimp only [Pt.U, Pt.locs, Pt.cells, Pt.slots] at X420 l420 y420 z420 st420 hQ420
                      subst l420 y420 z420
                      obtain ⟨rfl, N420q, e420⟩ := hQ420
                      have N420 := Fr.app N417 N420q
                      obtain ⟨cl421, Ar421, q421, S421, Nn421, Hh421, Gg421⟩ := id V417
                      have hin421 : ¬ ((1 : Int32) < 0 ∨ cl421.slots.size ≤ ((1 : Int32)).toNatClampNeg) := inb_of S421 ⟨by decide, by decide⟩
                      obtain ⟨T422, h422, X422, e422, W422, st422⟩ := stC X420 hx hZ e420 Ar421 (j := (1 : Int32)) hin421 (g := (mkF m 276 #[.val (.int p0), .val (.int p1), .val (.int (10 : Int32)), .val (.ref b2), .val (.int nv), .val (.ref b377), .unset] [(.int (dV nv (100000000 : Int32))), (.int (1 : Int32)), (.ref b377)])) rfl rfl (hb hby at_276)
                      have V422 : Arv Z h422 b377 k377 .char (10 : Int32) [(.int (0 : Int32)), (.int (nar .char (dV nv (100000000 : Int32)))), (.int (nar .char (dV nv (10000000 : Int32)))), (.int (nar .char (dV nv (1000000 : Int32)))), (.int (nar .char (dV nv (100000 : Int32)))), (.int (nar .char (dV nv (10000 : Int32)))), (.int (nar .char (dV nv (1000 : Int32)))), (.int (nar .char (dV nv (100 : Int32)))), (.int (nar .char (dV nv (10 : Int32)))), (.int (nar .char (dV nv (1 : Int32))))] (.int (0 : Int32)) := Arv.set Ar421 q421 S421 Nn421 Hh421 Gg421 (fits_nar_char _) W422 1 rfl (Nat.le_of_ble_eq_true rfl)
                      have K422 : Keep h0 h422 [] := Keep.wr K417 W422 (Or.inr sz_b377)
                      have Z422 : n0 ≤ h422.size := Nat.le_trans Z0 K422.1
                      have N422 := Fr.snoc X422 N420 g_b377
                      have f423 := (f418.other W422 ne_b2_b377)
                      obtain ⟨cl424, Ar424, -, S424, Nn424, Hh424, -⟩ := id f423
                      have hin424 : ¬ ((9 : Int32) < 0 ∨ cl424.slots.size ≤ ((9 : Int32)).toNatClampNeg) := inb_of S424 ⟨by decide, by decide⟩
                      have hat424 : cl424.slots[((9 : Int32)).toNatClampNeg]? = some (.int (1000000000 : Int32)) := Hh424.at hin424 rfl
                      obtain ⟨_, _, ⟨T425, L425, k425, n425⟩, -, X425, ⟨Lc425, hQ425, l425, y425, z425⟩, st425⟩ := Jvm.LawKit.callS X422 hx (y := (⟨"com/example/libforeword/libforeword/wordlist/EntryParseFrequencyPinLaw", "d", "(II)C"⟩ : MethodName)) hown (mvT hZ (hw _ (List.mem_of_getElem? (i := 8) rfl))) (mvT hZ (hw _ (List.mem_of_getElem? (i := 9) rfl))) (mvT hZ (hw _ (List.mem_of_getElem? (i := 10) rfl))) (mvT hZ (hw _ (List.mem_of_getElem? (i := 11) rfl))) (by decide) (backOf (W := 2) (rmDD l Z a0 hw [] nv (1000000000 : Int32) h422 n0 Z422 (by decide)) hZ (hw _ (List.mem_of_getElem? (i := 11) rfl)) (hw _ (List.mem_of_getElem? (i := 10) rfl)) (by decide) (by decide)) (g := (mkF m 295 #[.val (.int p0), .val (.int p1), .val (.int (10 : Int32)), .val (.ref b2), .val (.int nv), .val (.ref b377), .unset] [(.int (1000000000 : Int32)), (.int nv), (.int (0 : Int32)), (.ref b377)])) rfl (by rw [hml]; rfl) (argsL := [(.int nv), (.int (1000000000 : Int32))]) (rest := [(.int (0 : Int32)), (.ref b377)]) (lenOf pd_3 rfl) rfl (by show 2 * 0 + _ ≤ _; exact Nat.le_of_eq rfl) (hb hby at_295) (fun _ _ => ⟨rfl, e422, (by decide : 2 + 0 ≤ _), (by decide : 20 + 0 ≤ _)⟩)
                      dsimp only [Pt.U, Pt.locs, Pt.cells, Pt.slots] at X425 l425 y425 z425 st425 hQ425
                      subst l425 y425 z425
                      obtain ⟨rfl, N425q, e425⟩ := hQ425
                      have N425 := Fr.app N422 N425q
                      obtain ⟨cl426, Ar426, q426, S426, Nn426, Hh426, Gg426⟩ := id V422
                      have hin426 : ¬ ((0 : Int32) < 0 ∨ cl426.slots.size ≤ ((0 : Int32)).toNatClampNeg) := inb_of S426 ⟨by decide, by decide⟩
                      obtain ⟨T427, h427, X427, e427, W427, st427⟩ := stC X425 hx hZ e425 Ar426 (j := (0 : Int32)) hin426 (g := (mkF m 298 #[.val (.int p0), .val (.int p1), .val (.int (10 : Int32)), .val (.ref b2), .val (.int nv), .val (.ref b377), .unset] [(.int (dV nv (1000000000 : Int32))), (.int (0 : Int32)), (.ref b377)])) rfl rfl (hb hby at_298)
                      have V427 : Arv Z h427 b377 k377 .char (10 : Int32) [(.int (nar .char (dV nv (1000000000 : Int32)))), (.int (nar .char (dV nv (100000000 : Int32)))), (.int (nar .char (dV nv (10000000 : Int32)))), (.int (nar .char (dV nv (1000000 : Int32)))), (.int (nar .char (dV nv (100000 : Int32)))), (.int (nar .char (dV nv (10000 : Int32)))), (.int (nar .char (dV nv (1000 : Int32)))), (.int (nar .char (dV nv (100 : Int32)))), (.int (nar .char (dV nv (10 : Int32)))), (.int (nar .char (dV nv (1 : Int32))))] (.int (0 : Int32)) := Arv.set Ar426 q426 S426 Nn426 Hh426 Gg426 (fits_nar_char _) W427 0 rfl (Nat.le_of_ble_eq_true rfl)
                      have K427 : Keep h0 h427 [] := Keep.wr K422 W427 (Or.inr sz_b377)
                      have Z427 : n0 ≤ h427.size := Nat.le_trans Z0 K427.1
                      have N427 := Fr.snoc X427 N425 g_b377
                      obtain ⟨lx428, Xx428, Nx428⟩ : ∃ lx, Stand p l e room_1 s m #[(.int p0), (.int p1)] below meth c T427 lx 2 20 ∧ Fr n0 lx := ⟨_, X427, N427⟩
                      have f429 := (f423.other W427 ne_b2_b377)
                      obtain ⟨T430, h430, X430, e430, E430, A430, D430, -, st430⟩ := newO Xx428 hx hZ hown (hw _ (List.mem_of_getElem? (i := 12) rfl)) (hw _ (List.mem_of_getElem? (i := 13) rfl)) (hw _ (List.mem_of_getElem? (i := 14) rfl)) e427 (g := (mkF m 329 #[.val (.int p0), .val (.int p1), .val (.int (10 : Int32)), .val (.ref b2), .val (.int nv), .val (.ref b377), .unset] [])) rfl (hb hby at_329) (by decide) (by decide)
                      obtain ⟨b430, g430⟩ : ∃ z, z = h427.size := ⟨_, rfl⟩
                      rw [← g430] at A430 D430 st430
                      have g_b430 : n0 ≤ b430 := Nat.le_trans Z427 (Nat.le_of_eq g430.symm)
                      have sz_b430 : h0.size ≤ b430 := Nat.le_trans K427.1 (Nat.le_of_eq g430.symm)
                      have ne_b2_b430 : b2 ≠ b430 := Nat.ne_of_lt (Nat.lt_of_lt_of_le f429.lt (Nat.le_of_eq g430.symm))
                      have ne_b377_b430 : b377 ≠ b430 := Nat.ne_of_lt (Nat.lt_of_lt_of_le V427.lt (Nat.le_of_eq g430.symm))
                      have K430 : Keep h0 h430 [] := Keep.ext K427 E430
                      have Z430 : n0 ≤ h430.size := Nat.le_trans Z0 K430.1
                      have F_coder_b430 : Fld Z h430 b430 "java/lang/String" "coder" "B" (.int (0 : Int32)) := D430 (Or.inr (hw _ (List.mem_of_getElem? (i := 38) rfl))) (ty := .byte) (by decide)
                      have F_value_b430 : Fld Z h430 b430 "java/lang/String" "value" "[B" .null := D430 (Or.inr (hw _ (List.mem_of_getElem? (i := 40) rfl))) (ty := (.array .byte)) (by decide)
                      have hdg : ∀ i, i < 10 → (([(nar .char (dV nv (1000000000 : Int32))), (nar .char (dV nv (100000000 : Int32))), (nar .char (dV nv (10000000 : Int32))), (nar .char (dV nv (1000000 : Int32))), (nar .char (dV nv (100000 : Int32))), (nar .char (dV nv (10000 : Int32))), (nar .char (dV nv (1000 : Int32))), (nar .char (dV nv (100 : Int32))), (nar .char (dV nv (10 : Int32))), (nar .char (dV nv (1 : Int32)))] : List Int32).getD i 0).toInt = 48 + (nv.toInt / 10 ^ (10 - 1 - i)) % 10 := fun i hi => match i, hi with
                        | 0, _ => by rw [show (([(nar .char (dV nv (1000000000 : Int32))), (nar .char (dV nv (100000000 : Int32))), (nar .char (dV nv (10000000 : Int32))), (nar .char (dV nv (1000000 : Int32))), (nar .char (dV nv (100000 : Int32))), (nar .char (dV nv (10000 : Int32))), (nar .char (dV nv (1000 : Int32))), (nar .char (dV nv (100 : Int32))), (nar .char (dV nv (10 : Int32))), (nar .char (dV nv (1 : Int32)))] : List Int32)).getD 0 0 = nar .char (dV nv (1000000000 : Int32)) from rfl, own_dc nv (1000000000 : Int32) hnb.1 (by decide)]; rfl
                        | 1, _ => by rw [show (([(nar .char (dV nv (1000000000 : Int32))), (nar .char (dV nv (100000000 : Int32))), (nar .char (dV nv (10000000 : Int32))), (nar .char (dV nv (1000000 : Int32))), (nar .char (dV nv (100000 : Int32))), (nar .char (dV nv (10000 : Int32))), (nar .char (dV nv (1000 : Int32))), (nar .char (dV nv (100 : Int32))), (nar .char (dV nv (10 : Int32))), (nar .char (dV nv (1 : Int32)))] : List Int32)).getD 1 0 = nar .char (dV nv (100000000 : Int32)) from rfl, own_dc nv (100000000 : Int32) hnb.1 (by decide)]; rfl
                        | 2, _ => by rw [show (([(nar .char (dV nv (1000000000 : Int32))), (nar .char (dV nv (100000000 : Int32))), (nar .char (dV nv (10000000 : Int32))), (nar .char (dV nv (1000000 : Int32))), (nar .char (dV nv (100000 : Int32))), (nar .char (dV nv (10000 : Int32))), (nar .char (dV nv (1000 : Int32))), (nar .char (dV nv (100 : Int32))), (nar .char (dV nv (10 : Int32))), (nar .char (dV nv (1 : Int32)))] : List Int32)).getD 2 0 = nar .char (dV nv (10000000 : Int32)) from rfl, own_dc nv (10000000 : Int32) hnb.1 (by decide)]; rfl
                        | 3, _ => by rw [show (([(nar .char (dV nv (1000000000 : Int32))), (nar .char (dV nv (100000000 : Int32))), (nar .char (dV nv (10000000 : Int32))), (nar .char (dV nv (1000000 : Int32))), (nar .char (dV nv (100000 : Int32))), (nar .char (dV nv (10000 : Int32))), (nar .char (dV nv (1000 : Int32))), (nar .char (dV nv (100 : Int32))), (nar .char (dV nv (10 : Int32))), (nar .char (dV nv (1 : Int32)))] : List Int32)).getD 3 0 = nar .char (dV nv (1000000 : Int32)) from rfl, own_dc nv (1000000 : Int32) hnb.1 (by decide)]; rfl
                        | 4, _ => by rw [show (([(nar .char (dV nv (1000000000 : Int32))), (nar .char (dV nv (100000000 : Int32))), (nar .char (dV nv (10000000 : Int32))), (nar .char (dV nv (1000000 : Int32))), (nar .char (dV nv (100000 : Int32))), (nar .char (dV nv (10000 : Int32))), (nar .char (dV nv (1000 : Int32))), (nar .char (dV nv (100 : Int32))), (nar .char (dV nv (10 : Int32))), (nar .char (dV nv (1 : Int32)))] : List Int32)).getD 4 0 = nar .char (dV nv (100000 : Int32)) from rfl, own_dc nv (100000 : Int32) hnb.1 (by decide)]; rfl
                        | 5, _ => by rw [show (([(nar .char (dV nv (1000000000 : Int32))), (nar .char (dV nv (100000000 : Int32))), (nar .char (dV nv (10000000 : Int32))), (nar .char (dV nv (1000000 : Int32))), (nar .char (dV nv (100000 : Int32))), (nar .char (dV nv (10000 : Int32))), (nar .char (dV nv (1000 : Int32))), (nar .char (dV nv (100 : Int32))), (nar .char (dV nv (10 : Int32))), (nar .char (dV nv (1 : Int32)))] : List Int32)).getD 5 0 = nar .char (dV nv (10000 : Int32)) from rfl, own_dc nv (10000 : Int32) hnb.1 (by decide)]; rfl
                        | 6, _ => by rw [show (([(nar .char (dV nv (1000000000 : Int32))), (nar .char (dV nv (100000000 : Int32))), (nar .char (dV nv (10000000 : Int32))), (nar .char (dV nv (1000000 : Int32))), (nar .char (dV nv (100000 : Int32))), (nar .char (dV nv (10000 : Int32))), (nar .char (dV nv (1000 : Int32))), (nar .char (dV nv (100 : Int32))), (nar .char (dV nv (10 : Int32))), (nar .char (dV nv (1 : Int32)))] : List Int32)).getD 6 0 = nar .char (dV nv (1000 : Int32)) from rfl, own_dc nv (1000 : Int32) hnb.1 (by decide)]; rfl
                        | 7, _ => by rw [show (([(nar .char (dV nv (1000000000 : Int32))), (nar .char (dV nv (100000000 : Int32))), (nar .char (dV nv (10000000 : Int32))), (nar .char (dV nv (1000000 : Int32))), (nar .char (dV nv (100000 : Int32))), (nar .char (dV nv (10000 : Int32))), (nar .char (dV nv (1000 : Int32))), (nar .char (dV nv (100 : Int32))), (nar .char (dV nv (10 : Int32))), (nar .char (dV nv (1 : Int32)))] : List Int32)).getD 7 0 = nar .char (dV nv (100 : Int32)) from rfl, own_dc nv (100 : Int32) hnb.1 (by decide)]; rfl
                        | 8, _ => by rw [show (([(nar .char (dV nv (1000000000 : Int32))), (nar .char (dV nv (100000000 : Int32))), (nar .char (dV nv (10000000 : Int32))), (nar .char (dV nv (1000000 : Int32))), (nar .char (dV nv (100000 : Int32))), (nar .char (dV nv (10000 : Int32))), (nar .char (dV nv (1000 : Int32))), (nar .char (dV nv (100 : Int32))), (nar .char (dV nv (10 : Int32))), (nar .char (dV nv (1 : Int32)))] : List Int32)).getD 8 0 = nar .char (dV nv (10 : Int32)) from rfl, own_dc nv (10 : Int32) hnb.1 (by decide)]; rfl
                        | 9, _ => by rw [show (([(nar .char (dV nv (1000000000 : Int32))), (nar .char (dV nv (100000000 : Int32))), (nar .char (dV nv (10000000 : Int32))), (nar .char (dV nv (1000000 : Int32))), (nar .char (dV nv (100000 : Int32))), (nar .char (dV nv (10000 : Int32))), (nar .char (dV nv (1000 : Int32))), (nar .char (dV nv (100 : Int32))), (nar .char (dV nv (10 : Int32))), (nar .char (dV nv (1 : Int32)))] : List Int32)).getD 9 0 = nar .char (dV nv (1 : Int32)) from rfl, own_dc nv (1 : Int32) hnb.1 (by decide)]; rfl
                        | k + 10, h => absurd h (by omega)
                      obtain ⟨hp, hdig, hval, hfin⟩ := own_facts ([(nar .char (dV nv (1000000000 : Int32))), (nar .char (dV nv (100000000 : Int32))), (nar .char (dV nv (10000000 : Int32))), (nar .char (dV nv (1000000 : Int32))), (nar .char (dV nv (100000 : Int32))), (nar .char (dV nv (10000 : Int32))), (nar .char (dV nv (1000 : Int32))), (nar .char (dV nv (100 : Int32))), (nar .char (dV nv (10 : Int32))), (nar .char (dV nv (1 : Int32)))] : List Int32) nv 10 rfl hnb.1 hnb.2 hdg
                      have f432 := (V427.ext E430)
                      have f433 := (((((((((((((((((((((((SC.ext E2).wr W4).wr W6).wr W8).wr W10).wr W12).wr W14).wr W16).wr W18).wr W20).wr W22).ext E377).wr W382).wr W387).wr W392).wr W397).wr W402).wr W407).wr W412).wr W417).wr W422).wr W427).ext E430)
                      obtain ⟨_, _, ⟨T431, L431, k431, n431⟩, -, X431, ⟨Lc431, hQ431, l431, y431, z431⟩, st431⟩ := X430.specialBack hx (y := (⟨"java/lang/String", "<init>", "([C)V"⟩ : MethodName)) rfl hown (mvT hZ (hw _ (List.mem_of_getElem? (i := 15) rfl))) (mvT hZ (hw _ (List.mem_of_getElem? (i := 16) rfl))) (mvT hZ (hw _ (List.mem_of_getElem? (i := 17) rfl))) (by decide) (StrChars.Road.backV (W := 1) hZ hws (kI := 4) (hw _ (List.mem_of_getElem? (i := 13) rfl)) (cs := ([(nar .char (dV nv (1000000000 : Int32))), (nar .char (dV nv (100000000 : Int32))), (nar .char (dV nv (10000000 : Int32))), (nar .char (dV nv (1000000 : Int32))), (nar .char (dV nv (100000 : Int32))), (nar .char (dV nv (10000 : Int32))), (nar .char (dV nv (1000 : Int32))), (nar .char (dV nv (100 : Int32))), (nar .char (dV nv (10 : Int32))), (nar .char (dV nv (1 : Int32)))] : List Int32)) (bs := (([(nar .char (dV nv (1000000000 : Int32))), (nar .char (dV nv (100000000 : Int32))), (nar .char (dV nv (10000000 : Int32))), (nar .char (dV nv (1000000 : Int32))), (nar .char (dV nv (100000 : Int32))), (nar .char (dV nv (10000 : Int32))), (nar .char (dV nv (1000 : Int32))), (nar .char (dV nv (100 : Int32))), (nar .char (dV nv (10 : Int32))), (nar .char (dV nv (1 : Int32)))] : List Int32)).map (fun c => c.toInt8.toInt32)) (n := 10) g_b430 Z430 A430 F_value_b430 F_coder_b430 f432 f433 hC rfl rfl (by decide) (by decide) hp rfl (by decide) (by decide)) (g := (mkF m 335 #[.val (.int p0), .val (.int p1), .val (.int (10 : Int32)), .val (.ref b2), .val (.int nv), .val (.ref b377), .unset] [(.ref b377), (.ref b430), (.ref b430)])) rfl (by rw [hml]; rfl) (Steps.refl _) (a := b430) (argsL := [(.ref b377)]) (rest := [(.ref b430)]) (lenOf pd_4 rfl) rfl (by show 2 * 0 + _ ≤ _; exact Nat.le_of_eq rfl) (hb hby at_335) (fun _ _ => ⟨rfl, e430, (by decide : 3 + 1 ≤ _), (by decide : 24 + 10 ≤ _)⟩)
                      dsimp only [Pt.U, Pt.locs, Pt.cells, Pt.slots] at X431 l431 y431 z431 st431 hQ431
                      subst l431 y431 z431
                      obtain ⟨rfl, N431q, K431, Ex431, Fc431, bt431, kb431, gt431, ge431, nt431, Fv431, AV431⟩ := hQ431
                      have sk434 := own_sta_keep1 f433 A430 K431
                      have f435 := (((((((((((((((((((((((SG.ext E2).wr W4).wr W6).wr W8).wr W10).wr W12).wr W14).wr W16).wr W18).wr W20).wr W22).ext E377).wr W382).wr W387).wr W392).wr W397).wr W402).wr W407).wr W412).wr W417).wr W422).wr W427).ext E430)
                      have sk436 := own_sta_keep1 f435 A430 K431
                      have KK431 : Keep h0 T431.heap [] := Keep.trans K430 K431 (own_side1 (Or.inr sz_b430))
                      have Z431 : n0 ≤ T431.heap.size := Nat.le_trans Z0 KK431.1
                      have N431 := Fr.app Nx428 N431q
                      obtain ⟨lx437, Xx437, Nx437⟩ : ∃ lx, Stand p l e room_1 s m #[(.int p0), (.int p1)] below meth c T431 lx 4 34 ∧ Fr n0 lx := ⟨_, X431, N431⟩
                      obtain ⟨_, _, ⟨T438, L438, k438, n438⟩, -, X438, ⟨Lc438, hQ438, l438, y438, z438⟩, st438⟩ := Jvm.LawKit.callS Xx437 hx (y := (⟨"com/example/libforeword/libforeword/wordlist/Entry", "parseFrequency", "(Ljava/lang/String;)I"⟩ : MethodName)) hown (mvT hZ (hw _ (List.mem_of_getElem? (i := 41) rfl))) (mvT hZ (hw _ (List.mem_of_getElem? (i := 42) rfl))) (mvT hZ (hw _ (List.mem_of_getElem? (i := 43) rfl))) (mvT hZ (hw _ (List.mem_of_getElem? (i := 44) rfl))) (by decide) (backOf (W := 0) (rmPF l Z a0 hw [] b430 bt431 kb431 ([(nar .char (dV nv (1000000000 : Int32))), (nar .char (dV nv (100000000 : Int32))), (nar .char (dV nv (10000000 : Int32))), (nar .char (dV nv (1000000 : Int32))), (nar .char (dV nv (100000 : Int32))), (nar .char (dV nv (10000 : Int32))), (nar .char (dV nv (1000 : Int32))), (nar .char (dV nv (100 : Int32))), (nar .char (dV nv (10 : Int32))), (nar .char (dV nv (1 : Int32)))] : List Int32) iC vG T431.heap n0 Z431 Ex431 Fc431 Fv431 AV431 sk434 hC sk436 hvG hp (by show 0 < 10; decide) (by show 10 ≤ 12; decide) hdig hval) hZ (hw _ (List.mem_of_getElem? (i := 44) rfl)) (hw _ (List.mem_of_getElem? (i := 43) rfl)) (by decide) (by decide)) (g := (mkF m 342 #[.val (.int p0), .val (.int p1), .val (.int (10 : Int32)), .val (.ref b2), .val (.int nv), .val (.ref b377), .val (.ref b430)] [(.ref b430)])) rfl (by rw [hml]; rfl) (argsL := [(.ref b430)]) (rest := []) (lenOf pd_5 rfl) rfl (by show 2 * 0 + _ ≤ _; exact Nat.le_of_eq rfl) (hb hby at_342) (fun _ _ => ⟨rfl, rfl, (by decide : 4 + 0 ≤ _), (by decide : 34 + 0 ≤ _)⟩)
                      dsimp only [Pt.U, Pt.locs, Pt.cells, Pt.slots] at X438 l438 y438 z438 st438 hQ438
                      subst l438 y438 z438
                      obtain ⟨rfl, N438q, e438⟩ := hQ438
                      have N438 := Fr.app Nx437 N438q
                      obtain ⟨fs, hr, hrun, hended, hW, hsame⟩ := X438.leave (v := some (.int (1 : Int32))) (fun h => by rw [Bd.returns] at h; cases h)
                      refine ⟨_, _, pre376 _ ?_, hrun, hended, _, _, rfl, ?_, ⟨_, rfl⟩, hW, hsame.mono (by decide) (by decide)⟩
                      · show Steps p.tables e below (T22.setTop (mkF m 90 #[.val (.int p0), .val (.int p1), .val (.int (10 : Int32)), .val (.ref b2), .val (.int nv), .unset, .unset] [])) _
                        refine XS.iloadN Xx24.here hx rfl (hb hby at_90) rfl ?_
                        show Steps p.tables e below (T22.setTop (mkF m 91 #[.val (.int p0), .val (.int p1), .val (.int (10 : Int32)), .val (.ref b2), .val (.int nv), .unset, .unset] [(.int (10 : Int32))])) _
                        refine st377 _ ?_
                        refine XS.astore X377.here hx rfl (hb hby at_93) rfl rfl (l' := #[.val (.int p0), .val (.int p1), .val (.int (10 : Int32)), .val (.ref b2), .val (.int nv), .val (.ref b377), .unset]) rfl ?_
                        refine XS.iloadN X377.here hx rfl (hb hby at_95) rfl ?_
                        refine XS.iconst X377.here hx rfl (hb hby at_96) ?_
                        show Steps p.tables e below (T377.setTop (mkF m 97 #[.val (.int p0), .val (.int p1), .val (.int (10 : Int32)), .val (.ref b2), .val (.int nv), .val (.ref b377), .unset] [(.int (1 : Int32)), (.int (10 : Int32))])) _
                        refine XS.icmpNo X377.here hx rfl (hb hby at_97) rfl (flt (show ¬ ((10 : Int32) < (1 : Int32)) from (by decide))).1 ?_
                        refine XS.aload X377.here hx rfl (hb hby at_100) rfl rfl ?_
                        refine XS.iloadN X377.here hx rfl (hb hby at_102) rfl ?_
                        refine XS.iconst X377.here hx rfl (hb hby at_103) ?_
                        show Steps p.tables e below (T377.setTop (mkF m 104 #[.val (.int p0), .val (.int p1), .val (.int (10 : Int32)), .val (.ref b2), .val (.int nv), .val (.ref b377), .unset] [(.int (1 : Int32)), (.int (10 : Int32)), (.ref b377)])) _
                        refine XS.isub X377.here hx rfl (hb hby at_104) rfl ?_
                        refine XS.iload X377.here hx rfl (hb hby at_105) rfl ?_
                        refine XS.aloadN X377.here hx rfl (hb hby at_107) rfl rfl ?_
                        refine XS.iconst X377.here hx rfl (hb hby at_108) ?_
                        show Steps p.tables e below (T377.setTop (mkF m 109 #[.val (.int p0), .val (.int p1), .val (.int (10 : Int32)), .val (.ref b2), .val (.int nv), .val (.ref b377), .unset] [(.int (0 : Int32)), (.ref b2), (.int nv), (.int (9 : Int32)), (.ref b377)])) _
                        refine X377.iaload hx (j := (0 : Int32)) (v := (.int (1 : Int32))) (by rw [e377]; exact Ar379.1) (State.isArrayOf_alike hZ.alike Ar379.2.1) Ar379.2.2 hin379 hat379 (g := (mkF m 109 #[.val (.int p0), .val (.int p1), .val (.int (10 : Int32)), .val (.ref b2), .val (.int nv), .val (.ref b377), .unset] [(.int (0 : Int32)), (.ref b2), (.int nv), (.int (9 : Int32)), (.ref b377)])) rfl rfl (hb hby at_109) _ ?_
                        show Steps p.tables e below (T377.setTop (mkF m 110 #[.val (.int p0), .val (.int p1), .val (.int (10 : Int32)), .val (.ref b2), .val (.int nv), .val (.ref b377), .unset] [(.int (1 : Int32)), (.int nv), (.int (9 : Int32)), (.ref b377)])) _
                        refine st380 _ ?_
                        show Steps p.tables e below (T380.setTop (mkF m 113 #[.val (.int p0), .val (.int p1), .val (.int (10 : Int32)), .val (.ref b2), .val (.int nv), .val (.ref b377), .unset] [(.int (dV nv (1 : Int32))), (.int (9 : Int32)), (.ref b377)])) _
                        refine st382 _ ?_
                        refine XS.iloadN X382.here hx rfl (hb hby at_114) rfl ?_
                        refine XS.iconst X382.here hx rfl (hb hby at_115) ?_
                        show Steps p.tables e below (T382.setTop (mkF m 116 #[.val (.int p0), .val (.int p1), .val (.int (10 : Int32)), .val (.ref b2), .val (.int nv), .val (.ref b377), .unset] [(.int (2 : Int32)), (.int (10 : Int32))])) _
                        refine XS.icmpNo X382.here hx rfl (hb hby at_116) rfl (flt (show ¬ ((10 : Int32) < (2 : Int32)) from (by decide))).1 ?_
                        refine XS.aload X382.here hx rfl (hb hby at_119) rfl rfl ?_
                        refine XS.iloadN X382.here hx rfl (hb hby at_121) rfl ?_
                        refine XS.iconst X382.here hx rfl (hb hby at_122) ?_
                        show Steps p.tables e below (T382.setTop (mkF m 123 #[.val (.int p0), .val (.int p1), .val (.int (10 : Int32)), .val (.ref b2), .val (.int nv), .val (.ref b377), .unset] [(.int (2 : Int32)), (.int (10 : Int32)), (.ref b377)])) _
                        refine XS.isub X382.here hx rfl (hb hby at_123) rfl ?_
                        refine XS.iload X382.here hx rfl (hb hby at_124) rfl ?_
                        refine XS.aloadN X382.here hx rfl (hb hby at_126) rfl rfl ?_
                        refine XS.iconst X382.here hx rfl (hb hby at_127) ?_
                        show Steps p.tables e below (T382.setTop (mkF m 128 #[.val (.int p0), .val (.int p1), .val (.int (10 : Int32)), .val (.ref b2), .val (.int nv), .val (.ref b377), .unset] [(.int (1 : Int32)), (.ref b2), (.int nv), (.int (8 : Int32)), (.ref b377)])) _
                        refine X382.iaload hx (j := (1 : Int32)) (v := (.int (10 : Int32))) (by rw [e382]; exact Ar384.1) (State.isArrayOf_alike hZ.alike Ar384.2.1) Ar384.2.2 hin384 hat384 (g := (mkF m 128 #[.val (.int p0), .val (.int p1), .val (.int (10 : Int32)), .val (.ref b2), .val (.int nv), .val (.ref b377), .unset] [(.int (1 : Int32)), (.ref b2), (.int nv), (.int (8 : Int32)), (.ref b377)])) rfl rfl (hb hby at_128) _ ?_
                        show Steps p.tables e below (T382.setTop (mkF m 129 #[.val (.int p0), .val (.int p1), .val (.int (10 : Int32)), .val (.ref b2), .val (.int nv), .val (.ref b377), .unset] [(.int (10 : Int32)), (.int nv), (.int (8 : Int32)), (.ref b377)])) _
                        refine st385 _ ?_
                        show Steps p.tables e below (T385.setTop (mkF m 132 #[.val (.int p0), .val (.int p1), .val (.int (10 : Int32)), .val (.ref b2), .val (.int nv), .val (.ref b377), .unset] [(.int (dV nv (10 : Int32))), (.int (8 : Int32)), (.ref b377)])) _
                        refine st387 _ ?_
                        refine XS.iloadN X387.here hx rfl (hb hby at_133) rfl ?_
                        refine XS.iconst X387.here hx rfl (hb hby at_134) ?_
                        show Steps p.tables e below (T387.setTop (mkF m 135 #[.val (.int p0), .val (.int p1), .val (.int (10 : Int32)), .val (.ref b2), .val (.int nv), .val (.ref b377), .unset] [(.int (3 : Int32)), (.int (10 : Int32))])) _
                        refine XS.icmpNo X387.here hx rfl (hb hby at_135) rfl (flt (show ¬ ((10 : Int32) < (3 : Int32)) from (by decide))).1 ?_
                        refine XS.aload X387.here hx rfl (hb hby at_138) rfl rfl ?_
                        refine XS.iloadN X387.here hx rfl (hb hby at_140) rfl ?_
                        refine XS.iconst X387.here hx rfl (hb hby at_141) ?_
                        show Steps p.tables e below (T387.setTop (mkF m 142 #[.val (.int p0), .val (.int p1), .val (.int (10 : Int32)), .val (.ref b2), .val (.int nv), .val (.ref b377), .unset] [(.int (3 : Int32)), (.int (10 : Int32)), (.ref b377)])) _
                        refine XS.isub X387.here hx rfl (hb hby at_142) rfl ?_
                        refine XS.iload X387.here hx rfl (hb hby at_143) rfl ?_
                        refine XS.aloadN X387.here hx rfl (hb hby at_145) rfl rfl ?_
                        refine XS.iconst X387.here hx rfl (hb hby at_146) ?_
                        show Steps p.tables e below (T387.setTop (mkF m 147 #[.val (.int p0), .val (.int p1), .val (.int (10 : Int32)), .val (.ref b2), .val (.int nv), .val (.ref b377), .unset] [(.int (2 : Int32)), (.ref b2), (.int nv), (.int (7 : Int32)), (.ref b377)])) _
                        refine X387.iaload hx (j := (2 : Int32)) (v := (.int (100 : Int32))) (by rw [e387]; exact Ar389.1) (State.isArrayOf_alike hZ.alike Ar389.2.1) Ar389.2.2 hin389 hat389 (g := (mkF m 147 #[.val (.int p0), .val (.int p1), .val (.int (10 : Int32)), .val (.ref b2), .val (.int nv), .val (.ref b377), .unset] [(.int (2 : Int32)), (.ref b2), (.int nv), (.int (7 : Int32)), (.ref b377)])) rfl rfl (hb hby at_147) _ ?_
                        show Steps p.tables e below (T387.setTop (mkF m 148 #[.val (.int p0), .val (.int p1), .val (.int (10 : Int32)), .val (.ref b2), .val (.int nv), .val (.ref b377), .unset] [(.int (100 : Int32)), (.int nv), (.int (7 : Int32)), (.ref b377)])) _
                        refine st390 _ ?_
                        show Steps p.tables e below (T390.setTop (mkF m 151 #[.val (.int p0), .val (.int p1), .val (.int (10 : Int32)), .val (.ref b2), .val (.int nv), .val (.ref b377), .unset] [(.int (dV nv (100 : Int32))), (.int (7 : Int32)), (.ref b377)])) _
                        refine st392 _ ?_
                        refine XS.iloadN X392.here hx rfl (hb hby at_152) rfl ?_
                        refine XS.iconst X392.here hx rfl (hb hby at_153) ?_
                        show Steps p.tables e below (T392.setTop (mkF m 154 #[.val (.int p0), .val (.int p1), .val (.int (10 : Int32)), .val (.ref b2), .val (.int nv), .val (.ref b377), .unset] [(.int (4 : Int32)), (.int (10 : Int32))])) _
                        refine XS.icmpNo X392.here hx rfl (hb hby at_154) rfl (flt (show ¬ ((10 : Int32) < (4 : Int32)) from (by decide))).1 ?_
                        refine XS.aload X392.here hx rfl (hb hby at_157) rfl rfl ?_
                        refine XS.iloadN X392.here hx rfl (hb hby at_159) rfl ?_
                        refine XS.iconst X392.here hx rfl (hb hby at_160) ?_
                        show Steps p.tables e below (T392.setTop (mkF m 161 #[.val (.int p0), .val (.int p1), .val (.int (10 : Int32)), .val (.ref b2), .val (.int nv), .val (.ref b377), .unset] [(.int (4 : Int32)), (.int (10 : Int32)), (.ref b377)])) _
                        refine XS.isub X392.here hx rfl (hb hby at_161) rfl ?_
                        refine XS.iload X392.here hx rfl (hb hby at_162) rfl ?_
                        refine XS.aloadN X392.here hx rfl (hb hby at_164) rfl rfl ?_
                        refine XS.iconst X392.here hx rfl (hb hby at_165) ?_
                        show Steps p.tables e below (T392.setTop (mkF m 166 #[.val (.int p0), .val (.int p1), .val (.int (10 : Int32)), .val (.ref b2), .val (.int nv), .val (.ref b377), .unset] [(.int (3 : Int32)), (.ref b2), (.int nv), (.int (6 : Int32)), (.ref b377)])) _
                        refine X392.iaload hx (j := (3 : Int32)) (v := (.int (1000 : Int32))) (by rw [e392]; exact Ar394.1) (State.isArrayOf_alike hZ.alike Ar394.2.1) Ar394.2.2 hin394 hat394 (g := (mkF m 166 #[.val (.int p0), .val (.int p1), .val (.int (10 : Int32)), .val (.ref b2), .val (.int nv), .val (.ref b377), .unset] [(.int (3 : Int32)), (.ref b2), (.int nv), (.int (6 : Int32)), (.ref b377)])) rfl rfl (hb hby at_166) _ ?_
                        show Steps p.tables e below (T392.setTop (mkF m 167 #[.val (.int p0), .val (.int p1), .val (.int (10 : Int32)), .val (.ref b2), .val (.int nv), .val (.ref b377), .unset] [(.int (1000 : Int32)), (.int nv), (.int (6 : Int32)), (.ref b377)])) _
                        refine st395 _ ?_
                        show Steps p.tables e below (T395.setTop (mkF m 170 #[.val (.int p0), .val (.int p1), .val (.int (10 : Int32)), .val (.ref b2), .val (.int nv), .val (.ref b377), .unset] [(.int (dV nv (1000 : Int32))), (.int (6 : Int32)), (.ref b377)])) _
                        refine st397 _ ?_
                        refine XS.iloadN X397.here hx rfl (hb hby at_171) rfl ?_
                        refine XS.iconst X397.here hx rfl (hb hby at_172) ?_
                        show Steps p.tables e below (T397.setTop (mkF m 173 #[.val (.int p0), .val (.int p1), .val (.int (10 : Int32)), .val (.ref b2), .val (.int nv), .val (.ref b377), .unset] [(.int (5 : Int32)), (.int (10 : Int32))])) _
                        refine XS.icmpNo X397.here hx rfl (hb hby at_173) rfl (flt (show ¬ ((10 : Int32) < (5 : Int32)) from (by decide))).1 ?_
                        refine XS.aload X397.here hx rfl (hb hby at_176) rfl rfl ?_
                        refine XS.iloadN X397.here hx rfl (hb hby at_178) rfl ?_
                        refine XS.iconst X397.here hx rfl (hb hby at_179) ?_
                        show Steps p.tables e below (T397.setTop (mkF m 180 #[.val (.int p0), .val (.int p1), .val (.int (10 : Int32)), .val (.ref b2), .val (.int nv), .val (.ref b377), .unset] [(.int (5 : Int32)), (.int (10 : Int32)), (.ref b377)])) _
                        refine XS.isub X397.here hx rfl (hb hby at_180) rfl ?_
                        refine XS.iload X397.here hx rfl (hb hby at_181) rfl ?_
                        refine XS.aloadN X397.here hx rfl (hb hby at_183) rfl rfl ?_
                        refine XS.iconst X397.here hx rfl (hb hby at_184) ?_
                        show Steps p.tables e below (T397.setTop (mkF m 185 #[.val (.int p0), .val (.int p1), .val (.int (10 : Int32)), .val (.ref b2), .val (.int nv), .val (.ref b377), .unset] [(.int (4 : Int32)), (.ref b2), (.int nv), (.int (5 : Int32)), (.ref b377)])) _
                        refine X397.iaload hx (j := (4 : Int32)) (v := (.int (10000 : Int32))) (by rw [e397]; exact Ar399.1) (State.isArrayOf_alike hZ.alike Ar399.2.1) Ar399.2.2 hin399 hat399 (g := (mkF m 185 #[.val (.int p0), .val (.int p1), .val (.int (10 : Int32)), .val (.ref b2), .val (.int nv), .val (.ref b377), .unset] [(.int (4 : Int32)), (.ref b2), (.int nv), (.int (5 : Int32)), (.ref b377)])) rfl rfl (hb hby at_185) _ ?_
                        show Steps p.tables e below (T397.setTop (mkF m 186 #[.val (.int p0), .val (.int p1), .val (.int (10 : Int32)), .val (.ref b2), .val (.int nv), .val (.ref b377), .unset] [(.int (10000 : Int32)), (.int nv), (.int (5 : Int32)), (.ref b377)])) _
                        refine st400 _ ?_
                        show Steps p.tables e below (T400.setTop (mkF m 189 #[.val (.int p0), .val (.int p1), .val (.int (10 : Int32)), .val (.ref b2), .val (.int nv), .val (.ref b377), .unset] [(.int (dV nv (10000 : Int32))), (.int (5 : Int32)), (.ref b377)])) _
                        refine st402 _ ?_
                        refine XS.iloadN X402.here hx rfl (hb hby at_190) rfl ?_
                        refine XS.bipush X402.here hx rfl (hb hby at_191) ?_
                        show Steps p.tables e below (T402.setTop (mkF m 193 #[.val (.int p0), .val (.int p1), .val (.int (10 : Int32)), .val (.ref b2), .val (.int nv), .val (.ref b377), .unset] [(.int (6 : Int32)), (.int (10 : Int32))])) _
                        refine XS.icmpNo X402.here hx rfl (hb hby at_193) rfl (flt (show ¬ ((10 : Int32) < (6 : Int32)) from (by decide))).1 ?_
                        refine XS.aload X402.here hx rfl (hb hby at_196) rfl rfl ?_
                        refine XS.iloadN X402.here hx rfl (hb hby at_198) rfl ?_
                        refine XS.bipush X402.here hx rfl (hb hby at_199) ?_
                        show Steps p.tables e below (T402.setTop (mkF m 201 #[.val (.int p0), .val (.int p1), .val (.int (10 : Int32)), .val (.ref b2), .val (.int nv), .val (.ref b377), .unset] [(.int (6 : Int32)), (.int (10 : Int32)), (.ref b377)])) _
                        refine XS.isub X402.here hx rfl (hb hby at_201) rfl ?_
                        refine XS.iload X402.here hx rfl (hb hby at_202) rfl ?_
                        refine XS.aloadN X402.here hx rfl (hb hby at_204) rfl rfl ?_
                        refine XS.iconst X402.here hx rfl (hb hby at_205) ?_
                        show Steps p.tables e below (T402.setTop (mkF m 206 #[.val (.int p0), .val (.int p1), .val (.int (10 : Int32)), .val (.ref b2), .val (.int nv), .val (.ref b377), .unset] [(.int (5 : Int32)), (.ref b2), (.int nv), (.int (4 : Int32)), (.ref b377)])) _
                        refine X402.iaload hx (j := (5 : Int32)) (v := (.int (100000 : Int32))) (by rw [e402]; exact Ar404.1) (State.isArrayOf_alike hZ.alike Ar404.2.1) Ar404.2.2 hin404 hat404 (g := (mkF m 206 #[.val (.int p0), .val (.int p1), .val (.int (10 : Int32)), .val (.ref b2), .val (.int nv), .val (.ref b377), .unset] [(.int (5 : Int32)), (.ref b2), (.int nv), (.int (4 : Int32)), (.ref b377)])) rfl rfl (hb hby at_206) _ ?_
                        show Steps p.tables e below (T402.setTop (mkF m 207 #[.val (.int p0), .val (.int p1), .val (.int (10 : Int32)), .val (.ref b2), .val (.int nv), .val (.ref b377), .unset] [(.int (100000 : Int32)), (.int nv), (.int (4 : Int32)), (.ref b377)])) _
                        refine st405 _ ?_
                        show Steps p.tables e below (T405.setTop (mkF m 210 #[.val (.int p0), .val (.int p1), .val (.int (10 : Int32)), .val (.ref b2), .val (.int nv), .val (.ref b377), .unset] [(.int (dV nv (100000 : Int32))), (.int (4 : Int32)), (.ref b377)])) _
                        refine st407 _ ?_
                        refine XS.iloadN X407.here hx rfl (hb hby at_211) rfl ?_
                        refine XS.bipush X407.here hx rfl (hb hby at_212) ?_
                        show Steps p.tables e below (T407.setTop (mkF m 214 #[.val (.int p0), .val (.int p1), .val (.int (10 : Int32)), .val (.ref b2), .val (.int nv), .val (.ref b377), .unset] [(.int (7 : Int32)), (.int (10 : Int32))])) _
                        refine XS.icmpNo X407.here hx rfl (hb hby at_214) rfl (flt (show ¬ ((10 : Int32) < (7 : Int32)) from (by decide))).1 ?_
                        refine XS.aload X407.here hx rfl (hb hby at_217) rfl rfl ?_
                        refine XS.iloadN X407.here hx rfl (hb hby at_219) rfl ?_
                        refine XS.bipush X407.here hx rfl (hb hby at_220) ?_
                        show Steps p.tables e below (T407.setTop (mkF m 222 #[.val (.int p0), .val (.int p1), .val (.int (10 : Int32)), .val (.ref b2), .val (.int nv), .val (.ref b377), .unset] [(.int (7 : Int32)), (.int (10 : Int32)), (.ref b377)])) _
                        refine XS.isub X407.here hx rfl (hb hby at_222) rfl ?_
                        refine XS.iload X407.here hx rfl (hb hby at_223) rfl ?_
                        refine XS.aloadN X407.here hx rfl (hb hby at_225) rfl rfl ?_
                        refine XS.bipush X407.here hx rfl (hb hby at_226) ?_
                        show Steps p.tables e below (T407.setTop (mkF m 228 #[.val (.int p0), .val (.int p1), .val (.int (10 : Int32)), .val (.ref b2), .val (.int nv), .val (.ref b377), .unset] [(.int (6 : Int32)), (.ref b2), (.int nv), (.int (3 : Int32)), (.ref b377)])) _
                        refine X407.iaload hx (j := (6 : Int32)) (v := (.int (1000000 : Int32))) (by rw [e407]; exact Ar409.1) (State.isArrayOf_alike hZ.alike Ar409.2.1) Ar409.2.2 hin409 hat409 (g := (mkF m 228 #[.val (.int p0), .val (.int p1), .val (.int (10 : Int32)), .val (.ref b2), .val (.int nv), .val (.ref b377), .unset] [(.int (6 : Int32)), (.ref b2), (.int nv), (.int (3 : Int32)), (.ref b377)])) rfl rfl (hb hby at_228) _ ?_
                        show Steps p.tables e below (T407.setTop (mkF m 229 #[.val (.int p0), .val (.int p1), .val (.int (10 : Int32)), .val (.ref b2), .val (.int nv), .val (.ref b377), .unset] [(.int (1000000 : Int32)), (.int nv), (.int (3 : Int32)), (.ref b377)])) _
                        refine st410 _ ?_
                        show Steps p.tables e below (T410.setTop (mkF m 232 #[.val (.int p0), .val (.int p1), .val (.int (10 : Int32)), .val (.ref b2), .val (.int nv), .val (.ref b377), .unset] [(.int (dV nv (1000000 : Int32))), (.int (3 : Int32)), (.ref b377)])) _
                        refine st412 _ ?_
                        refine XS.iloadN X412.here hx rfl (hb hby at_233) rfl ?_
                        refine XS.bipush X412.here hx rfl (hb hby at_234) ?_
                        show Steps p.tables e below (T412.setTop (mkF m 236 #[.val (.int p0), .val (.int p1), .val (.int (10 : Int32)), .val (.ref b2), .val (.int nv), .val (.ref b377), .unset] [(.int (8 : Int32)), (.int (10 : Int32))])) _
                        refine XS.icmpNo X412.here hx rfl (hb hby at_236) rfl (flt (show ¬ ((10 : Int32) < (8 : Int32)) from (by decide))).1 ?_
                        refine XS.aload X412.here hx rfl (hb hby at_239) rfl rfl ?_
                        refine XS.iloadN X412.here hx rfl (hb hby at_241) rfl ?_
                        refine XS.bipush X412.here hx rfl (hb hby at_242) ?_
                        show Steps p.tables e below (T412.setTop (mkF m 244 #[.val (.int p0), .val (.int p1), .val (.int (10 : Int32)), .val (.ref b2), .val (.int nv), .val (.ref b377), .unset] [(.int (8 : Int32)), (.int (10 : Int32)), (.ref b377)])) _
                        refine XS.isub X412.here hx rfl (hb hby at_244) rfl ?_
                        refine XS.iload X412.here hx rfl (hb hby at_245) rfl ?_
                        refine XS.aloadN X412.here hx rfl (hb hby at_247) rfl rfl ?_
                        refine XS.bipush X412.here hx rfl (hb hby at_248) ?_
                        show Steps p.tables e below (T412.setTop (mkF m 250 #[.val (.int p0), .val (.int p1), .val (.int (10 : Int32)), .val (.ref b2), .val (.int nv), .val (.ref b377), .unset] [(.int (7 : Int32)), (.ref b2), (.int nv), (.int (2 : Int32)), (.ref b377)])) _
                        refine X412.iaload hx (j := (7 : Int32)) (v := (.int (10000000 : Int32))) (by rw [e412]; exact Ar414.1) (State.isArrayOf_alike hZ.alike Ar414.2.1) Ar414.2.2 hin414 hat414 (g := (mkF m 250 #[.val (.int p0), .val (.int p1), .val (.int (10 : Int32)), .val (.ref b2), .val (.int nv), .val (.ref b377), .unset] [(.int (7 : Int32)), (.ref b2), (.int nv), (.int (2 : Int32)), (.ref b377)])) rfl rfl (hb hby at_250) _ ?_
                        show Steps p.tables e below (T412.setTop (mkF m 251 #[.val (.int p0), .val (.int p1), .val (.int (10 : Int32)), .val (.ref b2), .val (.int nv), .val (.ref b377), .unset] [(.int (10000000 : Int32)), (.int nv), (.int (2 : Int32)), (.ref b377)])) _
                        refine st415 _ ?_
                        show Steps p.tables e below (T415.setTop (mkF m 254 #[.val (.int p0), .val (.int p1), .val (.int (10 : Int32)), .val (.ref b2), .val (.int nv), .val (.ref b377), .unset] [(.int (dV nv (10000000 : Int32))), (.int (2 : Int32)), (.ref b377)])) _
                        refine st417 _ ?_
                        refine XS.iloadN X417.here hx rfl (hb hby at_255) rfl ?_
                        refine XS.bipush X417.here hx rfl (hb hby at_256) ?_
                        show Steps p.tables e below (T417.setTop (mkF m 258 #[.val (.int p0), .val (.int p1), .val (.int (10 : Int32)), .val (.ref b2), .val (.int nv), .val (.ref b377), .unset] [(.int (9 : Int32)), (.int (10 : Int32))])) _
                        refine XS.icmpNo X417.here hx rfl (hb hby at_258) rfl (flt (show ¬ ((10 : Int32) < (9 : Int32)) from (by decide))).1 ?_
                        refine XS.aload X417.here hx rfl (hb hby at_261) rfl rfl ?_
                        refine XS.iloadN X417.here hx rfl (hb hby at_263) rfl ?_
                        refine XS.bipush X417.here hx rfl (hb hby at_264) ?_
                        show Steps p.tables e below (T417.setTop (mkF m 266 #[.val (.int p0), .val (.int p1), .val (.int (10 : Int32)), .val (.ref b2), .val (.int nv), .val (.ref b377), .unset] [(.int (9 : Int32)), (.int (10 : Int32)), (.ref b377)])) _
                        refine XS.isub X417.here hx rfl (hb hby at_266) rfl ?_
                        refine XS.iload X417.here hx rfl (hb hby at_267) rfl ?_
                        refine XS.aloadN X417.here hx rfl (hb hby at_269) rfl rfl ?_
                        refine XS.bipush X417.here hx rfl (hb hby at_270) ?_
                        show Steps p.tables e below (T417.setTop (mkF m 272 #[.val (.int p0), .val (.int p1), .val (.int (10 : Int32)), .val (.ref b2), .val (.int nv), .val (.ref b377), .unset] [(.int (8 : Int32)), (.ref b2), (.int nv), (.int (1 : Int32)), (.ref b377)])) _
                        refine X417.iaload hx (j := (8 : Int32)) (v := (.int (100000000 : Int32))) (by rw [e417]; exact Ar419.1) (State.isArrayOf_alike hZ.alike Ar419.2.1) Ar419.2.2 hin419 hat419 (g := (mkF m 272 #[.val (.int p0), .val (.int p1), .val (.int (10 : Int32)), .val (.ref b2), .val (.int nv), .val (.ref b377), .unset] [(.int (8 : Int32)), (.ref b2), (.int nv), (.int (1 : Int32)), (.ref b377)])) rfl rfl (hb hby at_272) _ ?_
                        show Steps p.tables e below (T417.setTop (mkF m 273 #[.val (.int p0), .val (.int p1), .val (.int (10 : Int32)), .val (.ref b2), .val (.int nv), .val (.ref b377), .unset] [(.int (100000000 : Int32)), (.int nv), (.int (1 : Int32)), (.ref b377)])) _
                        refine st420 _ ?_
                        show Steps p.tables e below (T420.setTop (mkF m 276 #[.val (.int p0), .val (.int p1), .val (.int (10 : Int32)), .val (.ref b2), .val (.int nv), .val (.ref b377), .unset] [(.int (dV nv (100000000 : Int32))), (.int (1 : Int32)), (.ref b377)])) _
                        refine st422 _ ?_
                        refine XS.iloadN X422.here hx rfl (hb hby at_277) rfl ?_
                        refine XS.bipush X422.here hx rfl (hb hby at_278) ?_
                        show Steps p.tables e below (T422.setTop (mkF m 280 #[.val (.int p0), .val (.int p1), .val (.int (10 : Int32)), .val (.ref b2), .val (.int nv), .val (.ref b377), .unset] [(.int (10 : Int32)), (.int (10 : Int32))])) _
                        refine XS.icmpNo X422.here hx rfl (hb hby at_280) rfl (flt (show ¬ ((10 : Int32) < (10 : Int32)) from (by decide))).1 ?_
                        refine XS.aload X422.here hx rfl (hb hby at_283) rfl rfl ?_
                        refine XS.iloadN X422.here hx rfl (hb hby at_285) rfl ?_
                        refine XS.bipush X422.here hx rfl (hb hby at_286) ?_
                        show Steps p.tables e below (T422.setTop (mkF m 288 #[.val (.int p0), .val (.int p1), .val (.int (10 : Int32)), .val (.ref b2), .val (.int nv), .val (.ref b377), .unset] [(.int (10 : Int32)), (.int (10 : Int32)), (.ref b377)])) _
                        refine XS.isub X422.here hx rfl (hb hby at_288) rfl ?_
                        refine XS.iload X422.here hx rfl (hb hby at_289) rfl ?_
                        refine XS.aloadN X422.here hx rfl (hb hby at_291) rfl rfl ?_
                        refine XS.bipush X422.here hx rfl (hb hby at_292) ?_
                        show Steps p.tables e below (T422.setTop (mkF m 294 #[.val (.int p0), .val (.int p1), .val (.int (10 : Int32)), .val (.ref b2), .val (.int nv), .val (.ref b377), .unset] [(.int (9 : Int32)), (.ref b2), (.int nv), (.int (0 : Int32)), (.ref b377)])) _
                        refine X422.iaload hx (j := (9 : Int32)) (v := (.int (1000000000 : Int32))) (by rw [e422]; exact Ar424.1) (State.isArrayOf_alike hZ.alike Ar424.2.1) Ar424.2.2 hin424 hat424 (g := (mkF m 294 #[.val (.int p0), .val (.int p1), .val (.int (10 : Int32)), .val (.ref b2), .val (.int nv), .val (.ref b377), .unset] [(.int (9 : Int32)), (.ref b2), (.int nv), (.int (0 : Int32)), (.ref b377)])) rfl rfl (hb hby at_294) _ ?_
                        show Steps p.tables e below (T422.setTop (mkF m 295 #[.val (.int p0), .val (.int p1), .val (.int (10 : Int32)), .val (.ref b2), .val (.int nv), .val (.ref b377), .unset] [(.int (1000000000 : Int32)), (.int nv), (.int (0 : Int32)), (.ref b377)])) _
                        refine st425 _ ?_
                        show Steps p.tables e below (T425.setTop (mkF m 298 #[.val (.int p0), .val (.int p1), .val (.int (10 : Int32)), .val (.ref b2), .val (.int nv), .val (.ref b377), .unset] [(.int (dV nv (1000000000 : Int32))), (.int (0 : Int32)), (.ref b377)])) _
                        refine st427 _ ?_
                        refine XS.iloadN X427.here hx rfl (hb hby at_299) rfl ?_
                        refine XS.bipush X427.here hx rfl (hb hby at_300) ?_
                        show Steps p.tables e below (T427.setTop (mkF m 302 #[.val (.int p0), .val (.int p1), .val (.int (10 : Int32)), .val (.ref b2), .val (.int nv), .val (.ref b377), .unset] [(.int (11 : Int32)), (.int (10 : Int32))])) _
                        refine XS.icmpYes X427.here hx rfl (pc0 := 302) (pc' := 314) rfl (hb hby at_302) rfl (tlt (show (10 : Int32) < (11 : Int32) from (by decide))).1 (by decide) (by decide) ?_
                        refine XS.iloadN X427.here hx rfl (hb hby at_314) rfl ?_
                        refine XS.bipush X427.here hx rfl (hb hby at_315) ?_
                        show Steps p.tables e below (T427.setTop (mkF m 317 #[.val (.int p0), .val (.int p1), .val (.int (10 : Int32)), .val (.ref b2), .val (.int nv), .val (.ref b377), .unset] [(.int (12 : Int32)), (.int (10 : Int32))])) _
                        refine XS.icmpYes X427.here hx rfl (pc0 := 317) (pc' := 329) rfl (hb hby at_317) rfl (tlt (show (10 : Int32) < (12 : Int32) from (by decide))).1 (by decide) (by decide) ?_
                        show Steps p.tables e below (T427.setTop (mkF m 329 #[.val (.int p0), .val (.int p1), .val (.int (10 : Int32)), .val (.ref b2), .val (.int nv), .val (.ref b377), .unset] [])) _
                        refine st430 _ ?_
                        show Steps p.tables e below (T430.setTop (mkF m 332 #[.val (.int p0), .val (.int p1), .val (.int (10 : Int32)), .val (.ref b2), .val (.int nv), .val (.ref b377), .unset] [(.ref b430)])) _
                        refine XS.dup X430.here hx rfl (hb hby at_332) rfl rfl ?_
                        refine XS.aload X430.here hx rfl (hb hby at_333) rfl rfl ?_
                        show Steps p.tables e below (T430.setTop (mkF m 335 #[.val (.int p0), .val (.int p1), .val (.int (10 : Int32)), .val (.ref b2), .val (.int nv), .val (.ref b377), .unset] [(.ref b377), (.ref b430), (.ref b430)])) _
                        refine st431.trans ?_
                        refine XS.astore X431.here hx rfl (hb hby at_338) rfl rfl (l' := #[.val (.int p0), .val (.int p1), .val (.int (10 : Int32)), .val (.ref b2), .val (.int nv), .val (.ref b377), .val (.ref b430)]) rfl ?_
                        refine XS.aload Xx437.here hx rfl (hb hby at_340) rfl rfl ?_
                        show Steps p.tables e below (T431.setTop (mkF m 342 #[.val (.int p0), .val (.int p1), .val (.int (10 : Int32)), .val (.ref b2), .val (.int nv), .val (.ref b377), .val (.ref b430)] [(.ref b430)])) _
                        refine st438 _ ?_
                        show Steps p.tables e below (T438.setTop (mkF m 345 #[.val (.int p0), .val (.int p1), .val (.int (10 : Int32)), .val (.ref b2), .val (.int nv), .val (.ref b377), .val (.ref b430)] [(.int ((pv ([(nar .char (dV nv (1000000000 : Int32))), (nar .char (dV nv (100000000 : Int32))), (nar .char (dV nv (10000000 : Int32))), (nar .char (dV nv (1000000 : Int32))), (nar .char (dV nv (100000 : Int32))), (nar .char (dV nv (10000 : Int32))), (nar .char (dV nv (1000 : Int32))), (nar .char (dV nv (100 : Int32))), (nar .char (dV nv (10 : Int32))), (nar .char (dV nv (1 : Int32)))] : List Int32) ([(nar .char (dV nv (1000000000 : Int32))), (nar .char (dV nv (100000000 : Int32))), (nar .char (dV nv (10000000 : Int32))), (nar .char (dV nv (1000000 : Int32))), (nar .char (dV nv (100000 : Int32))), (nar .char (dV nv (10000 : Int32))), (nar .char (dV nv (1000 : Int32))), (nar .char (dV nv (100 : Int32))), (nar .char (dV nv (10 : Int32))), (nar .char (dV nv (1 : Int32)))] : List Int32).length).toInt32))])) _
                        refine XS.iload X438.here hx rfl (hb hby at_345) rfl ?_
                        show Steps p.tables e below (T438.setTop (mkF m 347 #[.val (.int p0), .val (.int p1), .val (.int (10 : Int32)), .val (.ref b2), .val (.int nv), .val (.ref b377), .val (.ref b430)] [(.int nv), (.int ((pv ([(nar .char (dV nv (1000000000 : Int32))), (nar .char (dV nv (100000000 : Int32))), (nar .char (dV nv (10000000 : Int32))), (nar .char (dV nv (1000000 : Int32))), (nar .char (dV nv (100000 : Int32))), (nar .char (dV nv (10000 : Int32))), (nar .char (dV nv (1000 : Int32))), (nar .char (dV nv (100 : Int32))), (nar .char (dV nv (10 : Int32))), (nar .char (dV nv (1 : Int32)))] : List Int32) ([(nar .char (dV nv (1000000000 : Int32))), (nar .char (dV nv (100000000 : Int32))), (nar .char (dV nv (10000000 : Int32))), (nar .char (dV nv (1000000 : Int32))), (nar .char (dV nv (100000 : Int32))), (nar .char (dV nv (10000 : Int32))), (nar .char (dV nv (1000 : Int32))), (nar .char (dV nv (100 : Int32))), (nar .char (dV nv (10 : Int32))), (nar .char (dV nv (1 : Int32)))] : List Int32).length).toInt32))])) _
                        refine XS.icmpNo X438.here hx rfl (hb hby at_347) rfl (teq (show ((pv ([(nar .char (dV nv (1000000000 : Int32))), (nar .char (dV nv (100000000 : Int32))), (nar .char (dV nv (10000000 : Int32))), (nar .char (dV nv (1000000 : Int32))), (nar .char (dV nv (100000 : Int32))), (nar .char (dV nv (10000 : Int32))), (nar .char (dV nv (1000 : Int32))), (nar .char (dV nv (100 : Int32))), (nar .char (dV nv (10 : Int32))), (nar .char (dV nv (1 : Int32)))] : List Int32) ([(nar .char (dV nv (1000000000 : Int32))), (nar .char (dV nv (100000000 : Int32))), (nar .char (dV nv (10000000 : Int32))), (nar .char (dV nv (1000000 : Int32))), (nar .char (dV nv (100000 : Int32))), (nar .char (dV nv (10000 : Int32))), (nar .char (dV nv (1000 : Int32))), (nar .char (dV nv (100 : Int32))), (nar .char (dV nv (10 : Int32))), (nar .char (dV nv (1 : Int32)))] : List Int32).length).toInt32) = nv from hfin)).2 ?_
                        refine XS.iconst X438.here hx rfl (hb hby at_350) ?_
                        refine XS.goto X438.here hx rfl (pc0 := 351) (pc' := 355) rfl (hb hby at_351) (by decide) (by decide) ?_
                        show Steps p.tables e below (T438.setTop (mkF m 355 #[.val (.int p0), .val (.int p1), .val (.int (10 : Int32)), .val (.ref b2), .val (.int nv), .val (.ref b377), .val (.ref b430)] [(.int (1 : Int32))])) _
                        exact retN X438 hx (t := .boolean) Bd.returns (by simp) (hb hby at_355) hr
                      · show Q0 h0 n0 _ T438.heap _
                        rw [e438]
                        exact ⟨rfl, N438⟩
                    · by_cases hl11 : len = (11 : Int32)
                      · rw [hl11] at pre23
                        have pre439 : ∀ t, Steps p.tables e below (T22.setTop (mkF m 90 #[.val (.int p0), .val (.int p1), .val (.int (11 : Int32)), .val (.ref b2), .val (.int (p0 &&& (2147483647 : Int32))), .unset, .unset] [])) t → Steps p.tables e below (s₁.setTop (entryFrame m #[(.int p0), (.int p1)] maxLocals)) t := fun t kt => pre23 t (by
                            show Steps p.tables e below (T22.setTop (mkF m 70 #[.val (.int p0), .val (.int p1), .val (.int (11 : Int32)), .val (.ref b2), .unset, .unset, .unset] [])) _
                            refine XS.iloadN Xx24.here hx rfl (hb hby at_70) rfl ?_
                            show Steps p.tables e below (T22.setTop (mkF m 71 #[.val (.int p0), .val (.int p1), .val (.int (11 : Int32)), .val (.ref b2), .unset, .unset, .unset] [(.int p0)])) _
                            refine Xx24.ldcI hx hown (mvT hZ (hw _ (List.mem_of_getElem? (i := 6) rfl))) (g := (mkF m 71 #[.val (.int p0), .val (.int p1), .val (.int (11 : Int32)), .val (.ref b2), .unset, .unset, .unset] [(.int p0)])) rfl (hb hby at_71) ?_
                            show Steps p.tables e below (T22.setTop (mkF m 73 #[.val (.int p0), .val (.int p1), .val (.int (11 : Int32)), .val (.ref b2), .unset, .unset, .unset] [(.int (2147483647 : Int32)), (.int p0)])) _
                            refine XS.iand Xx24.here hx rfl (hb hby at_73) rfl ?_
                            refine XS.istore Xx24.here hx rfl (hb hby at_74) rfl (l' := #[.val (.int p0), .val (.int p1), .val (.int (11 : Int32)), .val (.ref b2), .val (.int (p0 &&& (2147483647 : Int32))), .unset, .unset]) rfl ?_
                            refine XS.iloadN Xx24.here hx rfl (hb hby at_76) rfl ?_
                            refine XS.bipush Xx24.here hx rfl (hb hby at_77) ?_
                            show Steps p.tables e below (T22.setTop (mkF m 79 #[.val (.int p0), .val (.int p1), .val (.int (11 : Int32)), .val (.ref b2), .val (.int (p0 &&& (2147483647 : Int32))), .unset, .unset] [(.int (10 : Int32)), (.int (11 : Int32))])) _
                            refine XS.icmpYes Xx24.here hx rfl (pc0 := 79) (pc' := 90) rfl (hb hby at_79) rfl (flt (show ¬ ((11 : Int32) < (10 : Int32)) from (by decide))).2.1 (by decide) (by decide) ?_
                            exact kt)
                        obtain ⟨nv, hnv⟩ : ∃ z : Int32, z = (p0 &&& (2147483647 : Int32)) := ⟨_, rfl⟩
                        rw [← hnv] at pre439
                        have hnb : 0 ≤ nv.toInt ∧ nv.toInt < 10 ^ 11 := ⟨by rw [hnv]; exact own_and31 p0, Int.lt_of_lt_of_le nv.toInt_lt (by decide)⟩
                        obtain ⟨T440, h440, k440, X440, e440, E440, A440, st440⟩ := newP Xx24 hx hZ (hw _ (List.mem_of_getElem? (i := 7) rfl)) e22 (g := (mkF m 91 #[.val (.int p0), .val (.int p1), .val (.int (11 : Int32)), .val (.ref b2), .val (.int nv), .unset, .unset] [(.int (11 : Int32))])) rfl (hb hby at_91) rfl (by decide) (cap := 11) (by decide) (by decide) (by decide) (by decide)
                        obtain ⟨b440, g440⟩ : ∃ z, z = h22.size := ⟨_, rfl⟩
                        rw [← g440] at A440 st440
                        have g_b440 : n0 ≤ b440 := Nat.le_trans Z22 (Nat.le_of_eq g440.symm)
                        have sz_b440 : h0.size ≤ b440 := Nat.le_trans K22.1 (Nat.le_of_eq g440.symm)
                        have ne_b2_b440 : b2 ≠ b440 := Nat.ne_of_lt (Nat.lt_of_lt_of_le V22.lt (Nat.le_of_eq g440.symm))
                        have K440 : Keep h0 h440 [] := Keep.ext K22 E440
                        have Z440 : n0 ≤ h440.size := Nat.le_trans Z0 K440.1
                        have V_b440 : Arv Z h440 b440 k440 .char (11 : Int32) [(.int (0 : Int32)), (.int (0 : Int32)), (.int (0 : Int32)), (.int (0 : Int32)), (.int (0 : Int32)), (.int (0 : Int32)), (.int (0 : Int32)), (.int (0 : Int32)), (.int (0 : Int32)), (.int (0 : Int32)), (.int (0 : Int32))] (.int (0 : Int32)) := (Arv.new A440 (by decide)).pad (pad_rep [] (.int (0 : Int32)) 11)
                        have f441 := (V22.ext E440)
                        obtain ⟨cl442, Ar442, -, S442, Nn442, Hh442, -⟩ := id f441
                        have hin442 : ¬ ((0 : Int32) < 0 ∨ cl442.slots.size ≤ ((0 : Int32)).toNatClampNeg) := inb_of S442 ⟨by decide, by decide⟩
                        have hat442 : cl442.slots[((0 : Int32)).toNatClampNeg]? = some (.int (1 : Int32)) := Hh442.at hin442 rfl
                        obtain ⟨_, _, ⟨T443, L443, k443, n443⟩, -, X443, ⟨Lc443, hQ443, l443, y443, z443⟩, st443⟩ := Jvm.LawKit.callS X440 hx (y := (⟨"com/example/libforeword/libforeword/wordlist/EntryParseFrequencyPinLaw", "d", "(II)C"⟩ : MethodName)) hown (mvT hZ (hw _ (List.mem_of_getElem? (i := 8) rfl))) (mvT hZ (hw _ (List.mem_of_getElem? (i := 9) rfl))) (mvT hZ (hw _ (List.mem_of_getElem? (i := 10) rfl))) (mvT hZ (hw _ (List.mem_of_getElem? (i := 11) rfl))) (by decide) (backOf (W := 2) (rmDD l Z a0 hw [] nv (1 : Int32) h440 n0 Z440 (by decide)) hZ (hw _ (List.mem_of_getElem? (i := 11) rfl)) (hw _ (List.mem_of_getElem? (i := 10) rfl)) (by decide) (by decide)) (g := (mkF m 110 #[.val (.int p0), .val (.int p1), .val (.int (11 : Int32)), .val (.ref b2), .val (.int nv), .val (.ref b440), .unset] [(.int (1 : Int32)), (.int nv), (.int (10 : Int32)), (.ref b440)])) rfl (by rw [hml]; rfl) (argsL := [(.int nv), (.int (1 : Int32))]) (rest := [(.int (10 : Int32)), (.ref b440)]) (lenOf pd_3 rfl) rfl (by show 2 * 0 + _ ≤ _; exact Nat.le_of_eq rfl) (hb hby at_110) (fun _ _ => ⟨rfl, e440, (by decide : 2 + 0 ≤ _), (by decide : 21 + 0 ≤ _)⟩)
                        dsimp only [Pt.U, Pt.locs, Pt.cells, Pt.slots] at X443 l443 y443 z443 st443 hQ443
                        subst l443 y443 z443
                        obtain ⟨rfl, N443q, e443⟩ := hQ443
                        have N443 := Fr.app Nx24 N443q
                        obtain ⟨cl444, Ar444, q444, S444, Nn444, Hh444, Gg444⟩ := id V_b440
                        have hin444 : ¬ ((10 : Int32) < 0 ∨ cl444.slots.size ≤ ((10 : Int32)).toNatClampNeg) := inb_of S444 ⟨by decide, by decide⟩
                        obtain ⟨T445, h445, X445, e445, W445, st445⟩ := stC X443 hx hZ e443 Ar444 (j := (10 : Int32)) hin444 (g := (mkF m 113 #[.val (.int p0), .val (.int p1), .val (.int (11 : Int32)), .val (.ref b2), .val (.int nv), .val (.ref b440), .unset] [(.int (dV nv (1 : Int32))), (.int (10 : Int32)), (.ref b440)])) rfl rfl (hb hby at_113)
                        have V445 : Arv Z h445 b440 k440 .char (11 : Int32) [(.int (0 : Int32)), (.int (0 : Int32)), (.int (0 : Int32)), (.int (0 : Int32)), (.int (0 : Int32)), (.int (0 : Int32)), (.int (0 : Int32)), (.int (0 : Int32)), (.int (0 : Int32)), (.int (0 : Int32)), (.int (nar .char (dV nv (1 : Int32))))] (.int (0 : Int32)) := Arv.set Ar444 q444 S444 Nn444 Hh444 Gg444 (fits_nar_char _) W445 10 rfl (Nat.le_of_ble_eq_true rfl)
                        have K445 : Keep h0 h445 [] := Keep.wr K440 W445 (Or.inr sz_b440)
                        have Z445 : n0 ≤ h445.size := Nat.le_trans Z0 K445.1
                        have N445 := Fr.snoc X445 N443 g_b440
                        have f446 := (f441.other W445 ne_b2_b440)
                        obtain ⟨cl447, Ar447, -, S447, Nn447, Hh447, -⟩ := id f446
                        have hin447 : ¬ ((1 : Int32) < 0 ∨ cl447.slots.size ≤ ((1 : Int32)).toNatClampNeg) := inb_of S447 ⟨by decide, by decide⟩
                        have hat447 : cl447.slots[((1 : Int32)).toNatClampNeg]? = some (.int (10 : Int32)) := Hh447.at hin447 rfl
                        obtain ⟨_, _, ⟨T448, L448, k448, n448⟩, -, X448, ⟨Lc448, hQ448, l448, y448, z448⟩, st448⟩ := Jvm.LawKit.callS X445 hx (y := (⟨"com/example/libforeword/libforeword/wordlist/EntryParseFrequencyPinLaw", "d", "(II)C"⟩ : MethodName)) hown (mvT hZ (hw _ (List.mem_of_getElem? (i := 8) rfl))) (mvT hZ (hw _ (List.mem_of_getElem? (i := 9) rfl))) (mvT hZ (hw _ (List.mem_of_getElem? (i := 10) rfl))) (mvT hZ (hw _ (List.mem_of_getElem? (i := 11) rfl))) (by decide) (backOf (W := 2) (rmDD l Z a0 hw [] nv (10 : Int32) h445 n0 Z445 (by decide)) hZ (hw _ (List.mem_of_getElem? (i := 11) rfl)) (hw _ (List.mem_of_getElem? (i := 10) rfl)) (by decide) (by decide)) (g := (mkF m 129 #[.val (.int p0), .val (.int p1), .val (.int (11 : Int32)), .val (.ref b2), .val (.int nv), .val (.ref b440), .unset] [(.int (10 : Int32)), (.int nv), (.int (9 : Int32)), (.ref b440)])) rfl (by rw [hml]; rfl) (argsL := [(.int nv), (.int (10 : Int32))]) (rest := [(.int (9 : Int32)), (.ref b440)]) (lenOf pd_3 rfl) rfl (by show 2 * 0 + _ ≤ _; exact Nat.le_of_eq rfl) (hb hby at_129) (fun _ _ => ⟨rfl, e445, (by decide : 2 + 0 ≤ _), (by decide : 21 + 0 ≤ _)⟩)
                        dsimp only [Pt.U, Pt.locs, Pt.cells, Pt.slots] at X448 l448 y448 z448 st448 hQ448
                        subst l448 y448 z448
                        obtain ⟨rfl, N448q, e448⟩ := hQ448
                        have N448 := Fr.app N445 N448q
                        obtain ⟨cl449, Ar449, q449, S449, Nn449, Hh449, Gg449⟩ := id V445
                        have hin449 : ¬ ((9 : Int32) < 0 ∨ cl449.slots.size ≤ ((9 : Int32)).toNatClampNeg) := inb_of S449 ⟨by decide, by decide⟩
                        obtain ⟨T450, h450, X450, e450, W450, st450⟩ := stC X448 hx hZ e448 Ar449 (j := (9 : Int32)) hin449 (g := (mkF m 132 #[.val (.int p0), .val (.int p1), .val (.int (11 : Int32)), .val (.ref b2), .val (.int nv), .val (.ref b440), .unset] [(.int (dV nv (10 : Int32))), (.int (9 : Int32)), (.ref b440)])) rfl rfl (hb hby at_132)
                        have V450 : Arv Z h450 b440 k440 .char (11 : Int32) [(.int (0 : Int32)), (.int (0 : Int32)), (.int (0 : Int32)), (.int (0 : Int32)), (.int (0 : Int32)), (.int (0 : Int32)), (.int (0 : Int32)), (.int (0 : Int32)), (.int (0 : Int32)), (.int (nar .char (dV nv (10 : Int32)))), (.int (nar .char (dV nv (1 : Int32))))] (.int (0 : Int32)) := Arv.set Ar449 q449 S449 Nn449 Hh449 Gg449 (fits_nar_char _) W450 9 rfl (Nat.le_of_ble_eq_true rfl)
                        have K450 : Keep h0 h450 [] := Keep.wr K445 W450 (Or.inr sz_b440)
                        have Z450 : n0 ≤ h450.size := Nat.le_trans Z0 K450.1
                        have N450 := Fr.snoc X450 N448 g_b440
                        have f451 := (f446.other W450 ne_b2_b440)
                        obtain ⟨cl452, Ar452, -, S452, Nn452, Hh452, -⟩ := id f451
                        have hin452 : ¬ ((2 : Int32) < 0 ∨ cl452.slots.size ≤ ((2 : Int32)).toNatClampNeg) := inb_of S452 ⟨by decide, by decide⟩
                        have hat452 : cl452.slots[((2 : Int32)).toNatClampNeg]? = some (.int (100 : Int32)) := Hh452.at hin452 rfl
                        obtain ⟨_, _, ⟨T453, L453, k453, n453⟩, -, X453, ⟨Lc453, hQ453, l453, y453, z453⟩, st453⟩ := Jvm.LawKit.callS X450 hx (y := (⟨"com/example/libforeword/libforeword/wordlist/EntryParseFrequencyPinLaw", "d", "(II)C"⟩ : MethodName)) hown (mvT hZ (hw _ (List.mem_of_getElem? (i := 8) rfl))) (mvT hZ (hw _ (List.mem_of_getElem? (i := 9) rfl))) (mvT hZ (hw _ (List.mem_of_getElem? (i := 10) rfl))) (mvT hZ (hw _ (List.mem_of_getElem? (i := 11) rfl))) (by decide) (backOf (W := 2) (rmDD l Z a0 hw [] nv (100 : Int32) h450 n0 Z450 (by decide)) hZ (hw _ (List.mem_of_getElem? (i := 11) rfl)) (hw _ (List.mem_of_getElem? (i := 10) rfl)) (by decide) (by decide)) (g := (mkF m 148 #[.val (.int p0), .val (.int p1), .val (.int (11 : Int32)), .val (.ref b2), .val (.int nv), .val (.ref b440), .unset] [(.int (100 : Int32)), (.int nv), (.int (8 : Int32)), (.ref b440)])) rfl (by rw [hml]; rfl) (argsL := [(.int nv), (.int (100 : Int32))]) (rest := [(.int (8 : Int32)), (.ref b440)]) (lenOf pd_3 rfl) rfl (by show 2 * 0 + _ ≤ _; exact Nat.le_of_eq rfl) (hb hby at_148) (fun _ _ => ⟨rfl, e450, (by decide : 2 + 0 ≤ _), (by decide : 21 + 0 ≤ _)⟩)
                        dsimp only [Pt.U, Pt.locs, Pt.cells, Pt.slots] at X453 l453 y453 z453 st453 hQ453
                        subst l453 y453 z453
                        obtain ⟨rfl, N453q, e453⟩ := hQ453
                        have N453 := Fr.app N450 N453q
                        obtain ⟨cl454, Ar454, q454, S454, Nn454, Hh454, Gg454⟩ := id V450
                        have hin454 : ¬ ((8 : Int32) < 0 ∨ cl454.slots.size ≤ ((8 : Int32)).toNatClampNeg) := inb_of S454 ⟨by decide, by decide⟩
                        obtain ⟨T455, h455, X455, e455, W455, st455⟩ := stC X453 hx hZ e453 Ar454 (j := (8 : Int32)) hin454 (g := (mkF m 151 #[.val (.int p0), .val (.int p1), .val (.int (11 : Int32)), .val (.ref b2), .val (.int nv), .val (.ref b440), .unset] [(.int (dV nv (100 : Int32))), (.int (8 : Int32)), (.ref b440)])) rfl rfl (hb hby at_151)
                        have V455 : Arv Z h455 b440 k440 .char (11 : Int32) [(.int (0 : Int32)), (.int (0 : Int32)), (.int (0 : Int32)), (.int (0 : Int32)), (.int (0 : Int32)), (.int (0 : Int32)), (.int (0 : Int32)), (.int (0 : Int32)), (.int (nar .char (dV nv (100 : Int32)))), (.int (nar .char (dV nv (10 : Int32)))), (.int (nar .char (dV nv (1 : Int32))))] (.int (0 : Int32)) := Arv.set Ar454 q454 S454 Nn454 Hh454 Gg454 (fits_nar_char _) W455 8 rfl (Nat.le_of_ble_eq_true rfl)
                        have K455 : Keep h0 h455 [] := Keep.wr K450 W455 (Or.inr sz_b440)
                        have Z455 : n0 ≤ h455.size := Nat.le_trans Z0 K455.1
                        have N455 := Fr.snoc X455 N453 g_b440
                        have f456 := (f451.other W455 ne_b2_b440)
                        obtain ⟨cl457, Ar457, -, S457, Nn457, Hh457, -⟩ := id f456
                        have hin457 : ¬ ((3 : Int32) < 0 ∨ cl457.slots.size ≤ ((3 : Int32)).toNatClampNeg) := inb_of S457 ⟨by decide, by decide⟩
                        have hat457 : cl457.slots[((3 : Int32)).toNatClampNeg]? = some (.int (1000 : Int32)) := Hh457.at hin457 rfl
                        obtain ⟨_, _, ⟨T458, L458, k458, n458⟩, -, X458, ⟨Lc458, hQ458, l458, y458, z458⟩, st458⟩ := Jvm.LawKit.callS X455 hx (y := (⟨"com/example/libforeword/libforeword/wordlist/EntryParseFrequencyPinLaw", "d", "(II)C"⟩ : MethodName)) hown (mvT hZ (hw _ (List.mem_of_getElem? (i := 8) rfl))) (mvT hZ (hw _ (List.mem_of_getElem? (i := 9) rfl))) (mvT hZ (hw _ (List.mem_of_getElem? (i := 10) rfl))) (mvT hZ (hw _ (List.mem_of_getElem? (i := 11) rfl))) (by decide) (backOf (W := 2) (rmDD l Z a0 hw [] nv (1000 : Int32) h455 n0 Z455 (by decide)) hZ (hw _ (List.mem_of_getElem? (i := 11) rfl)) (hw _ (List.mem_of_getElem? (i := 10) rfl)) (by decide) (by decide)) (g := (mkF m 167 #[.val (.int p0), .val (.int p1), .val (.int (11 : Int32)), .val (.ref b2), .val (.int nv), .val (.ref b440), .unset] [(.int (1000 : Int32)), (.int nv), (.int (7 : Int32)), (.ref b440)])) rfl (by rw [hml]; rfl) (argsL := [(.int nv), (.int (1000 : Int32))]) (rest := [(.int (7 : Int32)), (.ref b440)]) (lenOf pd_3 rfl) rfl (by show 2 * 0 + _ ≤ _; exact Nat.le_of_eq rfl) (hb hby at_167) (fun _ _ => ⟨rfl, e455, (by decide : 2 + 0 ≤ _), (by decide : 21 + 0 ≤ _)⟩)
                        dsimp only [Pt.U, Pt.locs, Pt.cells, Pt.slots] at X458 l458 y458 z458 st458 hQ458
                        subst l458 y458 z458
                        obtain ⟨rfl, N458q, e458⟩ := hQ458
                        have N458 := Fr.app N455 N458q
                        obtain ⟨cl459, Ar459, q459, S459, Nn459, Hh459, Gg459⟩ := id V455
                        have hin459 : ¬ ((7 : Int32) < 0 ∨ cl459.slots.size ≤ ((7 : Int32)).toNatClampNeg) := inb_of S459 ⟨by decide, by decide⟩
                        obtain ⟨T460, h460, X460, e460, W460, st460⟩ := stC X458 hx hZ e458 Ar459 (j := (7 : Int32)) hin459 (g := (mkF m 170 #[.val (.int p0), .val (.int p1), .val (.int (11 : Int32)), .val (.ref b2), .val (.int nv), .val (.ref b440), .unset] [(.int (dV nv (1000 : Int32))), (.int (7 : Int32)), (.ref b440)])) rfl rfl (hb hby at_170)
                        have V460 : Arv Z h460 b440 k440 .char (11 : Int32) [(.int (0 : Int32)), (.int (0 : Int32)), (.int (0 : Int32)), (.int (0 : Int32)), (.int (0 : Int32)), (.int (0 : Int32)), (.int (0 : Int32)), (.int (nar .char (dV nv (1000 : Int32)))), (.int (nar .char (dV nv (100 : Int32)))), (.int (nar .char (dV nv (10 : Int32)))), (.int (nar .char (dV nv (1 : Int32))))] (.int (0 : Int32)) := Arv.set Ar459 q459 S459 Nn459 Hh459 Gg459 (fits_nar_char _) W460 7 rfl (Nat.le_of_ble_eq_true rfl)
                        have K460 : Keep h0 h460 [] := Keep.wr K455 W460 (Or.inr sz_b440)
                        have Z460 : n0 ≤ h460.size := Nat.le_trans Z0 K460.1
                        have N460 := Fr.snoc X460 N458 g_b440
                        have f461 := (f456.other W460 ne_b2_b440)
                        obtain ⟨cl462, Ar462, -, S462, Nn462, Hh462, -⟩ := id f461
                        have hin462 : ¬ ((4 : Int32) < 0 ∨ cl462.slots.size ≤ ((4 : Int32)).toNatClampNeg) := inb_of S462 ⟨by decide, by decide⟩
                        have hat462 : cl462.slots[((4 : Int32)).toNatClampNeg]? = some (.int (10000 : Int32)) := Hh462.at hin462 rfl
                        obtain ⟨_, _, ⟨T463, L463, k463, n463⟩, -, X463, ⟨Lc463, hQ463, l463, y463, z463⟩, st463⟩ := Jvm.LawKit.callS X460 hx (y := (⟨"com/example/libforeword/libforeword/wordlist/EntryParseFrequencyPinLaw", "d", "(II)C"⟩ : MethodName)) hown (mvT hZ (hw _ (List.mem_of_getElem? (i := 8) rfl))) (mvT hZ (hw _ (List.mem_of_getElem? (i := 9) rfl))) (mvT hZ (hw _ (List.mem_of_getElem? (i := 10) rfl))) (mvT hZ (hw _ (List.mem_of_getElem? (i := 11) rfl))) (by decide) (backOf (W := 2) (rmDD l Z a0 hw [] nv (10000 : Int32) h460 n0 Z460 (by decide)) hZ (hw _ (List.mem_of_getElem? (i := 11) rfl)) (hw _ (List.mem_of_getElem? (i := 10) rfl)) (by decide) (by decide)) (g := (mkF m 186 #[.val (.int p0), .val (.int p1), .val (.int (11 : Int32)), .val (.ref b2), .val (.int nv), .val (.ref b440), .unset] [(.int (10000 : Int32)), (.int nv), (.int (6 : Int32)), (.ref b440)])) rfl (by rw [hml]; rfl) (argsL := [(.int nv), (.int (10000 : Int32))]) (rest := [(.int (6 : Int32)), (.ref b440)]) (lenOf pd_3 rfl) rfl (by show 2 * 0 + _ ≤ _; exact Nat.le_of_eq rfl) (hb hby at_186) (fun _ _ => ⟨rfl, e460, (by decide : 2 + 0 ≤ _), (by decide : 21 + 0 ≤ _)⟩)
                        dsimp only [Pt.U, Pt.locs, Pt.cells, Pt.slots] at X463 l463 y463 z463 st463 hQ463
                        subst l463 y463 z463
                        obtain ⟨rfl, N463q, e463⟩ := hQ463
                        have N463 := Fr.app N460 N463q
                        obtain ⟨cl464, Ar464, q464, S464, Nn464, Hh464, Gg464⟩ := id V460
                        have hin464 : ¬ ((6 : Int32) < 0 ∨ cl464.slots.size ≤ ((6 : Int32)).toNatClampNeg) := inb_of S464 ⟨by decide, by decide⟩
                        obtain ⟨T465, h465, X465, e465, W465, st465⟩ := stC X463 hx hZ e463 Ar464 (j := (6 : Int32)) hin464 (g := (mkF m 189 #[.val (.int p0), .val (.int p1), .val (.int (11 : Int32)), .val (.ref b2), .val (.int nv), .val (.ref b440), .unset] [(.int (dV nv (10000 : Int32))), (.int (6 : Int32)), (.ref b440)])) rfl rfl (hb hby at_189)
                        have V465 : Arv Z h465 b440 k440 .char (11 : Int32) [(.int (0 : Int32)), (.int (0 : Int32)), (.int (0 : Int32)), (.int (0 : Int32)), (.int (0 : Int32)), (.int (0 : Int32)), (.int (nar .char (dV nv (10000 : Int32)))), (.int (nar .char (dV nv (1000 : Int32)))), (.int (nar .char (dV nv (100 : Int32)))), (.int (nar .char (dV nv (10 : Int32)))), (.int (nar .char (dV nv (1 : Int32))))] (.int (0 : Int32)) := Arv.set Ar464 q464 S464 Nn464 Hh464 Gg464 (fits_nar_char _) W465 6 rfl (Nat.le_of_ble_eq_true rfl)
                        have K465 : Keep h0 h465 [] := Keep.wr K460 W465 (Or.inr sz_b440)
                        have Z465 : n0 ≤ h465.size := Nat.le_trans Z0 K465.1
                        have N465 := Fr.snoc X465 N463 g_b440
                        have f466 := (f461.other W465 ne_b2_b440)
                        obtain ⟨cl467, Ar467, -, S467, Nn467, Hh467, -⟩ := id f466
                        have hin467 : ¬ ((5 : Int32) < 0 ∨ cl467.slots.size ≤ ((5 : Int32)).toNatClampNeg) := inb_of S467 ⟨by decide, by decide⟩
                        have hat467 : cl467.slots[((5 : Int32)).toNatClampNeg]? = some (.int (100000 : Int32)) := Hh467.at hin467 rfl
                        obtain ⟨_, _, ⟨T468, L468, k468, n468⟩, -, X468, ⟨Lc468, hQ468, l468, y468, z468⟩, st468⟩ := Jvm.LawKit.callS X465 hx (y := (⟨"com/example/libforeword/libforeword/wordlist/EntryParseFrequencyPinLaw", "d", "(II)C"⟩ : MethodName)) hown (mvT hZ (hw _ (List.mem_of_getElem? (i := 8) rfl))) (mvT hZ (hw _ (List.mem_of_getElem? (i := 9) rfl))) (mvT hZ (hw _ (List.mem_of_getElem? (i := 10) rfl))) (mvT hZ (hw _ (List.mem_of_getElem? (i := 11) rfl))) (by decide) (backOf (W := 2) (rmDD l Z a0 hw [] nv (100000 : Int32) h465 n0 Z465 (by decide)) hZ (hw _ (List.mem_of_getElem? (i := 11) rfl)) (hw _ (List.mem_of_getElem? (i := 10) rfl)) (by decide) (by decide)) (g := (mkF m 207 #[.val (.int p0), .val (.int p1), .val (.int (11 : Int32)), .val (.ref b2), .val (.int nv), .val (.ref b440), .unset] [(.int (100000 : Int32)), (.int nv), (.int (5 : Int32)), (.ref b440)])) rfl (by rw [hml]; rfl) (argsL := [(.int nv), (.int (100000 : Int32))]) (rest := [(.int (5 : Int32)), (.ref b440)]) (lenOf pd_3 rfl) rfl (by show 2 * 0 + _ ≤ _; exact Nat.le_of_eq rfl) (hb hby at_207) (fun _ _ => ⟨rfl, e465, (by decide : 2 + 0 ≤ _), (by decide : 21 + 0 ≤ _)⟩)
                        dsimp only [Pt.U, Pt.locs, Pt.cells, Pt.slots] at X468 l468 y468 z468 st468 hQ468
                        subst l468 y468 z468
                        obtain ⟨rfl, N468q, e468⟩ := hQ468
                        have N468 := Fr.app N465 N468q
                        obtain ⟨cl469, Ar469, q469, S469, Nn469, Hh469, Gg469⟩ := id V465
                        have hin469 : ¬ ((5 : Int32) < 0 ∨ cl469.slots.size ≤ ((5 : Int32)).toNatClampNeg) := inb_of S469 ⟨by decide, by decide⟩
                        obtain ⟨T470, h470, X470, e470, W470, st470⟩ := stC X468 hx hZ e468 Ar469 (j := (5 : Int32)) hin469 (g := (mkF m 210 #[.val (.int p0), .val (.int p1), .val (.int (11 : Int32)), .val (.ref b2), .val (.int nv), .val (.ref b440), .unset] [(.int (dV nv (100000 : Int32))), (.int (5 : Int32)), (.ref b440)])) rfl rfl (hb hby at_210)
                        have V470 : Arv Z h470 b440 k440 .char (11 : Int32) [(.int (0 : Int32)), (.int (0 : Int32)), (.int (0 : Int32)), (.int (0 : Int32)), (.int (0 : Int32)), (.int (nar .char (dV nv (100000 : Int32)))), (.int (nar .char (dV nv (10000 : Int32)))), (.int (nar .char (dV nv (1000 : Int32)))), (.int (nar .char (dV nv (100 : Int32)))), (.int (nar .char (dV nv (10 : Int32)))), (.int (nar .char (dV nv (1 : Int32))))] (.int (0 : Int32)) := Arv.set Ar469 q469 S469 Nn469 Hh469 Gg469 (fits_nar_char _) W470 5 rfl (Nat.le_of_ble_eq_true rfl)
                        have K470 : Keep h0 h470 [] := Keep.wr K465 W470 (Or.inr sz_b440)
                        have Z470 : n0 ≤ h470.size := Nat.le_trans Z0 K470.1
                        have N470 := Fr.snoc X470 N468 g_b440
                        have f471 := (f466.other W470 ne_b2_b440)
                        obtain ⟨cl472, Ar472, -, S472, Nn472, Hh472, -⟩ := id f471
                        have hin472 : ¬ ((6 : Int32) < 0 ∨ cl472.slots.size ≤ ((6 : Int32)).toNatClampNeg) := inb_of S472 ⟨by decide, by decide⟩
                        have hat472 : cl472.slots[((6 : Int32)).toNatClampNeg]? = some (.int (1000000 : Int32)) := Hh472.at hin472 rfl
                        obtain ⟨_, _, ⟨T473, L473, k473, n473⟩, -, X473, ⟨Lc473, hQ473, l473, y473, z473⟩, st473⟩ := Jvm.LawKit.callS X470 hx (y := (⟨"com/example/libforeword/libforeword/wordlist/EntryParseFrequencyPinLaw", "d", "(II)C"⟩ : MethodName)) hown (mvT hZ (hw _ (List.mem_of_getElem? (i := 8) rfl))) (mvT hZ (hw _ (List.mem_of_getElem? (i := 9) rfl))) (mvT hZ (hw _ (List.mem_of_getElem? (i := 10) rfl))) (mvT hZ (hw _ (List.mem_of_getElem? (i := 11) rfl))) (by decide) (backOf (W := 2) (rmDD l Z a0 hw [] nv (1000000 : Int32) h470 n0 Z470 (by decide)) hZ (hw _ (List.mem_of_getElem? (i := 11) rfl)) (hw _ (List.mem_of_getElem? (i := 10) rfl)) (by decide) (by decide)) (g := (mkF m 229 #[.val (.int p0), .val (.int p1), .val (.int (11 : Int32)), .val (.ref b2), .val (.int nv), .val (.ref b440), .unset] [(.int (1000000 : Int32)), (.int nv), (.int (4 : Int32)), (.ref b440)])) rfl (by rw [hml]; rfl) (argsL := [(.int nv), (.int (1000000 : Int32))]) (rest := [(.int (4 : Int32)), (.ref b440)]) (lenOf pd_3 rfl) rfl (by show 2 * 0 + _ ≤ _; exact Nat.le_of_eq rfl) (hb hby at_229) (fun _ _ => ⟨rfl, e470, (by decide : 2 + 0 ≤ _), (by decide : 21 + 0 ≤ _)⟩)
                        dsimp only [Pt.U, Pt.locs, Pt.cells, Pt.slots] at X473 l473 y473 z473 st473 hQ473
                        subst l473 y473 z473
                        obtain ⟨rfl, N473q, e473⟩ := hQ473
                        have N473 := Fr.app N470 N473q
                        obtain ⟨cl474, Ar474, q474, S474, Nn474, Hh474, Gg474⟩ := id V470
                        have hin474 : ¬ ((4 : Int32) < 0 ∨ cl474.slots.size ≤ ((4 : Int32)).toNatClampNeg) := inb_of S474 ⟨by decide, by decide⟩
                        obtain ⟨T475, h475, X475, e475, W475, st475⟩ := stC X473 hx hZ e473 Ar474 (j := (4 : Int32)) hin474 (g := (mkF m 232 #[.val (.int p0), .val (.int p1), .val (.int (11 : Int32)), .val (.ref b2), .val (.int nv), .val (.ref b440), .unset] [(.int (dV nv (1000000 : Int32))), (.int (4 : Int32)), (.ref b440)])) rfl rfl (hb hby at_232)
                        have V475 : Arv Z h475 b440 k440 .char (11 : Int32) [(.int (0 : Int32)), (.int (0 : Int32)), (.int (0 : Int32)), (.int (0 : Int32)), (.int (nar .char (dV nv (1000000 : Int32)))), (.int (nar .char (dV nv (100000 : Int32)))), (.int (nar .char (dV nv (10000 : Int32)))), (.int (nar .char (dV nv (1000 : Int32)))), (.int (nar .char (dV nv (100 : Int32)))), (.int (nar .char (dV nv (10 : Int32)))), (.int (nar .char (dV nv (1 : Int32))))] (.int (0 : Int32)) := Arv.set Ar474 q474 S474 Nn474 Hh474 Gg474 (fits_nar_char _) W475 4 rfl (Nat.le_of_ble_eq_true rfl)
                        have K475 : Keep h0 h475 [] := Keep.wr K470 W475 (Or.inr sz_b440)
                        have Z475 : n0 ≤ h475.size := Nat.le_trans Z0 K475.1
                        have N475 := Fr.snoc X475 N473 g_b440
                        have f476 := (f471.other W475 ne_b2_b440)
                        obtain ⟨cl477, Ar477, -, S477, Nn477, Hh477, -⟩ := id f476
                        have hin477 : ¬ ((7 : Int32) < 0 ∨ cl477.slots.size ≤ ((7 : Int32)).toNatClampNeg) := inb_of S477 ⟨by decide, by decide⟩
                        have hat477 : cl477.slots[((7 : Int32)).toNatClampNeg]? = some (.int (10000000 : Int32)) := Hh477.at hin477 rfl
                        obtain ⟨_, _, ⟨T478, L478, k478, n478⟩, -, X478, ⟨Lc478, hQ478, l478, y478, z478⟩, st478⟩ := Jvm.LawKit.callS X475 hx (y := (⟨"com/example/libforeword/libforeword/wordlist/EntryParseFrequencyPinLaw", "d", "(II)C"⟩ : MethodName)) hown (mvT hZ (hw _ (List.mem_of_getElem? (i := 8) rfl))) (mvT hZ (hw _ (List.mem_of_getElem? (i := 9) rfl))) (mvT hZ (hw _ (List.mem_of_getElem? (i := 10) rfl))) (mvT hZ (hw _ (List.mem_of_getElem? (i := 11) rfl))) (by decide) (backOf (W := 2) (rmDD l Z a0 hw [] nv (10000000 : Int32) h475 n0 Z475 (by decide)) hZ (hw _ (List.mem_of_getElem? (i := 11) rfl)) (hw _ (List.mem_of_getElem? (i := 10) rfl)) (by decide) (by decide)) (g := (mkF m 251 #[.val (.int p0), .val (.int p1), .val (.int (11 : Int32)), .val (.ref b2), .val (.int nv), .val (.ref b440), .unset] [(.int (10000000 : Int32)), (.int nv), (.int (3 : Int32)), (.ref b440)])) rfl (by rw [hml]; rfl) (argsL := [(.int nv), (.int (10000000 : Int32))]) (rest := [(.int (3 : Int32)), (.ref b440)]) (lenOf pd_3 rfl) rfl (by show 2 * 0 + _ ≤ _; exact Nat.le_of_eq rfl) (hb hby at_251) (fun _ _ => ⟨rfl, e475, (by decide : 2 + 0 ≤ _), (by decide : 21 + 0 ≤ _)⟩)
                        dsimp only [Pt.U, Pt.locs, Pt.cells, Pt.slots] at X478 l478 y478 z478 st478 hQ478
                        subst l478 y478 z478
                        obtain ⟨rfl, N478q, e478⟩ := hQ478
                        have N478 := Fr.app N475 N478q
                        obtain ⟨cl479, Ar479, q479, S479, Nn479, Hh479, Gg479⟩ := id V475
                        have hin479 : ¬ ((3 : Int32) < 0 ∨ cl479.slots.size ≤ ((3 : Int32)).toNatClampNeg) := inb_of S479 ⟨by decide, by decide⟩
                        obtain ⟨T480, h480, X480, e480, W480, st480⟩ := stC X478 hx hZ e478 Ar479 (j := (3 : Int32)) hin479 (g := (mkF m 254 #[.val (.int p0), .val (.int p1), .val (.int (11 : Int32)), .val (.ref b2), .val (.int nv), .val (.ref b440), .unset] [(.int (dV nv (10000000 : Int32))), (.int (3 : Int32)), (.ref b440)])) rfl rfl (hb hby at_254)
                        have V480 : Arv Z h480 b440 k440 .char (11 : Int32) [(.int (0 : Int32)), (.int (0 : Int32)), (.int (0 : Int32)), (.int (nar .char (dV nv (10000000 : Int32)))), (.int (nar .char (dV nv (1000000 : Int32)))), (.int (nar .char (dV nv (100000 : Int32)))), (.int (nar .char (dV nv (10000 : Int32)))), (.int (nar .char (dV nv (1000 : Int32)))), (.int (nar .char (dV nv (100 : Int32)))), (.int (nar .char (dV nv (10 : Int32)))), (.int (nar .char (dV nv (1 : Int32))))] (.int (0 : Int32)) := Arv.set Ar479 q479 S479 Nn479 Hh479 Gg479 (fits_nar_char _) W480 3 rfl (Nat.le_of_ble_eq_true rfl)
                        have K480 : Keep h0 h480 [] := Keep.wr K475 W480 (Or.inr sz_b440)
                        have Z480 : n0 ≤ h480.size := Nat.le_trans Z0 K480.1
                        have N480 := Fr.snoc X480 N478 g_b440
                        have f481 := (f476.other W480 ne_b2_b440)
                        obtain ⟨cl482, Ar482, -, S482, Nn482, Hh482, -⟩ := id f481
                        have hin482 : ¬ ((8 : Int32) < 0 ∨ cl482.slots.size ≤ ((8 : Int32)).toNatClampNeg) := inb_of S482 ⟨by decide, by decide⟩
                        have hat482 : cl482.slots[((8 : Int32)).toNatClampNeg]? = some (.int (100000000 : Int32)) := Hh482.at hin482 rfl
                        obtain ⟨_, _, ⟨T483, L483, k483, n483⟩, -, X483, ⟨Lc483, hQ483, l483, y483, z483⟩, st483⟩ := Jvm.LawKit.callS X480 hx (y := (⟨"com/example/libforeword/libforeword/wordlist/EntryParseFrequencyPinLaw", "d", "(II)C"⟩ : MethodName)) hown (mvT hZ (hw _ (List.mem_of_getElem? (i := 8) rfl))) (mvT hZ (hw _ (List.mem_of_getElem? (i := 9) rfl))) (mvT hZ (hw _ (List.mem_of_getElem? (i := 10) rfl))) (mvT hZ (hw _ (List.mem_of_getElem? (i := 11) rfl))) (by decide) (backOf (W := 2) (rmDD l Z a0 hw [] nv (100000000 : Int32) h480 n0 Z480 (by decide)) hZ (hw _ (List.mem_of_getElem? (i := 11) rfl)) (hw _ (List.mem_of_getElem? (i := 10) rfl)) (by decide) (by decide)) (g := (mkF m 273 #[.val (.int p0), .val (.int p1), .val (.int (11 : Int32)), .val (.ref b2), .val (.int nv), .val (.ref b440), .unset] [(.int (100000000 : Int32)), (.int nv), (.int (2 : Int32)), (.ref b440)])) rfl (by rw [hml]; rfl) (argsL := [(.int nv), (.int (100000000 : Int32))]) (rest := [(.int (2 : Int32)), (.ref b440)]) (lenOf pd_3 rfl) rfl (by show 2 * 0 + _ ≤ _; exact Nat.le_of_eq rfl) (hb hby at_273) (fun _ _ => ⟨rfl, e480, (by decide : 2 + 0 ≤ _), (by decide : 21 + 0 ≤ _)⟩)
                        dsimp only [Pt.U, Pt.locs, Pt.cells, Pt.slots] at X483 l483 y483 z483 st483 hQ483
                        subst l483 y483 z483
                        obtain ⟨rfl, N483q, e483⟩ := hQ483
                        have N483 := Fr.app N480 N483q
                        obtain ⟨cl484, Ar484, q484, S484, Nn484, Hh484, Gg484⟩ := id V480
                        have hin484 : ¬ ((2 : Int32) < 0 ∨ cl484.slots.size ≤ ((2 : Int32)).toNatClampNeg) := inb_of S484 ⟨by decide, by decide⟩
                        obtain ⟨T485, h485, X485, e485, W485, st485⟩ := stC X483 hx hZ e483 Ar484 (j := (2 : Int32)) hin484 (g := (mkF m 276 #[.val (.int p0), .val (.int p1), .val (.int (11 : Int32)), .val (.ref b2), .val (.int nv), .val (.ref b440), .unset] [(.int (dV nv (100000000 : Int32))), (.int (2 : Int32)), (.ref b440)])) rfl rfl (hb hby at_276)
                        have V485 : Arv Z h485 b440 k440 .char (11 : Int32) [(.int (0 : Int32)), (.int (0 : Int32)), (.int (nar .char (dV nv (100000000 : Int32)))), (.int (nar .char (dV nv (10000000 : Int32)))), (.int (nar .char (dV nv (1000000 : Int32)))), (.int (nar .char (dV nv (100000 : Int32)))), (.int (nar .char (dV nv (10000 : Int32)))), (.int (nar .char (dV nv (1000 : Int32)))), (.int (nar .char (dV nv (100 : Int32)))), (.int (nar .char (dV nv (10 : Int32)))), (.int (nar .char (dV nv (1 : Int32))))] (.int (0 : Int32)) := Arv.set Ar484 q484 S484 Nn484 Hh484 Gg484 (fits_nar_char _) W485 2 rfl (Nat.le_of_ble_eq_true rfl)
                        have K485 : Keep h0 h485 [] := Keep.wr K480 W485 (Or.inr sz_b440)
                        have Z485 : n0 ≤ h485.size := Nat.le_trans Z0 K485.1
                        have N485 := Fr.snoc X485 N483 g_b440
                        have f486 := (f481.other W485 ne_b2_b440)
                        obtain ⟨cl487, Ar487, -, S487, Nn487, Hh487, -⟩ := id f486
                        have hin487 : ¬ ((9 : Int32) < 0 ∨ cl487.slots.size ≤ ((9 : Int32)).toNatClampNeg) := inb_of S487 ⟨by decide, by decide⟩
                        have hat487 : cl487.slots[((9 : Int32)).toNatClampNeg]? = some (.int (1000000000 : Int32)) := Hh487.at hin487 rfl
                        obtain ⟨_, _, ⟨T488, L488, k488, n488⟩, -, X488, ⟨Lc488, hQ488, l488, y488, z488⟩, st488⟩ := Jvm.LawKit.callS X485 hx (y := (⟨"com/example/libforeword/libforeword/wordlist/EntryParseFrequencyPinLaw", "d", "(II)C"⟩ : MethodName)) hown (mvT hZ (hw _ (List.mem_of_getElem? (i := 8) rfl))) (mvT hZ (hw _ (List.mem_of_getElem? (i := 9) rfl))) (mvT hZ (hw _ (List.mem_of_getElem? (i := 10) rfl))) (mvT hZ (hw _ (List.mem_of_getElem? (i := 11) rfl))) (by decide) (backOf (W := 2) (rmDD l Z a0 hw [] nv (1000000000 : Int32) h485 n0 Z485 (by decide)) hZ (hw _ (List.mem_of_getElem? (i := 11) rfl)) (hw _ (List.mem_of_getElem? (i := 10) rfl)) (by decide) (by decide)) (g := (mkF m 295 #[.val (.int p0), .val (.int p1), .val (.int (11 : Int32)), .val (.ref b2), .val (.int nv), .val (.ref b440), .unset] [(.int (1000000000 : Int32)), (.int nv), (.int (1 : Int32)), (.ref b440)])) rfl (by rw [hml]; rfl) (argsL := [(.int nv), (.int (1000000000 : Int32))]) (rest := [(.int (1 : Int32)), (.ref b440)]) (lenOf pd_3 rfl) rfl (by show 2 * 0 + _ ≤ _; exact Nat.le_of_eq rfl) (hb hby at_295) (fun _ _ => ⟨rfl, e485, (by decide : 2 + 0 ≤ _), (by decide : 21 + 0 ≤ _)⟩)
                        dsimp only [Pt.U, Pt.locs, Pt.cells, Pt.slots] at X488 l488 y488 z488 st488 hQ488
                        subst l488 y488 z488
                        obtain ⟨rfl, N488q, e488⟩ := hQ488
                        have N488 := Fr.app N485 N488q
                        obtain ⟨cl489, Ar489, q489, S489, Nn489, Hh489, Gg489⟩ := id V485
                        have hin489 : ¬ ((1 : Int32) < 0 ∨ cl489.slots.size ≤ ((1 : Int32)).toNatClampNeg) := inb_of S489 ⟨by decide, by decide⟩
                        obtain ⟨T490, h490, X490, e490, W490, st490⟩ := stC X488 hx hZ e488 Ar489 (j := (1 : Int32)) hin489 (g := (mkF m 298 #[.val (.int p0), .val (.int p1), .val (.int (11 : Int32)), .val (.ref b2), .val (.int nv), .val (.ref b440), .unset] [(.int (dV nv (1000000000 : Int32))), (.int (1 : Int32)), (.ref b440)])) rfl rfl (hb hby at_298)
                        have V490 : Arv Z h490 b440 k440 .char (11 : Int32) [(.int (0 : Int32)), (.int (nar .char (dV nv (1000000000 : Int32)))), (.int (nar .char (dV nv (100000000 : Int32)))), (.int (nar .char (dV nv (10000000 : Int32)))), (.int (nar .char (dV nv (1000000 : Int32)))), (.int (nar .char (dV nv (100000 : Int32)))), (.int (nar .char (dV nv (10000 : Int32)))), (.int (nar .char (dV nv (1000 : Int32)))), (.int (nar .char (dV nv (100 : Int32)))), (.int (nar .char (dV nv (10 : Int32)))), (.int (nar .char (dV nv (1 : Int32))))] (.int (0 : Int32)) := Arv.set Ar489 q489 S489 Nn489 Hh489 Gg489 (fits_nar_char _) W490 1 rfl (Nat.le_of_ble_eq_true rfl)
                        have K490 : Keep h0 h490 [] := Keep.wr K485 W490 (Or.inr sz_b440)
                        have Z490 : n0 ≤ h490.size := Nat.le_trans Z0 K490.1
                        have N490 := Fr.snoc X490 N488 g_b440
                        obtain ⟨cl491, Ar491, q491, S491, Nn491, Hh491, Gg491⟩ := id V490
                        have hin491 : ¬ ((0 : Int32) < 0 ∨ cl491.slots.size ≤ ((0 : Int32)).toNatClampNeg) := inb_of S491 ⟨by decide, by decide⟩
                        obtain ⟨T492, h492, X492, e492, W492, st492⟩ := stC X490 hx hZ e490 Ar491 (j := (0 : Int32)) hin491 (g := (mkF m 313 #[.val (.int p0), .val (.int p1), .val (.int (11 : Int32)), .val (.ref b2), .val (.int nv), .val (.ref b440), .unset] [(.int (48 : Int32)), (.int (0 : Int32)), (.ref b440)])) rfl rfl (hb hby at_313)
                        have V492 : Arv Z h492 b440 k440 .char (11 : Int32) [(.int (nar .char (48 : Int32))), (.int (nar .char (dV nv (1000000000 : Int32)))), (.int (nar .char (dV nv (100000000 : Int32)))), (.int (nar .char (dV nv (10000000 : Int32)))), (.int (nar .char (dV nv (1000000 : Int32)))), (.int (nar .char (dV nv (100000 : Int32)))), (.int (nar .char (dV nv (10000 : Int32)))), (.int (nar .char (dV nv (1000 : Int32)))), (.int (nar .char (dV nv (100 : Int32)))), (.int (nar .char (dV nv (10 : Int32)))), (.int (nar .char (dV nv (1 : Int32))))] (.int (0 : Int32)) := Arv.set Ar491 q491 S491 Nn491 Hh491 Gg491 (fits_nar_char _) W492 0 rfl (Nat.le_of_ble_eq_true rfl)
                        have K492 : Keep h0 h492 [] := Keep.wr K490 W492 (Or.inr sz_b440)
                        have Z492 : n0 ≤ h492.size := Nat.le_trans Z0 K492.1
                        have N492 := Fr.snoc X492 N490 g_b440
                        obtain ⟨lx493, Xx493, Nx493⟩ : ∃ lx, Stand p l e room_1 s m #[(.int p0), (.int p1)] below meth c T492 lx 2 21 ∧ Fr n0 lx := ⟨_, X492, N492⟩
                        have f494 := ((f486.other W490 ne_b2_b440).other W492 ne_b2_b440)
                        obtain ⟨T495, h495, X495, e495, E495, A495, D495, -, st495⟩ := newO Xx493 hx hZ hown (hw _ (List.mem_of_getElem? (i := 12) rfl)) (hw _ (List.mem_of_getElem? (i := 13) rfl)) (hw _ (List.mem_of_getElem? (i := 14) rfl)) e492 (g := (mkF m 329 #[.val (.int p0), .val (.int p1), .val (.int (11 : Int32)), .val (.ref b2), .val (.int nv), .val (.ref b440), .unset] [])) rfl (hb hby at_329) (by decide) (by decide)
                        obtain ⟨b495, g495⟩ : ∃ z, z = h492.size := ⟨_, rfl⟩
                        rw [← g495] at A495 D495 st495
                        have g_b495 : n0 ≤ b495 := Nat.le_trans Z492 (Nat.le_of_eq g495.symm)
                        have sz_b495 : h0.size ≤ b495 := Nat.le_trans K492.1 (Nat.le_of_eq g495.symm)
                        have ne_b2_b495 : b2 ≠ b495 := Nat.ne_of_lt (Nat.lt_of_lt_of_le f494.lt (Nat.le_of_eq g495.symm))
                        have ne_b440_b495 : b440 ≠ b495 := Nat.ne_of_lt (Nat.lt_of_lt_of_le V492.lt (Nat.le_of_eq g495.symm))
                        have K495 : Keep h0 h495 [] := Keep.ext K492 E495
                        have Z495 : n0 ≤ h495.size := Nat.le_trans Z0 K495.1
                        have F_coder_b495 : Fld Z h495 b495 "java/lang/String" "coder" "B" (.int (0 : Int32)) := D495 (Or.inr (hw _ (List.mem_of_getElem? (i := 38) rfl))) (ty := .byte) (by decide)
                        have F_value_b495 : Fld Z h495 b495 "java/lang/String" "value" "[B" .null := D495 (Or.inr (hw _ (List.mem_of_getElem? (i := 40) rfl))) (ty := (.array .byte)) (by decide)
                        have hdg : ∀ i, i < 11 → (([(nar .char (48 : Int32)), (nar .char (dV nv (1000000000 : Int32))), (nar .char (dV nv (100000000 : Int32))), (nar .char (dV nv (10000000 : Int32))), (nar .char (dV nv (1000000 : Int32))), (nar .char (dV nv (100000 : Int32))), (nar .char (dV nv (10000 : Int32))), (nar .char (dV nv (1000 : Int32))), (nar .char (dV nv (100 : Int32))), (nar .char (dV nv (10 : Int32))), (nar .char (dV nv (1 : Int32)))] : List Int32).getD i 0).toInt = 48 + (nv.toInt / 10 ^ (11 - 1 - i)) % 10 := fun i hi => match i, hi with
                          | 0, _ => own_zero nv hnb.1 10 (by decide)
                          | 1, _ => by rw [show (([(nar .char (48 : Int32)), (nar .char (dV nv (1000000000 : Int32))), (nar .char (dV nv (100000000 : Int32))), (nar .char (dV nv (10000000 : Int32))), (nar .char (dV nv (1000000 : Int32))), (nar .char (dV nv (100000 : Int32))), (nar .char (dV nv (10000 : Int32))), (nar .char (dV nv (1000 : Int32))), (nar .char (dV nv (100 : Int32))), (nar .char (dV nv (10 : Int32))), (nar .char (dV nv (1 : Int32)))] : List Int32)).getD 1 0 = nar .char (dV nv (1000000000 : Int32)) from rfl, own_dc nv (1000000000 : Int32) hnb.1 (by decide)]; rfl
                          | 2, _ => by rw [show (([(nar .char (48 : Int32)), (nar .char (dV nv (1000000000 : Int32))), (nar .char (dV nv (100000000 : Int32))), (nar .char (dV nv (10000000 : Int32))), (nar .char (dV nv (1000000 : Int32))), (nar .char (dV nv (100000 : Int32))), (nar .char (dV nv (10000 : Int32))), (nar .char (dV nv (1000 : Int32))), (nar .char (dV nv (100 : Int32))), (nar .char (dV nv (10 : Int32))), (nar .char (dV nv (1 : Int32)))] : List Int32)).getD 2 0 = nar .char (dV nv (100000000 : Int32)) from rfl, own_dc nv (100000000 : Int32) hnb.1 (by decide)]; rfl
                          | 3, _ => by rw [show (([(nar .char (48 : Int32)), (nar .char (dV nv (1000000000 : Int32))), (nar .char (dV nv (100000000 : Int32))), (nar .char (dV nv (10000000 : Int32))), (nar .char (dV nv (1000000 : Int32))), (nar .char (dV nv (100000 : Int32))), (nar .char (dV nv (10000 : Int32))), (nar .char (dV nv (1000 : Int32))), (nar .char (dV nv (100 : Int32))), (nar .char (dV nv (10 : Int32))), (nar .char (dV nv (1 : Int32)))] : List Int32)).getD 3 0 = nar .char (dV nv (10000000 : Int32)) from rfl, own_dc nv (10000000 : Int32) hnb.1 (by decide)]; rfl
                          | 4, _ => by rw [show (([(nar .char (48 : Int32)), (nar .char (dV nv (1000000000 : Int32))), (nar .char (dV nv (100000000 : Int32))), (nar .char (dV nv (10000000 : Int32))), (nar .char (dV nv (1000000 : Int32))), (nar .char (dV nv (100000 : Int32))), (nar .char (dV nv (10000 : Int32))), (nar .char (dV nv (1000 : Int32))), (nar .char (dV nv (100 : Int32))), (nar .char (dV nv (10 : Int32))), (nar .char (dV nv (1 : Int32)))] : List Int32)).getD 4 0 = nar .char (dV nv (1000000 : Int32)) from rfl, own_dc nv (1000000 : Int32) hnb.1 (by decide)]; rfl
                          | 5, _ => by rw [show (([(nar .char (48 : Int32)), (nar .char (dV nv (1000000000 : Int32))), (nar .char (dV nv (100000000 : Int32))), (nar .char (dV nv (10000000 : Int32))), (nar .char (dV nv (1000000 : Int32))), (nar .char (dV nv (100000 : Int32))), (nar .char (dV nv (10000 : Int32))), (nar .char (dV nv (1000 : Int32))), (nar .char (dV nv (100 : Int32))), (nar .char (dV nv (10 : Int32))), (nar .char (dV nv (1 : Int32)))] : List Int32)).getD 5 0 = nar .char (dV nv (100000 : Int32)) from rfl, own_dc nv (100000 : Int32) hnb.1 (by decide)]; rfl
                          | 6, _ => by rw [show (([(nar .char (48 : Int32)), (nar .char (dV nv (1000000000 : Int32))), (nar .char (dV nv (100000000 : Int32))), (nar .char (dV nv (10000000 : Int32))), (nar .char (dV nv (1000000 : Int32))), (nar .char (dV nv (100000 : Int32))), (nar .char (dV nv (10000 : Int32))), (nar .char (dV nv (1000 : Int32))), (nar .char (dV nv (100 : Int32))), (nar .char (dV nv (10 : Int32))), (nar .char (dV nv (1 : Int32)))] : List Int32)).getD 6 0 = nar .char (dV nv (10000 : Int32)) from rfl, own_dc nv (10000 : Int32) hnb.1 (by decide)]; rfl
                          | 7, _ => by rw [show (([(nar .char (48 : Int32)), (nar .char (dV nv (1000000000 : Int32))), (nar .char (dV nv (100000000 : Int32))), (nar .char (dV nv (10000000 : Int32))), (nar .char (dV nv (1000000 : Int32))), (nar .char (dV nv (100000 : Int32))), (nar .char (dV nv (10000 : Int32))), (nar .char (dV nv (1000 : Int32))), (nar .char (dV nv (100 : Int32))), (nar .char (dV nv (10 : Int32))), (nar .char (dV nv (1 : Int32)))] : List Int32)).getD 7 0 = nar .char (dV nv (1000 : Int32)) from rfl, own_dc nv (1000 : Int32) hnb.1 (by decide)]; rfl
                          | 8, _ => by rw [show (([(nar .char (48 : Int32)), (nar .char (dV nv (1000000000 : Int32))), (nar .char (dV nv (100000000 : Int32))), (nar .char (dV nv (10000000 : Int32))), (nar .char (dV nv (1000000 : Int32))), (nar .char (dV nv (100000 : Int32))), (nar .char (dV nv (10000 : Int32))), (nar .char (dV nv (1000 : Int32))), (nar .char (dV nv (100 : Int32))), (nar .char (dV nv (10 : Int32))), (nar .char (dV nv (1 : Int32)))] : List Int32)).getD 8 0 = nar .char (dV nv (100 : Int32)) from rfl, own_dc nv (100 : Int32) hnb.1 (by decide)]; rfl
                          | 9, _ => by rw [show (([(nar .char (48 : Int32)), (nar .char (dV nv (1000000000 : Int32))), (nar .char (dV nv (100000000 : Int32))), (nar .char (dV nv (10000000 : Int32))), (nar .char (dV nv (1000000 : Int32))), (nar .char (dV nv (100000 : Int32))), (nar .char (dV nv (10000 : Int32))), (nar .char (dV nv (1000 : Int32))), (nar .char (dV nv (100 : Int32))), (nar .char (dV nv (10 : Int32))), (nar .char (dV nv (1 : Int32)))] : List Int32)).getD 9 0 = nar .char (dV nv (10 : Int32)) from rfl, own_dc nv (10 : Int32) hnb.1 (by decide)]; rfl
                          | 10, _ => by rw [show (([(nar .char (48 : Int32)), (nar .char (dV nv (1000000000 : Int32))), (nar .char (dV nv (100000000 : Int32))), (nar .char (dV nv (10000000 : Int32))), (nar .char (dV nv (1000000 : Int32))), (nar .char (dV nv (100000 : Int32))), (nar .char (dV nv (10000 : Int32))), (nar .char (dV nv (1000 : Int32))), (nar .char (dV nv (100 : Int32))), (nar .char (dV nv (10 : Int32))), (nar .char (dV nv (1 : Int32)))] : List Int32)).getD 10 0 = nar .char (dV nv (1 : Int32)) from rfl, own_dc nv (1 : Int32) hnb.1 (by decide)]; rfl
                          | k + 11, h => absurd h (by omega)
                        obtain ⟨hp, hdig, hval, hfin⟩ := own_facts ([(nar .char (48 : Int32)), (nar .char (dV nv (1000000000 : Int32))), (nar .char (dV nv (100000000 : Int32))), (nar .char (dV nv (10000000 : Int32))), (nar .char (dV nv (1000000 : Int32))), (nar .char (dV nv (100000 : Int32))), (nar .char (dV nv (10000 : Int32))), (nar .char (dV nv (1000 : Int32))), (nar .char (dV nv (100 : Int32))), (nar .char (dV nv (10 : Int32))), (nar .char (dV nv (1 : Int32)))] : List Int32) nv 11 rfl hnb.1 hnb.2 hdg
                        have f497 := (V492.ext E495)
                        have f498 := ((((((((((((((((((((((((SC.ext E2).wr W4).wr W6).wr W8).wr W10).wr W12).wr W14).wr W16).wr W18).wr W20).wr W22).ext E440).wr W445).wr W450).wr W455).wr W460).wr W465).wr W470).wr W475).wr W480).wr W485).wr W490).wr W492).ext E495)
                        obtain ⟨_, _, ⟨T496, L496, k496, n496⟩, -, X496, ⟨Lc496, hQ496, l496, y496, z496⟩, st496⟩ := X495.specialBack hx (y := (⟨"java/lang/String", "<init>", "([C)V"⟩ : MethodName)) rfl hown (mvT hZ (hw _ (List.mem_of_getElem? (i := 15) rfl))) (mvT hZ (hw _ (List.mem_of_getElem? (i := 16) rfl))) (mvT hZ (hw _ (List.mem_of_getElem? (i := 17) rfl))) (by decide) (StrChars.Road.backV (W := 1) hZ hws (kI := 4) (hw _ (List.mem_of_getElem? (i := 13) rfl)) (cs := ([(nar .char (48 : Int32)), (nar .char (dV nv (1000000000 : Int32))), (nar .char (dV nv (100000000 : Int32))), (nar .char (dV nv (10000000 : Int32))), (nar .char (dV nv (1000000 : Int32))), (nar .char (dV nv (100000 : Int32))), (nar .char (dV nv (10000 : Int32))), (nar .char (dV nv (1000 : Int32))), (nar .char (dV nv (100 : Int32))), (nar .char (dV nv (10 : Int32))), (nar .char (dV nv (1 : Int32)))] : List Int32)) (bs := (([(nar .char (48 : Int32)), (nar .char (dV nv (1000000000 : Int32))), (nar .char (dV nv (100000000 : Int32))), (nar .char (dV nv (10000000 : Int32))), (nar .char (dV nv (1000000 : Int32))), (nar .char (dV nv (100000 : Int32))), (nar .char (dV nv (10000 : Int32))), (nar .char (dV nv (1000 : Int32))), (nar .char (dV nv (100 : Int32))), (nar .char (dV nv (10 : Int32))), (nar .char (dV nv (1 : Int32)))] : List Int32)).map (fun c => c.toInt8.toInt32)) (n := 11) g_b495 Z495 A495 F_value_b495 F_coder_b495 f497 f498 hC rfl rfl (by decide) (by decide) hp rfl (by decide) (by decide)) (g := (mkF m 335 #[.val (.int p0), .val (.int p1), .val (.int (11 : Int32)), .val (.ref b2), .val (.int nv), .val (.ref b440), .unset] [(.ref b440), (.ref b495), (.ref b495)])) rfl (by rw [hml]; rfl) (Steps.refl _) (a := b495) (argsL := [(.ref b440)]) (rest := [(.ref b495)]) (lenOf pd_4 rfl) rfl (by show 2 * 0 + _ ≤ _; exact Nat.le_of_eq rfl) (hb hby at_335) (fun _ _ => ⟨rfl, e495, (by decide : 3 + 1 ≤ _), (by decide : 25 + 11 ≤ _)⟩)
                        dsimp only [Pt.U, Pt.locs, Pt.cells, Pt.slots] at X496 l496 y496 z496 st496 hQ496
                        subst l496 y496 z496
                        obtain ⟨rfl, N496q, K496, Ex496, Fc496, bt496, kb496, gt496, ge496, nt496, Fv496, AV496⟩ := hQ496
                        have sk499 := own_sta_keep1 f498 A495 K496
                        have f500 := ((((((((((((((((((((((((SG.ext E2).wr W4).wr W6).wr W8).wr W10).wr W12).wr W14).wr W16).wr W18).wr W20).wr W22).ext E440).wr W445).wr W450).wr W455).wr W460).wr W465).wr W470).wr W475).wr W480).wr W485).wr W490).wr W492).ext E495)
                        have sk501 := own_sta_keep1 f500 A495 K496
                        have KK496 : Keep h0 T496.heap [] := Keep.trans K495 K496 (own_side1 (Or.inr sz_b495))
                        have Z496 : n0 ≤ T496.heap.size := Nat.le_trans Z0 KK496.1
                        have N496 := Fr.app Nx493 N496q
                        obtain ⟨lx502, Xx502, Nx502⟩ : ∃ lx, Stand p l e room_1 s m #[(.int p0), (.int p1)] below meth c T496 lx 4 36 ∧ Fr n0 lx := ⟨_, X496, N496⟩
                        obtain ⟨_, _, ⟨T503, L503, k503, n503⟩, -, X503, ⟨Lc503, hQ503, l503, y503, z503⟩, st503⟩ := Jvm.LawKit.callS Xx502 hx (y := (⟨"com/example/libforeword/libforeword/wordlist/Entry", "parseFrequency", "(Ljava/lang/String;)I"⟩ : MethodName)) hown (mvT hZ (hw _ (List.mem_of_getElem? (i := 41) rfl))) (mvT hZ (hw _ (List.mem_of_getElem? (i := 42) rfl))) (mvT hZ (hw _ (List.mem_of_getElem? (i := 43) rfl))) (mvT hZ (hw _ (List.mem_of_getElem? (i := 44) rfl))) (by decide) (backOf (W := 0) (rmPF l Z a0 hw [] b495 bt496 kb496 ([(nar .char (48 : Int32)), (nar .char (dV nv (1000000000 : Int32))), (nar .char (dV nv (100000000 : Int32))), (nar .char (dV nv (10000000 : Int32))), (nar .char (dV nv (1000000 : Int32))), (nar .char (dV nv (100000 : Int32))), (nar .char (dV nv (10000 : Int32))), (nar .char (dV nv (1000 : Int32))), (nar .char (dV nv (100 : Int32))), (nar .char (dV nv (10 : Int32))), (nar .char (dV nv (1 : Int32)))] : List Int32) iC vG T496.heap n0 Z496 Ex496 Fc496 Fv496 AV496 sk499 hC sk501 hvG hp (by show 0 < 11; decide) (by show 11 ≤ 12; decide) hdig hval) hZ (hw _ (List.mem_of_getElem? (i := 44) rfl)) (hw _ (List.mem_of_getElem? (i := 43) rfl)) (by decide) (by decide)) (g := (mkF m 342 #[.val (.int p0), .val (.int p1), .val (.int (11 : Int32)), .val (.ref b2), .val (.int nv), .val (.ref b440), .val (.ref b495)] [(.ref b495)])) rfl (by rw [hml]; rfl) (argsL := [(.ref b495)]) (rest := []) (lenOf pd_5 rfl) rfl (by show 2 * 0 + _ ≤ _; exact Nat.le_of_eq rfl) (hb hby at_342) (fun _ _ => ⟨rfl, rfl, (by decide : 4 + 0 ≤ _), (by decide : 36 + 0 ≤ _)⟩)
                        dsimp only [Pt.U, Pt.locs, Pt.cells, Pt.slots] at X503 l503 y503 z503 st503 hQ503
                        subst l503 y503 z503
                        obtain ⟨rfl, N503q, e503⟩ := hQ503
                        have N503 := Fr.app Nx502 N503q
                        obtain ⟨fs, hr, hrun, hended, hW, hsame⟩ := X503.leave (v := some (.int (1 : Int32))) (fun h => by rw [Bd.returns] at h; cases h)
                        refine ⟨_, _, pre439 _ ?_, hrun, hended, _, _, rfl, ?_, ⟨_, rfl⟩, hW, hsame.mono (by decide) (by decide)⟩
                        · show Steps p.tables e below (T22.setTop (mkF m 90 #[.val (.int p0), .val (.int p1), .val (.int (11 : Int32)), .val (.ref b2), .val (.int nv), .unset, .unset] [])) _
                          refine XS.iloadN Xx24.here hx rfl (hb hby at_90) rfl ?_
                          show Steps p.tables e below (T22.setTop (mkF m 91 #[.val (.int p0), .val (.int p1), .val (.int (11 : Int32)), .val (.ref b2), .val (.int nv), .unset, .unset] [(.int (11 : Int32))])) _
                          refine st440 _ ?_
                          refine XS.astore X440.here hx rfl (hb hby at_93) rfl rfl (l' := #[.val (.int p0), .val (.int p1), .val (.int (11 : Int32)), .val (.ref b2), .val (.int nv), .val (.ref b440), .unset]) rfl ?_
                          refine XS.iloadN X440.here hx rfl (hb hby at_95) rfl ?_
                          refine XS.iconst X440.here hx rfl (hb hby at_96) ?_
                          show Steps p.tables e below (T440.setTop (mkF m 97 #[.val (.int p0), .val (.int p1), .val (.int (11 : Int32)), .val (.ref b2), .val (.int nv), .val (.ref b440), .unset] [(.int (1 : Int32)), (.int (11 : Int32))])) _
                          refine XS.icmpNo X440.here hx rfl (hb hby at_97) rfl (flt (show ¬ ((11 : Int32) < (1 : Int32)) from (by decide))).1 ?_
                          refine XS.aload X440.here hx rfl (hb hby at_100) rfl rfl ?_
                          refine XS.iloadN X440.here hx rfl (hb hby at_102) rfl ?_
                          refine XS.iconst X440.here hx rfl (hb hby at_103) ?_
                          show Steps p.tables e below (T440.setTop (mkF m 104 #[.val (.int p0), .val (.int p1), .val (.int (11 : Int32)), .val (.ref b2), .val (.int nv), .val (.ref b440), .unset] [(.int (1 : Int32)), (.int (11 : Int32)), (.ref b440)])) _
                          refine XS.isub X440.here hx rfl (hb hby at_104) rfl ?_
                          refine XS.iload X440.here hx rfl (hb hby at_105) rfl ?_
                          refine XS.aloadN X440.here hx rfl (hb hby at_107) rfl rfl ?_
                          refine XS.iconst X440.here hx rfl (hb hby at_108) ?_
                          show Steps p.tables e below (T440.setTop (mkF m 109 #[.val (.int p0), .val (.int p1), .val (.int (11 : Int32)), .val (.ref b2), .val (.int nv), .val (.ref b440), .unset] [(.int (0 : Int32)), (.ref b2), (.int nv), (.int (10 : Int32)), (.ref b440)])) _
                          refine X440.iaload hx (j := (0 : Int32)) (v := (.int (1 : Int32))) (by rw [e440]; exact Ar442.1) (State.isArrayOf_alike hZ.alike Ar442.2.1) Ar442.2.2 hin442 hat442 (g := (mkF m 109 #[.val (.int p0), .val (.int p1), .val (.int (11 : Int32)), .val (.ref b2), .val (.int nv), .val (.ref b440), .unset] [(.int (0 : Int32)), (.ref b2), (.int nv), (.int (10 : Int32)), (.ref b440)])) rfl rfl (hb hby at_109) _ ?_
                          show Steps p.tables e below (T440.setTop (mkF m 110 #[.val (.int p0), .val (.int p1), .val (.int (11 : Int32)), .val (.ref b2), .val (.int nv), .val (.ref b440), .unset] [(.int (1 : Int32)), (.int nv), (.int (10 : Int32)), (.ref b440)])) _
                          refine st443 _ ?_
                          show Steps p.tables e below (T443.setTop (mkF m 113 #[.val (.int p0), .val (.int p1), .val (.int (11 : Int32)), .val (.ref b2), .val (.int nv), .val (.ref b440), .unset] [(.int (dV nv (1 : Int32))), (.int (10 : Int32)), (.ref b440)])) _
                          refine st445 _ ?_
                          refine XS.iloadN X445.here hx rfl (hb hby at_114) rfl ?_
                          refine XS.iconst X445.here hx rfl (hb hby at_115) ?_
                          show Steps p.tables e below (T445.setTop (mkF m 116 #[.val (.int p0), .val (.int p1), .val (.int (11 : Int32)), .val (.ref b2), .val (.int nv), .val (.ref b440), .unset] [(.int (2 : Int32)), (.int (11 : Int32))])) _
                          refine XS.icmpNo X445.here hx rfl (hb hby at_116) rfl (flt (show ¬ ((11 : Int32) < (2 : Int32)) from (by decide))).1 ?_
                          refine XS.aload X445.here hx rfl (hb hby at_119) rfl rfl ?_
                          refine XS.iloadN X445.here hx rfl (hb hby at_121) rfl ?_
                          refine XS.iconst X445.here hx rfl (hb hby at_122) ?_
                          show Steps p.tables e below (T445.setTop (mkF m 123 #[.val (.int p0), .val (.int p1), .val (.int (11 : Int32)), .val (.ref b2), .val (.int nv), .val (.ref b440), .unset] [(.int (2 : Int32)), (.int (11 : Int32)), (.ref b440)])) _
                          refine XS.isub X445.here hx rfl (hb hby at_123) rfl ?_
                          refine XS.iload X445.here hx rfl (hb hby at_124) rfl ?_
                          refine XS.aloadN X445.here hx rfl (hb hby at_126) rfl rfl ?_
                          refine XS.iconst X445.here hx rfl (hb hby at_127) ?_
                          show Steps p.tables e below (T445.setTop (mkF m 128 #[.val (.int p0), .val (.int p1), .val (.int (11 : Int32)), .val (.ref b2), .val (.int nv), .val (.ref b440), .unset] [(.int (1 : Int32)), (.ref b2), (.int nv), (.int (9 : Int32)), (.ref b440)])) _
                          refine X445.iaload hx (j := (1 : Int32)) (v := (.int (10 : Int32))) (by rw [e445]; exact Ar447.1) (State.isArrayOf_alike hZ.alike Ar447.2.1) Ar447.2.2 hin447 hat447 (g := (mkF m 128 #[.val (.int p0), .val (.int p1), .val (.int (11 : Int32)), .val (.ref b2), .val (.int nv), .val (.ref b440), .unset] [(.int (1 : Int32)), (.ref b2), (.int nv), (.int (9 : Int32)), (.ref b440)])) rfl rfl (hb hby at_128) _ ?_
                          show Steps p.tables e below (T445.setTop (mkF m 129 #[.val (.int p0), .val (.int p1), .val (.int (11 : Int32)), .val (.ref b2), .val (.int nv), .val (.ref b440), .unset] [(.int (10 : Int32)), (.int nv), (.int (9 : Int32)), (.ref b440)])) _
                          refine st448 _ ?_
                          show Steps p.tables e below (T448.setTop (mkF m 132 #[.val (.int p0), .val (.int p1), .val (.int (11 : Int32)), .val (.ref b2), .val (.int nv), .val (.ref b440), .unset] [(.int (dV nv (10 : Int32))), (.int (9 : Int32)), (.ref b440)])) _
                          refine st450 _ ?_
                          refine XS.iloadN X450.here hx rfl (hb hby at_133) rfl ?_
                          refine XS.iconst X450.here hx rfl (hb hby at_134) ?_
                          show Steps p.tables e below (T450.setTop (mkF m 135 #[.val (.int p0), .val (.int p1), .val (.int (11 : Int32)), .val (.ref b2), .val (.int nv), .val (.ref b440), .unset] [(.int (3 : Int32)), (.int (11 : Int32))])) _
                          refine XS.icmpNo X450.here hx rfl (hb hby at_135) rfl (flt (show ¬ ((11 : Int32) < (3 : Int32)) from (by decide))).1 ?_
                          refine XS.aload X450.here hx rfl (hb hby at_138) rfl rfl ?_
                          refine XS.iloadN X450.here hx rfl (hb hby at_140) rfl ?_
                          refine XS.iconst X450.here hx rfl (hb hby at_141) ?_
                          show Steps p.tables e below (T450.setTop (mkF m 142 #[.val (.int p0), .val (.int p1), .val (.int (11 : Int32)), .val (.ref b2), .val (.int nv), .val (.ref b440), .unset] [(.int (3 : Int32)), (.int (11 : Int32)), (.ref b440)])) _
                          refine XS.isub X450.here hx rfl (hb hby at_142) rfl ?_
                          refine XS.iload X450.here hx rfl (hb hby at_143) rfl ?_
                          refine XS.aloadN X450.here hx rfl (hb hby at_145) rfl rfl ?_
                          refine XS.iconst X450.here hx rfl (hb hby at_146) ?_
                          show Steps p.tables e below (T450.setTop (mkF m 147 #[.val (.int p0), .val (.int p1), .val (.int (11 : Int32)), .val (.ref b2), .val (.int nv), .val (.ref b440), .unset] [(.int (2 : Int32)), (.ref b2), (.int nv), (.int (8 : Int32)), (.ref b440)])) _
                          refine X450.iaload hx (j := (2 : Int32)) (v := (.int (100 : Int32))) (by rw [e450]; exact Ar452.1) (State.isArrayOf_alike hZ.alike Ar452.2.1) Ar452.2.2 hin452 hat452 (g := (mkF m 147 #[.val (.int p0), .val (.int p1), .val (.int (11 : Int32)), .val (.ref b2), .val (.int nv), .val (.ref b440), .unset] [(.int (2 : Int32)), (.ref b2), (.int nv), (.int (8 : Int32)), (.ref b440)])) rfl rfl (hb hby at_147) _ ?_
                          show Steps p.tables e below (T450.setTop (mkF m 148 #[.val (.int p0), .val (.int p1), .val (.int (11 : Int32)), .val (.ref b2), .val (.int nv), .val (.ref b440), .unset] [(.int (100 : Int32)), (.int nv), (.int (8 : Int32)), (.ref b440)])) _
                          refine st453 _ ?_
                          show Steps p.tables e below (T453.setTop (mkF m 151 #[.val (.int p0), .val (.int p1), .val (.int (11 : Int32)), .val (.ref b2), .val (.int nv), .val (.ref b440), .unset] [(.int (dV nv (100 : Int32))), (.int (8 : Int32)), (.ref b440)])) _
                          refine st455 _ ?_
                          refine XS.iloadN X455.here hx rfl (hb hby at_152) rfl ?_
                          refine XS.iconst X455.here hx rfl (hb hby at_153) ?_
                          show Steps p.tables e below (T455.setTop (mkF m 154 #[.val (.int p0), .val (.int p1), .val (.int (11 : Int32)), .val (.ref b2), .val (.int nv), .val (.ref b440), .unset] [(.int (4 : Int32)), (.int (11 : Int32))])) _
                          refine XS.icmpNo X455.here hx rfl (hb hby at_154) rfl (flt (show ¬ ((11 : Int32) < (4 : Int32)) from (by decide))).1 ?_
                          refine XS.aload X455.here hx rfl (hb hby at_157) rfl rfl ?_
                          refine XS.iloadN X455.here hx rfl (hb hby at_159) rfl ?_
                          refine XS.iconst X455.here hx rfl (hb hby at_160) ?_
                          show Steps p.tables e below (T455.setTop (mkF m 161 #[.val (.int p0), .val (.int p1), .val (.int (11 : Int32)), .val (.ref b2), .val (.int nv), .val (.ref b440), .unset] [(.int (4 : Int32)), (.int (11 : Int32)), (.ref b440)])) _
                          refine XS.isub X455.here hx rfl (hb hby at_161) rfl ?_
                          refine XS.iload X455.here hx rfl (hb hby at_162) rfl ?_
                          refine XS.aloadN X455.here hx rfl (hb hby at_164) rfl rfl ?_
                          refine XS.iconst X455.here hx rfl (hb hby at_165) ?_
                          show Steps p.tables e below (T455.setTop (mkF m 166 #[.val (.int p0), .val (.int p1), .val (.int (11 : Int32)), .val (.ref b2), .val (.int nv), .val (.ref b440), .unset] [(.int (3 : Int32)), (.ref b2), (.int nv), (.int (7 : Int32)), (.ref b440)])) _
                          refine X455.iaload hx (j := (3 : Int32)) (v := (.int (1000 : Int32))) (by rw [e455]; exact Ar457.1) (State.isArrayOf_alike hZ.alike Ar457.2.1) Ar457.2.2 hin457 hat457 (g := (mkF m 166 #[.val (.int p0), .val (.int p1), .val (.int (11 : Int32)), .val (.ref b2), .val (.int nv), .val (.ref b440), .unset] [(.int (3 : Int32)), (.ref b2), (.int nv), (.int (7 : Int32)), (.ref b440)])) rfl rfl (hb hby at_166) _ ?_
                          show Steps p.tables e below (T455.setTop (mkF m 167 #[.val (.int p0), .val (.int p1), .val (.int (11 : Int32)), .val (.ref b2), .val (.int nv), .val (.ref b440), .unset] [(.int (1000 : Int32)), (.int nv), (.int (7 : Int32)), (.ref b440)])) _
                          refine st458 _ ?_
                          show Steps p.tables e below (T458.setTop (mkF m 170 #[.val (.int p0), .val (.int p1), .val (.int (11 : Int32)), .val (.ref b2), .val (.int nv), .val (.ref b440), .unset] [(.int (dV nv (1000 : Int32))), (.int (7 : Int32)), (.ref b440)])) _
                          refine st460 _ ?_
                          refine XS.iloadN X460.here hx rfl (hb hby at_171) rfl ?_
                          refine XS.iconst X460.here hx rfl (hb hby at_172) ?_
                          show Steps p.tables e below (T460.setTop (mkF m 173 #[.val (.int p0), .val (.int p1), .val (.int (11 : Int32)), .val (.ref b2), .val (.int nv), .val (.ref b440), .unset] [(.int (5 : Int32)), (.int (11 : Int32))])) _
                          refine XS.icmpNo X460.here hx rfl (hb hby at_173) rfl (flt (show ¬ ((11 : Int32) < (5 : Int32)) from (by decide))).1 ?_
                          refine XS.aload X460.here hx rfl (hb hby at_176) rfl rfl ?_
                          refine XS.iloadN X460.here hx rfl (hb hby at_178) rfl ?_
                          refine XS.iconst X460.here hx rfl (hb hby at_179) ?_
                          show Steps p.tables e below (T460.setTop (mkF m 180 #[.val (.int p0), .val (.int p1), .val (.int (11 : Int32)), .val (.ref b2), .val (.int nv), .val (.ref b440), .unset] [(.int (5 : Int32)), (.int (11 : Int32)), (.ref b440)])) _
                          refine XS.isub X460.here hx rfl (hb hby at_180) rfl ?_
                          refine XS.iload X460.here hx rfl (hb hby at_181) rfl ?_
                          refine XS.aloadN X460.here hx rfl (hb hby at_183) rfl rfl ?_
                          refine XS.iconst X460.here hx rfl (hb hby at_184) ?_
                          show Steps p.tables e below (T460.setTop (mkF m 185 #[.val (.int p0), .val (.int p1), .val (.int (11 : Int32)), .val (.ref b2), .val (.int nv), .val (.ref b440), .unset] [(.int (4 : Int32)), (.ref b2), (.int nv), (.int (6 : Int32)), (.ref b440)])) _
                          refine X460.iaload hx (j := (4 : Int32)) (v := (.int (10000 : Int32))) (by rw [e460]; exact Ar462.1) (State.isArrayOf_alike hZ.alike Ar462.2.1) Ar462.2.2 hin462 hat462 (g := (mkF m 185 #[.val (.int p0), .val (.int p1), .val (.int (11 : Int32)), .val (.ref b2), .val (.int nv), .val (.ref b440), .unset] [(.int (4 : Int32)), (.ref b2), (.int nv), (.int (6 : Int32)), (.ref b440)])) rfl rfl (hb hby at_185) _ ?_
                          show Steps p.tables e below (T460.setTop (mkF m 186 #[.val (.int p0), .val (.int p1), .val (.int (11 : Int32)), .val (.ref b2), .val (.int nv), .val (.ref b440), .unset] [(.int (10000 : Int32)), (.int nv), (.int (6 : Int32)), (.ref b440)])) _
                          refine st463 _ ?_
                          show Steps p.tables e below (T463.setTop (mkF m 189 #[.val (.int p0), .val (.int p1), .val (.int (11 : Int32)), .val (.ref b2), .val (.int nv), .val (.ref b440), .unset] [(.int (dV nv (10000 : Int32))), (.int (6 : Int32)), (.ref b440)])) _
                          refine st465 _ ?_
                          refine XS.iloadN X465.here hx rfl (hb hby at_190) rfl ?_
                          refine XS.bipush X465.here hx rfl (hb hby at_191) ?_
                          show Steps p.tables e below (T465.setTop (mkF m 193 #[.val (.int p0), .val (.int p1), .val (.int (11 : Int32)), .val (.ref b2), .val (.int nv), .val (.ref b440), .unset] [(.int (6 : Int32)), (.int (11 : Int32))])) _
                          refine XS.icmpNo X465.here hx rfl (hb hby at_193) rfl (flt (show ¬ ((11 : Int32) < (6 : Int32)) from (by decide))).1 ?_
                          refine XS.aload X465.here hx rfl (hb hby at_196) rfl rfl ?_
                          refine XS.iloadN X465.here hx rfl (hb hby at_198) rfl ?_
                          refine XS.bipush X465.here hx rfl (hb hby at_199) ?_
                          show Steps p.tables e below (T465.setTop (mkF m 201 #[.val (.int p0), .val (.int p1), .val (.int (11 : Int32)), .val (.ref b2), .val (.int nv), .val (.ref b440), .unset] [(.int (6 : Int32)), (.int (11 : Int32)), (.ref b440)])) _
                          refine XS.isub X465.here hx rfl (hb hby at_201) rfl ?_
                          refine XS.iload X465.here hx rfl (hb hby at_202) rfl ?_
                          refine XS.aloadN X465.here hx rfl (hb hby at_204) rfl rfl ?_
                          refine XS.iconst X465.here hx rfl (hb hby at_205) ?_
                          show Steps p.tables e below (T465.setTop (mkF m 206 #[.val (.int p0), .val (.int p1), .val (.int (11 : Int32)), .val (.ref b2), .val (.int nv), .val (.ref b440), .unset] [(.int (5 : Int32)), (.ref b2), (.int nv), (.int (5 : Int32)), (.ref b440)])) _
                          refine X465.iaload hx (j := (5 : Int32)) (v := (.int (100000 : Int32))) (by rw [e465]; exact Ar467.1) (State.isArrayOf_alike hZ.alike Ar467.2.1) Ar467.2.2 hin467 hat467 (g := (mkF m 206 #[.val (.int p0), .val (.int p1), .val (.int (11 : Int32)), .val (.ref b2), .val (.int nv), .val (.ref b440), .unset] [(.int (5 : Int32)), (.ref b2), (.int nv), (.int (5 : Int32)), (.ref b440)])) rfl rfl (hb hby at_206) _ ?_
                          show Steps p.tables e below (T465.setTop (mkF m 207 #[.val (.int p0), .val (.int p1), .val (.int (11 : Int32)), .val (.ref b2), .val (.int nv), .val (.ref b440), .unset] [(.int (100000 : Int32)), (.int nv), (.int (5 : Int32)), (.ref b440)])) _
                          refine st468 _ ?_
                          show Steps p.tables e below (T468.setTop (mkF m 210 #[.val (.int p0), .val (.int p1), .val (.int (11 : Int32)), .val (.ref b2), .val (.int nv), .val (.ref b440), .unset] [(.int (dV nv (100000 : Int32))), (.int (5 : Int32)), (.ref b440)])) _
                          refine st470 _ ?_
                          refine XS.iloadN X470.here hx rfl (hb hby at_211) rfl ?_
                          refine XS.bipush X470.here hx rfl (hb hby at_212) ?_
                          show Steps p.tables e below (T470.setTop (mkF m 214 #[.val (.int p0), .val (.int p1), .val (.int (11 : Int32)), .val (.ref b2), .val (.int nv), .val (.ref b440), .unset] [(.int (7 : Int32)), (.int (11 : Int32))])) _
                          refine XS.icmpNo X470.here hx rfl (hb hby at_214) rfl (flt (show ¬ ((11 : Int32) < (7 : Int32)) from (by decide))).1 ?_
                          refine XS.aload X470.here hx rfl (hb hby at_217) rfl rfl ?_
                          refine XS.iloadN X470.here hx rfl (hb hby at_219) rfl ?_
                          refine XS.bipush X470.here hx rfl (hb hby at_220) ?_
                          show Steps p.tables e below (T470.setTop (mkF m 222 #[.val (.int p0), .val (.int p1), .val (.int (11 : Int32)), .val (.ref b2), .val (.int nv), .val (.ref b440), .unset] [(.int (7 : Int32)), (.int (11 : Int32)), (.ref b440)])) _
                          refine XS.isub X470.here hx rfl (hb hby at_222) rfl ?_
                          refine XS.iload X470.here hx rfl (hb hby at_223) rfl ?_
                          refine XS.aloadN X470.here hx rfl (hb hby at_225) rfl rfl ?_
                          refine XS.bipush X470.here hx rfl (hb hby at_226) ?_
                          show Steps p.tables e below (T470.setTop (mkF m 228 #[.val (.int p0), .val (.int p1), .val (.int (11 : Int32)), .val (.ref b2), .val (.int nv), .val (.ref b440), .unset] [(.int (6 : Int32)), (.ref b2), (.int nv), (.int (4 : Int32)), (.ref b440)])) _
                          refine X470.iaload hx (j := (6 : Int32)) (v := (.int (1000000 : Int32))) (by rw [e470]; exact Ar472.1) (State.isArrayOf_alike hZ.alike Ar472.2.1) Ar472.2.2 hin472 hat472 (g := (mkF m 228 #[.val (.int p0), .val (.int p1), .val (.int (11 : Int32)), .val (.ref b2), .val (.int nv), .val (.ref b440), .unset] [(.int (6 : Int32)), (.ref b2), (.int nv), (.int (4 : Int32)), (.ref b440)])) rfl rfl (hb hby at_228) _ ?_
                          show Steps p.tables e below (T470.setTop (mkF m 229 #[.val (.int p0), .val (.int p1), .val (.int (11 : Int32)), .val (.ref b2), .val (.int nv), .val (.ref b440), .unset] [(.int (1000000 : Int32)), (.int nv), (.int (4 : Int32)), (.ref b440)])) _
                          refine st473 _ ?_
                          show Steps p.tables e below (T473.setTop (mkF m 232 #[.val (.int p0), .val (.int p1), .val (.int (11 : Int32)), .val (.ref b2), .val (.int nv), .val (.ref b440), .unset] [(.int (dV nv (1000000 : Int32))), (.int (4 : Int32)), (.ref b440)])) _
                          refine st475 _ ?_
                          refine XS.iloadN X475.here hx rfl (hb hby at_233) rfl ?_
                          refine XS.bipush X475.here hx rfl (hb hby at_234) ?_
                          show Steps p.tables e below (T475.setTop (mkF m 236 #[.val (.int p0), .val (.int p1), .val (.int (11 : Int32)), .val (.ref b2), .val (.int nv), .val (.ref b440), .unset] [(.int (8 : Int32)), (.int (11 : Int32))])) _
                          refine XS.icmpNo X475.here hx rfl (hb hby at_236) rfl (flt (show ¬ ((11 : Int32) < (8 : Int32)) from (by decide))).1 ?_
                          refine XS.aload X475.here hx rfl (hb hby at_239) rfl rfl ?_
                          refine XS.iloadN X475.here hx rfl (hb hby at_241) rfl ?_
                          refine XS.bipush X475.here hx rfl (hb hby at_242) ?_
                          show Steps p.tables e below (T475.setTop (mkF m 244 #[.val (.int p0), .val (.int p1), .val (.int (11 : Int32)), .val (.ref b2), .val (.int nv), .val (.ref b440), .unset] [(.int (8 : Int32)), (.int (11 : Int32)), (.ref b440)])) _
                          refine XS.isub X475.here hx rfl (hb hby at_244) rfl ?_
                          refine XS.iload X475.here hx rfl (hb hby at_245) rfl ?_
                          refine XS.aloadN X475.here hx rfl (hb hby at_247) rfl rfl ?_
                          refine XS.bipush X475.here hx rfl (hb hby at_248) ?_
                          show Steps p.tables e below (T475.setTop (mkF m 250 #[.val (.int p0), .val (.int p1), .val (.int (11 : Int32)), .val (.ref b2), .val (.int nv), .val (.ref b440), .unset] [(.int (7 : Int32)), (.ref b2), (.int nv), (.int (3 : Int32)), (.ref b440)])) _
                          refine X475.iaload hx (j := (7 : Int32)) (v := (.int (10000000 : Int32))) (by rw [e475]; exact Ar477.1) (State.isArrayOf_alike hZ.alike Ar477.2.1) Ar477.2.2 hin477 hat477 (g := (mkF m 250 #[.val (.int p0), .val (.int p1), .val (.int (11 : Int32)), .val (.ref b2), .val (.int nv), .val (.ref b440), .unset] [(.int (7 : Int32)), (.ref b2), (.int nv), (.int (3 : Int32)), (.ref b440)])) rfl rfl (hb hby at_250) _ ?_
                          show Steps p.tables e below (T475.setTop (mkF m 251 #[.val (.int p0), .val (.int p1), .val (.int (11 : Int32)), .val (.ref b2), .val (.int nv), .val (.ref b440), .unset] [(.int (10000000 : Int32)), (.int nv), (.int (3 : Int32)), (.ref b440)])) _
                          refine st478 _ ?_
                          show Steps p.tables e below (T478.setTop (mkF m 254 #[.val (.int p0), .val (.int p1), .val (.int (11 : Int32)), .val (.ref b2), .val (.int nv), .val (.ref b440), .unset] [(.int (dV nv (10000000 : Int32))), (.int (3 : Int32)), (.ref b440)])) _
                          refine st480 _ ?_
                          refine XS.iloadN X480.here hx rfl (hb hby at_255) rfl ?_
                          refine XS.bipush X480.here hx rfl (hb hby at_256) ?_
                          show Steps p.tables e below (T480.setTop (mkF m 258 #[.val (.int p0), .val (.int p1), .val (.int (11 : Int32)), .val (.ref b2), .val (.int nv), .val (.ref b440), .unset] [(.int (9 : Int32)), (.int (11 : Int32))])) _
                          refine XS.icmpNo X480.here hx rfl (hb hby at_258) rfl (flt (show ¬ ((11 : Int32) < (9 : Int32)) from (by decide))).1 ?_
                          refine XS.aload X480.here hx rfl (hb hby at_261) rfl rfl ?_
                          refine XS.iloadN X480.here hx rfl (hb hby at_263) rfl ?_
                          refine XS.bipush X480.here hx rfl (hb hby at_264) ?_
                          show Steps p.tables e below (T480.setTop (mkF m 266 #[.val (.int p0), .val (.int p1), .val (.int (11 : Int32)), .val (.ref b2), .val (.int nv), .val (.ref b440), .unset] [(.int (9 : Int32)), (.int (11 : Int32)), (.ref b440)])) _
                          refine XS.isub X480.here hx rfl (hb hby at_266) rfl ?_
                          refine XS.iload X480.here hx rfl (hb hby at_267) rfl ?_
                          refine XS.aloadN X480.here hx rfl (hb hby at_269) rfl rfl ?_
                          refine XS.bipush X480.here hx rfl (hb hby at_270) ?_
                          show Steps p.tables e below (T480.setTop (mkF m 272 #[.val (.int p0), .val (.int p1), .val (.int (11 : Int32)), .val (.ref b2), .val (.int nv), .val (.ref b440), .unset] [(.int (8 : Int32)), (.ref b2), (.int nv), (.int (2 : Int32)), (.ref b440)])) _
                          refine X480.iaload hx (j := (8 : Int32)) (v := (.int (100000000 : Int32))) (by rw [e480]; exact Ar482.1) (State.isArrayOf_alike hZ.alike Ar482.2.1) Ar482.2.2 hin482 hat482 (g := (mkF m 272 #[.val (.int p0), .val (.int p1), .val (.int (11 : Int32)), .val (.ref b2), .val (.int nv), .val (.ref b440), .unset] [(.int (8 : Int32)), (.ref b2), (.int nv), (.int (2 : Int32)), (.ref b440)])) rfl rfl (hb hby at_272) _ ?_
                          show Steps p.tables e below (T480.setTop (mkF m 273 #[.val (.int p0), .val (.int p1), .val (.int (11 : Int32)), .val (.ref b2), .val (.int nv), .val (.ref b440), .unset] [(.int (100000000 : Int32)), (.int nv), (.int (2 : Int32)), (.ref b440)])) _
                          refine st483 _ ?_
                          show Steps p.tables e below (T483.setTop (mkF m 276 #[.val (.int p0), .val (.int p1), .val (.int (11 : Int32)), .val (.ref b2), .val (.int nv), .val (.ref b440), .unset] [(.int (dV nv (100000000 : Int32))), (.int (2 : Int32)), (.ref b440)])) _
                          refine st485 _ ?_
                          refine XS.iloadN X485.here hx rfl (hb hby at_277) rfl ?_
                          refine XS.bipush X485.here hx rfl (hb hby at_278) ?_
                          show Steps p.tables e below (T485.setTop (mkF m 280 #[.val (.int p0), .val (.int p1), .val (.int (11 : Int32)), .val (.ref b2), .val (.int nv), .val (.ref b440), .unset] [(.int (10 : Int32)), (.int (11 : Int32))])) _
                          refine XS.icmpNo X485.here hx rfl (hb hby at_280) rfl (flt (show ¬ ((11 : Int32) < (10 : Int32)) from (by decide))).1 ?_
                          refine XS.aload X485.here hx rfl (hb hby at_283) rfl rfl ?_
                          refine XS.iloadN X485.here hx rfl (hb hby at_285) rfl ?_
                          refine XS.bipush X485.here hx rfl (hb hby at_286) ?_
                          show Steps p.tables e below (T485.setTop (mkF m 288 #[.val (.int p0), .val (.int p1), .val (.int (11 : Int32)), .val (.ref b2), .val (.int nv), .val (.ref b440), .unset] [(.int (10 : Int32)), (.int (11 : Int32)), (.ref b440)])) _
                          refine XS.isub X485.here hx rfl (hb hby at_288) rfl ?_
                          refine XS.iload X485.here hx rfl (hb hby at_289) rfl ?_
                          refine XS.aloadN X485.here hx rfl (hb hby at_291) rfl rfl ?_
                          refine XS.bipush X485.here hx rfl (hb hby at_292) ?_
                          show Steps p.tables e below (T485.setTop (mkF m 294 #[.val (.int p0), .val (.int p1), .val (.int (11 : Int32)), .val (.ref b2), .val (.int nv), .val (.ref b440), .unset] [(.int (9 : Int32)), (.ref b2), (.int nv), (.int (1 : Int32)), (.ref b440)])) _
                          refine X485.iaload hx (j := (9 : Int32)) (v := (.int (1000000000 : Int32))) (by rw [e485]; exact Ar487.1) (State.isArrayOf_alike hZ.alike Ar487.2.1) Ar487.2.2 hin487 hat487 (g := (mkF m 294 #[.val (.int p0), .val (.int p1), .val (.int (11 : Int32)), .val (.ref b2), .val (.int nv), .val (.ref b440), .unset] [(.int (9 : Int32)), (.ref b2), (.int nv), (.int (1 : Int32)), (.ref b440)])) rfl rfl (hb hby at_294) _ ?_
                          show Steps p.tables e below (T485.setTop (mkF m 295 #[.val (.int p0), .val (.int p1), .val (.int (11 : Int32)), .val (.ref b2), .val (.int nv), .val (.ref b440), .unset] [(.int (1000000000 : Int32)), (.int nv), (.int (1 : Int32)), (.ref b440)])) _
                          refine st488 _ ?_
                          show Steps p.tables e below (T488.setTop (mkF m 298 #[.val (.int p0), .val (.int p1), .val (.int (11 : Int32)), .val (.ref b2), .val (.int nv), .val (.ref b440), .unset] [(.int (dV nv (1000000000 : Int32))), (.int (1 : Int32)), (.ref b440)])) _
                          refine st490 _ ?_
                          refine XS.iloadN X490.here hx rfl (hb hby at_299) rfl ?_
                          refine XS.bipush X490.here hx rfl (hb hby at_300) ?_
                          show Steps p.tables e below (T490.setTop (mkF m 302 #[.val (.int p0), .val (.int p1), .val (.int (11 : Int32)), .val (.ref b2), .val (.int nv), .val (.ref b440), .unset] [(.int (11 : Int32)), (.int (11 : Int32))])) _
                          refine XS.icmpNo X490.here hx rfl (hb hby at_302) rfl (flt (show ¬ ((11 : Int32) < (11 : Int32)) from (by decide))).1 ?_
                          refine XS.aload X490.here hx rfl (hb hby at_305) rfl rfl ?_
                          refine XS.iloadN X490.here hx rfl (hb hby at_307) rfl ?_
                          refine XS.bipush X490.here hx rfl (hb hby at_308) ?_
                          show Steps p.tables e below (T490.setTop (mkF m 310 #[.val (.int p0), .val (.int p1), .val (.int (11 : Int32)), .val (.ref b2), .val (.int nv), .val (.ref b440), .unset] [(.int (11 : Int32)), (.int (11 : Int32)), (.ref b440)])) _
                          refine XS.isub X490.here hx rfl (hb hby at_310) rfl ?_
                          refine XS.bipush X490.here hx rfl (hb hby at_311) ?_
                          show Steps p.tables e below (T490.setTop (mkF m 313 #[.val (.int p0), .val (.int p1), .val (.int (11 : Int32)), .val (.ref b2), .val (.int nv), .val (.ref b440), .unset] [(.int (48 : Int32)), (.int (0 : Int32)), (.ref b440)])) _
                          refine st492 _ ?_
                          refine XS.iloadN X492.here hx rfl (hb hby at_314) rfl ?_
                          refine XS.bipush X492.here hx rfl (hb hby at_315) ?_
                          show Steps p.tables e below (T492.setTop (mkF m 317 #[.val (.int p0), .val (.int p1), .val (.int (11 : Int32)), .val (.ref b2), .val (.int nv), .val (.ref b440), .unset] [(.int (12 : Int32)), (.int (11 : Int32))])) _
                          refine XS.icmpYes X492.here hx rfl (pc0 := 317) (pc' := 329) rfl (hb hby at_317) rfl (tlt (show (11 : Int32) < (12 : Int32) from (by decide))).1 (by decide) (by decide) ?_
                          show Steps p.tables e below (T492.setTop (mkF m 329 #[.val (.int p0), .val (.int p1), .val (.int (11 : Int32)), .val (.ref b2), .val (.int nv), .val (.ref b440), .unset] [])) _
                          refine st495 _ ?_
                          show Steps p.tables e below (T495.setTop (mkF m 332 #[.val (.int p0), .val (.int p1), .val (.int (11 : Int32)), .val (.ref b2), .val (.int nv), .val (.ref b440), .unset] [(.ref b495)])) _
                          refine XS.dup X495.here hx rfl (hb hby at_332) rfl rfl ?_
                          refine XS.aload X495.here hx rfl (hb hby at_333) rfl rfl ?_
                          show Steps p.tables e below (T495.setTop (mkF m 335 #[.val (.int p0), .val (.int p1), .val (.int (11 : Int32)), .val (.ref b2), .val (.int nv), .val (.ref b440), .unset] [(.ref b440), (.ref b495), (.ref b495)])) _
                          refine st496.trans ?_
                          refine XS.astore X496.here hx rfl (hb hby at_338) rfl rfl (l' := #[.val (.int p0), .val (.int p1), .val (.int (11 : Int32)), .val (.ref b2), .val (.int nv), .val (.ref b440), .val (.ref b495)]) rfl ?_
                          refine XS.aload Xx502.here hx rfl (hb hby at_340) rfl rfl ?_
                          show Steps p.tables e below (T496.setTop (mkF m 342 #[.val (.int p0), .val (.int p1), .val (.int (11 : Int32)), .val (.ref b2), .val (.int nv), .val (.ref b440), .val (.ref b495)] [(.ref b495)])) _
                          refine st503 _ ?_
                          show Steps p.tables e below (T503.setTop (mkF m 345 #[.val (.int p0), .val (.int p1), .val (.int (11 : Int32)), .val (.ref b2), .val (.int nv), .val (.ref b440), .val (.ref b495)] [(.int ((pv ([(nar .char (48 : Int32)), (nar .char (dV nv (1000000000 : Int32))), (nar .char (dV nv (100000000 : Int32))), (nar .char (dV nv (10000000 : Int32))), (nar .char (dV nv (1000000 : Int32))), (nar .char (dV nv (100000 : Int32))), (nar .char (dV nv (10000 : Int32))), (nar .char (dV nv (1000 : Int32))), (nar .char (dV nv (100 : Int32))), (nar .char (dV nv (10 : Int32))), (nar .char (dV nv (1 : Int32)))] : List Int32) ([(nar .char (48 : Int32)), (nar .char (dV nv (1000000000 : Int32))), (nar .char (dV nv (100000000 : Int32))), (nar .char (dV nv (10000000 : Int32))), (nar .char (dV nv (1000000 : Int32))), (nar .char (dV nv (100000 : Int32))), (nar .char (dV nv (10000 : Int32))), (nar .char (dV nv (1000 : Int32))), (nar .char (dV nv (100 : Int32))), (nar .char (dV nv (10 : Int32))), (nar .char (dV nv (1 : Int32)))] : List Int32).length).toInt32))])) _
                          refine XS.iload X503.here hx rfl (hb hby at_345) rfl ?_
                          show Steps p.tables e below (T503.setTop (mkF m 347 #[.val (.int p0), .val (.int p1), .val (.int (11 : Int32)), .val (.ref b2), .val (.int nv), .val (.ref b440), .val (.ref b495)] [(.int nv), (.int ((pv ([(nar .char (48 : Int32)), (nar .char (dV nv (1000000000 : Int32))), (nar .char (dV nv (100000000 : Int32))), (nar .char (dV nv (10000000 : Int32))), (nar .char (dV nv (1000000 : Int32))), (nar .char (dV nv (100000 : Int32))), (nar .char (dV nv (10000 : Int32))), (nar .char (dV nv (1000 : Int32))), (nar .char (dV nv (100 : Int32))), (nar .char (dV nv (10 : Int32))), (nar .char (dV nv (1 : Int32)))] : List Int32) ([(nar .char (48 : Int32)), (nar .char (dV nv (1000000000 : Int32))), (nar .char (dV nv (100000000 : Int32))), (nar .char (dV nv (10000000 : Int32))), (nar .char (dV nv (1000000 : Int32))), (nar .char (dV nv (100000 : Int32))), (nar .char (dV nv (10000 : Int32))), (nar .char (dV nv (1000 : Int32))), (nar .char (dV nv (100 : Int32))), (nar .char (dV nv (10 : Int32))), (nar .char (dV nv (1 : Int32)))] : List Int32).length).toInt32))])) _
                          refine XS.icmpNo X503.here hx rfl (hb hby at_347) rfl (teq (show ((pv ([(nar .char (48 : Int32)), (nar .char (dV nv (1000000000 : Int32))), (nar .char (dV nv (100000000 : Int32))), (nar .char (dV nv (10000000 : Int32))), (nar .char (dV nv (1000000 : Int32))), (nar .char (dV nv (100000 : Int32))), (nar .char (dV nv (10000 : Int32))), (nar .char (dV nv (1000 : Int32))), (nar .char (dV nv (100 : Int32))), (nar .char (dV nv (10 : Int32))), (nar .char (dV nv (1 : Int32)))] : List Int32) ([(nar .char (48 : Int32)), (nar .char (dV nv (1000000000 : Int32))), (nar .char (dV nv (100000000 : Int32))), (nar .char (dV nv (10000000 : Int32))), (nar .char (dV nv (1000000 : Int32))), (nar .char (dV nv (100000 : Int32))), (nar .char (dV nv (10000 : Int32))), (nar .char (dV nv (1000 : Int32))), (nar .char (dV nv (100 : Int32))), (nar .char (dV nv (10 : Int32))), (nar .char (dV nv (1 : Int32)))] : List Int32).length).toInt32) = nv from hfin)).2 ?_
                          refine XS.iconst X503.here hx rfl (hb hby at_350) ?_
                          refine XS.goto X503.here hx rfl (pc0 := 351) (pc' := 355) rfl (hb hby at_351) (by decide) (by decide) ?_
                          show Steps p.tables e below (T503.setTop (mkF m 355 #[.val (.int p0), .val (.int p1), .val (.int (11 : Int32)), .val (.ref b2), .val (.int nv), .val (.ref b440), .val (.ref b495)] [(.int (1 : Int32))])) _
                          exact retN X503 hx (t := .boolean) Bd.returns (by simp) (hb hby at_355) hr
                        · show Q0 h0 n0 _ T503.heap _
                          rw [e503]
                          exact ⟨rfl, N503⟩
                      · have hl12 : len = (12 : Int32) := own_len12 len hlb hl1 hl2 hl3 hl4 hl5 hl6 hl7 hl8 hl9 hl10 hl11
                        rw [hl12] at pre23
                        have pre504 : ∀ t, Steps p.tables e below (T22.setTop (mkF m 90 #[.val (.int p0), .val (.int p1), .val (.int (12 : Int32)), .val (.ref b2), .val (.int (p0 &&& (2147483647 : Int32))), .unset, .unset] [])) t → Steps p.tables e below (s₁.setTop (entryFrame m #[(.int p0), (.int p1)] maxLocals)) t := fun t kt => pre23 t (by
                            show Steps p.tables e below (T22.setTop (mkF m 70 #[.val (.int p0), .val (.int p1), .val (.int (12 : Int32)), .val (.ref b2), .unset, .unset, .unset] [])) _
                            refine XS.iloadN Xx24.here hx rfl (hb hby at_70) rfl ?_
                            show Steps p.tables e below (T22.setTop (mkF m 71 #[.val (.int p0), .val (.int p1), .val (.int (12 : Int32)), .val (.ref b2), .unset, .unset, .unset] [(.int p0)])) _
                            refine Xx24.ldcI hx hown (mvT hZ (hw _ (List.mem_of_getElem? (i := 6) rfl))) (g := (mkF m 71 #[.val (.int p0), .val (.int p1), .val (.int (12 : Int32)), .val (.ref b2), .unset, .unset, .unset] [(.int p0)])) rfl (hb hby at_71) ?_
                            show Steps p.tables e below (T22.setTop (mkF m 73 #[.val (.int p0), .val (.int p1), .val (.int (12 : Int32)), .val (.ref b2), .unset, .unset, .unset] [(.int (2147483647 : Int32)), (.int p0)])) _
                            refine XS.iand Xx24.here hx rfl (hb hby at_73) rfl ?_
                            refine XS.istore Xx24.here hx rfl (hb hby at_74) rfl (l' := #[.val (.int p0), .val (.int p1), .val (.int (12 : Int32)), .val (.ref b2), .val (.int (p0 &&& (2147483647 : Int32))), .unset, .unset]) rfl ?_
                            refine XS.iloadN Xx24.here hx rfl (hb hby at_76) rfl ?_
                            refine XS.bipush Xx24.here hx rfl (hb hby at_77) ?_
                            show Steps p.tables e below (T22.setTop (mkF m 79 #[.val (.int p0), .val (.int p1), .val (.int (12 : Int32)), .val (.ref b2), .val (.int (p0 &&& (2147483647 : Int32))), .unset, .unset] [(.int (10 : Int32)), (.int (12 : Int32))])) _
                            refine XS.icmpYes Xx24.here hx rfl (pc0 := 79) (pc' := 90) rfl (hb hby at_79) rfl (flt (show ¬ ((12 : Int32) < (10 : Int32)) from (by decide))).2.1 (by decide) (by decide) ?_
                            exact kt)
                        obtain ⟨nv, hnv⟩ : ∃ z : Int32, z = (p0 &&& (2147483647 : Int32)) := ⟨_, rfl⟩
                        rw [← hnv] at pre504
                        have hnb : 0 ≤ nv.toInt ∧ nv.toInt < 10 ^ 12 := ⟨by rw [hnv]; exact own_and31 p0, Int.lt_of_lt_of_le nv.toInt_lt (by decide)⟩
                        obtain ⟨T505, h505, k505, X505, e505, E505, A505, st505⟩ := newP Xx24 hx hZ (hw _ (List.mem_of_getElem? (i := 7) rfl)) e22 (g := (mkF m 91 #[.val (.int p0), .val (.int p1), .val (.int (12 : Int32)), .val (.ref b2), .val (.int nv), .unset, .unset] [(.int (12 : Int32))])) rfl (hb hby at_91) rfl (by decide) (cap := 12) (by decide) (by decide) (by decide) (by decide)
                        obtain ⟨b505, g505⟩ : ∃ z, z = h22.size := ⟨_, rfl⟩
                        rw [← g505] at A505 st505
                        have g_b505 : n0 ≤ b505 := Nat.le_trans Z22 (Nat.le_of_eq g505.symm)
                        have sz_b505 : h0.size ≤ b505 := Nat.le_trans K22.1 (Nat.le_of_eq g505.symm)
                        have ne_b2_b505 : b2 ≠ b505 := Nat.ne_of_lt (Nat.lt_of_lt_of_le V22.lt (Nat.le_of_eq g505.symm))
                        have K505 : Keep h0 h505 [] := Keep.ext K22 E505
                        have Z505 : n0 ≤ h505.size := Nat.le_trans Z0 K505.1
                        have V_b505 : Arv Z h505 b505 k505 .char (12 : Int32) [(.int (0 : Int32)), (.int (0 : Int32)), (.int (0 : Int32)), (.int (0 : Int32)), (.int (0 : Int32)), (.int (0 : Int32)), (.int (0 : Int32)), (.int (0 : Int32)), (.int (0 : Int32)), (.int (0 : Int32)), (.int (0 : Int32)), (.int (0 : Int32))] (.int (0 : Int32)) := (Arv.new A505 (by decide)).pad (pad_rep [] (.int (0 : Int32)) 12)
                        have f506 := (V22.ext E505)
                        obtain ⟨cl507, Ar507, -, S507, Nn507, Hh507, -⟩ := id f506
                        have hin507 : ¬ ((0 : Int32) < 0 ∨ cl507.slots.size ≤ ((0 : Int32)).toNatClampNeg) := inb_of S507 ⟨by decide, by decide⟩
                        have hat507 : cl507.slots[((0 : Int32)).toNatClampNeg]? = some (.int (1 : Int32)) := Hh507.at hin507 rfl
                        obtain ⟨_, _, ⟨T508, L508, k508, n508⟩, -, X508, ⟨Lc508, hQ508, l508, y508, z508⟩, st508⟩ := Jvm.LawKit.callS X505 hx (y := (⟨"com/example/libforeword/libforeword/wordlist/EntryParseFrequencyPinLaw", "d", "(II)C"⟩ : MethodName)) hown (mvT hZ (hw _ (List.mem_of_getElem? (i := 8) rfl))) (mvT hZ (hw _ (List.mem_of_getElem? (i := 9) rfl))) (mvT hZ (hw _ (List.mem_of_getElem? (i := 10) rfl))) (mvT hZ (hw _ (List.mem_of_getElem? (i := 11) rfl))) (by decide) (backOf (W := 2) (rmDD l Z a0 hw [] nv (1 : Int32) h505 n0 Z505 (by decide)) hZ (hw _ (List.mem_of_getElem? (i := 11) rfl)) (hw _ (List.mem_of_getElem? (i := 10) rfl)) (by decide) (by decide)) (g := (mkF m 110 #[.val (.int p0), .val (.int p1), .val (.int (12 : Int32)), .val (.ref b2), .val (.int nv), .val (.ref b505), .unset] [(.int (1 : Int32)), (.int nv), (.int (11 : Int32)), (.ref b505)])) rfl (by rw [hml]; rfl) (argsL := [(.int nv), (.int (1 : Int32))]) (rest := [(.int (11 : Int32)), (.ref b505)]) (lenOf pd_3 rfl) rfl (by show 2 * 0 + _ ≤ _; exact Nat.le_of_eq rfl) (hb hby at_110) (fun _ _ => ⟨rfl, e505, (by decide : 2 + 0 ≤ _), (by decide : 22 + 0 ≤ _)⟩)
                        dsimp only [Pt.U, Pt.locs, Pt.cells, Pt.slots] at X508 l508 y508 z508 st508 hQ508
                        subst l508 y508 z508
                        obtain ⟨rfl, N508q, e508⟩ := hQ508
                        have N508 := Fr.app Nx24 N508q
                        obtain ⟨cl509, Ar509, q509, S509, Nn509, Hh509, Gg509⟩ := id V_b505
                        have hin509 : ¬ ((11 : Int32) < 0 ∨ cl509.slots.size ≤ ((11 : Int32)).toNatClampNeg) := inb_of S509 ⟨by decide, by decide⟩
                        obtain ⟨T510, h510, X510, e510, W510, st510⟩ := stC X508 hx hZ e508 Ar509 (j := (11 : Int32)) hin509 (g := (mkF m 113 #[.val (.int p0), .val (.int p1), .val (.int (12 : Int32)), .val (.ref b2), .val (.int nv), .val (.ref b505), .unset] [(.int (dV nv (1 : Int32))), (.int (11 : Int32)), (.ref b505)])) rfl rfl (hb hby at_113)
                        have V510 : Arv Z h510 b505 k505 .char (12 : Int32) [(.int (0 : Int32)), (.int (0 : Int32)), (.int (0 : Int32)), (.int (0 : Int32)), (.int (0 : Int32)), (.int (0 : Int32)), (.int (0 : Int32)), (.int (0 : Int32)), (.int (0 : Int32)), (.int (0 : Int32)), (.int (0 : Int32)), (.int (nar .char (dV nv (1 : Int32))))] (.int (0 : Int32)) := Arv.set Ar509 q509 S509 Nn509 Hh509 Gg509 (fits_nar_char _) W510 11 rfl (Nat.le_of_ble_eq_true rfl)
                        have K510 : Keep h0 h510 [] := Keep.wr K505 W510 (Or.inr sz_b505)
                        have Z510 : n0 ≤ h510.size := Nat.le_trans Z0 K510.1
                        have N510 := Fr.snoc X510 N508 g_b505
                        have f511 := (f506.other W510 ne_b2_b505)
                        obtain ⟨cl512, Ar512, -, S512, Nn512, Hh512, -⟩ := id f511
                        have hin512 : ¬ ((1 : Int32) < 0 ∨ cl512.slots.size ≤ ((1 : Int32)).toNatClampNeg) := inb_of S512 ⟨by decide, by decide⟩
                        have hat512 : cl512.slots[((1 : Int32)).toNatClampNeg]? = some (.int (10 : Int32)) := Hh512.at hin512 rfl
                        obtain ⟨_, _, ⟨T513, L513, k513, n513⟩, -, X513, ⟨Lc513, hQ513, l513, y513, z513⟩, st513⟩ := Jvm.LawKit.callS X510 hx (y := (⟨"com/example/libforeword/libforeword/wordlist/EntryParseFrequencyPinLaw", "d", "(II)C"⟩ : MethodName)) hown (mvT hZ (hw _ (List.mem_of_getElem? (i := 8) rfl))) (mvT hZ (hw _ (List.mem_of_getElem? (i := 9) rfl))) (mvT hZ (hw _ (List.mem_of_getElem? (i := 10) rfl))) (mvT hZ (hw _ (List.mem_of_getElem? (i := 11) rfl))) (by decide) (backOf (W := 2) (rmDD l Z a0 hw [] nv (10 : Int32) h510 n0 Z510 (by decide)) hZ (hw _ (List.mem_of_getElem? (i := 11) rfl)) (hw _ (List.mem_of_getElem? (i := 10) rfl)) (by decide) (by decide)) (g := (mkF m 129 #[.val (.int p0), .val (.int p1), .val (.int (12 : Int32)), .val (.ref b2), .val (.int nv), .val (.ref b505), .unset] [(.int (10 : Int32)), (.int nv), (.int (10 : Int32)), (.ref b505)])) rfl (by rw [hml]; rfl) (argsL := [(.int nv), (.int (10 : Int32))]) (rest := [(.int (10 : Int32)), (.ref b505)]) (lenOf pd_3 rfl) rfl (by show 2 * 0 + _ ≤ _; exact Nat.le_of_eq rfl) (hb hby at_129) (fun _ _ => ⟨rfl, e510, (by decide : 2 + 0 ≤ _), (by decide : 22 + 0 ≤ _)⟩)
                        dsimp only [Pt.U, Pt.locs, Pt.cells, Pt.slots] at X513 l513 y513 z513 st513 hQ513
                        subst l513 y513 z513
                        obtain ⟨rfl, N513q, e513⟩ := hQ513
                        have N513 := Fr.app N510 N513q
                        obtain ⟨cl514, Ar514, q514, S514, Nn514, Hh514, Gg514⟩ := id V510
                        have hin514 : ¬ ((10 : Int32) < 0 ∨ cl514.slots.size ≤ ((10 : Int32)).toNatClampNeg) := inb_of S514 ⟨by decide, by decide⟩
                        obtain ⟨T515, h515, X515, e515, W515, st515⟩ := stC X513 hx hZ e513 Ar514 (j := (10 : Int32)) hin514 (g := (mkF m 132 #[.val (.int p0), .val (.int p1), .val (.int (12 : Int32)), .val (.ref b2), .val (.int nv), .val (.ref b505), .unset] [(.int (dV nv (10 : Int32))), (.int (10 : Int32)), (.ref b505)])) rfl rfl (hb hby at_132)
                        have V515 : Arv Z h515 b505 k505 .char (12 : Int32) [(.int (0 : Int32)), (.int (0 : Int32)), (.int (0 : Int32)), (.int (0 : Int32)), (.int (0 : Int32)), (.int (0 : Int32)), (.int (0 : Int32)), (.int (0 : Int32)), (.int (0 : Int32)), (.int (0 : Int32)), (.int (nar .char (dV nv (10 : Int32)))), (.int (nar .char (dV nv (1 : Int32))))] (.int (0 : Int32)) := Arv.set Ar514 q514 S514 Nn514 Hh514 Gg514 (fits_nar_char _) W515 10 rfl (Nat.le_of_ble_eq_true rfl)
                        have K515 : Keep h0 h515 [] := Keep.wr K510 W515 (Or.inr sz_b505)
                        have Z515 : n0 ≤ h515.size := Nat.le_trans Z0 K515.1
                        have N515 := Fr.snoc X515 N513 g_b505
                        have f516 := (f511.other W515 ne_b2_b505)
                        obtain ⟨cl517, Ar517, -, S517, Nn517, Hh517, -⟩ := id f516
                        have hin517 : ¬ ((2 : Int32) < 0 ∨ cl517.slots.size ≤ ((2 : Int32)).toNatClampNeg) := inb_of S517 ⟨by decide, by decide⟩
                        have hat517 : cl517.slots[((2 : Int32)).toNatClampNeg]? = some (.int (100 : Int32)) := Hh517.at hin517 rfl
                        obtain ⟨_, _, ⟨T518, L518, k518, n518⟩, -, X518, ⟨Lc518, hQ518, l518, y518, z518⟩, st518⟩ := Jvm.LawKit.callS X515 hx (y := (⟨"com/example/libforeword/libforeword/wordlist/EntryParseFrequencyPinLaw", "d", "(II)C"⟩ : MethodName)) hown (mvT hZ (hw _ (List.mem_of_getElem? (i := 8) rfl))) (mvT hZ (hw _ (List.mem_of_getElem? (i := 9) rfl))) (mvT hZ (hw _ (List.mem_of_getElem? (i := 10) rfl))) (mvT hZ (hw _ (List.mem_of_getElem? (i := 11) rfl))) (by decide) (backOf (W := 2) (rmDD l Z a0 hw [] nv (100 : Int32) h515 n0 Z515 (by decide)) hZ (hw _ (List.mem_of_getElem? (i := 11) rfl)) (hw _ (List.mem_of_getElem? (i := 10) rfl)) (by decide) (by decide)) (g := (mkF m 148 #[.val (.int p0), .val (.int p1), .val (.int (12 : Int32)), .val (.ref b2), .val (.int nv), .val (.ref b505), .unset] [(.int (100 : Int32)), (.int nv), (.int (9 : Int32)), (.ref b505)])) rfl (by rw [hml]; rfl) (argsL := [(.int nv), (.int (100 : Int32))]) (rest := [(.int (9 : Int32)), (.ref b505)]) (lenOf pd_3 rfl) rfl (by show 2 * 0 + _ ≤ _; exact Nat.le_of_eq rfl) (hb hby at_148) (fun _ _ => ⟨rfl, e515, (by decide : 2 + 0 ≤ _), (by decide : 22 + 0 ≤ _)⟩)
                        dsimp only [Pt.U, Pt.locs, Pt.cells, Pt.slots] at X518 l518 y518 z518 st518 hQ518
                        subst l518 y518 z518
                        obtain ⟨rfl, N518q, e518⟩ := hQ518
                        have N518 := Fr.app N515 N518q
                        obtain ⟨cl519, Ar519, q519, S519, Nn519, Hh519, Gg519⟩ := id V515
                        have hin519 : ¬ ((9 : Int32) < 0 ∨ cl519.slots.size ≤ ((9 : Int32)).toNatClampNeg) := inb_of S519 ⟨by decide, by decide⟩
                        obtain ⟨T520, h520, X520, e520, W520, st520⟩ := stC X518 hx hZ e518 Ar519 (j := (9 : Int32)) hin519 (g := (mkF m 151 #[.val (.int p0), .val (.int p1), .val (.int (12 : Int32)), .val (.ref b2), .val (.int nv), .val (.ref b505), .unset] [(.int (dV nv (100 : Int32))), (.int (9 : Int32)), (.ref b505)])) rfl rfl (hb hby at_151)
                        have V520 : Arv Z h520 b505 k505 .char (12 : Int32) [(.int (0 : Int32)), (.int (0 : Int32)), (.int (0 : Int32)), (.int (0 : Int32)), (.int (0 : Int32)), (.int (0 : Int32)), (.int (0 : Int32)), (.int (0 : Int32)), (.int (0 : Int32)), (.int (nar .char (dV nv (100 : Int32)))), (.int (nar .char (dV nv (10 : Int32)))), (.int (nar .char (dV nv (1 : Int32))))] (.int (0 : Int32)) := Arv.set Ar519 q519 S519 Nn519 Hh519 Gg519 (fits_nar_char _) W520 9 rfl (Nat.le_of_ble_eq_true rfl)
                        have K520 : Keep h0 h520 [] := Keep.wr K515 W520 (Or.inr sz_b505)
                        have Z520 : n0 ≤ h520.size := Nat.le_trans Z0 K520.1
                        have N520 := Fr.snoc X520 N518 g_b505
                        have f521 := (f516.other W520 ne_b2_b505)
                        obtain ⟨cl522, Ar522, -, S522, Nn522, Hh522, -⟩ := id f521
                        have hin522 : ¬ ((3 : Int32) < 0 ∨ cl522.slots.size ≤ ((3 : Int32)).toNatClampNeg) := inb_of S522 ⟨by decide, by decide⟩
                        have hat522 : cl522.slots[((3 : Int32)).toNatClampNeg]? = some (.int (1000 : Int32)) := Hh522.at hin522 rfl
                        obtain ⟨_, _, ⟨T523, L523, k523, n523⟩, -, X523, ⟨Lc523, hQ523, l523, y523, z523⟩, st523⟩ := Jvm.LawKit.callS X520 hx (y := (⟨"com/example/libforeword/libforeword/wordlist/EntryParseFrequencyPinLaw", "d", "(II)C"⟩ : MethodName)) hown (mvT hZ (hw _ (List.mem_of_getElem? (i := 8) rfl))) (mvT hZ (hw _ (List.mem_of_getElem? (i := 9) rfl))) (mvT hZ (hw _ (List.mem_of_getElem? (i := 10) rfl))) (mvT hZ (hw _ (List.mem_of_getElem? (i := 11) rfl))) (by decide) (backOf (W := 2) (rmDD l Z a0 hw [] nv (1000 : Int32) h520 n0 Z520 (by decide)) hZ (hw _ (List.mem_of_getElem? (i := 11) rfl)) (hw _ (List.mem_of_getElem? (i := 10) rfl)) (by decide) (by decide)) (g := (mkF m 167 #[.val (.int p0), .val (.int p1), .val (.int (12 : Int32)), .val (.ref b2), .val (.int nv), .val (.ref b505), .unset] [(.int (1000 : Int32)), (.int nv), (.int (8 : Int32)), (.ref b505)])) rfl (by rw [hml]; rfl) (argsL := [(.int nv), (.int (1000 : Int32))]) (rest := [(.int (8 : Int32)), (.ref b505)]) (lenOf pd_3 rfl) rfl (by show 2 * 0 + _ ≤ _; exact Nat.le_of_eq rfl) (hb hby at_167) (fun _ _ => ⟨rfl, e520, (by decide : 2 + 0 ≤ _), (by decide : 22 + 0 ≤ _)⟩)
                        dsimp only [Pt.U, Pt.locs, Pt.cells, Pt.slots] at X523 l523 y523 z523 st523 hQ523
                        subst l523 y523 z523
                        obtain ⟨rfl, N523q, e523⟩ := hQ523
                        have N523 := Fr.app N520 N523q
                        obtain ⟨cl524, Ar524, q524, S524, Nn524, Hh524, Gg524⟩ := id V520
                        have hin524 : ¬ ((8 : Int32) < 0 ∨ cl524.slots.size ≤ ((8 : Int32)).toNatClampNeg) := inb_of S524 ⟨by decide, by decide⟩
                        obtain ⟨T525, h525, X525, e525, W525, st525⟩ := stC X523 hx hZ e523 Ar524 (j := (8 : Int32)) hin524 (g := (mkF m 170 #[.val (.int p0), .val (.int p1), .val (.int (12 : Int32)), .val (.ref b2), .val (.int nv), .val (.ref b505), .unset] [(.int (dV nv (1000 : Int32))), (.int (8 : Int32)), (.ref b505)])) rfl rfl (hb hby at_170)
                        have V525 : Arv Z h525 b505 k505 .char (12 : Int32) [(.int (0 : Int32)), (.int (0 : Int32)), (.int (0 : Int32)), (.int (0 : Int32)), (.int (0 : Int32)), (.int (0 : Int32)), (.int (0 : Int32)), (.int (0 : Int32)), (.int (nar .char (dV nv (1000 : Int32)))), (.int (nar .char (dV nv (100 : Int32)))), (.int (nar .char (dV nv (10 : Int32)))), (.int (nar .char (dV nv (1 : Int32))))] (.int (0 : Int32)) := Arv.set Ar524 q524 S524 Nn524 Hh524 Gg524 (fits_nar_char _) W525 8 rfl (Nat.le_of_ble_eq_true rfl)
                        have K525 : Keep h0 h525 [] := Keep.wr K520 W525 (Or.inr sz_b505)
                        have Z525 : n0 ≤ h525.size := Nat.le_trans Z0 K525.1
                        have N525 := Fr.snoc X525 N523 g_b505
                        have f526 := (f521.other W525 ne_b2_b505)
                        obtain ⟨cl527, Ar527, -, S527, Nn527, Hh527, -⟩ := id f526
                        have hin527 : ¬ ((4 : Int32) < 0 ∨ cl527.slots.size ≤ ((4 : Int32)).toNatClampNeg) := inb_of S527 ⟨by decide, by decide⟩
                        have hat527 : cl527.slots[((4 : Int32)).toNatClampNeg]? = some (.int (10000 : Int32)) := Hh527.at hin527 rfl
                        obtain ⟨_, _, ⟨T528, L528, k528, n528⟩, -, X528, ⟨Lc528, hQ528, l528, y528, z528⟩, st528⟩ := Jvm.LawKit.callS X525 hx (y := (⟨"com/example/libforeword/libforeword/wordlist/EntryParseFrequencyPinLaw", "d", "(II)C"⟩ : MethodName)) hown (mvT hZ (hw _ (List.mem_of_getElem? (i := 8) rfl))) (mvT hZ (hw _ (List.mem_of_getElem? (i := 9) rfl))) (mvT hZ (hw _ (List.mem_of_getElem? (i := 10) rfl))) (mvT hZ (hw _ (List.mem_of_getElem? (i := 11) rfl))) (by decide) (backOf (W := 2) (rmDD l Z a0 hw [] nv (10000 : Int32) h525 n0 Z525 (by decide)) hZ (hw _ (List.mem_of_getElem? (i := 11) rfl)) (hw _ (List.mem_of_getElem? (i := 10) rfl)) (by decide) (by decide)) (g := (mkF m 186 #[.val (.int p0), .val (.int p1), .val (.int (12 : Int32)), .val (.ref b2), .val (.int nv), .val (.ref b505), .unset] [(.int (10000 : Int32)), (.int nv), (.int (7 : Int32)), (.ref b505)])) rfl (by rw [hml]; rfl) (argsL := [(.int nv), (.int (10000 : Int32))]) (rest := [(.int (7 : Int32)), (.ref b505)]) (lenOf pd_3 rfl) rfl (by show 2 * 0 + _ ≤ _; exact Nat.le_of_eq rfl) (hb hby at_186) (fun _ _ => ⟨rfl, e525, (by decide : 2 + 0 ≤ _), (by decide : 22 + 0 ≤ _)⟩)
                        dsimp only [Pt.U, Pt.locs, Pt.cells, Pt.slots] at X528 l528 y528 z528 st528 hQ528
                        subst l528 y528 z528
                        obtain ⟨rfl, N528q, e528⟩ := hQ528
                        have N528 := Fr.app N525 N528q
                        obtain ⟨cl529, Ar529, q529, S529, Nn529, Hh529, Gg529⟩ := id V525
                        have hin529 : ¬ ((7 : Int32) < 0 ∨ cl529.slots.size ≤ ((7 : Int32)).toNatClampNeg) := inb_of S529 ⟨by decide, by decide⟩
                        obtain ⟨T530, h530, X530, e530, W530, st530⟩ := stC X528 hx hZ e528 Ar529 (j := (7 : Int32)) hin529 (g := (mkF m 189 #[.val (.int p0), .val (.int p1), .val (.int (12 : Int32)), .val (.ref b2), .val (.int nv), .val (.ref b505), .unset] [(.int (dV nv (10000 : Int32))), (.int (7 : Int32)), (.ref b505)])) rfl rfl (hb hby at_189)
                        have V530 : Arv Z h530 b505 k505 .char (12 : Int32) [(.int (0 : Int32)), (.int (0 : Int32)), (.int (0 : Int32)), (.int (0 : Int32)), (.int (0 : Int32)), (.int (0 : Int32)), (.int (0 : Int32)), (.int (nar .char (dV nv (10000 : Int32)))), (.int (nar .char (dV nv (1000 : Int32)))), (.int (nar .char (dV nv (100 : Int32)))), (.int (nar .char (dV nv (10 : Int32)))), (.int (nar .char (dV nv (1 : Int32))))] (.int (0 : Int32)) := Arv.set Ar529 q529 S529 Nn529 Hh529 Gg529 (fits_nar_char _) W530 7 rfl (Nat.le_of_ble_eq_true rfl)
                        have K530 : Keep h0 h530 [] := Keep.wr K525 W530 (Or.inr sz_b505)
                        have Z530 : n0 ≤ h530.size := Nat.le_trans Z0 K530.1
                        have N530 := Fr.snoc X530 N528 g_b505
                        have f531 := (f526.other W530 ne_b2_b505)
                        obtain ⟨cl532, Ar532, -, S532, Nn532, Hh532, -⟩ := id f531
                        have hin532 : ¬ ((5 : Int32) < 0 ∨ cl532.slots.size ≤ ((5 : Int32)).toNatClampNeg) := inb_of S532 ⟨by decide, by decide⟩
                        have hat532 : cl532.slots[((5 : Int32)).toNatClampNeg]? = some (.int (100000 : Int32)) := Hh532.at hin532 rfl
                        obtain ⟨_, _, ⟨T533, L533, k533, n533⟩, -, X533, ⟨Lc533, hQ533, l533, y533, z533⟩, st533⟩ := Jvm.LawKit.callS X530 hx (y := (⟨"com/example/libforeword/libforeword/wordlist/EntryParseFrequencyPinLaw", "d", "(II)C"⟩ : MethodName)) hown (mvT hZ (hw _ (List.mem_of_getElem? (i := 8) rfl))) (mvT hZ (hw _ (List.mem_of_getElem? (i := 9) rfl))) (mvT hZ (hw _ (List.mem_of_getElem? (i := 10) rfl))) (mvT hZ (hw _ (List.mem_of_getElem? (i := 11) rfl))) (by decide) (backOf (W := 2) (rmDD l Z a0 hw [] nv (100000 : Int32) h530 n0 Z530 (by decide)) hZ (hw _ (List.mem_of_getElem? (i := 11) rfl)) (hw _ (List.mem_of_getElem? (i := 10) rfl)) (by decide) (by decide)) (g := (mkF m 207 #[.val (.int p0), .val (.int p1), .val (.int (12 : Int32)), .val (.ref b2), .val (.int nv), .val (.ref b505), .unset] [(.int (100000 : Int32)), (.int nv), (.int (6 : Int32)), (.ref b505)])) rfl (by rw [hml]; rfl) (argsL := [(.int nv), (.int (100000 : Int32))]) (rest := [(.int (6 : Int32)), (.ref b505)]) (lenOf pd_3 rfl) rfl (by show 2 * 0 + _ ≤ _; exact Nat.le_of_eq rfl) (hb hby at_207) (fun _ _ => ⟨rfl, e530, (by decide : 2 + 0 ≤ _), (by decide : 22 + 0 ≤ _)⟩)
                        dsimp only [Pt.U, Pt.locs, Pt.cells, Pt.slots] at X533 l533 y533 z533 st533 hQ533
                        subst l533 y533 z533
                        obtain ⟨rfl, N533q, e533⟩ := hQ533
                        have N533 := Fr.app N530 N533q
                        obtain ⟨cl534, Ar534, q534, S534, Nn534, Hh534, Gg534⟩ := id V530
                        have hin534 : ¬ ((6 : Int32) < 0 ∨ cl534.slots.size ≤ ((6 : Int32)).toNatClampNeg) := inb_of S534 ⟨by decide, by decide⟩
                        obtain ⟨T535, h535, X535, e535, W535, st535⟩ := stC X533 hx hZ e533 Ar534 (j := (6 : Int32)) hin534 (g := (mkF m 210 #[.val (.int p0), .val (.int p1), .val (.int (12 : Int32)), .val (.ref b2), .val (.int nv), .val (.ref b505), .unset] [(.int (dV nv (100000 : Int32))), (.int (6 : Int32)), (.ref b505)])) rfl rfl (hb hby at_210)
                        have V535 : Arv Z h535 b505 k505 .char (12 : Int32) [(.int (0 : Int32)), (.int (0 : Int32)), (.int (0 : Int32)), (.int (0 : Int32)), (.int (0 : Int32)), (.int (0 : Int32)), (.int (nar .char (dV nv (100000 : Int32)))), (.int (nar .char (dV nv (10000 : Int32)))), (.int (nar .char (dV nv (1000 : Int32)))), (.int (nar .char (dV nv (100 : Int32)))), (.int (nar .char (dV nv (10 : Int32)))), (.int (nar .char (dV nv (1 : Int32))))] (.int (0 : Int32)) := Arv.set Ar534 q534 S534 Nn534 Hh534 Gg534 (fits_nar_char _) W535 6 rfl (Nat.le_of_ble_eq_true rfl)
                        have K535 : Keep h0 h535 [] := Keep.wr K530 W535 (Or.inr sz_b505)
                        have Z535 : n0 ≤ h535.size := Nat.le_trans Z0 K535.1
                        have N535 := Fr.snoc X535 N533 g_b505
                        have f536 := (f531.other W535 ne_b2_b505)
                        obtain ⟨cl537, Ar537, -, S537, Nn537, Hh537, -⟩ := id f536
                        have hin537 : ¬ ((6 : Int32) < 0 ∨ cl537.slots.size ≤ ((6 : Int32)).toNatClampNeg) := inb_of S537 ⟨by decide, by decide⟩
                        have hat537 : cl537.slots[((6 : Int32)).toNatClampNeg]? = some (.int (1000000 : Int32)) := Hh537.at hin537 rfl
                        obtain ⟨_, _, ⟨T538, L538, k538, n538⟩, -, X538, ⟨Lc538, hQ538, l538, y538, z538⟩, st538⟩ := Jvm.LawKit.callS X535 hx (y := (⟨"com/example/libforeword/libforeword/wordlist/EntryParseFrequencyPinLaw", "d", "(II)C"⟩ : MethodName)) hown (mvT hZ (hw _ (List.mem_of_getElem? (i := 8) rfl))) (mvT hZ (hw _ (List.mem_of_getElem? (i := 9) rfl))) (mvT hZ (hw _ (List.mem_of_getElem? (i := 10) rfl))) (mvT hZ (hw _ (List.mem_of_getElem? (i := 11) rfl))) (by decide) (backOf (W := 2) (rmDD l Z a0 hw [] nv (1000000 : Int32) h535 n0 Z535 (by decide)) hZ (hw _ (List.mem_of_getElem? (i := 11) rfl)) (hw _ (List.mem_of_getElem? (i := 10) rfl)) (by decide) (by decide)) (g := (mkF m 229 #[.val (.int p0), .val (.int p1), .val (.int (12 : Int32)), .val (.ref b2), .val (.int nv), .val (.ref b505), .unset] [(.int (1000000 : Int32)), (.int nv), (.int (5 : Int32)), (.ref b505)])) rfl (by rw [hml]; rfl) (argsL := [(.int nv), (.int (1000000 : Int32))]) (rest := [(.int (5 : Int32)), (.ref b505)]) (lenOf pd_3 rfl) rfl (by show 2 * 0 + _ ≤ _; exact Nat.le_of_eq rfl) (hb hby at_229) (fun _ _ => ⟨rfl, e535, (by decide : 2 + 0 ≤ _), (by decide : 22 + 0 ≤ _)⟩)
                        dsimp only [Pt.U, Pt.locs, Pt.cells, Pt.slots] at X538 l538 y538 z538 st538 hQ538
                        subst l538 y538 z538
                        obtain ⟨rfl, N538q, e538⟩ := hQ538
                        have N538 := Fr.app N535 N538q
                        obtain ⟨cl539, Ar539, q539, S539, Nn539, Hh539, Gg539⟩ := id V535
                        have hin539 : ¬ ((5 : Int32) < 0 ∨ cl539.slots.size ≤ ((5 : Int32)).toNatClampNeg) := inb_of S539 ⟨by decide, by decide⟩
                        obtain ⟨T540, h540, X540, e540, W540, st540⟩ := stC X538 hx hZ e538 Ar539 (j := (5 : Int32)) hin539 (g := (mkF m 232 #[.val (.int p0), .val (.int p1), .val (.int (12 : Int32)), .val (.ref b2), .val (.int nv), .val (.ref b505), .unset] [(.int (dV nv (1000000 : Int32))), (.int (5 : Int32)), (.ref b505)])) rfl rfl (hb hby at_232)
                        have V540 : Arv Z h540 b505 k505 .char (12 : Int32) [(.int (0 : Int32)), (.int (0 : Int32)), (.int (0 : Int32)), (.int (0 : Int32)), (.int (0 : Int32)), (.int (nar .char (dV nv (1000000 : Int32)))), (.int (nar .char (dV nv (100000 : Int32)))), (.int (nar .char (dV nv (10000 : Int32)))), (.int (nar .char (dV nv (1000 : Int32)))), (.int (nar .char (dV nv (100 : Int32)))), (.int (nar .char (dV nv (10 : Int32)))), (.int (nar .char (dV nv (1 : Int32))))] (.int (0 : Int32)) := Arv.set Ar539 q539 S539 Nn539 Hh539 Gg539 (fits_nar_char _) W540 5 rfl (Nat.le_of_ble_eq_true rfl)
                        have K540 : Keep h0 h540 [] := Keep.wr K535 W540 (Or.inr sz_b505)
                        have Z540 : n0 ≤ h540.size := Nat.le_trans Z0 K540.1
                        have N540 := Fr.snoc X540 N538 g_b505
                        have f541 := (f536.other W540 ne_b2_b505)
                        obtain ⟨cl542, Ar542, -, S542, Nn542, Hh542, -⟩ := id f541
                        have hin542 : ¬ ((7 : Int32) < 0 ∨ cl542.slots.size ≤ ((7 : Int32)).toNatClampNeg) := inb_of S542 ⟨by decide, by decide⟩
                        have hat542 : cl542.slots[((7 : Int32)).toNatClampNeg]? = some (.int (10000000 : Int32)) := Hh542.at hin542 rfl
                        obtain ⟨_, _, ⟨T543, L543, k543, n543⟩, -, X543, ⟨Lc543, hQ543, l543, y543, z543⟩, st543⟩ := Jvm.LawKit.callS X540 hx (y := (⟨"com/example/libforeword/libforeword/wordlist/EntryParseFrequencyPinLaw", "d", "(II)C"⟩ : MethodName)) hown (mvT hZ (hw _ (List.mem_of_getElem? (i := 8) rfl))) (mvT hZ (hw _ (List.mem_of_getElem? (i := 9) rfl))) (mvT hZ (hw _ (List.mem_of_getElem? (i := 10) rfl))) (mvT hZ (hw _ (List.mem_of_getElem? (i := 11) rfl))) (by decide) (backOf (W := 2) (rmDD l Z a0 hw [] nv (10000000 : Int32) h540 n0 Z540 (by decide)) hZ (hw _ (List.mem_of_getElem? (i := 11) rfl)) (hw _ (List.mem_of_getElem? (i := 10) rfl)) (by decide) (by decide)) (g := (mkF m 251 #[.val (.int p0), .val (.int p1), .val (.int (12 : Int32)), .val (.ref b2), .val (.int nv), .val (.ref b505), .unset] [(.int (10000000 : Int32)), (.int nv), (.int (4 : Int32)), (.ref b505)])) rfl (by rw [hml]; rfl) (argsL := [(.int nv), (.int (10000000 : Int32))]) (rest := [(.int (4 : Int32)), (.ref b505)]) (lenOf pd_3 rfl) rfl (by show 2 * 0 + _ ≤ _; exact Nat.le_of_eq rfl) (hb hby at_251) (fun _ _ => ⟨rfl, e540, (by decide : 2 + 0 ≤ _), (by decide : 22 + 0 ≤ _)⟩)
                        dsimp only [Pt.U, Pt.locs, Pt.cells, Pt.slots] at X543 l543 y543 z543 st543 hQ543
                        subst l543 y543 z543
                        obtain ⟨rfl, N543q, e543⟩ := hQ543
                        have N543 := Fr.app N540 N543q
                        obtain ⟨cl544, Ar544, q544, S544, Nn544, Hh544, Gg544⟩ := id V540
                        have hin544 : ¬ ((4 : Int32) < 0 ∨ cl544.slots.size ≤ ((4 : Int32)).toNatClampNeg) := inb_of S544 ⟨by decide, by decide⟩
                        obtain ⟨T545, h545, X545, e545, W545, st545⟩ := stC X543 hx hZ e543 Ar544 (j := (4 : Int32)) hin544 (g := (mkF m 254 #[.val (.int p0), .val (.int p1), .val (.int (12 : Int32)), .val (.ref b2), .val (.int nv), .val (.ref b505), .unset] [(.int (dV nv (10000000 : Int32))), (.int (4 : Int32)), (.ref b505)])) rfl rfl (hb hby at_254)
                        have V545 : Arv Z h545 b505 k505 .char (12 : Int32) [(.int (0 : Int32)), (.int (0 : Int32)), (.int (0 : Int32)), (.int (0 : Int32)), (.int (nar .char (dV nv (10000000 : Int32)))), (.int (nar .char (dV nv (1000000 : Int32)))), (.int (nar .char (dV nv (100000 : Int32)))), (.int (nar .char (dV nv (10000 : Int32)))), (.int (nar .char (dV nv (1000 : Int32)))), (.int (nar .char (dV nv (100 : Int32)))), (.int (nar .char (dV nv (10 : Int32)))), (.int (nar .char (dV nv (1 : Int32))))] (.int (0 : Int32)) := Arv.set Ar544 q544 S544 Nn544 Hh544 Gg544 (fits_nar_char _) W545 4 rfl (Nat.le_of_ble_eq_true rfl)
                        have K545 : Keep h0 h545 [] := Keep.wr K540 W545 (Or.inr sz_b505)
                        have Z545 : n0 ≤ h545.size := Nat.le_trans Z0 K545.1
                        have N545 := Fr.snoc X545 N543 g_b505
                        have f546 := (f541.other W545 ne_b2_b505)
                        obtain ⟨cl547, Ar547, -, S547, Nn547, Hh547, -⟩ := id f546
                        have hin547 : ¬ ((8 : Int32) < 0 ∨ cl547.slots.size ≤ ((8 : Int32)).toNatClampNeg) := inb_of S547 ⟨by decide, by decide⟩
                        have hat547 : cl547.slots[((8 : Int32)).toNatClampNeg]? = some (.int (100000000 : Int32)) := Hh547.at hin547 rfl
                        obtain ⟨_, _, ⟨T548, L548, k548, n548⟩, -, X548, ⟨Lc548, hQ548, l548, y548, z548⟩, st548⟩ := Jvm.LawKit.callS X545 hx (y := (⟨"com/example/libforeword/libforeword/wordlist/EntryParseFrequencyPinLaw", "d", "(II)C"⟩ : MethodName)) hown (mvT hZ (hw _ (List.mem_of_getElem? (i := 8) rfl))) (mvT hZ (hw _ (List.mem_of_getElem? (i := 9) rfl))) (mvT hZ (hw _ (List.mem_of_getElem? (i := 10) rfl))) (mvT hZ (hw _ (List.mem_of_getElem? (i := 11) rfl))) (by decide) (backOf (W := 2) (rmDD l Z a0 hw [] nv (100000000 : Int32) h545 n0 Z545 (by decide)) hZ (hw _ (List.mem_of_getElem? (i := 11) rfl)) (hw _ (List.mem_of_getElem? (i := 10) rfl)) (by decide) (by decide)) (g := (mkF m 273 #[.val (.int p0), .val (.int p1), .val (.int (12 : Int32)), .val (.ref b2), .val (.int nv), .val (.ref b505), .unset] [(.int (100000000 : Int32)), (.int nv), (.int (3 : Int32)), (.ref b505)])) rfl (by rw [hml]; rfl) (argsL := [(.int nv), (.int (100000000 : Int32))]) (rest := [(.int (3 : Int32)), (.ref b505)]) (lenOf pd_3 rfl) rfl (by show 2 * 0 + _ ≤ _; exact Nat.le_of_eq rfl) (hb hby at_273) (fun _ _ => ⟨rfl, e545, (by decide : 2 + 0 ≤ _), (by decide : 22 + 0 ≤ _)⟩)
                        dsimp only [Pt.U, Pt.locs, Pt.cells, Pt.slots] at X548 l548 y548 z548 st548 hQ548
                        subst l548 y548 z548
                        obtain ⟨rfl, N548q, e548⟩ := hQ548
                        have N548 := Fr.app N545 N548q
                        obtain ⟨cl549, Ar549, q549, S549, Nn549, Hh549, Gg549⟩ := id V545
                        have hin549 : ¬ ((3 : Int32) < 0 ∨ cl549.slots.size ≤ ((3 : Int32)).toNatClampNeg) := inb_of S549 ⟨by decide, by decide⟩
                        obtain ⟨T550, h550, X550, e550, W550, st550⟩ := stC X548 hx hZ e548 Ar549 (j := (3 : Int32)) hin549 (g := (mkF m 276 #[.val (.int p0), .val (.int p1), .val (.int (12 : Int32)), .val (.ref b2), .val (.int nv), .val (.ref b505), .unset] [(.int (dV nv (100000000 : Int32))), (.int (3 : Int32)), (.ref b505)])) rfl rfl (hb hby at_276)
                        have V550 : Arv Z h550 b505 k505 .char (12 : Int32) [(.int (0 : Int32)), (.int (0 : Int32)), (.int (0 : Int32)), (.int (nar .char (dV nv (100000000 : Int32)))), (.int (nar .char (dV nv (10000000 : Int32)))), (.int (nar .char (dV nv (1000000 : Int32)))), (.int (nar .char (dV nv (100000 : Int32)))), (.int (nar .char (dV nv (10000 : Int32)))), (.int (nar .char (dV nv (1000 : Int32)))), (.int (nar .char (dV nv (100 : Int32)))), (.int (nar .char (dV nv (10 : Int32)))), (.int (nar .char (dV nv (1 : Int32))))] (.int (0 : Int32)) := Arv.set Ar549 q549 S549 Nn549 Hh549 Gg549 (fits_nar_char _) W550 3 rfl (Nat.le_of_ble_eq_true rfl)
                        have K550 : Keep h0 h550 [] := Keep.wr K545 W550 (Or.inr sz_b505)
                        have Z550 : n0 ≤ h550.size := Nat.le_trans Z0 K550.1
                        have N550 := Fr.snoc X550 N548 g_b505
                        have f551 := (f546.other W550 ne_b2_b505)
                        obtain ⟨cl552, Ar552, -, S552, Nn552, Hh552, -⟩ := id f551
                        have hin552 : ¬ ((9 : Int32) < 0 ∨ cl552.slots.size ≤ ((9 : Int32)).toNatClampNeg) := inb_of S552 ⟨by decide, by decide⟩
                        have hat552 : cl552.slots[((9 : Int32)).toNatClampNeg]? = some (.int (1000000000 : Int32)) := Hh552.at hin552 rfl
                        obtain ⟨_, _, ⟨T553, L553, k553, n553⟩, -, X553, ⟨Lc553, hQ553, l553, y553, z553⟩, st553⟩ := Jvm.LawKit.callS X550 hx (y := (⟨"com/example/libforeword/libforeword/wordlist/EntryParseFrequencyPinLaw", "d", "(II)C"⟩ : MethodName)) hown (mvT hZ (hw _ (List.mem_of_getElem? (i := 8) rfl))) (mvT hZ (hw _ (List.mem_of_getElem? (i := 9) rfl))) (mvT hZ (hw _ (List.mem_of_getElem? (i := 10) rfl))) (mvT hZ (hw _ (List.mem_of_getElem? (i := 11) rfl))) (by decide) (backOf (W := 2) (rmDD l Z a0 hw [] nv (1000000000 : Int32) h550 n0 Z550 (by decide)) hZ (hw _ (List.mem_of_getElem? (i := 11) rfl)) (hw _ (List.mem_of_getElem? (i := 10) rfl)) (by decide) (by decide)) (g := (mkF m 295 #[.val (.int p0), .val (.int p1), .val (.int (12 : Int32)), .val (.ref b2), .val (.int nv), .val (.ref b505), .unset] [(.int (1000000000 : Int32)), (.int nv), (.int (2 : Int32)), (.ref b505)])) rfl (by rw [hml]; rfl) (argsL := [(.int nv), (.int (1000000000 : Int32))]) (rest := [(.int (2 : Int32)), (.ref b505)]) (lenOf pd_3 rfl) rfl (by show 2 * 0 + _ ≤ _; exact Nat.le_of_eq rfl) (hb hby at_295) (fun _ _ => ⟨rfl, e550, (by decide : 2 + 0 ≤ _), (by decide : 22 + 0 ≤ _)⟩)
                        dsimp only [Pt.U, Pt.locs, Pt.cells, Pt.slots] at X553 l553 y553 z553 st553 hQ553
                        subst l553 y553 z553
                        obtain ⟨rfl, N553q, e553⟩ := hQ553
                        have N553 := Fr.app N550 N553q
                        obtain ⟨cl554, Ar554, q554, S554, Nn554, Hh554, Gg554⟩ := id V550
                        have hin554 : ¬ ((2 : Int32) < 0 ∨ cl554.slots.size ≤ ((2 : Int32)).toNatClampNeg) := inb_of S554 ⟨by decide, by decide⟩
                        obtain ⟨T555, h555, X555, e555, W555, st555⟩ := stC X553 hx hZ e553 Ar554 (j := (2 : Int32)) hin554 (g := (mkF m 298 #[.val (.int p0), .val (.int p1), .val (.int (12 : Int32)), .val (.ref b2), .val (.int nv), .val (.ref b505), .unset] [(.int (dV nv (1000000000 : Int32))), (.int (2 : Int32)), (.ref b505)])) rfl rfl (hb hby at_298)
                        have V555 : Arv Z h555 b505 k505 .char (12 : Int32) [(.int (0 : Int32)), (.int (0 : Int32)), (.int (nar .char (dV nv (1000000000 : Int32)))), (.int (nar .char (dV nv (100000000 : Int32)))), (.int (nar .char (dV nv (10000000 : Int32)))), (.int (nar .char (dV nv (1000000 : Int32)))), (.int (nar .char (dV nv (100000 : Int32)))), (.int (nar .char (dV nv (10000 : Int32)))), (.int (nar .char (dV nv (1000 : Int32)))), (.int (nar .char (dV nv (100 : Int32)))), (.int (nar .char (dV nv (10 : Int32)))), (.int (nar .char (dV nv (1 : Int32))))] (.int (0 : Int32)) := Arv.set Ar554 q554 S554 Nn554 Hh554 Gg554 (fits_nar_char _) W555 2 rfl (Nat.le_of_ble_eq_true rfl)
                        have K555 : Keep h0 h555 [] := Keep.wr K550 W555 (Or.inr sz_b505)
                        have Z555 : n0 ≤ h555.size := Nat.le_trans Z0 K555.1
                        have N555 := Fr.snoc X555 N553 g_b505
                        obtain ⟨cl556, Ar556, q556, S556, Nn556, Hh556, Gg556⟩ := id V555
                        have hin556 : ¬ ((1 : Int32) < 0 ∨ cl556.slots.size ≤ ((1 : Int32)).toNatClampNeg) := inb_of S556 ⟨by decide, by decide⟩
                        obtain ⟨T557, h557, X557, e557, W557, st557⟩ := stC X555 hx hZ e555 Ar556 (j := (1 : Int32)) hin556 (g := (mkF m 313 #[.val (.int p0), .val (.int p1), .val (.int (12 : Int32)), .val (.ref b2), .val (.int nv), .val (.ref b505), .unset] [(.int (48 : Int32)), (.int (1 : Int32)), (.ref b505)])) rfl rfl (hb hby at_313)
                        have V557 : Arv Z h557 b505 k505 .char (12 : Int32) [(.int (0 : Int32)), (.int (nar .char (48 : Int32))), (.int (nar .char (dV nv (1000000000 : Int32)))), (.int (nar .char (dV nv (100000000 : Int32)))), (.int (nar .char (dV nv (10000000 : Int32)))), (.int (nar .char (dV nv (1000000 : Int32)))), (.int (nar .char (dV nv (100000 : Int32)))), (.int (nar .char (dV nv (10000 : Int32)))), (.int (nar .char (dV nv (1000 : Int32)))), (.int (nar .char (dV nv (100 : Int32)))), (.int (nar .char (dV nv (10 : Int32)))), (.int (nar .char (dV nv (1 : Int32))))] (.int (0 : Int32)) := Arv.set Ar556 q556 S556 Nn556 Hh556 Gg556 (fits_nar_char _) W557 1 rfl (Nat.le_of_ble_eq_true rfl)
                        have K557 : Keep h0 h557 [] := Keep.wr K555 W557 (Or.inr sz_b505)
                        have Z557 : n0 ≤ h557.size := Nat.le_trans Z0 K557.1
                        have N557 := Fr.snoc X557 N555 g_b505
                        obtain ⟨cl558, Ar558, q558, S558, Nn558, Hh558, Gg558⟩ := id V557
                        have hin558 : ¬ ((0 : Int32) < 0 ∨ cl558.slots.size ≤ ((0 : Int32)).toNatClampNeg) := inb_of S558 ⟨by decide, by decide⟩
                        obtain ⟨T559, h559, X559, e559, W559, st559⟩ := stC X557 hx hZ e557 Ar558 (j := (0 : Int32)) hin558 (g := (mkF m 328 #[.val (.int p0), .val (.int p1), .val (.int (12 : Int32)), .val (.ref b2), .val (.int nv), .val (.ref b505), .unset] [(.int (48 : Int32)), (.int (0 : Int32)), (.ref b505)])) rfl rfl (hb hby at_328)
                        have V559 : Arv Z h559 b505 k505 .char (12 : Int32) [(.int (nar .char (48 : Int32))), (.int (nar .char (48 : Int32))), (.int (nar .char (dV nv (1000000000 : Int32)))), (.int (nar .char (dV nv (100000000 : Int32)))), (.int (nar .char (dV nv (10000000 : Int32)))), (.int (nar .char (dV nv (1000000 : Int32)))), (.int (nar .char (dV nv (100000 : Int32)))), (.int (nar .char (dV nv (10000 : Int32)))), (.int (nar .char (dV nv (1000 : Int32)))), (.int (nar .char (dV nv (100 : Int32)))), (.int (nar .char (dV nv (10 : Int32)))), (.int (nar .char (dV nv (1 : Int32))))] (.int (0 : Int32)) := Arv.set Ar558 q558 S558 Nn558 Hh558 Gg558 (fits_nar_char _) W559 0 rfl (Nat.le_of_ble_eq_true rfl)
                        have K559 : Keep h0 h559 [] := Keep.wr K557 W559 (Or.inr sz_b505)
                        have Z559 : n0 ≤ h559.size := Nat.le_trans Z0 K559.1
                        have N559 := Fr.snoc X559 N557 g_b505
                        obtain ⟨lx560, Xx560, Nx560⟩ : ∃ lx, Stand p l e room_1 s m #[(.int p0), (.int p1)] below meth c T559 lx 2 22 ∧ Fr n0 lx := ⟨_, X559, N559⟩
                        have f561 := (((f551.other W555 ne_b2_b505).other W557 ne_b2_b505).other W559 ne_b2_b505)
                        obtain ⟨T562, h562, X562, e562, E562, A562, D562, -, st562⟩ := newO Xx560 hx hZ hown (hw _ (List.mem_of_getElem? (i := 12) rfl)) (hw _ (List.mem_of_getElem? (i := 13) rfl)) (hw _ (List.mem_of_getElem? (i := 14) rfl)) e559 (g := (mkF m 329 #[.val (.int p0), .val (.int p1), .val (.int (12 : Int32)), .val (.ref b2), .val (.int nv), .val (.ref b505), .unset] [])) rfl (hb hby at_329) (by decide) (by decide)
                        obtain ⟨b562, g562⟩ : ∃ z, z = h559.size := ⟨_, rfl⟩
                        rw [← g562] at A562 D562 st562
                        have g_b562 : n0 ≤ b562 := Nat.le_trans Z559 (Nat.le_of_eq g562.symm)
                        have sz_b562 : h0.size ≤ b562 := Nat.le_trans K559.1 (Nat.le_of_eq g562.symm)
                        have ne_b2_b562 : b2 ≠ b562 := Nat.ne_of_lt (Nat.lt_of_lt_of_le f561.lt (Nat.le_of_eq g562.symm))
                        have ne_b505_b562 : b505 ≠ b562 := Nat.ne_of_lt (Nat.lt_of_lt_of_le V559.lt (Nat.le_of_eq g562.symm))
                        have K562 : Keep h0 h562 [] := Keep.ext K559 E562
                        have Z562 : n0 ≤ h562.size := Nat.le_trans Z0 K562.1
                        have F_coder_b562 : Fld Z h562 b562 "java/lang/String" "coder" "B" (.int (0 : Int32)) := D562 (Or.inr (hw _ (List.mem_of_getElem? (i := 38) rfl))) (ty := .byte) (by decide)
                        have F_value_b562 : Fld Z h562 b562 "java/lang/String" "value" "[B" .null := D562 (Or.inr (hw _ (List.mem_of_getElem? (i := 40) rfl))) (ty := (.array .byte)) (by decide)
                        have hdg : ∀ i, i < 12 → (([(nar .char (48 : Int32)), (nar .char (48 : Int32)), (nar .char (dV nv (1000000000 : Int32))), (nar .char (dV nv (100000000 : Int32))), (nar .char (dV nv (10000000 : Int32))), (nar .char (dV nv (1000000 : Int32))), (nar .char (dV nv (100000 : Int32))), (nar .char (dV nv (10000 : Int32))), (nar .char (dV nv (1000 : Int32))), (nar .char (dV nv (100 : Int32))), (nar .char (dV nv (10 : Int32))), (nar .char (dV nv (1 : Int32)))] : List Int32).getD i 0).toInt = 48 + (nv.toInt / 10 ^ (12 - 1 - i)) % 10 := fun i hi => match i, hi with
                          | 0, _ => own_zero nv hnb.1 11 (by decide)
                          | 1, _ => own_zero nv hnb.1 10 (by decide)
                          | 2, _ => by rw [show (([(nar .char (48 : Int32)), (nar .char (48 : Int32)), (nar .char (dV nv (1000000000 : Int32))), (nar .char (dV nv (100000000 : Int32))), (nar .char (dV nv (10000000 : Int32))), (nar .char (dV nv (1000000 : Int32))), (nar .char (dV nv (100000 : Int32))), (nar .char (dV nv (10000 : Int32))), (nar .char (dV nv (1000 : Int32))), (nar .char (dV nv (100 : Int32))), (nar .char (dV nv (10 : Int32))), (nar .char (dV nv (1 : Int32)))] : List Int32)).getD 2 0 = nar .char (dV nv (1000000000 : Int32)) from rfl, own_dc nv (1000000000 : Int32) hnb.1 (by decide)]; rfl
                          | 3, _ => by rw [show (([(nar .char (48 : Int32)), (nar .char (48 : Int32)), (nar .char (dV nv (1000000000 : Int32))), (nar .char (dV nv (100000000 : Int32))), (nar .char (dV nv (10000000 : Int32))), (nar .char (dV nv (1000000 : Int32))), (nar .char (dV nv (100000 : Int32))), (nar .char (dV nv (10000 : Int32))), (nar .char (dV nv (1000 : Int32))), (nar .char (dV nv (100 : Int32))), (nar .char (dV nv (10 : Int32))), (nar .char (dV nv (1 : Int32)))] : List Int32)).getD 3 0 = nar .char (dV nv (100000000 : Int32)) from rfl, own_dc nv (100000000 : Int32) hnb.1 (by decide)]; rfl
                          | 4, _ => by rw [show (([(nar .char (48 : Int32)), (nar .char (48 : Int32)), (nar .char (dV nv (1000000000 : Int32))), (nar .char (dV nv (100000000 : Int32))), (nar .char (dV nv (10000000 : Int32))), (nar .char (dV nv (1000000 : Int32))), (nar .char (dV nv (100000 : Int32))), (nar .char (dV nv (10000 : Int32))), (nar .char (dV nv (1000 : Int32))), (nar .char (dV nv (100 : Int32))), (nar .char (dV nv (10 : Int32))), (nar .char (dV nv (1 : Int32)))] : List Int32)).getD 4 0 = nar .char (dV nv (10000000 : Int32)) from rfl, own_dc nv (10000000 : Int32) hnb.1 (by decide)]; rfl
                          | 5, _ => by rw [show (([(nar .char (48 : Int32)), (nar .char (48 : Int32)), (nar .char (dV nv (1000000000 : Int32))), (nar .char (dV nv (100000000 : Int32))), (nar .char (dV nv (10000000 : Int32))), (nar .char (dV nv (1000000 : Int32))), (nar .char (dV nv (100000 : Int32))), (nar .char (dV nv (10000 : Int32))), (nar .char (dV nv (1000 : Int32))), (nar .char (dV nv (100 : Int32))), (nar .char (dV nv (10 : Int32))), (nar .char (dV nv (1 : Int32)))] : List Int32)).getD 5 0 = nar .char (dV nv (1000000 : Int32)) from rfl, own_dc nv (1000000 : Int32) hnb.1 (by decide)]; rfl
                          | 6, _ => by rw [show (([(nar .char (48 : Int32)), (nar .char (48 : Int32)), (nar .char (dV nv (1000000000 : Int32))), (nar .char (dV nv (100000000 : Int32))), (nar .char (dV nv (10000000 : Int32))), (nar .char (dV nv (1000000 : Int32))), (nar .char (dV nv (100000 : Int32))), (nar .char (dV nv (10000 : Int32))), (nar .char (dV nv (1000 : Int32))), (nar .char (dV nv (100 : Int32))), (nar .char (dV nv (10 : Int32))), (nar .char (dV nv (1 : Int32)))] : List Int32)).getD 6 0 = nar .char (dV nv (100000 : Int32)) from rfl, own_dc nv (100000 : Int32) hnb.1 (by decide)]; rfl
                          | 7, _ => by rw [show (([(nar .char (48 : Int32)), (nar .char (48 : Int32)), (nar .char (dV nv (1000000000 : Int32))), (nar .char (dV nv (100000000 : Int32))), (nar .char (dV nv (10000000 : Int32))), (nar .char (dV nv (1000000 : Int32))), (nar .char (dV nv (100000 : Int32))), (nar .char (dV nv (10000 : Int32))), (nar .char (dV nv (1000 : Int32))), (nar .char (dV nv (100 : Int32))), (nar .char (dV nv (10 : Int32))), (nar .char (dV nv (1 : Int32)))] : List Int32)).getD 7 0 = nar .char (dV nv (10000 : Int32)) from rfl, own_dc nv (10000 : Int32) hnb.1 (by decide)]; rfl
                          | 8, _ => by rw [show (([(nar .char (48 : Int32)), (nar .char (48 : Int32)), (nar .char (dV nv (1000000000 : Int32))), (nar .char (dV nv (100000000 : Int32))), (nar .char (dV nv (10000000 : Int32))), (nar .char (dV nv (1000000 : Int32))), (nar .char (dV nv (100000 : Int32))), (nar .char (dV nv (10000 : Int32))), (nar .char (dV nv (1000 : Int32))), (nar .char (dV nv (100 : Int32))), (nar .char (dV nv (10 : Int32))), (nar .char (dV nv (1 : Int32)))] : List Int32)).getD 8 0 = nar .char (dV nv (1000 : Int32)) from rfl, own_dc nv (1000 : Int32) hnb.1 (by decide)]; rfl
                          | 9, _ => by rw [show (([(nar .char (48 : Int32)), (nar .char (48 : Int32)), (nar .char (dV nv (1000000000 : Int32))), (nar .char (dV nv (100000000 : Int32))), (nar .char (dV nv (10000000 : Int32))), (nar .char (dV nv (1000000 : Int32))), (nar .char (dV nv (100000 : Int32))), (nar .char (dV nv (10000 : Int32))), (nar .char (dV nv (1000 : Int32))), (nar .char (dV nv (100 : Int32))), (nar .char (dV nv (10 : Int32))), (nar .char (dV nv (1 : Int32)))] : List Int32)).getD 9 0 = nar .char (dV nv (100 : Int32)) from rfl, own_dc nv (100 : Int32) hnb.1 (by decide)]; rfl
                          | 10, _ => by rw [show (([(nar .char (48 : Int32)), (nar .char (48 : Int32)), (nar .char (dV nv (1000000000 : Int32))), (nar .char (dV nv (100000000 : Int32))), (nar .char (dV nv (10000000 : Int32))), (nar .char (dV nv (1000000 : Int32))), (nar .char (dV nv (100000 : Int32))), (nar .char (dV nv (10000 : Int32))), (nar .char (dV nv (1000 : Int32))), (nar .char (dV nv (100 : Int32))), (nar .char (dV nv (10 : Int32))), (nar .char (dV nv (1 : Int32)))] : List Int32)).getD 10 0 = nar .char (dV nv (10 : Int32)) from rfl, own_dc nv (10 : Int32) hnb.1 (by decide)]; rfl
                          | 11, _ => by rw [show (([(nar .char (48 : Int32)), (nar .char (48 : Int32)), (nar .char (dV nv (1000000000 : Int32))), (nar .char (dV nv (100000000 : Int32))), (nar .char (dV nv (10000000 : Int32))), (nar .char (dV nv (1000000 : Int32))), (nar .char (dV nv (100000 : Int32))), (nar .char (dV nv (10000 : Int32))), (nar .char (dV nv (1000 : Int32))), (nar .char (dV nv (100 : Int32))), (nar .char (dV nv (10 : Int32))), (nar .char (dV nv (1 : Int32)))] : List Int32)).getD 11 0 = nar .char (dV nv (1 : Int32)) from rfl, own_dc nv (1 : Int32) hnb.1 (by decide)]; rfl
                          | k + 12, h => absurd h (by omega)
                        obtain ⟨hp, hdig, hval, hfin⟩ := own_facts ([(nar .char (48 : Int32)), (nar .char (48 : Int32)), (nar .char (dV nv (1000000000 : Int32))), (nar .char (dV nv (100000000 : Int32))), (nar .char (dV nv (10000000 : Int32))), (nar .char (dV nv (1000000 : Int32))), (nar .char (dV nv (100000 : Int32))), (nar .char (dV nv (10000 : Int32))), (nar .char (dV nv (1000 : Int32))), (nar .char (dV nv (100 : Int32))), (nar .char (dV nv (10 : Int32))), (nar .char (dV nv (1 : Int32)))] : List Int32) nv 12 rfl hnb.1 hnb.2 hdg
                        have f564 := (V559.ext E562)
                        have f565 := (((((((((((((((((((((((((SC.ext E2).wr W4).wr W6).wr W8).wr W10).wr W12).wr W14).wr W16).wr W18).wr W20).wr W22).ext E505).wr W510).wr W515).wr W520).wr W525).wr W530).wr W535).wr W540).wr W545).wr W550).wr W555).wr W557).wr W559).ext E562)
                        obtain ⟨_, _, ⟨T563, L563, k563, n563⟩, -, X563, ⟨Lc563, hQ563, l563, y563, z563⟩, st563⟩ := X562.specialBack hx (y := (⟨"java/lang/String", "<init>", "([C)V"⟩ : MethodName)) rfl hown (mvT hZ (hw _ (List.mem_of_getElem? (i := 15) rfl))) (mvT hZ (hw _ (List.mem_of_getElem? (i := 16) rfl))) (mvT hZ (hw _ (List.mem_of_getElem? (i := 17) rfl))) (by decide) (StrChars.Road.backV (W := 1) hZ hws (kI := 4) (hw _ (List.mem_of_getElem? (i := 13) rfl)) (cs := ([(nar .char (48 : Int32)), (nar .char (48 : Int32)), (nar .char (dV nv (1000000000 : Int32))), (nar .char (dV nv (100000000 : Int32))), (nar .char (dV nv (10000000 : Int32))), (nar .char (dV nv (1000000 : Int32))), (nar .char (dV nv (100000 : Int32))), (nar .char (dV nv (10000 : Int32))), (nar .char (dV nv (1000 : Int32))), (nar .char (dV nv (100 : Int32))), (nar .char (dV nv (10 : Int32))), (nar .char (dV nv (1 : Int32)))] : List Int32)) (bs := (([(nar .char (48 : Int32)), (nar .char (48 : Int32)), (nar .char (dV nv (1000000000 : Int32))), (nar .char (dV nv (100000000 : Int32))), (nar .char (dV nv (10000000 : Int32))), (nar .char (dV nv (1000000 : Int32))), (nar .char (dV nv (100000 : Int32))), (nar .char (dV nv (10000 : Int32))), (nar .char (dV nv (1000 : Int32))), (nar .char (dV nv (100 : Int32))), (nar .char (dV nv (10 : Int32))), (nar .char (dV nv (1 : Int32)))] : List Int32)).map (fun c => c.toInt8.toInt32)) (n := 12) g_b562 Z562 A562 F_value_b562 F_coder_b562 f564 f565 hC rfl rfl (by decide) (by decide) hp rfl (by decide) (by decide)) (g := (mkF m 335 #[.val (.int p0), .val (.int p1), .val (.int (12 : Int32)), .val (.ref b2), .val (.int nv), .val (.ref b505), .unset] [(.ref b505), (.ref b562), (.ref b562)])) rfl (by rw [hml]; rfl) (Steps.refl _) (a := b562) (argsL := [(.ref b505)]) (rest := [(.ref b562)]) (lenOf pd_4 rfl) rfl (by show 2 * 0 + _ ≤ _; exact Nat.le_of_eq rfl) (hb hby at_335) (fun _ _ => ⟨rfl, e562, (by decide : 3 + 1 ≤ _), (by decide : 26 + 12 ≤ _)⟩)
                        dsimp only [Pt.U, Pt.locs, Pt.cells, Pt.slots] at X563 l563 y563 z563 st563 hQ563
                        subst l563 y563 z563
                        obtain ⟨rfl, N563q, K563, Ex563, Fc563, bt563, kb563, gt563, ge563, nt563, Fv563, AV563⟩ := hQ563
                        have sk566 := own_sta_keep1 f565 A562 K563
                        have f567 := (((((((((((((((((((((((((SG.ext E2).wr W4).wr W6).wr W8).wr W10).wr W12).wr W14).wr W16).wr W18).wr W20).wr W22).ext E505).wr W510).wr W515).wr W520).wr W525).wr W530).wr W535).wr W540).wr W545).wr W550).wr W555).wr W557).wr W559).ext E562)
                        have sk568 := own_sta_keep1 f567 A562 K563
                        have KK563 : Keep h0 T563.heap [] := Keep.trans K562 K563 (own_side1 (Or.inr sz_b562))
                        have Z563 : n0 ≤ T563.heap.size := Nat.le_trans Z0 KK563.1
                        have N563 := Fr.app Nx560 N563q
                        obtain ⟨lx569, Xx569, Nx569⟩ : ∃ lx, Stand p l e room_1 s m #[(.int p0), (.int p1)] below meth c T563 lx 4 38 ∧ Fr n0 lx := ⟨_, X563, N563⟩
                        obtain ⟨_, _, ⟨T570, L570, k570, n570⟩, -, X570, ⟨Lc570, hQ570, l570, y570, z570⟩, st570⟩ := Jvm.LawKit.callS Xx569 hx (y := (⟨"com/example/libforeword/libforeword/wordlist/Entry", "parseFrequency", "(Ljava/lang/String;)I"⟩ : MethodName)) hown (mvT hZ (hw _ (List.mem_of_getElem? (i := 41) rfl))) (mvT hZ (hw _ (List.mem_of_getElem? (i := 42) rfl))) (mvT hZ (hw _ (List.mem_of_getElem? (i := 43) rfl))) (mvT hZ (hw _ (List.mem_of_getElem? (i := 44) rfl))) (by decide) (backOf (W := 0) (rmPF l Z a0 hw [] b562 bt563 kb563 ([(nar .char (48 : Int32)), (nar .char (48 : Int32)), (nar .char (dV nv (1000000000 : Int32))), (nar .char (dV nv (100000000 : Int32))), (nar .char (dV nv (10000000 : Int32))), (nar .char (dV nv (1000000 : Int32))), (nar .char (dV nv (100000 : Int32))), (nar .char (dV nv (10000 : Int32))), (nar .char (dV nv (1000 : Int32))), (nar .char (dV nv (100 : Int32))), (nar .char (dV nv (10 : Int32))), (nar .char (dV nv (1 : Int32)))] : List Int32) iC vG T563.heap n0 Z563 Ex563 Fc563 Fv563 AV563 sk566 hC sk568 hvG hp (by show 0 < 12; decide) (by show 12 ≤ 12; decide) hdig hval) hZ (hw _ (List.mem_of_getElem? (i := 44) rfl)) (hw _ (List.mem_of_getElem? (i := 43) rfl)) (by decide) (by decide)) (g := (mkF m 342 #[.val (.int p0), .val (.int p1), .val (.int (12 : Int32)), .val (.ref b2), .val (.int nv), .val (.ref b505), .val (.ref b562)] [(.ref b562)])) rfl (by rw [hml]; rfl) (argsL := [(.ref b562)]) (rest := []) (lenOf pd_5 rfl) rfl (by show 2 * 0 + _ ≤ _; exact Nat.le_of_eq rfl) (hb hby at_342) (fun _ _ => ⟨rfl, rfl, (by decide : 4 + 0 ≤ _), (by decide : 38 + 0 ≤ _)⟩)
                        dsimp only [Pt.U, Pt.locs, Pt.cells, Pt.slots] at X570 l570 y570 z570 st570 hQ570
                        subst l570 y570 z570
                        obtain ⟨rfl, N570q, e570⟩ := hQ570
                        have N570 := Fr.app Nx569 N570q
                        obtain ⟨fs, hr, hrun, hended, hW, hsame⟩ := X570.leave (v := some (.int (1 : Int32))) (fun h => by rw [Bd.returns] at h; cases h)
                        refine ⟨_, _, pre504 _ ?_, hrun, hended, _, _, rfl, ?_, ⟨_, rfl⟩, hW, hsame.mono (by decide) (by decide)⟩
                        · show Steps p.tables e below (T22.setTop (mkF m 90 #[.val (.int p0), .val (.int p1), .val (.int (12 : Int32)), .val (.ref b2), .val (.int nv), .unset, .unset] [])) _
                          refine XS.iloadN Xx24.here hx rfl (hb hby at_90) rfl ?_
                          show Steps p.tables e below (T22.setTop (mkF m 91 #[.val (.int p0), .val (.int p1), .val (.int (12 : Int32)), .val (.ref b2), .val (.int nv), .unset, .unset] [(.int (12 : Int32))])) _
                          refine st505 _ ?_
                          refine XS.astore X505.here hx rfl (hb hby at_93) rfl rfl (l' := #[.val (.int p0), .val (.int p1), .val (.int (12 : Int32)), .val (.ref b2), .val (.int nv), .val (.ref b505), .unset]) rfl ?_
                          refine XS.iloadN X505.here hx rfl (hb hby at_95) rfl ?_
                          refine XS.iconst X505.here hx rfl (hb hby at_96) ?_
                          show Steps p.tables e below (T505.setTop (mkF m 97 #[.val (.int p0), .val (.int p1), .val (.int (12 : Int32)), .val (.ref b2), .val (.int nv), .val (.ref b505), .unset] [(.int (1 : Int32)), (.int (12 : Int32))])) _
                          refine XS.icmpNo X505.here hx rfl (hb hby at_97) rfl (flt (show ¬ ((12 : Int32) < (1 : Int32)) from (by decide))).1 ?_
                          refine XS.aload X505.here hx rfl (hb hby at_100) rfl rfl ?_
                          refine XS.iloadN X505.here hx rfl (hb hby at_102) rfl ?_
                          refine XS.iconst X505.here hx rfl (hb hby at_103) ?_
                          show Steps p.tables e below (T505.setTop (mkF m 104 #[.val (.int p0), .val (.int p1), .val (.int (12 : Int32)), .val (.ref b2), .val (.int nv), .val (.ref b505), .unset] [(.int (1 : Int32)), (.int (12 : Int32)), (.ref b505)])) _
                          refine XS.isub X505.here hx rfl (hb hby at_104) rfl ?_
                          refine XS.iload X505.here hx rfl (hb hby at_105) rfl ?_
                          refine XS.aloadN X505.here hx rfl (hb hby at_107) rfl rfl ?_
                          refine XS.iconst X505.here hx rfl (hb hby at_108) ?_
                          show Steps p.tables e below (T505.setTop (mkF m 109 #[.val (.int p0), .val (.int p1), .val (.int (12 : Int32)), .val (.ref b2), .val (.int nv), .val (.ref b505), .unset] [(.int (0 : Int32)), (.ref b2), (.int nv), (.int (11 : Int32)), (.ref b505)])) _
                          refine X505.iaload hx (j := (0 : Int32)) (v := (.int (1 : Int32))) (by rw [e505]; exact Ar507.1) (State.isArrayOf_alike hZ.alike Ar507.2.1) Ar507.2.2 hin507 hat507 (g := (mkF m 109 #[.val (.int p0), .val (.int p1), .val (.int (12 : Int32)), .val (.ref b2), .val (.int nv), .val (.ref b505), .unset] [(.int (0 : Int32)), (.ref b2), (.int nv), (.int (11 : Int32)), (.ref b505)])) rfl rfl (hb hby at_109) _ ?_
                          show Steps p.tables e below (T505.setTop (mkF m 110 #[.val (.int p0), .val (.int p1), .val (.int (12 : Int32)), .val (.ref b2), .val (.int nv), .val (.ref b505), .unset] [(.int (1 : Int32)), (.int nv), (.int (11 : Int32)), (.ref b505)])) _
                          refine st508 _ ?_
                          show Steps p.tables e below (T508.setTop (mkF m 113 #[.val (.int p0), .val (.int p1), .val (.int (12 : Int32)), .val (.ref b2), .val (.int nv), .val (.ref b505), .unset] [(.int (dV nv (1 : Int32))), (.int (11 : Int32)), (.ref b505)])) _
                          refine st510 _ ?_
                          refine XS.iloadN X510.here hx rfl (hb hby at_114) rfl ?_
                          refine XS.iconst X510.here hx rfl (hb hby at_115) ?_
                          show Steps p.tables e below (T510.setTop (mkF m 116 #[.val (.int p0), .val (.int p1), .val (.int (12 : Int32)), .val (.ref b2), .val (.int nv), .val (.ref b505), .unset] [(.int (2 : Int32)), (.int (12 : Int32))])) _
                          refine XS.icmpNo X510.here hx rfl (hb hby at_116) rfl (flt (show ¬ ((12 : Int32) < (2 : Int32)) from (by decide))).1 ?_
                          refine XS.aload X510.here hx rfl (hb hby at_119) rfl rfl ?_
                          refine XS.iloadN X510.here hx rfl (hb hby at_121) rfl ?_
                          refine XS.iconst X510.here hx rfl (hb hby at_122) ?_
                          show Steps p.tables e below (T510.setTop (mkF m 123 #[.val (.int p0), .val (.int p1), .val (.int (12 : Int32)), .val (.ref b2), .val (.int nv), .val (.ref b505), .unset] [(.int (2 : Int32)), (.int (12 : Int32)), (.ref b505)])) _
                          refine XS.isub X510.here hx rfl (hb hby at_123) rfl ?_
                          refine XS.iload X510.here hx rfl (hb hby at_124) rfl ?_
                          refine XS.aloadN X510.here hx rfl (hb hby at_126) rfl rfl ?_
                          refine XS.iconst X510.here hx rfl (hb hby at_127) ?_
                          show Steps p.tables e below (T510.setTop (mkF m 128 #[.val (.int p0), .val (.int p1), .val (.int (12 : Int32)), .val (.ref b2), .val (.int nv), .val (.ref b505), .unset] [(.int (1 : Int32)), (.ref b2), (.int nv), (.int (10 : Int32)), (.ref b505)])) _
                          refine X510.iaload hx (j := (1 : Int32)) (v := (.int (10 : Int32))) (by rw [e510]; exact Ar512.1) (State.isArrayOf_alike hZ.alike Ar512.2.1) Ar512.2.2 hin512 hat512 (g := (mkF m 128 #[.val (.int p0), .val (.int p1), .val (.int (12 : Int32)), .val (.ref b2), .val (.int nv), .val (.ref b505), .unset] [(.int (1 : Int32)), (.ref b2), (.int nv), (.int (10 : Int32)), (.ref b505)])) rfl rfl (hb hby at_128) _ ?_
                          show Steps p.tables e below (T510.setTop (mkF m 129 #[.val (.int p0), .val (.int p1), .val (.int (12 : Int32)), .val (.ref b2), .val (.int nv), .val (.ref b505), .unset] [(.int (10 : Int32)), (.int nv), (.int (10 : Int32)), (.ref b505)])) _
                          refine st513 _ ?_
                          show Steps p.tables e below (T513.setTop (mkF m 132 #[.val (.int p0), .val (.int p1), .val (.int (12 : Int32)), .val (.ref b2), .val (.int nv), .val (.ref b505), .unset] [(.int (dV nv (10 : Int32))), (.int (10 : Int32)), (.ref b505)])) _
                          refine st515 _ ?_
                          refine XS.iloadN X515.here hx rfl (hb hby at_133) rfl ?_
                          refine XS.iconst X515.here hx rfl (hb hby at_134) ?_
                          show Steps p.tables e below (T515.setTop (mkF m 135 #[.val (.int p0), .val (.int p1), .val (.int (12 : Int32)), .val (.ref b2), .val (.int nv), .val (.ref b505), .unset] [(.int (3 : Int32)), (.int (12 : Int32))])) _
                          refine XS.icmpNo X515.here hx rfl (hb hby at_135) rfl (flt (show ¬ ((12 : Int32) < (3 : Int32)) from (by decide))).1 ?_
                          refine XS.aload X515.here hx rfl (hb hby at_138) rfl rfl ?_
                          refine XS.iloadN X515.here hx rfl (hb hby at_140) rfl ?_
                          refine XS.iconst X515.here hx rfl (hb hby at_141) ?_
                          show Steps p.tables e below (T515.setTop (mkF m 142 #[.val (.int p0), .val (.int p1), .val (.int (12 : Int32)), .val (.ref b2), .val (.int nv), .val (.ref b505), .unset] [(.int (3 : Int32)), (.int (12 : Int32)), (.ref b505)])) _
                          refine XS.isub X515.here hx rfl (hb hby at_142) rfl ?_
                          refine XS.iload X515.here hx rfl (hb hby at_143) rfl ?_
                          refine XS.aloadN X515.here hx rfl (hb hby at_145) rfl rfl ?_
                          refine XS.iconst X515.here hx rfl (hb hby at_146) ?_
                          show Steps p.tables e below (T515.setTop (mkF m 147 #[.val (.int p0), .val (.int p1), .val (.int (12 : Int32)), .val (.ref b2), .val (.int nv), .val (.ref b505), .unset] [(.int (2 : Int32)), (.ref b2), (.int nv), (.int (9 : Int32)), (.ref b505)])) _
                          refine X515.iaload hx (j := (2 : Int32)) (v := (.int (100 : Int32))) (by rw [e515]; exact Ar517.1) (State.isArrayOf_alike hZ.alike Ar517.2.1) Ar517.2.2 hin517 hat517 (g := (mkF m 147 #[.val (.int p0), .val (.int p1), .val (.int (12 : Int32)), .val (.ref b2), .val (.int nv), .val (.ref b505), .unset] [(.int (2 : Int32)), (.ref b2), (.int nv), (.int (9 : Int32)), (.ref b505)])) rfl rfl (hb hby at_147) _ ?_
                          show Steps p.tables e below (T515.setTop (mkF m 148 #[.val (.int p0), .val (.int p1), .val (.int (12 : Int32)), .val (.ref b2), .val (.int nv), .val (.ref b505), .unset] [(.int (100 : Int32)), (.int nv), (.int (9 : Int32)), (.ref b505)])) _
                          refine st518 _ ?_
                          show Steps p.tables e below (T518.setTop (mkF m 151 #[.val (.int p0), .val (.int p1), .val (.int (12 : Int32)), .val (.ref b2), .val (.int nv), .val (.ref b505), .unset] [(.int (dV nv (100 : Int32))), (.int (9 : Int32)), (.ref b505)])) _
                          refine st520 _ ?_
                          refine XS.iloadN X520.here hx rfl (hb hby at_152) rfl ?_
                          refine XS.iconst X520.here hx rfl (hb hby at_153) ?_
                          show Steps p.tables e below (T520.setTop (mkF m 154 #[.val (.int p0), .val (.int p1), .val (.int (12 : Int32)), .val (.ref b2), .val (.int nv), .val (.ref b505), .unset] [(.int (4 : Int32)), (.int (12 : Int32))])) _
                          refine XS.icmpNo X520.here hx rfl (hb hby at_154) rfl (flt (show ¬ ((12 : Int32) < (4 : Int32)) from (by decide))).1 ?_
                          refine XS.aload X520.here hx rfl (hb hby at_157) rfl rfl ?_
                          refine XS.iloadN X520.here hx rfl (hb hby at_159) rfl ?_
                          refine XS.iconst X520.here hx rfl (hb hby at_160) ?_
                          show Steps p.tables e below (T520.setTop (mkF m 161 #[.val (.int p0), .val (.int p1), .val (.int (12 : Int32)), .val (.ref b2), .val (.int nv), .val (.ref b505), .unset] [(.int (4 : Int32)), (.int (12 : Int32)), (.ref b505)])) _
                          refine XS.isub X520.here hx rfl (hb hby at_161) rfl ?_
                          refine XS.iload X520.here hx rfl (hb hby at_162) rfl ?_
                          refine XS.aloadN X520.here hx rfl (hb hby at_164) rfl rfl ?_
                          refine XS.iconst X520.here hx rfl (hb hby at_165) ?_
                          show Steps p.tables e below (T520.setTop (mkF m 166 #[.val (.int p0), .val (.int p1), .val (.int (12 : Int32)), .val (.ref b2), .val (.int nv), .val (.ref b505), .unset] [(.int (3 : Int32)), (.ref b2), (.int nv), (.int (8 : Int32)), (.ref b505)])) _
                          refine X520.iaload hx (j := (3 : Int32)) (v := (.int (1000 : Int32))) (by rw [e520]; exact Ar522.1) (State.isArrayOf_alike hZ.alike Ar522.2.1) Ar522.2.2 hin522 hat522 (g := (mkF m 166 #[.val (.int p0), .val (.int p1), .val (.int (12 : Int32)), .val (.ref b2), .val (.int nv), .val (.ref b505), .unset] [(.int (3 : Int32)), (.ref b2), (.int nv), (.int (8 : Int32)), (.ref b505)])) rfl rfl (hb hby at_166) _ ?_
                          show Steps p.tables e below (T520.setTop (mkF m 167 #[.val (.int p0), .val (.int p1), .val (.int (12 : Int32)), .val (.ref b2), .val (.int nv), .val (.ref b505), .unset] [(.int (1000 : Int32)), (.int nv), (.int (8 : Int32)), (.ref b505)])) _
                          refine st523 _ ?_
                          show Steps p.tables e below (T523.setTop (mkF m 170 #[.val (.int p0), .val (.int p1), .val (.int (12 : Int32)), .val (.ref b2), .val (.int nv), .val (.ref b505), .unset] [(.int (dV nv (1000 : Int32))), (.int (8 : Int32)), (.ref b505)])) _
                          refine st525 _ ?_
                          refine XS.iloadN X525.here hx rfl (hb hby at_171) rfl ?_
                          refine XS.iconst X525.here hx rfl (hb hby at_172) ?_
                          show Steps p.tables e below (T525.setTop (mkF m 173 #[.val (.int p0), .val (.int p1), .val (.int (12 : Int32)), .val (.ref b2), .val (.int nv), .val (.ref b505), .unset] [(.int (5 : Int32)), (.int (12 : Int32))])) _
                          refine XS.icmpNo X525.here hx rfl (hb hby at_173) rfl (flt (show ¬ ((12 : Int32) < (5 : Int32)) from (by decide))).1 ?_
                          refine XS.aload X525.here hx rfl (hb hby at_176) rfl rfl ?_
                          refine XS.iloadN X525.here hx rfl (hb hby at_178) rfl ?_
                          refine XS.iconst X525.here hx rfl (hb hby at_179) ?_
                          show Steps p.tables e below (T525.setTop (mkF m 180 #[.val (.int p0), .val (.int p1), .val (.int (12 : Int32)), .val (.ref b2), .val (.int nv), .val (.ref b505), .unset] [(.int (5 : Int32)), (.int (12 : Int32)), (.ref b505)])) _
                          refine XS.isub X525.here hx rfl (hb hby at_180) rfl ?_
                          refine XS.iload X525.here hx rfl (hb hby at_181) rfl ?_
                          refine XS.aloadN X525.here hx rfl (hb hby at_183) rfl rfl ?_
                          refine XS.iconst X525.here hx rfl (hb hby at_184) ?_
                          show Steps p.tables e below (T525.setTop (mkF m 185 #[.val (.int p0), .val (.int p1), .val (.int (12 : Int32)), .val (.ref b2), .val (.int nv), .val (.ref b505), .unset] [(.int (4 : Int32)), (.ref b2), (.int nv), (.int (7 : Int32)), (.ref b505)])) _
                          refine X525.iaload hx (j := (4 : Int32)) (v := (.int (10000 : Int32))) (by rw [e525]; exact Ar527.1) (State.isArrayOf_alike hZ.alike Ar527.2.1) Ar527.2.2 hin527 hat527 (g := (mkF m 185 #[.val (.int p0), .val (.int p1), .val (.int (12 : Int32)), .val (.ref b2), .val (.int nv), .val (.ref b505), .unset] [(.int (4 : Int32)), (.ref b2), (.int nv), (.int (7 : Int32)), (.ref b505)])) rfl rfl (hb hby at_185) _ ?_
                          show Steps p.tables e below (T525.setTop (mkF m 186 #[.val (.int p0), .val (.int p1), .val (.int (12 : Int32)), .val (.ref b2), .val (.int nv), .val (.ref b505), .unset] [(.int (10000 : Int32)), (.int nv), (.int (7 : Int32)), (.ref b505)])) _
                          refine st528 _ ?_
                          show Steps p.tables e below (T528.setTop (mkF m 189 #[.val (.int p0), .val (.int p1), .val (.int (12 : Int32)), .val (.ref b2), .val (.int nv), .val (.ref b505), .unset] [(.int (dV nv (10000 : Int32))), (.int (7 : Int32)), (.ref b505)])) _
                          refine st530 _ ?_
                          refine XS.iloadN X530.here hx rfl (hb hby at_190) rfl ?_
                          refine XS.bipush X530.here hx rfl (hb hby at_191) ?_
                          show Steps p.tables e below (T530.setTop (mkF m 193 #[.val (.int p0), .val (.int p1), .val (.int (12 : Int32)), .val (.ref b2), .val (.int nv), .val (.ref b505), .unset] [(.int (6 : Int32)), (.int (12 : Int32))])) _
                          refine XS.icmpNo X530.here hx rfl (hb hby at_193) rfl (flt (show ¬ ((12 : Int32) < (6 : Int32)) from (by decide))).1 ?_
                          refine XS.aload X530.here hx rfl (hb hby at_196) rfl rfl ?_
                          refine XS.iloadN X530.here hx rfl (hb hby at_198) rfl ?_
                          refine XS.bipush X530.here hx rfl (hb hby at_199) ?_
                          show Steps p.tables e below (T530.setTop (mkF m 201 #[.val (.int p0), .val (.int p1), .val (.int (12 : Int32)), .val (.ref b2), .val (.int nv), .val (.ref b505), .unset] [(.int (6 : Int32)), (.int (12 : Int32)), (.ref b505)])) _
                          refine XS.isub X530.here hx rfl (hb hby at_201) rfl ?_
                          refine XS.iload X530.here hx rfl (hb hby at_202) rfl ?_
                          refine XS.aloadN X530.here hx rfl (hb hby at_204) rfl rfl ?_
                          refine XS.iconst X530.here hx rfl (hb hby at_205) ?_
                          show Steps p.tables e below (T530.setTop (mkF m 206 #[.val (.int p0), .val (.int p1), .val (.int (12 : Int32)), .val (.ref b2), .val (.int nv), .val (.ref b505), .unset] [(.int (5 : Int32)), (.ref b2), (.int nv), (.int (6 : Int32)), (.ref b505)])) _
                          refine X530.iaload hx (j := (5 : Int32)) (v := (.int (100000 : Int32))) (by rw [e530]; exact Ar532.1) (State.isArrayOf_alike hZ.alike Ar532.2.1) Ar532.2.2 hin532 hat532 (g := (mkF m 206 #[.val (.int p0), .val (.int p1), .val (.int (12 : Int32)), .val (.ref b2), .val (.int nv), .val (.ref b505), .unset] [(.int (5 : Int32)), (.ref b2), (.int nv), (.int (6 : Int32)), (.ref b505)])) rfl rfl (hb hby at_206) _ ?_
                          show Steps p.tables e below (T530.setTop (mkF m 207 #[.val (.int p0), .val (.int p1), .val (.int (12 : Int32)), .val (.ref b2), .val (.int nv), .val (.ref b505), .unset] [(.int (100000 : Int32)), (.int nv), (.int (6 : Int32)), (.ref b505)])) _
                          refine st533 _ ?_
                          show Steps p.tables e below (T533.setTop (mkF m 210 #[.val (.int p0), .val (.int p1), .val (.int (12 : Int32)), .val (.ref b2), .val (.int nv), .val (.ref b505), .unset] [(.int (dV nv (100000 : Int32))), (.int (6 : Int32)), (.ref b505)])) _
                          refine st535 _ ?_
                          refine XS.iloadN X535.here hx rfl (hb hby at_211) rfl ?_
                          refine XS.bipush X535.here hx rfl (hb hby at_212) ?_
                          show Steps p.tables e below (T535.setTop (mkF m 214 #[.val (.int p0), .val (.int p1), .val (.int (12 : Int32)), .val (.ref b2), .val (.int nv), .val (.ref b505), .unset] [(.int (7 : Int32)), (.int (12 : Int32))])) _
                          refine XS.icmpNo X535.here hx rfl (hb hby at_214) rfl (flt (show ¬ ((12 : Int32) < (7 : Int32)) from (by decide))).1 ?_
                          refine XS.aload X535.here hx rfl (hb hby at_217) rfl rfl ?_
                          refine XS.iloadN X535.here hx rfl (hb hby at_219) rfl ?_
                          refine XS.bipush X535.here hx rfl (hb hby at_220) ?_
                          show Steps p.tables e below (T535.setTop (mkF m 222 #[.val (.int p0), .val (.int p1), .val (.int (12 : Int32)), .val (.ref b2), .val (.int nv), .val (.ref b505), .unset] [(.int (7 : Int32)), (.int (12 : Int32)), (.ref b505)])) _
                          refine XS.isub X535.here hx rfl (hb hby at_222) rfl ?_
                          refine XS.iload X535.here hx rfl (hb hby at_223) rfl ?_
                          refine XS.aloadN X535.here hx rfl (hb hby at_225) rfl rfl ?_
                          refine XS.bipush X535.here hx rfl (hb hby at_226) ?_
                          show Steps p.tables e below (T535.setTop (mkF m 228 #[.val (.int p0), .val (.int p1), .val (.int (12 : Int32)), .val (.ref b2), .val (.int nv), .val (.ref b505), .unset] [(.int (6 : Int32)), (.ref b2), (.int nv), (.int (5 : Int32)), (.ref b505)])) _
                          refine X535.iaload hx (j := (6 : Int32)) (v := (.int (1000000 : Int32))) (by rw [e535]; exact Ar537.1) (State.isArrayOf_alike hZ.alike Ar537.2.1) Ar537.2.2 hin537 hat537 (g := (mkF m 228 #[.val (.int p0), .val (.int p1), .val (.int (12 : Int32)), .val (.ref b2), .val (.int nv), .val (.ref b505), .unset] [(.int (6 : Int32)), (.ref b2), (.int nv), (.int (5 : Int32)), (.ref b505)])) rfl rfl (hb hby at_228) _ ?_
                          show Steps p.tables e below (T535.setTop (mkF m 229 #[.val (.int p0), .val (.int p1), .val (.int (12 : Int32)), .val (.ref b2), .val (.int nv), .val (.ref b505), .unset] [(.int (1000000 : Int32)), (.int nv), (.int (5 : Int32)), (.ref b505)])) _
                          refine st538 _ ?_
                          show Steps p.tables e below (T538.setTop (mkF m 232 #[.val (.int p0), .val (.int p1), .val (.int (12 : Int32)), .val (.ref b2), .val (.int nv), .val (.ref b505), .unset] [(.int (dV nv (1000000 : Int32))), (.int (5 : Int32)), (.ref b505)])) _
                          refine st540 _ ?_
                          refine XS.iloadN X540.here hx rfl (hb hby at_233) rfl ?_
                          refine XS.bipush X540.here hx rfl (hb hby at_234) ?_
                          show Steps p.tables e below (T540.setTop (mkF m 236 #[.val (.int p0), .val (.int p1), .val (.int (12 : Int32)), .val (.ref b2), .val (.int nv), .val (.ref b505), .unset] [(.int (8 : Int32)), (.int (12 : Int32))])) _
                          refine XS.icmpNo X540.here hx rfl (hb hby at_236) rfl (flt (show ¬ ((12 : Int32) < (8 : Int32)) from (by decide))).1 ?_
                          refine XS.aload X540.here hx rfl (hb hby at_239) rfl rfl ?_
                          refine XS.iloadN X540.here hx rfl (hb hby at_241) rfl ?_
                          refine XS.bipush X540.here hx rfl (hb hby at_242) ?_
                          show Steps p.tables e below (T540.setTop (mkF m 244 #[.val (.int p0), .val (.int p1), .val (.int (12 : Int32)), .val (.ref b2), .val (.int nv), .val (.ref b505), .unset] [(.int (8 : Int32)), (.int (12 : Int32)), (.ref b505)])) _
                          refine XS.isub X540.here hx rfl (hb hby at_244) rfl ?_
                          refine XS.iload X540.here hx rfl (hb hby at_245) rfl ?_
                          refine XS.aloadN X540.here hx rfl (hb hby at_247) rfl rfl ?_
                          refine XS.bipush X540.here hx rfl (hb hby at_248) ?_
                          show Steps p.tables e below (T540.setTop (mkF m 250 #[.val (.int p0), .val (.int p1), .val (.int (12 : Int32)), .val (.ref b2), .val (.int nv), .val (.ref b505), .unset] [(.int (7 : Int32)), (.ref b2), (.int nv), (.int (4 : Int32)), (.ref b505)])) _
                          refine X540.iaload hx (j := (7 : Int32)) (v := (.int (10000000 : Int32))) (by rw [e540]; exact Ar542.1) (State.isArrayOf_alike hZ.alike Ar542.2.1) Ar542.2.2 hin542 hat542 (g := (mkF m 250 #[.val (.int p0), .val (.int p1), .val (.int (12 : Int32)), .val (.ref b2), .val (.int nv), .val (.ref b505), .unset] [(.int (7 : Int32)), (.ref b2), (.int nv), (.int (4 : Int32)), (.ref b505)])) rfl rfl (hb hby at_250) _ ?_
                          show Steps p.tables e below (T540.setTop (mkF m 251 #[.val (.int p0), .val (.int p1), .val (.int (12 : Int32)), .val (.ref b2), .val (.int nv), .val (.ref b505), .unset] [(.int (10000000 : Int32)), (.int nv), (.int (4 : Int32)), (.ref b505)])) _
                          refine st543 _ ?_
                          show Steps p.tables e below (T543.setTop (mkF m 254 #[.val (.int p0), .val (.int p1), .val (.int (12 : Int32)), .val (.ref b2), .val (.int nv), .val (.ref b505), .unset] [(.int (dV nv (10000000 : Int32))), (.int (4 : Int32)), (.ref b505)])) _
                          refine st545 _ ?_
                          refine XS.iloadN X545.here hx rfl (hb hby at_255) rfl ?_
                          refine XS.bipush X545.here hx rfl (hb hby at_256) ?_
                          show Steps p.tables e below (T545.setTop (mkF m 258 #[.val (.int p0), .val (.int p1), .val (.int (12 : Int32)), .val (.ref b2), .val (.int nv), .val (.ref b505), .unset] [(.int (9 : Int32)), (.int (12 : Int32))])) _
                          refine XS.icmpNo X545.here hx rfl (hb hby at_258) rfl (flt (show ¬ ((12 : Int32) < (9 : Int32)) from (by decide))).1 ?_
                          refine XS.aload X545.here hx rfl (hb hby at_261) rfl rfl ?_
                          refine XS.iloadN X545.here hx rfl (hb hby at_263) rfl ?_
                          refine XS.bipush X545.here hx rfl (hb hby at_264) ?_
                          show Steps p.tables e below (T545.setTop (mkF m 266 #[.val (.int p0), .val (.int p1), .val (.int (12 : Int32)), .val (.ref b2), .val (.int nv), .val (.ref b505), .unset] [(.int (9 : Int32)), (.int (12 : Int32)), (.ref b505)])) _
                          refine XS.isub X545.here hx rfl (hb hby at_266) rfl ?_
                          refine XS.iload X545.here hx rfl (hb hby at_267) rfl ?_
                          refine XS.aloadN X545.here hx rfl (hb hby at_269) rfl rfl ?_
                          refine XS.bipush X545.here hx rfl (hb hby at_270) ?_
                          show Steps p.tables e below (T545.setTop (mkF m 272 #[.val (.int p0), .val (.int p1), .val (.int (12 : Int32)), .val (.ref b2), .val (.int nv), .val (.ref b505), .unset] [(.int (8 : Int32)), (.ref b2), (.int nv), (.int (3 : Int32)), (.ref b505)])) _
                          refine X545.iaload hx (j := (8 : Int32)) (v := (.int (100000000 : Int32))) (by rw [e545]; exact Ar547.1) (State.isArrayOf_alike hZ.alike Ar547.2.1) Ar547.2.2 hin547 hat547 (g := (mkF m 272 #[.val (.int p0), .val (.int p1), .val (.int (12 : Int32)), .val (.ref b2), .val (.int nv), .val (.ref b505), .unset] [(.int (8 : Int32)), (.ref b2), (.int nv), (.int (3 : Int32)), (.ref b505)])) rfl rfl (hb hby at_272) _ ?_
                          show Steps p.tables e below (T545.setTop (mkF m 273 #[.val (.int p0), .val (.int p1), .val (.int (12 : Int32)), .val (.ref b2), .val (.int nv), .val (.ref b505), .unset] [(.int (100000000 : Int32)), (.int nv), (.int (3 : Int32)), (.ref b505)])) _
                          refine st548 _ ?_
                          show Steps p.tables e below (T548.setTop (mkF m 276 #[.val (.int p0), .val (.int p1), .val (.int (12 : Int32)), .val (.ref b2), .val (.int nv), .val (.ref b505), .unset] [(.int (dV nv (100000000 : Int32))), (.int (3 : Int32)), (.ref b505)])) _
                          refine st550 _ ?_
                          refine XS.iloadN X550.here hx rfl (hb hby at_277) rfl ?_
                          refine XS.bipush X550.here hx rfl (hb hby at_278) ?_
                          show Steps p.tables e below (T550.setTop (mkF m 280 #[.val (.int p0), .val (.int p1), .val (.int (12 : Int32)), .val (.ref b2), .val (.int nv), .val (.ref b505), .unset] [(.int (10 : Int32)), (.int (12 : Int32))])) _
                          refine XS.icmpNo X550.here hx rfl (hb hby at_280) rfl (flt (show ¬ ((12 : Int32) < (10 : Int32)) from (by decide))).1 ?_
                          refine XS.aload X550.here hx rfl (hb hby at_283) rfl rfl ?_
                          refine XS.iloadN X550.here hx rfl (hb hby at_285) rfl ?_
                          refine XS.bipush X550.here hx rfl (hb hby at_286) ?_
                          show Steps p.tables e below (T550.setTop (mkF m 288 #[.val (.int p0), .val (.int p1), .val (.int (12 : Int32)), .val (.ref b2), .val (.int nv), .val (.ref b505), .unset] [(.int (10 : Int32)), (.int (12 : Int32)), (.ref b505)])) _
                          refine XS.isub X550.here hx rfl (hb hby at_288) rfl ?_
                          refine XS.iload X550.here hx rfl (hb hby at_289) rfl ?_
                          refine XS.aloadN X550.here hx rfl (hb hby at_291) rfl rfl ?_
                          refine XS.bipush X550.here hx rfl (hb hby at_292) ?_
                          show Steps p.tables e below (T550.setTop (mkF m 294 #[.val (.int p0), .val (.int p1), .val (.int (12 : Int32)), .val (.ref b2), .val (.int nv), .val (.ref b505), .unset] [(.int (9 : Int32)), (.ref b2), (.int nv), (.int (2 : Int32)), (.ref b505)])) _
                          refine X550.iaload hx (j := (9 : Int32)) (v := (.int (1000000000 : Int32))) (by rw [e550]; exact Ar552.1) (State.isArrayOf_alike hZ.alike Ar552.2.1) Ar552.2.2 hin552 hat552 (g := (mkF m 294 #[.val (.int p0), .val (.int p1), .val (.int (12 : Int32)), .val (.ref b2), .val (.int nv), .val (.ref b505), .unset] [(.int (9 : Int32)), (.ref b2), (.int nv), (.int (2 : Int32)), (.ref b505)])) rfl rfl (hb hby at_294) _ ?_
                          show Steps p.tables e below (T550.setTop (mkF m 295 #[.val (.int p0), .val (.int p1), .val (.int (12 : Int32)), .val (.ref b2), .val (.int nv), .val (.ref b505), .unset] [(.int (1000000000 : Int32)), (.int nv), (.int (2 : Int32)), (.ref b505)])) _
                          refine st553 _ ?_
                          show Steps p.tables e below (T553.setTop (mkF m 298 #[.val (.int p0), .val (.int p1), .val (.int (12 : Int32)), .val (.ref b2), .val (.int nv), .val (.ref b505), .unset] [(.int (dV nv (1000000000 : Int32))), (.int (2 : Int32)), (.ref b505)])) _
                          refine st555 _ ?_
                          refine XS.iloadN X555.here hx rfl (hb hby at_299) rfl ?_
                          refine XS.bipush X555.here hx rfl (hb hby at_300) ?_
                          show Steps p.tables e below (T555.setTop (mkF m 302 #[.val (.int p0), .val (.int p1), .val (.int (12 : Int32)), .val (.ref b2), .val (.int nv), .val (.ref b505), .unset] [(.int (11 : Int32)), (.int (12 : Int32))])) _
                          refine XS.icmpNo X555.here hx rfl (hb hby at_302) rfl (flt (show ¬ ((12 : Int32) < (11 : Int32)) from (by decide))).1 ?_
                          refine XS.aload X555.here hx rfl (hb hby at_305) rfl rfl ?_
                          refine XS.iloadN X555.here hx rfl (hb hby at_307) rfl ?_
                          refine XS.bipush X555.here hx rfl (hb hby at_308) ?_
                          show Steps p.tables e below (T555.setTop (mkF m 310 #[.val (.int p0), .val (.int p1), .val (.int (12 : Int32)), .val (.ref b2), .val (.int nv), .val (.ref b505), .unset] [(.int (11 : Int32)), (.int (12 : Int32)), (.ref b505)])) _
                          refine XS.isub X555.here hx rfl (hb hby at_310) rfl ?_
                          refine XS.bipush X555.here hx rfl (hb hby at_311) ?_
                          show Steps p.tables e below (T555.setTop (mkF m 313 #[.val (.int p0), .val (.int p1), .val (.int (12 : Int32)), .val (.ref b2), .val (.int nv), .val (.ref b505), .unset] [(.int (48 : Int32)), (.int (1 : Int32)), (.ref b505)])) _
                          refine st557 _ ?_
                          refine XS.iloadN X557.here hx rfl (hb hby at_314) rfl ?_
                          refine XS.bipush X557.here hx rfl (hb hby at_315) ?_
                          show Steps p.tables e below (T557.setTop (mkF m 317 #[.val (.int p0), .val (.int p1), .val (.int (12 : Int32)), .val (.ref b2), .val (.int nv), .val (.ref b505), .unset] [(.int (12 : Int32)), (.int (12 : Int32))])) _
                          refine XS.icmpNo X557.here hx rfl (hb hby at_317) rfl (flt (show ¬ ((12 : Int32) < (12 : Int32)) from (by decide))).1 ?_
                          refine XS.aload X557.here hx rfl (hb hby at_320) rfl rfl ?_
                          refine XS.iloadN X557.here hx rfl (hb hby at_322) rfl ?_
                          refine XS.bipush X557.here hx rfl (hb hby at_323) ?_
                          show Steps p.tables e below (T557.setTop (mkF m 325 #[.val (.int p0), .val (.int p1), .val (.int (12 : Int32)), .val (.ref b2), .val (.int nv), .val (.ref b505), .unset] [(.int (12 : Int32)), (.int (12 : Int32)), (.ref b505)])) _
                          refine XS.isub X557.here hx rfl (hb hby at_325) rfl ?_
                          refine XS.bipush X557.here hx rfl (hb hby at_326) ?_
                          show Steps p.tables e below (T557.setTop (mkF m 328 #[.val (.int p0), .val (.int p1), .val (.int (12 : Int32)), .val (.ref b2), .val (.int nv), .val (.ref b505), .unset] [(.int (48 : Int32)), (.int (0 : Int32)), (.ref b505)])) _
                          refine st559 _ ?_
                          show Steps p.tables e below (T559.setTop (mkF m 329 #[.val (.int p0), .val (.int p1), .val (.int (12 : Int32)), .val (.ref b2), .val (.int nv), .val (.ref b505), .unset] [])) _
                          refine st562 _ ?_
                          show Steps p.tables e below (T562.setTop (mkF m 332 #[.val (.int p0), .val (.int p1), .val (.int (12 : Int32)), .val (.ref b2), .val (.int nv), .val (.ref b505), .unset] [(.ref b562)])) _
                          refine XS.dup X562.here hx rfl (hb hby at_332) rfl rfl ?_
                          refine XS.aload X562.here hx rfl (hb hby at_333) rfl rfl ?_
                          show Steps p.tables e below (T562.setTop (mkF m 335 #[.val (.int p0), .val (.int p1), .val (.int (12 : Int32)), .val (.ref b2), .val (.int nv), .val (.ref b505), .unset] [(.ref b505), (.ref b562), (.ref b562)])) _
                          refine st563.trans ?_
                          refine XS.astore X563.here hx rfl (hb hby at_338) rfl rfl (l' := #[.val (.int p0), .val (.int p1), .val (.int (12 : Int32)), .val (.ref b2), .val (.int nv), .val (.ref b505), .val (.ref b562)]) rfl ?_
                          refine XS.aload Xx569.here hx rfl (hb hby at_340) rfl rfl ?_
                          show Steps p.tables e below (T563.setTop (mkF m 342 #[.val (.int p0), .val (.int p1), .val (.int (12 : Int32)), .val (.ref b2), .val (.int nv), .val (.ref b505), .val (.ref b562)] [(.ref b562)])) _
                          refine st570 _ ?_
                          show Steps p.tables e below (T570.setTop (mkF m 345 #[.val (.int p0), .val (.int p1), .val (.int (12 : Int32)), .val (.ref b2), .val (.int nv), .val (.ref b505), .val (.ref b562)] [(.int ((pv ([(nar .char (48 : Int32)), (nar .char (48 : Int32)), (nar .char (dV nv (1000000000 : Int32))), (nar .char (dV nv (100000000 : Int32))), (nar .char (dV nv (10000000 : Int32))), (nar .char (dV nv (1000000 : Int32))), (nar .char (dV nv (100000 : Int32))), (nar .char (dV nv (10000 : Int32))), (nar .char (dV nv (1000 : Int32))), (nar .char (dV nv (100 : Int32))), (nar .char (dV nv (10 : Int32))), (nar .char (dV nv (1 : Int32)))] : List Int32) ([(nar .char (48 : Int32)), (nar .char (48 : Int32)), (nar .char (dV nv (1000000000 : Int32))), (nar .char (dV nv (100000000 : Int32))), (nar .char (dV nv (10000000 : Int32))), (nar .char (dV nv (1000000 : Int32))), (nar .char (dV nv (100000 : Int32))), (nar .char (dV nv (10000 : Int32))), (nar .char (dV nv (1000 : Int32))), (nar .char (dV nv (100 : Int32))), (nar .char (dV nv (10 : Int32))), (nar .char (dV nv (1 : Int32)))] : List Int32).length).toInt32))])) _
                          refine XS.iload X570.here hx rfl (hb hby at_345) rfl ?_
                          show Steps p.tables e below (T570.setTop (mkF m 347 #[.val (.int p0), .val (.int p1), .val (.int (12 : Int32)), .val (.ref b2), .val (.int nv), .val (.ref b505), .val (.ref b562)] [(.int nv), (.int ((pv ([(nar .char (48 : Int32)), (nar .char (48 : Int32)), (nar .char (dV nv (1000000000 : Int32))), (nar .char (dV nv (100000000 : Int32))), (nar .char (dV nv (10000000 : Int32))), (nar .char (dV nv (1000000 : Int32))), (nar .char (dV nv (100000 : Int32))), (nar .char (dV nv (10000 : Int32))), (nar .char (dV nv (1000 : Int32))), (nar .char (dV nv (100 : Int32))), (nar .char (dV nv (10 : Int32))), (nar .char (dV nv (1 : Int32)))] : List Int32) ([(nar .char (48 : Int32)), (nar .char (48 : Int32)), (nar .char (dV nv (1000000000 : Int32))), (nar .char (dV nv (100000000 : Int32))), (nar .char (dV nv (10000000 : Int32))), (nar .char (dV nv (1000000 : Int32))), (nar .char (dV nv (100000 : Int32))), (nar .char (dV nv (10000 : Int32))), (nar .char (dV nv (1000 : Int32))), (nar .char (dV nv (100 : Int32))), (nar .char (dV nv (10 : Int32))), (nar .char (dV nv (1 : Int32)))] : List Int32).length).toInt32))])) _
                          refine XS.icmpNo X570.here hx rfl (hb hby at_347) rfl (teq (show ((pv ([(nar .char (48 : Int32)), (nar .char (48 : Int32)), (nar .char (dV nv (1000000000 : Int32))), (nar .char (dV nv (100000000 : Int32))), (nar .char (dV nv (10000000 : Int32))), (nar .char (dV nv (1000000 : Int32))), (nar .char (dV nv (100000 : Int32))), (nar .char (dV nv (10000 : Int32))), (nar .char (dV nv (1000 : Int32))), (nar .char (dV nv (100 : Int32))), (nar .char (dV nv (10 : Int32))), (nar .char (dV nv (1 : Int32)))] : List Int32) ([(nar .char (48 : Int32)), (nar .char (48 : Int32)), (nar .char (dV nv (1000000000 : Int32))), (nar .char (dV nv (100000000 : Int32))), (nar .char (dV nv (10000000 : Int32))), (nar .char (dV nv (1000000 : Int32))), (nar .char (dV nv (100000 : Int32))), (nar .char (dV nv (10000 : Int32))), (nar .char (dV nv (1000 : Int32))), (nar .char (dV nv (100 : Int32))), (nar .char (dV nv (10 : Int32))), (nar .char (dV nv (1 : Int32)))] : List Int32).length).toInt32) = nv from hfin)).2 ?_
                          refine XS.iconst X570.here hx rfl (hb hby at_350) ?_
                          refine XS.goto X570.here hx rfl (pc0 := 351) (pc' := 355) rfl (hb hby at_351) (by decide) (by decide) ?_
                          show Steps p.tables e below (T570.setTop (mkF m 355 #[.val (.int p0), .val (.int p1), .val (.int (12 : Int32)), .val (.ref b2), .val (.int nv), .val (.ref b505), .val (.ref b562)] [(.int (1 : Int32))])) _
                          exact retN X570 hx (t := .boolean) Bd.returns (by simp) (hb hby at_355) hr
                        · show Q0 h0 n0 _ T570.heap _
                          rw [e570]
                          exact ⟨rfl, N570⟩
set_option maxRecDepth 65536 in
set_option maxHeartbeats 40000000 in
theorem comes_1 {Post : Tables → Env → Array Value → State → Outcome → State → Prop} (hpost : ∀ tb e args s v u, (limb_1_1.after args s (.returned v) u = true ∧ limb_1_2.after args s (.returned v) u = true ∧ True) → FrameEnd s (.returned v) u (Jvm.fieldLocs frame_1_writes args s ++ Jvm.arrayLocs frame_1_arrays args s ++ Jvm.staticLocs frame_1_statics s) 16 192 → Post tb e args s (.returned v) u) :
    ArmFor flags0 classFile x code maxLocals ret World_1 tables_1 room_1 Calls_1 rest_1 Pre_1 Post := by
  intro l hfl _ _ p e ha hc hk s m args below hf hA hF happ hP
  obtain ⟨hcalls, hrest, hpre⟩ := hP
  obtain ⟨-, -, -, hnamed, -, -, -, hat⟩ := (Spec.applies_iff hf).mp happ
  obtain ⟨hg, hn⟩ := and_e (Cond.before_iff.mp (show (Jvm.Cond.and given_1 narrow_1).before args s = true from hpre))
  obtain ⟨hcnt, hg1⟩ := and_e hg
  obtain ⟨ha0, hg2⟩ := and_e hg1
  have ha1 := hg2
  obtain ⟨w0, w1, rfl⟩ : ∃ w0 w1 : Value, args = #[w0, w1] := by
    have hs : args.size = 2 := by simpa [Cond.value, given_1] using hcnt
    obtain ⟨L⟩ := args
    match L, hs with
    | [w0, w1], _ => exact ⟨w0, w1, rfl⟩
  have hw := fun d (hd : d ∈ tables_1) => atoms_spec (ws := Jvm.Cond.code x code maxLocals ret :: tables_1) hat d (List.mem_cons_of_mem _ hd)
  have hfit : Fit s := fun {y c} hc i hi => by
    obtain ⟨ha, rfl⟩ := Array.getElem?_eq_some_iff.mp hc
    have q := List.all_eq_true.mp ((Array.all_eq_true_iff_forall_mem.mp hF) _ (Array.getElem_mem ha)) i (List.mem_range.mpr hi)
    simpa [Array.getElem?_eq_getElem hi] using q
  obtain ⟨hsets, hown0⟩ := atoms_of _ (rest_1_c_eq ▸ (show rest_1_c.before _ s = true from hrest))
  have hr0 := Cond.before_iff.mp hown0
  obtain ⟨i0, ei0⟩ := is_v ha0
  obtain rfl : w0 = (.int i0) := Option.some.inj ei0
  obtain ⟨i1, ei1⟩ := is_v ha1
  obtain rfl : w1 = (.int i1) := Option.some.inj ei1
  obtain ⟨iC, eC⟩ := is_v (Cond.before_iff.mp (hsets _ (List.mem_of_getElem? (i := 1) rfl)))
  have SC := Sta.start eC (Or.inl (hsets _ (List.mem_of_getElem? (i := 0) rfl)))
  have hC : ¬ iC = (0 : Int32) := fun q => by
    have h := not_v (Cond.before_iff.mp (hsets _ (List.mem_of_getElem? (i := 2) rfl)))
    rw [q] at eC
    have h2 := eq_i eC (Term.int_eval (0 : Int32)) rfl
    rw [h2] at h
    cases h
  obtain ⟨vG, eG, hvG⟩ := isR_v (Cond.before_iff.mp (hsets _ (List.mem_of_getElem? (i := 8) rfl)))
  have SG := Sta.start eG (Or.inl (hsets _ (List.mem_of_getElem? (i := 7) rfl)))
  obtain ⟨n, o, h1, h2, h3, _, L, rfl, ⟨rfl, N⟩, hq⟩ := rm0 l s _ hw tables_1 i0 i1 iC vG s.heap s.heap.size (Nat.le_refl _) SC hC SG hvG p e ha hc hk s m _ below hf ((Spec.applies_iff_loose hf).mp happ).1 ⟨rfl, State.Warmed39.refl s, rfl⟩ trivial
  refine ⟨n, _, h1, h2, h3, hpost _ _ _ _ _ _ ⟨Cond.after_iff.mpr rfl, Cond.after_iff.mpr (eq_i res_at (Term.int_eval (1)) rfl), trivial⟩ ⟨hq.1, hq.2.1, (hq.2.2.sift fun y hy => Or.inr (N y hy)).mono (by decide) (by decide)⟩⟩
theorem main_1_1 : Claimed_1_1 := comes_1 fun _ _ _ _ _ _ h hF => ⟨h.1, hF⟩
theorem main_1_2 : Claimed_1_2 := comes_1 fun _ _ _ _ _ _ h hF => ⟨h.2.1, hF⟩
end Jvm.Pilot.@@N@@
namespace Jvm.Pilot.@@N@@
open Jvm Jvm.ClassFile Sem Op Lib Jvm.Free Jvm.Stand Jvm.Pilot.@@N@@.Jvm.D
/-! MADE BY PROGRAM (witnessworld.py) out of the Statement's table words and the real class files: 20 classes; the members and pool entries that the words name. The judged class is class 1, her method 1. -/
namespace start1
open Jvm.ClassFile
def u (s : String) : CpInfo := .utf8 (stringToUtf16 s)
/-- a pool by its gaps: so many unusable entries, then the entry; so many at the end -/
def gap : Nat → List CpInfo → List CpInfo
  | 0, r => r
  | n + 1, r => .unusable :: gap n r
def poolList (es : List (Nat × CpInfo)) (last : Nat) : List CpInfo := es.foldr (fun e r => gap e.1 (e.2 :: r)) (gap last [])
def pool (es : List (Nat × CpInfo)) (last : Nat) : Array CpInfo := ⟨poolList es last⟩
def fileOf (pool : Array CpInfo) (this : Nat) (attrs : Array Attribute := #[]) (ms : Array MethodInfo := #[]) (fl : Nat := 33) (sup : Nat := 0) (ifs : Array Nat := #[]) (fds : Array FieldInfo := #[]) : ClassFile where
  minorVersion := 0
  majorVersion := 65
  constantPool := pool
  accessFlags := fl
  thisClass := this
  superClass := sup
  interfaces := ifs
  fields := fds
  methods := ms
  attributes := attrs
def plain (name : String) (sup : Option ClassId) : Class where
  name := name
  kind := .ordinary
  loader := none
  accessFlags := 33
  super := sup
  interfaces := #[]
  cf := none
  fields := #[]
  methods := #[]
  instanceTypes := #[]
  staticTypes := #[]
  resolved := #[]
  callSites := []
  init := .initialized
  statics := none
  mirror := none

def pool0 : Array CpInfo := pool [(5, u "<init>"), (0, u "()V"), (1, .class_ 10), (1, u "java/lang/Object")] 113

def k0c0 : Code := { maxStack := 0, maxLocals := 1, code := object_method_1_code, exceptionTable := #[], attributes := #[] }
def k0m0 : Method := { name := "<init>", desc := "()V", sig := { parameters := [], returnType := none }, accessFlags := 1, code := some k0c0 }
/-- java/lang/Object -/
def k0 : Class := { plain "java/lang/Object" none with
  accessFlags := 33
  interfaces := #[]
  cf := some (fileOf pool0 8 #[] #[{ accessFlags := 1, nameIndex := 5, descriptorIndex := 6, attributes := #[] }] 33 0 #[] #[])
  fields := #[]
  methods := #[k0m0]
  instanceTypes := #[]
  staticTypes := #[]
  resolved := Array.replicate 124 none
  statics := none }

def pool1 : Array CpInfo := pool [(2, .class_ 4), (1, u "java/lang/Object"), (0, u "<init>"), (0, u "()V"), (0, .integer 100000), (0, .integer 1000000), (0, .integer 10000000), (0, .integer 100000000), (0, .integer 1000000000), (0, .integer 2147483647), (0, .methodref 14 15), (0, .class_ 16), (0, .nameAndType 17 18), (0, u "com/example/libforeword/libforeword/wordlist/EntryParseFrequencyPinLaw"), (0, u "d"), (0, u "(II)C"), (0, .class_ 20), (0, u "java/lang/String"), (0, .methodref 19 22), (0, .nameAndType 5 23), (0, u "([C)V"), (0, .methodref 25 26), (0, .class_ 27), (0, .nameAndType 28 29), (0, u "com/example/libforeword/libforeword/wordlist/Entry"), (0, u "parseFrequency"), (0, u "(Ljava/lang/String;)I"), (2, u "law"), (0, u "(II)Z")] 7

def k1m0 : Method := { name := "<init>", desc := "()V", sig := { parameters := [], returnType := none }, accessFlags := 1, code := none }
def k1c1 : Code := { maxStack := 5, maxLocals := 7, code := code, exceptionTable := #[], attributes := #[] }
def k1m1 : Method := { name := "law", desc := "(II)Z", sig := { parameters := [.int, .int], returnType := some .boolean }, accessFlags := 9, code := some k1c1 }
def k1c2 : Code := { maxStack := 3, maxLocals := 2, code := method_3_code, exceptionTable := #[], attributes := #[] }
def k1m2 : Method := { name := "d", desc := "(II)C", sig := { parameters := [.int, .int], returnType := some .char }, accessFlags := 10, code := some k1c2 }
/-- com/example/libforeword/libforeword/wordlist/EntryParseFrequencyPinLaw -/
def k1 : Class := { plain "com/example/libforeword/libforeword/wordlist/EntryParseFrequencyPinLaw" (some 0) with
  accessFlags := 49
  interfaces := #[]
  cf := some (fileOf pool1 14 #[] #[{ accessFlags := 1, nameIndex := 5, descriptorIndex := 6, attributes := #[] }, { accessFlags := 9, nameIndex := 32, descriptorIndex := 33, attributes := #[] }, { accessFlags := 10, nameIndex := 17, descriptorIndex := 18, attributes := #[] }] 49 2 #[] #[])
  fields := #[]
  methods := #[k1m0, k1m1, k1m2]
  instanceTypes := #[]
  staticTypes := #[]
  resolved := Array.replicate 41 none
  statics := none }

def pool2 : Array CpInfo := pool [(1, .class_ 2), (0, u "java/io/Serializable"), (0, .class_ 4), (0, u "java/lang/Object")] 2

/-- java/io/Serializable -/
def k2 : Class := { plain "java/io/Serializable" (some 0) with
  accessFlags := 1537
  interfaces := #[]
  cf := some (fileOf pool2 1 #[] #[] 1537 3 #[] #[])
  fields := #[]
  methods := #[]
  instanceTypes := #[]
  staticTypes := #[]
  resolved := Array.replicate 7 none
  statics := none }

def pool3 : Array CpInfo := pool [(1, .class_ 2), (0, u "java/lang/Comparable"), (0, .class_ 4), (0, u "java/lang/Object")] 7

/-- java/lang/Comparable -/
def k3 : Class := { plain "java/lang/Comparable" (some 0) with
  accessFlags := 1537
  interfaces := #[]
  cf := some (fileOf pool3 1 #[] #[] 1537 3 #[] #[])
  fields := #[]
  methods := #[]
  instanceTypes := #[]
  staticTypes := #[]
  resolved := Array.replicate 12 none
  statics := none }

def pool4 : Array CpInfo := pool [(2, .class_ 4), (1, u "java/lang/CharSequence"), (42, .class_ 48), (0, u "java/lang/CharSequence$1CodePointIterator"), (10, .class_ 60), (0, u "java/lang/CharSequence$1CharIterator"), (5, .class_ 67), (0, u "java/lang/Object")] 63

/-- java/lang/CharSequence -/
def k4 : Class := { plain "java/lang/CharSequence" (some 0) with
  accessFlags := 1537
  interfaces := #[]
  cf := some (fileOf pool4 2 #[.nestMembers #[47, 59]] #[] 1537 66 #[] #[])
  fields := #[]
  methods := #[]
  instanceTypes := #[]
  staticTypes := #[]
  resolved := Array.replicate 131 none
  statics := none }

def pool5 : Array CpInfo := pool [(1, .class_ 2), (0, u "java/lang/constant/Constable"), (0, .class_ 4), (0, u "java/lang/Object")] 6

/-- java/lang/constant/Constable -/
def k5 : Class := { plain "java/lang/constant/Constable" (some 0) with
  accessFlags := 1537
  interfaces := #[]
  cf := some (fileOf pool5 1 #[] #[] 1537 3 #[] #[])
  fields := #[]
  methods := #[]
  instanceTypes := #[]
  staticTypes := #[]
  resolved := Array.replicate 11 none
  statics := none }

def pool6 : Array CpInfo := pool [(1, .class_ 2), (0, u "java/lang/constant/ConstantDesc"), (0, .class_ 4), (0, u "java/lang/Object")] 32

/-- java/lang/constant/ConstantDesc -/
def k6 : Class := { plain "java/lang/constant/ConstantDesc" (some 0) with
  accessFlags := 1537
  interfaces := #[]
  cf := some (fileOf pool6 1 #[] #[] 1537 3 #[] #[])
  fields := #[]
  methods := #[]
  instanceTypes := #[]
  staticTypes := #[]
  resolved := Array.replicate 37 none
  statics := none }

def pool7 : Array CpInfo := pool [(1, .methodref 2 3), (0, .class_ 4), (0, .nameAndType 5 6), (0, u "java/lang/Object"), (0, u "<init>"), (0, u "()V"), (2, .fieldref 10 11), (0, .class_ 12), (0, .nameAndType 13 14), (0, u "java/lang/String"), (0, u "value"), (0, u "[B"), (0, .fieldref 10 16), (0, .nameAndType 17 18), (0, u "coder"), (0, u "B"), (2, u "hash"), (0, u "I"), (2, u "hashIsZero"), (0, u "Z"), (0, .methodref 10 28), (0, .nameAndType 5 29), (0, u "([CIILjava/lang/Void;)V"), (8, .fieldref 10 39), (0, .nameAndType 40 26), (0, u "COMPACT_STRINGS"), (1, .class_ 44), (1, u "java/lang/StringUTF16"), (0, u "compress"), (1, .methodref 42 48), (0, .nameAndType 49 50), (0, u "coderFromArrayLen"), (0, u "([BI)B"), (56, .class_ 109), (1, u "java/lang/StringLatin1"), (32, u "()Z"), (34, .methodref 42 178), (0, .nameAndType 45 179), (0, u "([CII)[B"), (154, u "()I"), (0, .methodref 10 336), (0, .nameAndType 17 337), (0, u "()B"), (25, u "([BI)C"), (27, u "(II)V"), (35, u "(I)C"), (64, .methodref 10 493), (0, .nameAndType 494 142), (0, u "isLatin1"), (0, .methodref 107 496), (0, .nameAndType 497 363), (0, u "charAt"), (3, u "checkIndex"), (5, u "length"), (67, .class_ 576), (0, u "java/lang/CharSequence"), (22, u "CASE_INSENSITIVE_ORDER"), (0, u "Ljava/util/Comparator;"), (91, u "isEmpty"), (317, u "([C)V"), (42, .fieldref 1054 1055), (0, .class_ 1056), (0, .nameAndType 1057 1058), (0, u "jdk/internal/util/Preconditions"), (0, u "SIOOBE_FORMATTER"), (0, u "Ljava/util/function/BiFunction;"), (0, .methodref 1054 1060), (0, .nameAndType 501 1061), (0, u "(IILjava/util/function/BiFunction;)I"), (39, u "serialPersistentFields"), (0, u "[Ljava/io/ObjectStreamField;"), (0, .class_ 1104), (0, u "java/lang/String$CaseInsensitiveComparator"), (1, .class_ 1107), (0, u "java/io/Serializable"), (0, .class_ 1109), (0, u "java/lang/Comparable"), (0, .class_ 1111), (0, u "java/lang/constant/Constable"), (0, .class_ 1113), (0, u "java/lang/constant/ConstantDesc"), (2, u "serialVersionUID"), (0, u "J"), (3, u "REPL"), (0, u "C"), (2, u "LATIN1"), (1, u "UTF16")] 323

def k7m0 : Method := { name := "<init>", desc := "()V", sig := { parameters := [], returnType := none }, accessFlags := 1, code := none }
def k7c1 : Code := { maxStack := 5, maxLocals := 2, code := jdk_42_method_3_code, exceptionTable := #[], attributes := #[] }
def k7m1 : Method := { name := "<init>", desc := "([C)V", sig := { parameters := [(.array .char)], returnType := none }, accessFlags := 1, code := some k7c1 }
def k7c2 : Code := { maxStack := 2, maxLocals := 1, code := jdk_42_method_54_code, exceptionTable := #[], attributes := #[] }
def k7m2 : Method := { name := "length", desc := "()I", sig := { parameters := [], returnType := some .int }, accessFlags := 1, code := some k7c2 }
def k7c3 : Code := { maxStack := 1, maxLocals := 1, code := jdk_42_method_55_code, exceptionTable := #[], attributes := #[] }
def k7m3 : Method := { name := "isEmpty", desc := "()Z", sig := { parameters := [], returnType := some .boolean }, accessFlags := 1, code := some k7c3 }
def k7c4 : Code := { maxStack := 2, maxLocals := 2, code := jdk_42_method_56_code, exceptionTable := #[], attributes := #[] }
def k7m4 : Method := { name := "charAt", desc := "(I)C", sig := { parameters := [.int], returnType := some .char }, accessFlags := 1, code := some k7c4 }
def k7c5 : Code := { maxStack := 4, maxLocals := 6, code := jdk_42_method_149_code, exceptionTable := #[], attributes := #[] }
def k7m5 : Method := { name := "<init>", desc := "([CIILjava/lang/Void;)V", sig := { parameters := [(.array .char), .int, .int, (.object "java/lang/Void")], returnType := none }, accessFlags := 2, code := some k7c5 }
def k7c6 : Code := { maxStack := 1, maxLocals := 1, code := jdk_42_method_152_code, exceptionTable := #[], attributes := #[] }
def k7m6 : Method := { name := "coder", desc := "()B", sig := { parameters := [], returnType := some .byte }, accessFlags := 0, code := some k7c6 }
def k7c7 : Code := { maxStack := 1, maxLocals := 1, code := jdk_42_method_154_code, exceptionTable := #[], attributes := #[] }
def k7m7 : Method := { name := "isLatin1", desc := "()Z", sig := { parameters := [], returnType := some .boolean }, accessFlags := 0, code := some k7c7 }
def k7c8 : Code := { maxStack := 3, maxLocals := 2, code := jdk_42_method_155_code, exceptionTable := #[], attributes := #[] }
def k7m8 : Method := { name := "checkIndex", desc := "(II)V", sig := { parameters := [.int, .int], returnType := none }, accessFlags := 8, code := some k7c8 }
/-- java/lang/String -/
def k7 : Class := { plain "java/lang/String" (some 0) with
  accessFlags := 49
  interfaces := #[2, 3, 4, 5, 6]
  cf := some (fileOf pool7 10 #[.nestMembers #[1103]] #[{ accessFlags := 1, nameIndex := 5, descriptorIndex := 6, attributes := #[] }, { accessFlags := 1, nameIndex := 5, descriptorIndex := 1010, attributes := #[] }, { accessFlags := 1, nameIndex := 507, descriptorIndex := 334, attributes := #[] }, { accessFlags := 1, nameIndex := 692, descriptorIndex := 142, attributes := #[] }, { accessFlags := 1, nameIndex := 497, descriptorIndex := 427, attributes := #[] }, { accessFlags := 2, nameIndex := 5, descriptorIndex := 29, attributes := #[] }, { accessFlags := 0, nameIndex := 17, descriptorIndex := 337, attributes := #[] }, { accessFlags := 0, nameIndex := 494, descriptorIndex := 142, attributes := #[] }, { accessFlags := 8, nameIndex := 501, descriptorIndex := 391, attributes := #[] }] 49 2 #[1106, 1108, 575, 1110, 1112] #[{ accessFlags := 18, nameIndex := 13, descriptorIndex := 14, attributes := #[] }, { accessFlags := 18, nameIndex := 17, descriptorIndex := 18, attributes := #[] }, { accessFlags := 2, nameIndex := 21, descriptorIndex := 22, attributes := #[] }, { accessFlags := 2, nameIndex := 25, descriptorIndex := 26, attributes := #[] }, { accessFlags := 26, nameIndex := 1116, descriptorIndex := 1117, attributes := #[] }, { accessFlags := 24, nameIndex := 40, descriptorIndex := 26, attributes := #[] }, { accessFlags := 26, nameIndex := 1101, descriptorIndex := 1102, attributes := #[] }, { accessFlags := 26, nameIndex := 1121, descriptorIndex := 1122, attributes := #[] }, { accessFlags := 25, nameIndex := 599, descriptorIndex := 600, attributes := #[] }, { accessFlags := 24, nameIndex := 1125, descriptorIndex := 18, attributes := #[] }, { accessFlags := 24, nameIndex := 1127, descriptorIndex := 18, attributes := #[] }])
  fields := #[{ name := "value", type := (.array .byte), accessFlags := 18, slot := 0, constantValue := 0 }, { name := "coder", type := .byte, accessFlags := 18, slot := 1, constantValue := 0 }, { name := "hash", type := .int, accessFlags := 2, slot := 2, constantValue := 0 }, { name := "hashIsZero", type := .boolean, accessFlags := 2, slot := 3, constantValue := 0 }, { name := "serialVersionUID", type := .long, accessFlags := 26, slot := 0, constantValue := 0 }, { name := "COMPACT_STRINGS", type := .boolean, accessFlags := 24, slot := 1, constantValue := 0 }, { name := "serialPersistentFields", type := (.array (.object "java/io/ObjectStreamField")), accessFlags := 26, slot := 2, constantValue := 0 }, { name := "REPL", type := .char, accessFlags := 26, slot := 3, constantValue := 0 }, { name := "CASE_INSENSITIVE_ORDER", type := (.object "java/util/Comparator"), accessFlags := 25, slot := 4, constantValue := 0 }, { name := "LATIN1", type := .byte, accessFlags := 24, slot := 5, constantValue := 0 }, { name := "UTF16", type := .byte, accessFlags := 24, slot := 6, constantValue := 0 }]
  methods := #[k7m0, k7m1, k7m2, k7m3, k7m4, k7m5, k7m6, k7m7, k7m8]
  instanceTypes := #[(.array .byte), .byte, .int, .boolean]
  staticTypes := #[.long, .boolean, (.array (.object "java/io/ObjectStreamField")), .char, (.object "java/util/Comparator"), .byte, .byte]
  resolved := Array.replicate 1451 none
  statics := some 0 }

def pool8 : Array CpInfo := pool [(6, .class_ 8), (1, u "java/lang/Object"), (0, u "<init>"), (0, u "()V"), (1, .class_ 14), (1, u "java/lang/StringUTF16"), (31, u "$assertionsDisabled"), (0, u "Z"), (13, u "HI_BYTE_SHIFT"), (0, u "I"), (2, u "LO_BYTE_SHIFT"), (49, .methodref 12 116), (0, .nameAndType 117 118), (0, u "compress"), (0, u "([CI[BII)I"), (3, u "([CII)[B"), (138, u "coderFromArrayLen"), (0, u "([BI)B"), (106, .class_ 371), (1, u "java/lang/StringUTF16$LinesSpliterator"), (58, u "MAX_LENGTH"), (196, .class_ 628), (0, u "java/lang/StringUTF16$CodePointsSpliterator"), (0, .class_ 630), (0, u "java/lang/StringUTF16$CharsSpliterator")] 4

def k8m0 : Method := { name := "<init>", desc := "()V", sig := { parameters := [], returnType := none }, accessFlags := 0, code := none }
def k8c1 : Code := { maxStack := 2, maxLocals := 2, code := jdk_52_method_15_code, exceptionTable := #[], attributes := #[] }
def k8m1 : Method := { name := "coderFromArrayLen", desc := "([BI)B", sig := { parameters := [(.array .byte), .int], returnType := some .byte }, accessFlags := 8, code := some k8c1 }
def k8c2 : Code := { maxStack := 5, maxLocals := 6, code := jdk_52_method_16_code, exceptionTable := #[], attributes := #[] }
def k8m2 : Method := { name := "compress", desc := "([CII)[B", sig := { parameters := [(.array .char), .int, .int], returnType := some (.array .byte) }, accessFlags := 9, code := some k8c2 }
def k8c3 : Code := { maxStack := 3, maxLocals := 7, code := jdk_52_method_21_code, exceptionTable := #[], attributes := #[] }
def k8m3 : Method := { name := "compress", desc := "([CI[BII)I", sig := { parameters := [(.array .char), .int, (.array .byte), .int, .int], returnType := some .int }, accessFlags := 9, code := some k8c3 }
/-- java/lang/StringUTF16 -/
def k8 : Class := { plain "java/lang/StringUTF16" (some 0) with
  accessFlags := 48
  interfaces := #[]
  cf := some (fileOf pool8 12 #[.nestMembers #[627, 629, 369]] #[{ accessFlags := 0, nameIndex := 9, descriptorIndex := 10, attributes := #[] }, { accessFlags := 8, nameIndex := 261, descriptorIndex := 262, attributes := #[] }, { accessFlags := 9, nameIndex := 117, descriptorIndex := 122, attributes := #[] }, { accessFlags := 9, nameIndex := 117, descriptorIndex := 118, attributes := #[] }] 48 6 #[] #[{ accessFlags := 26, nameIndex := 61, descriptorIndex := 62, attributes := #[] }, { accessFlags := 26, nameIndex := 65, descriptorIndex := 62, attributes := #[] }, { accessFlags := 24, nameIndex := 430, descriptorIndex := 62, attributes := #[] }, { accessFlags := 4120, nameIndex := 46, descriptorIndex := 47, attributes := #[] }])
  fields := #[{ name := "HI_BYTE_SHIFT", type := .int, accessFlags := 26, slot := 0, constantValue := 0 }, { name := "LO_BYTE_SHIFT", type := .int, accessFlags := 26, slot := 1, constantValue := 0 }, { name := "MAX_LENGTH", type := .int, accessFlags := 24, slot := 2, constantValue := 0 }, { name := "$assertionsDisabled", type := .boolean, accessFlags := 4120, slot := 3, constantValue := 0 }]
  methods := #[k8m0, k8m1, k8m2, k8m3]
  instanceTypes := #[]
  staticTypes := #[.int, .int, .int, .boolean]
  resolved := Array.replicate 635 none
  statics := none }

def pool9 : Array CpInfo := pool [(4, .class_ 6), (1, u "java/lang/Object"), (3, u "word"), (7, .class_ 20), (1, u "com/example/libforeword/libforeword/wordlist/Entry"), (10, u "Ljava/lang/String;"), (2, u "frequency"), (0, u "I"), (1, .class_ 39), (1, u "java/lang/String"), (1, u "()Z"), (21, u "parseFrequency"), (0, u "(Ljava/lang/String;)I"), (36, .methodref 37 102), (0, .nameAndType 103 104), (0, u "length"), (0, u "()I"), (10, .methodref 37 116), (0, .nameAndType 117 41), (0, u "isEmpty"), (0, .methodref 37 119), (0, .nameAndType 120 121), (0, u "charAt"), (0, u "(I)C"), (0, .long 10), (1, .long 2147483647), (14, u "MAX_WORD_LENGTH"), (2, u "FIELD_SEPARATOR"), (0, u "C"), (1, u "BAD_FREQUENCY")] 32

def k9c0 : Code := { maxStack := 4, maxLocals := 5, code := prog_30_method_8_code, exceptionTable := #[], attributes := #[] }
def k9m0 : Method := { name := "parseFrequency", desc := "(Ljava/lang/String;)I", sig := { parameters := [(.object "java/lang/String")], returnType := some .int }, accessFlags := 9, code := some k9c0 }
/-- com/example/libforeword/libforeword/wordlist/Entry -/
def k9 : Class := { plain "com/example/libforeword/libforeword/wordlist/Entry" (some 0) with
  accessFlags := 49
  interfaces := #[]
  cf := some (fileOf pool9 18 #[] #[{ accessFlags := 9, nameIndex := 63, descriptorIndex := 64, attributes := #[] }] 49 4 #[] #[{ accessFlags := 25, nameIndex := 139, descriptorIndex := 35, attributes := #[] }, { accessFlags := 26, nameIndex := 142, descriptorIndex := 143, attributes := #[] }, { accessFlags := 26, nameIndex := 145, descriptorIndex := 31, attributes := #[] }, { accessFlags := 18, nameIndex := 10, descriptorIndex := 31, attributes := #[] }, { accessFlags := 18, nameIndex := 34, descriptorIndex := 35, attributes := #[] }])
  fields := #[{ name := "MAX_WORD_LENGTH", type := .int, accessFlags := 25, slot := 0, constantValue := 0 }, { name := "FIELD_SEPARATOR", type := .char, accessFlags := 26, slot := 1, constantValue := 0 }, { name := "BAD_FREQUENCY", type := (.object "java/lang/String"), accessFlags := 26, slot := 2, constantValue := 0 }, { name := "word", type := (.object "java/lang/String"), accessFlags := 18, slot := 0, constantValue := 0 }, { name := "frequency", type := .int, accessFlags := 18, slot := 1, constantValue := 0 }]
  methods := #[k9m0]
  instanceTypes := #[(.object "java/lang/String"), .int]
  staticTypes := #[.int, .char, (.object "java/lang/String")]
  resolved := Array.replicate 178 none
  statics := none }

def pool10 : Array CpInfo := pool [(1, .class_ 2), (0, u "java/lang/String"), (1, .class_ 6), (1, u "java/lang/Object"), (0, u "<init>"), (0, u "()V"), (0, .methodref 1 10), (0, .nameAndType 11 12), (0, u "checkIndex"), (0, u "(II)V"), (1, .class_ 16), (1, u "java/lang/StringLatin1"), (36, u "([BI)C"), (67, u "$assertionsDisabled"), (0, u "Z"), (98, .class_ 223), (1, u "java/lang/StringLatin1$LinesSpliterator"), (28, u "charAt"), (137, .class_ 391), (0, u "java/lang/StringLatin1$CharsSpliterator")] 3

def k10m0 : Method := { name := "<init>", desc := "()V", sig := { parameters := [], returnType := none }, accessFlags := 0, code := none }
def k10c1 : Code := { maxStack := 2, maxLocals := 2, code := jdk_43_method_2_code, exceptionTable := #[], attributes := #[] }
def k10m1 : Method := { name := "charAt", desc := "([BI)C", sig := { parameters := [(.array .byte), .int], returnType := some .char }, accessFlags := 9, code := some k10c1 }
/-- java/lang/StringLatin1 -/
def k10 : Class := { plain "java/lang/StringLatin1" (some 0) with
  accessFlags := 48
  interfaces := #[]
  cf := some (fileOf pool10 14 #[.nestMembers #[390, 221]] #[{ accessFlags := 0, nameIndex := 7, descriptorIndex := 8, attributes := #[] }, { accessFlags := 9, nameIndex := 252, descriptorIndex := 53, attributes := #[] }] 48 4 #[] #[{ accessFlags := 4120, nameIndex := 121, descriptorIndex := 122, attributes := #[] }])
  fields := #[{ name := "$assertionsDisabled", type := .boolean, accessFlags := 4120, slot := 0, constantValue := 0 }]
  methods := #[k10m0, k10m1]
  instanceTypes := #[]
  staticTypes := #[.boolean]
  resolved := Array.replicate 395 none
  statics := none }

def pool11 : Array CpInfo := pool [(2, .class_ 4), (1, u "java/lang/Object"), (0, u "<init>"), (0, u "()V"), (17, .class_ 26), (1, u "jdk/internal/util/Preconditions"), (6, u "checkIndex"), (21, .class_ 56), (0, u "jdk/internal/util/Preconditions$4"), (57, .class_ 115), (0, u "jdk/internal/util/Preconditions$1"), (7, u "SIOOBE_FORMATTER"), (0, u "Ljava/util/function/BiFunction;"), (0, .class_ 126), (0, u "jdk/internal/util/Preconditions$2"), (3, u "AIOOBE_FORMATTER"), (0, .class_ 132), (0, u "jdk/internal/util/Preconditions$3"), (3, u "IOOBE_FORMATTER"), (41, u "(IILjava/util/function/BiFunction;)I")] 15

def k11m0 : Method := { name := "<init>", desc := "()V", sig := { parameters := [], returnType := none }, accessFlags := 1, code := none }
def k11c1 : Code := { maxStack := 3, maxLocals := 3, code := jdk_41_method_11_code, exceptionTable := #[], attributes := #[] }
def k11m1 : Method := { name := "checkIndex", desc := "(IILjava/util/function/BiFunction;)I", sig := { parameters := [.int, .int, (.object "java/util/function/BiFunction")], returnType := some .int }, accessFlags := 9, code := some k11c1 }
/-- jdk/internal/util/Preconditions -/
def k11 : Class := { plain "jdk/internal/util/Preconditions" (some 0) with
  accessFlags := 33
  interfaces := #[]
  cf := some (fileOf pool11 24 #[.nestMembers #[55, 131, 125, 114]] #[{ accessFlags := 1, nameIndex := 5, descriptorIndex := 6, attributes := #[] }, { accessFlags := 9, nameIndex := 33, descriptorIndex := 178, attributes := #[] }] 33 2 #[] #[{ accessFlags := 25, nameIndex := 123, descriptorIndex := 124, attributes := #[] }, { accessFlags := 25, nameIndex := 130, descriptorIndex := 124, attributes := #[] }, { accessFlags := 25, nameIndex := 136, descriptorIndex := 124, attributes := #[] }])
  fields := #[{ name := "SIOOBE_FORMATTER", type := (.object "java/util/function/BiFunction"), accessFlags := 25, slot := 0, constantValue := 0 }, { name := "AIOOBE_FORMATTER", type := (.object "java/util/function/BiFunction"), accessFlags := 25, slot := 1, constantValue := 0 }, { name := "IOOBE_FORMATTER", type := (.object "java/util/function/BiFunction"), accessFlags := 25, slot := 2, constantValue := 0 }]
  methods := #[k11m0, k11m1]
  instanceTypes := #[]
  staticTypes := #[(.object "java/util/function/BiFunction"), (.object "java/util/function/BiFunction"), (.object "java/util/function/BiFunction")]
  resolved := Array.replicate 194 none
  statics := some 1 }

def pool12 : Array CpInfo := pool [(9, u "<init>"), (6, .class_ 18), (1, u "java/lang/Object"), (0, u "()V"), (1, .class_ 23), (1, u "jdk/internal/util/ArraysSupport"), (0, u "LOG2_ARRAY_LONG_INDEX_SCALE"), (0, u "I"), (2, u "U"), (0, u "Ljdk/internal/misc/Unsafe;"), (8, u "BIG_ENDIAN"), (0, u "Z"), (8, u "LOG2_BYTE_BIT_SIZE"), (4, u "LOG2_ARRAY_INT_INDEX_SCALE"), (54, u "JLA"), (0, u "Ljdk/internal/access/JavaLangAccess;"), (11, u "LOG2_ARRAY_BOOLEAN_INDEX_SCALE"), (9, u "LOG2_ARRAY_BYTE_INDEX_SCALE"), (5, u "LOG2_ARRAY_CHAR_INDEX_SCALE"), (5, u "LOG2_ARRAY_SHORT_INDEX_SCALE"), (18, u "LOG2_ARRAY_FLOAT_INDEX_SCALE"), (24, u "LOG2_ARRAY_DOUBLE_INDEX_SCALE"), (89, u "T_BOOLEAN"), (2, u "T_CHAR"), (1, u "T_FLOAT"), (1, u "T_DOUBLE"), (1, u "T_BYTE"), (1, u "T_SHORT"), (1, u "T_INT"), (1, u "T_LONG"), (1, u "SOFT_MAX_ARRAY_LENGTH")] 83

def k12m0 : Method := { name := "<init>", desc := "()V", sig := { parameters := [], returnType := none }, accessFlags := 2, code := none }
/-- jdk/internal/util/ArraysSupport -/
def k12 : Class := { plain "jdk/internal/util/ArraysSupport" (some 0) with
  accessFlags := 33
  interfaces := #[]
  cf := some (fileOf pool12 21 #[] #[{ accessFlags := 2, nameIndex := 9, descriptorIndex := 19, attributes := #[] }] 33 16 #[] #[{ accessFlags := 24, nameIndex := 28, descriptorIndex := 29, attributes := #[] }, { accessFlags := 26, nameIndex := 38, descriptorIndex := 39, attributes := #[] }, { accessFlags := 25, nameIndex := 121, descriptorIndex := 25, attributes := #[] }, { accessFlags := 25, nameIndex := 131, descriptorIndex := 25, attributes := #[] }, { accessFlags := 25, nameIndex := 137, descriptorIndex := 25, attributes := #[] }, { accessFlags := 25, nameIndex := 143, descriptorIndex := 25, attributes := #[] }, { accessFlags := 25, nameIndex := 53, descriptorIndex := 25, attributes := #[] }, { accessFlags := 25, nameIndex := 24, descriptorIndex := 25, attributes := #[] }, { accessFlags := 25, nameIndex := 162, descriptorIndex := 25, attributes := #[] }, { accessFlags := 25, nameIndex := 187, descriptorIndex := 25, attributes := #[] }, { accessFlags := 26, nameIndex := 48, descriptorIndex := 25, attributes := #[] }, { accessFlags := 25, nameIndex := 277, descriptorIndex := 25, attributes := #[] }, { accessFlags := 25, nameIndex := 280, descriptorIndex := 25, attributes := #[] }, { accessFlags := 25, nameIndex := 282, descriptorIndex := 25, attributes := #[] }, { accessFlags := 25, nameIndex := 284, descriptorIndex := 25, attributes := #[] }, { accessFlags := 25, nameIndex := 286, descriptorIndex := 25, attributes := #[] }, { accessFlags := 25, nameIndex := 288, descriptorIndex := 25, attributes := #[] }, { accessFlags := 25, nameIndex := 290, descriptorIndex := 25, attributes := #[] }, { accessFlags := 25, nameIndex := 292, descriptorIndex := 25, attributes := #[] }, { accessFlags := 26, nameIndex := 108, descriptorIndex := 109, attributes := #[] }, { accessFlags := 25, nameIndex := 294, descriptorIndex := 25, attributes := #[] }])
  fields := #[{ name := "U", type := (.object "jdk/internal/misc/Unsafe"), accessFlags := 24, slot := 0, constantValue := 0 }, { name := "BIG_ENDIAN", type := .boolean, accessFlags := 26, slot := 1, constantValue := 0 }, { name := "LOG2_ARRAY_BOOLEAN_INDEX_SCALE", type := .int, accessFlags := 25, slot := 2, constantValue := 0 }, { name := "LOG2_ARRAY_BYTE_INDEX_SCALE", type := .int, accessFlags := 25, slot := 3, constantValue := 0 }, { name := "LOG2_ARRAY_CHAR_INDEX_SCALE", type := .int, accessFlags := 25, slot := 4, constantValue := 0 }, { name := "LOG2_ARRAY_SHORT_INDEX_SCALE", type := .int, accessFlags := 25, slot := 5, constantValue := 0 }, { name := "LOG2_ARRAY_INT_INDEX_SCALE", type := .int, accessFlags := 25, slot := 6, constantValue := 0 }, { name := "LOG2_ARRAY_LONG_INDEX_SCALE", type := .int, accessFlags := 25, slot := 7, constantValue := 0 }, { name := "LOG2_ARRAY_FLOAT_INDEX_SCALE", type := .int, accessFlags := 25, slot := 8, constantValue := 0 }, { name := "LOG2_ARRAY_DOUBLE_INDEX_SCALE", type := .int, accessFlags := 25, slot := 9, constantValue := 0 }, { name := "LOG2_BYTE_BIT_SIZE", type := .int, accessFlags := 26, slot := 10, constantValue := 0 }, { name := "T_BOOLEAN", type := .int, accessFlags := 25, slot := 11, constantValue := 0 }, { name := "T_CHAR", type := .int, accessFlags := 25, slot := 12, constantValue := 0 }, { name := "T_FLOAT", type := .int, accessFlags := 25, slot := 13, constantValue := 0 }, { name := "T_DOUBLE", type := .int, accessFlags := 25, slot := 14, constantValue := 0 }, { name := "T_BYTE", type := .int, accessFlags := 25, slot := 15, constantValue := 0 }, { name := "T_SHORT", type := .int, accessFlags := 25, slot := 16, constantValue := 0 }, { name := "T_INT", type := .int, accessFlags := 25, slot := 17, constantValue := 0 }, { name := "T_LONG", type := .int, accessFlags := 25, slot := 18, constantValue := 0 }, { name := "JLA", type := (.object "jdk/internal/access/JavaLangAccess"), accessFlags := 26, slot := 19, constantValue := 0 }, { name := "SOFT_MAX_ARRAY_LENGTH", type := .int, accessFlags := 25, slot := 20, constantValue := 0 }]
  methods := #[k12m0]
  instanceTypes := #[]
  staticTypes := #[(.object "jdk/internal/misc/Unsafe"), .boolean, .int, .int, .int, .int, .int, .int, .int, .int, .int, .int, .int, .int, .int, .int, .int, .int, .int, (.object "jdk/internal/access/JavaLangAccess"), .int]
  resolved := Array.replicate 378 none
  statics := none }

def pool13 : Array CpInfo := pool [(1, u "java/lang/Cloneable"), (0, .class_ 1), (0, u "java/lang/Object"), (0, .class_ 3)] 3

/-- java/lang/Cloneable -/
def k13 : Class := { plain "java/lang/Cloneable" (some 0) with
  accessFlags := 1537
  interfaces := #[]
  cf := some (fileOf pool13 2 #[] #[] 1537 4 #[] #[])
  fields := #[]
  methods := #[]
  instanceTypes := #[]
  staticTypes := #[]
  resolved := Array.replicate 8 none
  statics := none }

/-- the primitive byte -/
def k14 : Class := { plain "byte" none with kind := .primitive 'B', accessFlags := 0x411 }
/-- [B -/
def k15 : Class := { plain "[B" (some 0) with kind := .array 14 .byte, interfaces := #[13, 2], accessFlags := 1041 }

/-- the primitive char -/
def k16 : Class := { plain "char" none with kind := .primitive 'C', accessFlags := 0x411 }
/-- [C -/
def k17 : Class := { plain "[C" (some 0) with kind := .array 16 .char, interfaces := #[13, 2], accessFlags := 1041 }

/-- the primitive int -/
def k18 : Class := { plain "int" none with kind := .primitive 'I', accessFlags := 0x411 }
/-- [I -/
def k19 : Class := { plain "[I" (some 0) with kind := .array 18 .int, interfaces := #[13, 2], accessFlags := 1041 }

def heap : Heap := #[{ cls := 7, slots := #[.long 0, .int 1, .null, .int 0, .null, .int 0, .int 0], vm := .statics 7 },
  { cls := 11, slots := #[.null, .null, .null], vm := .statics 11 }]
def classes : Array Class := #[k0, k1, k2, k3, k4, k5, k6, k7, k8, k9, k10, k11, k12, k13, k14, k15, k16, k17, k18, k19]
def interned : List (Array UInt16 × Addr) := []
def slotsUsed : Nat := 10
def theMethod : MethodId := ⟨1, 1⟩
def args0 : Array Value := #[.int 5, .int 3]
def aboutOver (below : List Frame) : State where
  vm := { classes := classes, interned := interned.toArray }
  heap := heap
  slotsUsed := slotsUsed
  threads := #[{ frames := .invoking theMethod args0 :: below }]
def below0 : List Frame := [.native { method := ⟨0, 0⟩, args := #[] }]
def about1 : State := aboutOver below0
def p0 : Program := .bare "" "" ""
def e0 : Env := launch0.env 0 0 0
theorem w_frames : about1.frames = Frame.invoking theMethod args0 :: below0 := rfl
set_option maxRecDepth 65536 in
theorem w_args : argsFit about1.vm theMethod args0 = true := by decide +kernel
set_option maxRecDepth 65536 in
theorem w_heap : heapFits about1 = true := by decide +kernel
set_option maxRecDepth 65536 in
theorem w_runnable : about1.curStatus? = some .runnable := by decide +kernel
set_option maxRecDepth 65536 in
theorem w_alone : about1.alone = true := by decide +kernel
set_option maxRecDepth 65536 in
theorem w_named : about1.methodNamed? x = some theMethod := by decide +kernel
set_option maxRecDepth 65536 in
theorem w_hears : about1.hears theMethod below0 = true := by decide +kernel
set_option maxRecDepth 65536 in
theorem w_ripe : about1.ripe theMethod args0 below0 = true := by decide +kernel
theorem w_running : about1.status = .running := rfl
set_option maxRecDepth 65536 in
theorem w_room : about1.hasRoom e0.platform room_1 = true :=
  launch0.hasRoom_least _ room_1 (by decide +kernel) (by decide +kernel) (by decide +kernel) (by decide +kernel) (by decide +kernel) (by decide +kernel)
theorem allAtoms_all (ts : List Jvm.Cond) (a : Array Jvm.Value) (st : Jvm.State) : (allAtoms ts).before a st = ts.all (fun c => c.before a st) := by
  induction ts with
  | nil => rfl
  | cons c t ih =>
    show (Jvm.Cond.and c (allAtoms t)).before a st = _
    rw [Jvm.Cond.before_and, ih, List.all_cons]
def words1 : List Jvm.Cond := Jvm.Cond.code x code maxLocals ret :: tables_1
/-- a 'code' word, met by the world's own term for the bytes: nothing is compared byte by byte -/
theorem code_word {y : MethodName} {bytes : ByteArray} {mx : Nat} {rt : Option FieldType} {a : Array Value} {s : State} {m : MethodId} {meth : Method} {c : Code} (h1 : s.methodNamed? y = some m) (h2 : s.vm.method? m = some meth) (h3 : meth.code = some c) (h4 : c.code = bytes)
    (h5 : (c.maxLocals == mx && c.exceptionTable.isEmpty && decide (c.maxStack ≤ mostOperands) && decide (meth.sig.returnType = rt) && !meth.locks && decide (parseMethodDescriptor y.desc = some meth.sig)) = true) : (Jvm.Cond.code y bytes mx rt).before a s = true := by
  simp only [Bool.and_eq_true, beq_iff_eq, Bool.not_eq_true', decide_eq_true_eq] at h5
  obtain ⟨⟨⟨⟨⟨g1, g2⟩, g3⟩, g4⟩, g5⟩, g6⟩ := h5
  simp [Cond.before, Cond.holds, Cond.value, h1, h2, h3, h4, g1, g2, g3, g4, g5, g6]
def isCode : Jvm.Cond → Bool
  | .code _ _ _ _ => true
  | _ => false
theorem all_split {L : List Jvm.Cond} {P : Jvm.Cond → Bool} (h1 : L.all (fun c => isCode c || P c) = true) (h2 : ∀ c ∈ L.filter isCode, P c = true) : L.all P = true := by
  refine List.all_eq_true.mpr fun c hc => ?_
  have h := List.all_eq_true.mp h1 c hc
  rcases Bool.eq_false_or_eq_true (isCode c) with hi | hi
  · exact h2 c (List.mem_filter.mpr ⟨hc, hi⟩)
  · simpa [hi] using h
set_option maxRecDepth 65536 in
theorem w_c0 : (Jvm.Cond.code x code maxLocals ret).before args0 about1 = true := code_word (m := ⟨1, 1⟩) (meth := k1m1) (c := k1c1) (by decide +kernel) rfl rfl rfl (by decide +kernel)
set_option maxRecDepth 65536 in
theorem w_c1 : (Jvm.Cond.code ({ cls := "com/example/libforeword/libforeword/wordlist/EntryParseFrequencyPinLaw", name := "d", desc := "(II)C" } : Jvm.MethodName) method_3_code (2 : Nat) (Option.some Jvm.ClassFile.FieldType.char)).before args0 about1 = true := code_word (m := ⟨1, 2⟩) (meth := k1m2) (c := k1c2) (by decide +kernel) rfl rfl rfl (by decide +kernel)
set_option maxRecDepth 65536 in
theorem w_c2 : (Jvm.Cond.code ({ cls := "java/lang/String", name := "<init>", desc := "([C)V" } : Jvm.MethodName) jdk_42_method_3_code (2 : Nat) (Option.none : Option Jvm.ClassFile.FieldType)).before args0 about1 = true := code_word (m := ⟨7, 1⟩) (meth := k7m1) (c := k7c1) (by decide +kernel) rfl rfl rfl (by decide +kernel)
set_option maxRecDepth 65536 in
theorem w_c3 : (Jvm.Cond.code ({ cls := "java/lang/String", name := "<init>", desc := "([CIILjava/lang/Void;)V" } : Jvm.MethodName) jdk_42_method_149_code (6 : Nat) (Option.none : Option Jvm.ClassFile.FieldType)).before args0 about1 = true := code_word (m := ⟨7, 5⟩) (meth := k7m5) (c := k7c5) (by decide +kernel) rfl rfl rfl (by decide +kernel)
set_option maxRecDepth 65536 in
theorem w_c4 : (Jvm.Cond.code ({ cls := "java/lang/Object", name := "<init>", desc := "()V" } : Jvm.MethodName) object_method_1_code (1 : Nat) (Option.none : Option Jvm.ClassFile.FieldType)).before args0 about1 = true := code_word (m := ⟨0, 0⟩) (meth := k0m0) (c := k0c0) (by decide +kernel) rfl rfl rfl (by decide +kernel)
set_option maxRecDepth 65536 in
theorem w_c5 : (Jvm.Cond.code ({ cls := "java/lang/StringUTF16", name := "compress", desc := "([CII)[B" } : Jvm.MethodName) jdk_52_method_16_code (6 : Nat) (Option.some (Jvm.ClassFile.FieldType.array Jvm.ClassFile.FieldType.byte))).before args0 about1 = true := code_word (m := ⟨8, 2⟩) (meth := k8m2) (c := k8c2) (by decide +kernel) rfl rfl rfl (by decide +kernel)
set_option maxRecDepth 65536 in
theorem w_c6 : (Jvm.Cond.code ({ cls := "java/lang/StringUTF16", name := "compress", desc := "([CI[BII)I" } : Jvm.MethodName) jdk_52_method_21_code (7 : Nat) (Option.some Jvm.ClassFile.FieldType.int)).before args0 about1 = true := code_word (m := ⟨8, 3⟩) (meth := k8m3) (c := k8c3) (by decide +kernel) rfl rfl rfl (by decide +kernel)
set_option maxRecDepth 65536 in
theorem w_c7 : (Jvm.Cond.code ({ cls := "java/lang/StringUTF16", name := "coderFromArrayLen", desc := "([BI)B" } : Jvm.MethodName) jdk_52_method_15_code (2 : Nat) (Option.some Jvm.ClassFile.FieldType.byte)).before args0 about1 = true := code_word (m := ⟨8, 1⟩) (meth := k8m1) (c := k8c1) (by decide +kernel) rfl rfl rfl (by decide +kernel)
set_option maxRecDepth 65536 in
theorem w_c8 : (Jvm.Cond.code ({ cls := "com/example/libforeword/libforeword/wordlist/Entry", name := "parseFrequency", desc := "(Ljava/lang/String;)I" } : Jvm.MethodName) prog_30_method_8_code (5 : Nat) (Option.some Jvm.ClassFile.FieldType.int)).before args0 about1 = true := code_word (m := ⟨9, 0⟩) (meth := k9m0) (c := k9c0) (by decide +kernel) rfl rfl rfl (by decide +kernel)
set_option maxRecDepth 65536 in
theorem w_c9 : (Jvm.Cond.code ({ cls := "java/lang/String", name := "isEmpty", desc := "()Z" } : Jvm.MethodName) jdk_42_method_55_code (1 : Nat) (Option.some Jvm.ClassFile.FieldType.boolean)).before args0 about1 = true := code_word (m := ⟨7, 3⟩) (meth := k7m3) (c := k7c3) (by decide +kernel) rfl rfl rfl (by decide +kernel)
set_option maxRecDepth 65536 in
theorem w_c10 : (Jvm.Cond.code ({ cls := "java/lang/String", name := "length", desc := "()I" } : Jvm.MethodName) jdk_42_method_54_code (1 : Nat) (Option.some Jvm.ClassFile.FieldType.int)).before args0 about1 = true := code_word (m := ⟨7, 2⟩) (meth := k7m2) (c := k7c2) (by decide +kernel) rfl rfl rfl (by decide +kernel)
set_option maxRecDepth 65536 in
theorem w_c11 : (Jvm.Cond.code ({ cls := "java/lang/String", name := "coder", desc := "()B" } : Jvm.MethodName) jdk_42_method_152_code (1 : Nat) (Option.some Jvm.ClassFile.FieldType.byte)).before args0 about1 = true := code_word (m := ⟨7, 6⟩) (meth := k7m6) (c := k7c6) (by decide +kernel) rfl rfl rfl (by decide +kernel)
set_option maxRecDepth 65536 in
theorem w_c12 : (Jvm.Cond.code ({ cls := "java/lang/String", name := "charAt", desc := "(I)C" } : Jvm.MethodName) jdk_42_method_56_code (2 : Nat) (Option.some Jvm.ClassFile.FieldType.char)).before args0 about1 = true := code_word (m := ⟨7, 4⟩) (meth := k7m4) (c := k7c4) (by decide +kernel) rfl rfl rfl (by decide +kernel)
set_option maxRecDepth 65536 in
theorem w_c13 : (Jvm.Cond.code ({ cls := "java/lang/String", name := "isLatin1", desc := "()Z" } : Jvm.MethodName) jdk_42_method_154_code (1 : Nat) (Option.some Jvm.ClassFile.FieldType.boolean)).before args0 about1 = true := code_word (m := ⟨7, 7⟩) (meth := k7m7) (c := k7c7) (by decide +kernel) rfl rfl rfl (by decide +kernel)
set_option maxRecDepth 65536 in
theorem w_c14 : (Jvm.Cond.code ({ cls := "java/lang/StringLatin1", name := "charAt", desc := "([BI)C" } : Jvm.MethodName) jdk_43_method_2_code (2 : Nat) (Option.some Jvm.ClassFile.FieldType.char)).before args0 about1 = true := code_word (m := ⟨10, 1⟩) (meth := k10m1) (c := k10c1) (by decide +kernel) rfl rfl rfl (by decide +kernel)
set_option maxRecDepth 65536 in
theorem w_c15 : (Jvm.Cond.code ({ cls := "java/lang/String", name := "checkIndex", desc := "(II)V" } : Jvm.MethodName) jdk_42_method_155_code (2 : Nat) (Option.none : Option Jvm.ClassFile.FieldType)).before args0 about1 = true := code_word (m := ⟨7, 8⟩) (meth := k7m8) (c := k7c8) (by decide +kernel) rfl rfl rfl (by decide +kernel)
set_option maxRecDepth 65536 in
theorem w_c16 : (Jvm.Cond.code ({ cls := "jdk/internal/util/Preconditions", name := "checkIndex", desc := "(IILjava/util/function/BiFunction;)I" } : Jvm.MethodName) jdk_41_method_11_code (3 : Nat) (Option.some Jvm.ClassFile.FieldType.int)).before args0 about1 = true := code_word (m := ⟨11, 1⟩) (meth := k11m1) (c := k11c1) (by decide +kernel) rfl rfl rfl (by decide +kernel)
def codes1 : List Jvm.Cond := [Jvm.Cond.code x code maxLocals ret, Jvm.Cond.code ({ cls := "com/example/libforeword/libforeword/wordlist/EntryParseFrequencyPinLaw", name := "d", desc := "(II)C" } : Jvm.MethodName) method_3_code (2 : Nat) (Option.some Jvm.ClassFile.FieldType.char), Jvm.Cond.code ({ cls := "java/lang/String", name := "<init>", desc := "([C)V" } : Jvm.MethodName) jdk_42_method_3_code (2 : Nat) (Option.none : Option Jvm.ClassFile.FieldType), Jvm.Cond.code ({ cls := "java/lang/String", name := "<init>", desc := "([CIILjava/lang/Void;)V" } : Jvm.MethodName) jdk_42_method_149_code (6 : Nat) (Option.none : Option Jvm.ClassFile.FieldType), Jvm.Cond.code ({ cls := "java/lang/Object", name := "<init>", desc := "()V" } : Jvm.MethodName) object_method_1_code (1 : Nat) (Option.none : Option Jvm.ClassFile.FieldType), Jvm.Cond.code ({ cls := "java/lang/StringUTF16", name := "compress", desc := "([CII)[B" } : Jvm.MethodName) jdk_52_method_16_code (6 : Nat) (Option.some (Jvm.ClassFile.FieldType.array Jvm.ClassFile.FieldType.byte)), Jvm.Cond.code ({ cls := "java/lang/StringUTF16", name := "compress", desc := "([CI[BII)I" } : Jvm.MethodName) jdk_52_method_21_code (7 : Nat) (Option.some Jvm.ClassFile.FieldType.int), Jvm.Cond.code ({ cls := "java/lang/StringUTF16", name := "coderFromArrayLen", desc := "([BI)B" } : Jvm.MethodName) jdk_52_method_15_code (2 : Nat) (Option.some Jvm.ClassFile.FieldType.byte), Jvm.Cond.code ({ cls := "com/example/libforeword/libforeword/wordlist/Entry", name := "parseFrequency", desc := "(Ljava/lang/String;)I" } : Jvm.MethodName) prog_30_method_8_code (5 : Nat) (Option.some Jvm.ClassFile.FieldType.int), Jvm.Cond.code ({ cls := "java/lang/String", name := "isEmpty", desc := "()Z" } : Jvm.MethodName) jdk_42_method_55_code (1 : Nat) (Option.some Jvm.ClassFile.FieldType.boolean), Jvm.Cond.code ({ cls := "java/lang/String", name := "length", desc := "()I" } : Jvm.MethodName) jdk_42_method_54_code (1 : Nat) (Option.some Jvm.ClassFile.FieldType.int), Jvm.Cond.code ({ cls := "java/lang/String", name := "coder", desc := "()B" } : Jvm.MethodName) jdk_42_method_152_code (1 : Nat) (Option.some Jvm.ClassFile.FieldType.byte), Jvm.Cond.code ({ cls := "java/lang/String", name := "charAt", desc := "(I)C" } : Jvm.MethodName) jdk_42_method_56_code (2 : Nat) (Option.some Jvm.ClassFile.FieldType.char), Jvm.Cond.code ({ cls := "java/lang/String", name := "isLatin1", desc := "()Z" } : Jvm.MethodName) jdk_42_method_154_code (1 : Nat) (Option.some Jvm.ClassFile.FieldType.boolean), Jvm.Cond.code ({ cls := "java/lang/StringLatin1", name := "charAt", desc := "([BI)C" } : Jvm.MethodName) jdk_43_method_2_code (2 : Nat) (Option.some Jvm.ClassFile.FieldType.char), Jvm.Cond.code ({ cls := "java/lang/String", name := "checkIndex", desc := "(II)V" } : Jvm.MethodName) jdk_42_method_155_code (2 : Nat) (Option.none : Option Jvm.ClassFile.FieldType), Jvm.Cond.code ({ cls := "jdk/internal/util/Preconditions", name := "checkIndex", desc := "(IILjava/util/function/BiFunction;)I" } : Jvm.MethodName) jdk_41_method_11_code (3 : Nat) (Option.some Jvm.ClassFile.FieldType.int)]
set_option maxRecDepth 65536 in
theorem codes_eq : words1.filter isCode = codes1 := rfl
theorem w_codes : ∀ c ∈ words1.filter isCode, c.before args0 about1 = true := by
  rw [codes_eq]
  intro c hc
  simp only [codes1, List.mem_cons, List.not_mem_nil, or_false] at hc
  rcases hc with rfl | rfl | rfl | rfl | rfl | rfl | rfl | rfl | rfl | rfl | rfl | rfl | rfl | rfl | rfl | rfl | rfl
  · exact w_c0
  · exact w_c1
  · exact w_c2
  · exact w_c3
  · exact w_c4
  · exact w_c5
  · exact w_c6
  · exact w_c7
  · exact w_c8
  · exact w_c9
  · exact w_c10
  · exact w_c11
  · exact w_c12
  · exact w_c13
  · exact w_c14
  · exact w_c15
  · exact w_c16
set_option maxRecDepth 65536 in
theorem w_t1 : (words1.take 24).all (fun c => isCode c || c.before args0 about1) = true := by decide +kernel
set_option maxRecDepth 65536 in
theorem w_t2 : ((words1.drop 24).take 24).all (fun c => isCode c || c.before args0 about1) = true := by decide +kernel
set_option maxRecDepth 65536 in
theorem w_t3 : (((words1.drop 24).drop 24).take 24).all (fun c => isCode c || c.before args0 about1) = true := by decide +kernel
set_option maxRecDepth 65536 in
theorem w_t4 : (((words1.drop 24).drop 24).drop 24).all (fun c => isCode c || c.before args0 about1) = true := by decide +kernel
theorem w_tables : (allAtoms (Jvm.Cond.code x code maxLocals ret :: tables_1)).before args0 about1 = true := by
  rw [allAtoms_all]
  show words1.all (fun c => c.before args0 about1) = true
  refine all_split ?_ w_codes
  rw [← List.take_append_drop 24 words1, List.all_append, w_t1, ← List.take_append_drop 24 (words1.drop 24), List.all_append, w_t2, ← List.take_append_drop 24 ((words1.drop 24).drop 24), List.all_append, w_t3, w_t4]
  rfl
set_option maxRecDepth 65536 in
theorem w_rest : rest_1_c.before args0 about1 = true := by decide +kernel
set_option maxRecDepth 65536 in
theorem w_case : (Jvm.Cond.and given_1 narrow_1).before args0 about1 = true := by decide +kernel
theorem w_applies : (headSpec (Jvm.Cond.code x code maxLocals ret :: tables_1) room_1).applies x e0.platform about1 = true :=
  (Spec.applies_iff w_frames).mpr ⟨w_running, w_runnable, w_alone, w_named, w_hears, w_ripe, w_room, w_tables⟩
theorem atStart : AtStart classFile x code maxLocals ret World_1 tables_1 room_1 Calls_1 rest_1 Pre_1 launch0 p0 e0 about1 theMethod args0 below0 :=
  ⟨lists_1, trivial, launch0.admits_env _ _ _, launch0.least_env, fairChoices_fair.cas, fairChoices_fair.clock, w_frames, w_args, w_heap, w_applies, trivial, w_rest, w_case⟩
end start1
theorem witness_1 : WitnessClaimed_1 := ⟨start1.p0, start1.e0, start1.about1, start1.theMethod, start1.args0, start1.below0, start1.atStart⟩
end Jvm.Pilot.@@N@@
