import JvmDerived
import JvmDerived.Pilot.@@N@@Statement
import JvmDerived.Pilot.@@N@@Code
set_option linter.unusedVariables false
set_option linter.unusedSimpArgs false
@@BLOCK:NumsL.lean.txt@@
/- laws to paste: Road.backV (cut by pick.py; bodies as the Statement names them) -/
namespace Jvm.Pilot.@@N@@
namespace StrChars
open Jvm Sem ClassFile Op Lib Jvm.Stand Jvm.Free.XT Jvm.Free.ALB Jvm.Free.JM Jvm.Free
open Jvm.Lib.Cold (StaticIs)
/-- a char array whose places are chars -/
def Ch (a : Addr) (A : Cell) (U : State) : Prop := Arr .char a A U ∧ Typed .char A
theorem Ch.mv {a : Addr} {A : Cell} {U U' : State} (h : Ch a A U) (hal : U.vm.Alike U'.vm) (hh : U'.heap = U.heap) : Ch a A U' := ⟨h.1.mv hal hh, h.2⟩
theorem Ch.keep {a : Addr} {A : Cell} {U U' : State} (h : Ch a A U) (hal : U.vm.Alike U'.vm) (hk : U'.heap[a]? = some A) : Ch a A U' := ⟨h.1.keep hal hk, h.2⟩
/-- what place i of a char[]'s cell holds -/
def cv (A : Cell) (i : Nat) : Int32 := match A.slots[i]? with | some (.int x) => x | _ => 0
theorem Ch.get {a : Addr} {A : Cell} {U : State} (h : Ch a A U) {i : Nat} (hi : i < A.slots.size) : A.slots[i]? = some (.int (cv A i)) := by
  have e := Array.getElem?_eq_getElem hi
  have f := h.2 i _ e
  unfold cv; rw [e]
  generalize A.slots[i] = v at f
  cases v <;> simp [fits] at f ⊢
/-- the byte that i2b leaves of a char -/
def lo8 (x : Int32) : Int32 := x.toInt8.toInt32
theorem fits_lo8 (y : Int32) : fits .byte (.int (lo8 y)) = true := by
  have h1 := y.toInt8.le_toInt
  have h2 := y.toInt8.toInt_lt
  simp only [lo8, fits, Bool.and_eq_true, decide_eq_true_eq, Int32.le_iff_toInt_le, Int8.toInt_toInt32, show (-128 : Int32).toInt = -128 from by decide, show (127 : Int32).toInt = 127 from by decide]
  omega
/-- A' is A but that each place j of lo .. hi - 1 holds f j -/
def Laid (A A' : Cell) (lo hi : Nat) (f : Nat → Value) : Prop := A'.cls = A.cls ∧ A'.vm = A.vm ∧ A'.slots.size = A.slots.size ∧ ∀ i, A'.slots[i]? = if lo ≤ i ∧ i < hi then some (f i) else A.slots[i]?
theorem Laid.zero (A : Cell) (lo : Nat) (f : Nat → Value) : Laid A A lo (lo + 0) f := ⟨rfl, rfl, rfl, fun i => by rw [if_neg (by omega)]⟩
theorem Laid.step {A Ak : Cell} {lo k : Nat} {f : Nat → Value} {v : Value} (h : Laid A Ak lo k f) (hlo : lo ≤ k) (hk : k < Ak.slots.size) (hv : v = f k) : Laid A (Ak.setSlot k v) lo (k + 1) f := by
  refine ⟨h.1, h.2.1, by simpa [Cell.setSlot] using h.2.2.1, fun i => ?_⟩
  by_cases e : k = i
  · subst e; rw [Cell.slots_setSlot_self v hk, if_pos (by omega), hv]
  · rw [Cell.slots_setSlot_ne v e, h.2.2.2 i]
    by_cases q : lo ≤ i ∧ i < k
    · rw [if_pos q, if_pos (by omega)]
    · rw [if_neg q, if_neg (by omega)]
def U16 : String := "java/lang/StringUTF16"
namespace Cmp5
def yN : MethodName := ⟨"java/lang/StringUTF16", "compress", "([CI[BII)I"⟩
abbrev yB : ByteArray := jdk_52_method_21_code
theorem d0 : decode yB 0 = .ok (.iconst 0, 1) := by decide +kernel
theorem d1 : decode yB 1 = .ok (.istore 5, 2) := by decide +kernel
theorem d3 : decode yB 3 = .ok (.iload 5, 2) := by decide +kernel
theorem d5 : decode yB 5 = .ok (.iload 4, 2) := by decide +kernel
theorem d7 : decode yB 7 = .ok (.if_icmp (.ge) 37, 3) := by decide +kernel
theorem d10 : decode yB 10 = .ok (.aload_n 0, 1) := by decide +kernel
theorem d11 : decode yB 11 = .ok (.iload_n 1, 1) := by decide +kernel
theorem d12 : decode yB 12 = .ok (.caload, 1) := by decide +kernel
theorem d13 : decode yB 13 = .ok (.istore 6, 2) := by decide +kernel
theorem d15 : decode yB 15 = .ok (.iload 6, 2) := by decide +kernel
theorem d17 : decode yB 17 = .ok (.sipush 255, 3) := by decide +kernel
theorem d20 : decode yB 20 = .ok (.if_icmp (.le) 6, 3) := by decide +kernel
theorem d26 : decode yB 26 = .ok (.aload_n 2, 1) := by decide +kernel
theorem d27 : decode yB 27 = .ok (.iload_n 3, 1) := by decide +kernel
theorem d28 : decode yB 28 = .ok (.iload 6, 2) := by decide +kernel
theorem d30 : decode yB 30 = .ok (.i2b, 1) := by decide +kernel
theorem d31 : decode yB 31 = .ok (.bastore, 1) := by decide +kernel
theorem d32 : decode yB 32 = .ok (.iinc 1 1, 3) := by decide +kernel
theorem d35 : decode yB 35 = .ok (.iinc 3 1, 3) := by decide +kernel
theorem d38 : decode yB 38 = .ok (.iinc 5 1, 3) := by decide +kernel
theorem d41 : decode yB 41 = .ok (.goto (-38), 3) := by decide +kernel
theorem d44 : decode yB 44 = .ok (.iload 4, 2) := by decide +kernel
theorem d46 : decode yB 46 = .ok (.ireturn, 1) := by decide +kernel
def site : List Cond := []
def tab : Cond := tabOf yN yB 7 (some .int) site
def P (b : Addr) (A : Cell) (d : Addr) (B : Cell) (o q len : Nat) (args : Array Value) (s : State) : Prop := args = #[.ref b, .int (Int32.ofNat o), .ref d, .int (Int32.ofNat q), .int (Int32.ofNat len)] ∧ Ch b A s ∧ Arr .byte d B s ∧ b ≠ d ∧ o + len ≤ A.slots.size ∧ q + len ≤ B.slots.size ∧ ∀ i, i < len → ¬ 255 < cv A (o + i)
def E (b : Addr) (A : Cell) (d : Addr) (B : Cell) (o q len : Nat) (r : Option Value) (s u : State) : Prop := r = some (.int (Int32.ofNat len)) ∧ ∃ B', Put d B' s u ∧ Laid B B' q (q + len) (fun j => Value.int (lo8 (cv A (o + (j - q)))))
/-- no char of the range above 255: len; the places written hold each char's low byte -/
theorem law (l : Launch) (b : Addr) (A : Cell) (d : Addr) (B : Cell) (o q len : Nat) : Law l yN 5 5 0 0 yB 7 (some .int) site (P b A d B o q len) (E b A d B o q len) (copyLocs d q len) 0 0 := by
  refine Law.of_walk (plainFor_of_name (by decide +kernel)) (by decide +kernel) (by decide +kernel) (by decide) (fun _ _ h => by rw [h.1]; rfl) (fun _ U U' hal hh h => ⟨h.1, h.2.1.mv hal hh, h.2.2.1.mv hal hh, h.2.2.2⟩) (fun r U U' V V' h1 hal h2 h => ⟨h.1, h.2.elim fun B' q => ⟨B', q.1.mv h1 h2, q.2⟩⟩) ?_
  intro p e s m args below meth c s₁ X0 hexec hbytes hml hret hlk hnm hown hh0 W hP
  obtain ⟨rfl, hA, hB, hne, l1, l2, hp⟩ := hP
  have c1 : Steps p.tables e below (s₁.setTop (entryFrame m #[.ref b, .int (Int32.ofNat o), .ref d, .int (Int32.ofNat q), .int (Int32.ofNat len)] 7)) (s₁.setTop (mkF m 0 #[.val (.ref b), .val (.int (Int32.ofNat o)), .val (.ref d), .val (.int (Int32.ofNat q)), .val (.int (Int32.ofNat len)), .unset, .unset] [])) := entry rfl
  have hA0 := hA.1.mv X0.warmed.alike hh0
  have hB0 := hB.mv X0.warmed.alike hh0
  have a31 := hA.1.2.2.2
  have c2 : Steps p.tables e below (s₁.setTop (entryFrame m #[.ref b, .int (Int32.ofNat o), .ref d, .int (Int32.ofNat q), .int (Int32.ofNat len)] 7)) (s₁.setTop (mkF m 3 #[.val (.ref b), .val (.int (Int32.ofNat o)), .val (.ref d), .val (.int (Int32.ofNat q)), .val (.int (Int32.ofNat len)), .val (.int 0), .unset] [])) := c1.trans (by
    refine iconstV X0.here hexec rfl 0 (hb hbytes d0) (by decide) ?_
    refine XS.istore X0.here hexec rfl (hb hbytes d1) rfl rfl ?_
    exact Steps.refl _)
  have loop : ∀ (r i : Nat), i + r = len → ∀ (z : Slot), (z = .unset ∨ ∃ w, z = .val w ∧ w.category = 1) → ∀ (Tl : State) (Bk : Cell), Stand p l e { frames := 0, locals := 0, cells := 0, slots := 0 } s m #[.ref b, .int (Int32.ofNat o), .ref d, .int (Int32.ofNat q), .int (Int32.ofNat len)] below meth c Tl ([] ++ copyLocs d q i) 0 0 → Put d Bk s₁ Tl → Laid B Bk q (q + i) (fun j => Value.int (lo8 (cv A (o + (j - q))))) →
      Steps p.tables e below (s₁.setTop (entryFrame m #[.ref b, .int (Int32.ofNat o), .ref d, .int (Int32.ofNat q), .int (Int32.ofNat len)] 7)) (Tl.setTop (mkF m 3 #[.val (.ref b), .val (.int (Int32.ofNat (o + i))), .val (.ref d), .val (.int (Int32.ofNat (q + i))), .val (.int (Int32.ofNat len)), .val (.int (Int32.ofNat i)), z] [])) → ∃ (T' : State) (B' : Cell) (z' : Slot), Stand p l e { frames := 0, locals := 0, cells := 0, slots := 0 } s m #[.ref b, .int (Int32.ofNat o), .ref d, .int (Int32.ofNat q), .int (Int32.ofNat len)] below meth c T' ([] ++ copyLocs d q len) 0 0 ∧ Put d B' s₁ T' ∧ Laid B B' q (q + len) (fun j => Value.int (lo8 (cv A (o + (j - q))))) ∧
      Steps p.tables e below (s₁.setTop (entryFrame m #[.ref b, .int (Int32.ofNat o), .ref d, .int (Int32.ofNat q), .int (Int32.ofNat len)] 7)) (T'.setTop (mkF m 3 #[.val (.ref b), .val (.int (Int32.ofNat (o + len))), .val (.ref d), .val (.int (Int32.ofNat (q + len))), .val (.int (Int32.ofNat len)), .val (.int (Int32.ofNat len)), z'] [])) := by
    intro r
    induction r with
    | zero =>
      intro i hi z hz Tl Bk Xl pl fl cl
      have hil : i = len := by omega
      rw [hil] at Xl fl cl
      exact ⟨Tl, Bk, z, Xl, pl, fl, cl⟩
    | succ r ih =>
      intro i hi z hz Tl Bk Xl pl fl cl
      have all := X0.warmed.alike.symm.trans Xl.warmed.alike
      have hAl := hA0.keep all (pl.other hne hA0.1)
      have hBk := hB0.like all pl.1 fl.1 fl.2.1 fl.2.2.1
      have hlt : q + i < Bk.slots.size := by rw [fl.2.2.1]; omega
      have c3 : Steps p.tables e below (s₁.setTop (entryFrame m #[.ref b, .int (Int32.ofNat o), .ref d, .int (Int32.ofNat q), .int (Int32.ofNat len)] 7)) (Tl.setTop (mkF m 12 #[.val (.ref b), .val (.int (Int32.ofNat (o + i))), .val (.ref d), .val (.int (Int32.ofNat (q + i))), .val (.int (Int32.ofNat len)), .val (.int (Int32.ofNat i)), z] [.int (Int32.ofNat (o + i)), .ref b])) := cl.trans (by
        refine XS.iload Xl.here hexec rfl (hb hbytes d3) rfl ?_
        refine XS.iload Xl.here hexec rfl (hb hbytes d5) rfl ?_
        refine XS.icmpNo Xl.here hexec rfl (hb hbytes d7) rfl (ii_ge_f (lt32 (by omega) (by omega))) ?_
        refine XS.aloadN Xl.here hexec rfl (hb hbytes d10) rfl rfl ?_
        refine XS.iloadN Xl.here hexec rfl (hb hbytes d11) rfl ?_
        exact Steps.refl _)
      have c4 : Steps p.tables e below (s₁.setTop (entryFrame m #[.ref b, .int (Int32.ofNat o), .ref d, .int (Int32.ofNat q), .int (Int32.ofNat len)] 7)) (Tl.setTop (mkF m 13 #[.val (.ref b), .val (.int (Int32.ofNat (o + i))), .val (.ref d), .val (.int (Int32.ofNat (q + i))), .val (.int (Int32.ofNat len)), .val (.int (Int32.ofNat i)), z] [.int (cv A (o + i))])) := c3.trans (by
        refine Xl.aget hexec hAl rfl (hA.get (i := o + i) (by omega)) rfl rfl (hb hbytes d12) ?_
        exact Steps.refl _)
      have c5 : Steps p.tables e below (s₁.setTop (entryFrame m #[.ref b, .int (Int32.ofNat o), .ref d, .int (Int32.ofNat q), .int (Int32.ofNat len)] 7)) (Tl.setTop (mkF m 15 #[.val (.ref b), .val (.int (Int32.ofNat (o + i))), .val (.ref d), .val (.int (Int32.ofNat (q + i))), .val (.int (Int32.ofNat len)), .val (.int (Int32.ofNat i)), .val (.int (cv A (o + i)))] [])) := c4.trans (by
        refine XS.istoreS Xl.here hexec rfl (hb hbytes d13) rfl rfl hz ?_
        exact Steps.refl _)
      have c6 : Steps p.tables e below (s₁.setTop (entryFrame m #[.ref b, .int (Int32.ofNat o), .ref d, .int (Int32.ofNat q), .int (Int32.ofNat len)] 7)) (Tl.setTop (mkF m 31 #[.val (.ref b), .val (.int (Int32.ofNat (o + i))), .val (.ref d), .val (.int (Int32.ofNat (q + i))), .val (.int (Int32.ofNat len)), .val (.int (Int32.ofNat i)), .val (.int (cv A (o + i)))] [.int (lo8 (cv A (o + i))), .int (Int32.ofNat (q + i)), .ref d])) := c5.trans (by
        refine XS.iload Xl.here hexec rfl (hb hbytes d15) rfl ?_
        refine sipushV Xl.here hexec rfl 255 (hb hbytes d17) (by decide) ?_
        refine XS.icmpYes Xl.here hexec rfl (pc0 := 20) rfl (hb hbytes d20) rfl (ii_le_t (hp i (by omega))) (by decide) rfl ?_
        refine XS.aloadN Xl.here hexec rfl (hb hbytes d26) rfl rfl ?_
        refine XS.iloadN Xl.here hexec rfl (hb hbytes d27) rfl ?_
        refine XS.iload Xl.here hexec rfl (hb hbytes d28) rfl ?_
        refine i2b Xl.here hexec rfl (hb hbytes d30) rfl ?_
        exact Steps.refl _)
      obtain ⟨T7, X7, p7, st7⟩ := Xl.aput hexec hBk rfl hlt rfl (fits_lo8 (cv A (o + i))) (g := (mkF m 31 #[.val (.ref b), .val (.int (Int32.ofNat (o + i))), .val (.ref d), .val (.int (Int32.ofNat (q + i))), .val (.int (Int32.ofNat len)), .val (.int (Int32.ofNat i)), .val (.int (cv A (o + i)))] [.int (lo8 (cv A (o + i))), .int (Int32.ofNat (q + i)), .ref d])) rfl (rest := []) rfl (hb hbytes d31)
      have c8 : Steps p.tables e below (s₁.setTop (entryFrame m #[.ref b, .int (Int32.ofNat o), .ref d, .int (Int32.ofNat q), .int (Int32.ofNat len)] 7)) (T7.setTop (mkF m 32 #[.val (.ref b), .val (.int (Int32.ofNat (o + i))), .val (.ref d), .val (.int (Int32.ofNat (q + i))), .val (.int (Int32.ofNat len)), .val (.int (Int32.ofNat i)), .val (.int (cv A (o + i)))] [])) := c6.trans (st7 _ (Steps.refl _))
      have c9 : Steps p.tables e below (s₁.setTop (entryFrame m #[.ref b, .int (Int32.ofNat o), .ref d, .int (Int32.ofNat q), .int (Int32.ofNat len)] 7)) (T7.setTop (mkF m 3 #[.val (.ref b), .val (.int (Int32.ofNat (o + i) + 1)), .val (.ref d), .val (.int (Int32.ofNat (q + i) + 1)), .val (.int (Int32.ofNat len)), .val (.int (Int32.ofNat i + 1)), .val (.int (cv A (o + i)))] [])) := c8.trans (by
        refine iincV X7.here hexec rfl 1 (hb hbytes d32) (by decide) rfl rfl ?_
        refine iincV X7.here hexec rfl 1 (hb hbytes d35) (by decide) rfl rfl ?_
        refine iincV X7.here hexec rfl 1 (hb hbytes d38) (by decide) rfl rfl ?_
        refine XS.goto X7.here hexec rfl (pc0 := 41) rfl (hb hbytes d41) (by decide) rfl ?_
        exact Steps.refl _)
      have c10 : Steps p.tables e below (s₁.setTop (entryFrame m #[.ref b, .int (Int32.ofNat o), .ref d, .int (Int32.ofNat q), .int (Int32.ofNat len)] 7)) (T7.setTop (mkF m 3 #[.val (.ref b), .val (.int (Int32.ofNat (o + (i + 1)))), .val (.ref d), .val (.int (Int32.ofNat (q + (i + 1)))), .val (.int (Int32.ofNat len)), .val (.int (Int32.ofNat (i + 1))), .val (.int (cv A (o + i)))] [])) := by
        have := c9
        rw [succ32, succ32, succ32] at this
        exact this
      exact ih (i + 1) (by omega) _ (Or.inr ⟨_, rfl, rfl⟩) T7 _ (by rw [copyLocs_step, ← List.append_assoc]; exact X7) (pl.trans p7) (fl.step (by omega) hlt (by simp)) c10
  obtain ⟨T9, B9, z9, X9, p9, f9, g9⟩ := loop len 0 (by omega) .unset (Or.inl rfl) s₁ B (by simpa [copyLocs] using X0) ⟨hB0.1, fun _ _ => rfl, rfl⟩ (Laid.zero _ _ _) c2
  have c11 : Steps p.tables e below (s₁.setTop (entryFrame m #[.ref b, .int (Int32.ofNat o), .ref d, .int (Int32.ofNat q), .int (Int32.ofNat len)] 7)) (T9.setTop (mkF m 46 #[.val (.ref b), .val (.int (Int32.ofNat (o + len))), .val (.ref d), .val (.int (Int32.ofNat (q + len))), .val (.int (Int32.ofNat len)), .val (.int (Int32.ofNat len)), z9] [.int (Int32.ofNat len)])) := g9.trans (by
    refine XS.iload X9.here hexec rfl (hb hbytes d3) rfl ?_
    refine XS.iload X9.here hexec rfl (hb hbytes d5) rfl ?_
    refine XS.icmpYes X9.here hexec rfl (pc0 := 7) rfl (hb hbytes d7) rfl (ii_ge_t (nlt32 (by omega) (Nat.le_refl _))) (by decide) rfl ?_
    refine XS.iload X9.here hexec rfl (hb hbytes d44) rfl ?_
    exact Steps.refl _)
  exact ⟨T9, some (.int (Int32.ofNat len)), _, _, _, X9, by simp, rfl, rfl, (fun h => by cases h), ⟨rfl, B9, p9.from hh0, f9⟩, fun fs hl => c11.trans (X9.ireturnOut hexec hret rfl (Or.inl rfl) (hb hbytes d46) hl)⟩
end Cmp5
namespace Cmp3
def yN : MethodName := ⟨"java/lang/StringUTF16", "compress", "([CII)[B"⟩
abbrev yB : ByteArray := jdk_52_method_16_code
theorem d0 : decode yB 0 = .ok (.iload_n 2, 1) := by decide +kernel
theorem d1 : decode yB 1 = .ok (.newarray .byte, 2) := by decide +kernel
theorem d3 : decode yB 3 = .ok (.astore_n 3, 1) := by decide +kernel
theorem d4 : decode yB 4 = .ok (.aload_n 0, 1) := by decide +kernel
theorem d5 : decode yB 5 = .ok (.iload_n 1, 1) := by decide +kernel
theorem d6 : decode yB 6 = .ok (.aload_n 3, 1) := by decide +kernel
theorem d7 : decode yB 7 = .ok (.iconst 0, 1) := by decide +kernel
theorem d8 : decode yB 8 = .ok (.iload_n 2, 1) := by decide +kernel
theorem d9 : decode yB 9 = .ok (.invokestatic 115, 3) := by decide +kernel
theorem d12 : decode yB 12 = .ok (.istore 4, 2) := by decide +kernel
theorem d14 : decode yB 14 = .ok (.iload 4, 2) := by decide +kernel
theorem d16 : decode yB 16 = .ok (.iload_n 2, 1) := by decide +kernel
theorem d17 : decode yB 17 = .ok (.if_icmp (.eq) 40, 3) := by decide +kernel
theorem d57 : decode yB 57 = .ok (.aload_n 3, 1) := by decide +kernel
theorem d58 : decode yB 58 = .ok (.areturn, 1) := by decide +kernel
def site : List Cond := [.arrayClass .byte, Cmp5.tab] ++ staticW U16 115 Cmp5.yN
def tab : Cond := tabOf yN yB 6 (some (.array .byte)) site
def P (b : Addr) (A : Cell) (o len : Nat) (args : Array Value) (s : State) : Prop := args = #[.ref b, .int (Int32.ofNat o), .int (Int32.ofNat len)] ∧ Ch b A s ∧ o + len ≤ A.slots.size ∧ len ≤ 536870912 ∧ ∀ i, i < len → ¬ 255 < cv A (o + i)
def E (b : Addr) (A : Cell) (o len : Nat) (r : Option Value) (s u : State) : Prop := NewArr .byte "[B" len (fun j => .int (lo8 (cv A (o + j)))) r s u ∧ u.heap.size = s.heap.size + 1
/-- no char of the range above 255: a new byte[] of their low bytes -/
theorem law (l : Launch) (b : Addr) (A : Cell) (o len : Nat) : Law l yN 3 3 1 18 yB 6 (some (.array .byte)) site (P b A o len) (E b A o len) [] 1 len := by
  refine Law.of_walk (plainFor_of_name (by decide +kernel)) (by decide +kernel) (by decide +kernel) (by decide) (fun _ _ h => by rw [h.1]; rfl) (fun _ U U' hal hh h => ⟨h.1, h.2.1.mv hal hh, h.2.2⟩) (fun r U U' V V' h1 hal h2 h => ⟨NewArr.mv r U U' V V' h1 hal h2 h.1, by rw [h1, h2]; exact h.2⟩) ?_
  intro p e s m args below meth c s₁ X0 hexec hbytes hml hret hlk hnm hown hh0 W hP
  obtain ⟨rfl, hA, l1, l2, hp⟩ := hP
  have a31 := hA.1.2.2.2
  have c1 : Steps p.tables e below (s₁.setTop (entryFrame m #[.ref b, .int (Int32.ofNat o), .int (Int32.ofNat len)] 6)) (s₁.setTop (mkF m 0 #[.val (.ref b), .val (.int (Int32.ofNat o)), .val (.int (Int32.ofNat len)), .unset, .unset, .unset] [])) := entry rfl
  have c2 : Steps p.tables e below (s₁.setTop (entryFrame m #[.ref b, .int (Int32.ofNat o), .int (Int32.ofNat len)] 6)) (s₁.setTop (mkF m 1 #[.val (.ref b), .val (.int (Int32.ofNat o)), .val (.int (Int32.ofNat len)), .unset, .unset, .unset] [.int (Int32.ofNat len)])) := c1.trans (by
    refine XS.iloadN X0.here hexec rfl (hb hbytes d0) rfl ?_
    exact Steps.refl _)
  obtain ⟨T3, B3, X3, ba3, bs3, bv3, bh3, bf3, st3⟩ := X0.anew hexec (atype := .byte) (wk W (.arrayClass .byte)) rfl (by show len * 1 ≤ _; omega) (by omega) (g := (mkF m 1 #[.val (.ref b), .val (.int (Int32.ofNat o)), .val (.int (Int32.ofNat len)), .unset, .unset, .unset] [.int (Int32.ofNat len)])) rfl (hb hbytes d1) (rest := []) rfl (Nat.le_refl _) (by show 0 + len ≤ len; omega)
  rw [hh0] at ba3 st3
  have kp3 : XT.Kept s T3 := (XT.Kept.of_eq hh0).push bh3
  have hA3 := hA.keep X3.warmed.alike (kp3 _ _ hA.1.1)
  have hne : b ≠ s.heap.size := hA.1.ne
  have c4 : Steps p.tables e below (s₁.setTop (entryFrame m #[.ref b, .int (Int32.ofNat o), .int (Int32.ofNat len)] 6)) (T3.setTop (mkF m 3 #[.val (.ref b), .val (.int (Int32.ofNat o)), .val (.int (Int32.ofNat len)), .unset, .unset, .unset] [.ref s.heap.size])) := c2.trans (st3 _ (Steps.refl _))
  have c5 : Steps p.tables e below (s₁.setTop (entryFrame m #[.ref b, .int (Int32.ofNat o), .int (Int32.ofNat len)] 6)) (T3.setTop (mkF m 9 #[.val (.ref b), .val (.int (Int32.ofNat o)), .val (.int (Int32.ofNat len)), .val (.ref s.heap.size), .unset, .unset] [.int (Int32.ofNat len), .int 0, .ref s.heap.size, .int (Int32.ofNat o), .ref b])) := c4.trans (by
    refine XS.astoreN X3.here hexec rfl (hb hbytes d3) rfl rfl rfl ?_
    refine XS.aloadN X3.here hexec rfl (hb hbytes d4) rfl rfl ?_
    refine XS.iloadN X3.here hexec rfl (hb hbytes d5) rfl ?_
    refine XS.aloadN X3.here hexec rfl (hb hbytes d6) rfl rfl ?_
    refine iconstV X3.here hexec rfl 0 (hb hbytes d7) (by decide) ?_
    refine XS.iloadN X3.here hexec rfl (hb hbytes d8) rfl ?_
    exact Steps.refl _)
  obtain ⟨v6, T6, X6, E6, g6⟩ := X3.callS hexec (Cmp5.law l b A s.heap.size B3 o 0 len) hown (wks W (staticW U16 115 Cmp5.yN)) (wk W Cmp5.tab) (W := 0) (Nat.le_of_ble_eq_true rfl) (Nat.le_of_ble_eq_true rfl) (Nat.le_refl _) (by show 0 + len + 0 ≤ len; omega) (g := (mkF m 9 #[.val (.ref b), .val (.int (Int32.ofNat o)), .val (.int (Int32.ofNat len)), .val (.ref s.heap.size), .unset, .unset] [.int (Int32.ofNat len), .int (Int32.ofNat 0), .ref s.heap.size, .int (Int32.ofNat o), .ref b])) rfl (by rw [hml]; rfl) c5 (argsL := [.ref b, .int (Int32.ofNat o), .ref s.heap.size, .int (Int32.ofNat 0), .int (Int32.ofNat len)]) (rest := []) rfl rfl (by show 2 * 0 + 0 ≤ _; decide) (hb hbytes d9) (⟨rfl, hA3, ba3, hne, l1, by rw [bs3]; simp, hp⟩)
  obtain ⟨rfl, B6, p6, f6⟩ := E6
  have c7 : Steps p.tables e below (s₁.setTop (entryFrame m #[.ref b, .int (Int32.ofNat o), .int (Int32.ofNat len)] 6)) (T6.setTop (mkF m 12 #[.val (.ref b), .val (.int (Int32.ofNat o)), .val (.int (Int32.ofNat len)), .val (.ref s.heap.size), .unset, .unset] [.int (Int32.ofNat len)])) := g6
  have c8 : Steps p.tables e below (s₁.setTop (entryFrame m #[.ref b, .int (Int32.ofNat o), .int (Int32.ofNat len)] 6)) (T6.setTop (mkF m 58 #[.val (.ref b), .val (.int (Int32.ofNat o)), .val (.int (Int32.ofNat len)), .val (.ref s.heap.size), .val (.int (Int32.ofNat len)), .unset] [.ref s.heap.size])) := c7.trans (by
    refine XS.istore X6.here hexec rfl (hb hbytes d12) rfl rfl ?_
    refine XS.iload X6.here hexec rfl (hb hbytes d14) rfl ?_
    refine XS.iloadN X6.here hexec rfl (hb hbytes d16) rfl ?_
    refine XS.icmpYes X6.here hexec rfl (pc0 := 17) rfl (hb hbytes d17) rfl (ii_eq_t rfl) (by decide) rfl ?_
    refine XS.aloadN X6.here hexec rfl (hb hbytes d57) rfl rfl ?_
    exact Steps.refl _)
  have X8 := X6.wide (L' := []) (cells' := 1) (slots' := len) (fun x hx hlt => by
    simp only [List.nil_append, copyLocs, List.mem_map, List.mem_range] at hx
    obtain ⟨i, -, rfl⟩ := hx
    exact absurd hlt (Nat.lt_irrefl _)) (Nat.le_refl _) (by omega)
  exact ⟨T6, some (.ref s.heap.size), _, _, _, X8, rfl, rfl, rfl, (fun h => by cases h), ⟨⟨rfl, B6, ba3.like (X3.warmed.alike.symm.trans X6.warmed.alike) p6.1 f6.1 f6.2.1 f6.2.2.1, f6.2.1.trans bv3, by rw [X6.warmed.alike.findClass, f6.1]; exact bf3, by rw [f6.2.2.1, bs3]; simp, fun j hj => by rw [f6.2.2.2 j, if_pos (by omega)]; rfl, kp3.put p6 (Nat.le_refl _)⟩, by rw [p6.2.2, bh3, hh0]; simp⟩, fun fs hl => c8.trans (X8.areturnOut hexec rfl hret rfl (hb hbytes d58) hl)⟩
end Cmp3
namespace CodL
def yN : MethodName := ⟨"java/lang/StringUTF16", "coderFromArrayLen", "([BI)B"⟩
abbrev yB : ByteArray := jdk_52_method_15_code
theorem d0 : decode yB 0 = .ok (.iload_n 1, 1) := by decide +kernel
theorem d1 : decode yB 1 = .ok (.aload_n 0, 1) := by decide +kernel
theorem d2 : decode yB 2 = .ok (.arraylength, 1) := by decide +kernel
theorem d3 : decode yB 3 = .ok (.isub, 1) := by decide +kernel
theorem d4 : decode yB 4 = .ok (.bipush 31, 2) := by decide +kernel
theorem d6 : decode yB 6 = .ok (.iushr, 1) := by decide +kernel
theorem d7 : decode yB 7 = .ok (.i2b, 1) := by decide +kernel
theorem d8 : decode yB 8 = .ok (.ireturn, 1) := by decide +kernel
def site : List Cond := []
def tab : Cond := tabOf yN yB 2 (some .byte) site
def P (d : Addr) (B : Cell) (args : Array Value) (s : State) : Prop := args = #[.ref d, .int (Int32.ofNat B.slots.size)] ∧ Arr .byte d B s
def E (r : Option Value) (s u : State) : Prop := XT.PureE (some (.int 0)) r s u
/-- an array as long as the number of chars: LATIN1 -/
theorem law (l : Launch) (d : Addr) (B : Cell) : Law l yN 2 2 0 0 yB 2 (some .byte) site (P d B) E [] 0 0 := by
  refine Law.of_walk (plainFor_of_name (by decide +kernel)) (by decide +kernel) (by decide +kernel) (by decide) (fun _ _ h => by rw [h.1]; rfl) (fun _ U U' hal hh h => ⟨h.1, h.2.mv hal hh⟩) (fun r U U' V V' h1 hal h2 h => XT.PureE.mv r U U' V V' h1 hal h2 h) ?_
  intro p e s m args below meth c s₁ X0 hexec hbytes hml hret hlk hnm hown hh0 W hP
  obtain ⟨rfl, hB⟩ := hP
  have hB0 := hB.mv X0.warmed.alike hh0
  have c1 : Steps p.tables e below (s₁.setTop (entryFrame m #[.ref d, .int (Int32.ofNat B.slots.size)] 2)) (s₁.setTop (mkF m 0 #[.val (.ref d), .val (.int (Int32.ofNat B.slots.size))] [])) := entry rfl
  have c2 : Steps p.tables e below (s₁.setTop (entryFrame m #[.ref d, .int (Int32.ofNat B.slots.size)] 2)) (s₁.setTop (mkF m 2 #[.val (.ref d), .val (.int (Int32.ofNat B.slots.size))] [.ref d, .int (Int32.ofNat B.slots.size)])) := c1.trans (by
    refine XS.iloadN X0.here hexec rfl (hb hbytes d0) rfl ?_
    refine XS.aloadN X0.here hexec rfl (hb hbytes d1) rfl rfl ?_
    exact Steps.refl _)
  have c3 : Steps p.tables e below (s₁.setTop (entryFrame m #[.ref d, .int (Int32.ofNat B.slots.size)] 2)) (s₁.setTop (mkF m 8 #[.val (.ref d), .val (.int (Int32.ofNat B.slots.size))] [.int (lo8 (ushr (Int32.ofNat B.slots.size - Int32.ofNat B.slots.size) 31))])) := c2.trans (by
    refine X0.alen hexec hB0 rfl rfl (hb hbytes d2) ?_
    refine XS.isub X0.here hexec rfl (hb hbytes d3) rfl ?_
    refine bipushV X0.here hexec rfl 31 (hb hbytes d4) (by decide) ?_
    refine iushr X0.here hexec rfl (hb hbytes d6) rfl ?_
    refine i2b X0.here hexec rfl (hb hbytes d7) rfl ?_
    exact Steps.refl _)
  have e0 : lo8 (ushr (Int32.ofNat B.slots.size - Int32.ofNat B.slots.size) 31) = 0 := by rw [Int32.sub_self]; decide
  rw [e0] at c3
  exact ⟨s₁, some (.int 0), _, _, _, X0, rfl, rfl, rfl, (fun h => by cases h), ⟨rfl, hh0⟩, fun fs hl => c3.trans (X0.ireturnOut hexec hret rfl (Or.inr (Or.inr (Or.inl rfl))) (hb hbytes d8) hl)⟩
end CodL
/-- the String at a is Latin-1 over a new byte[] (the heap's one new cell): the low bytes of the len chars of A from o on; every cell but a is kept -/
def Got (a : Addr) (D : Cell) (fV fC : Field) (A : Cell) (o len : Nat) (r : Option Value) (s u : State) : Prop := r = none ∧ ∃ D' V : Cell, Blank "java/lang/String" a D' u ∧ Same D D' [fV.slot, fC.slot] ∧ D'.slots[fV.slot]? = some (.ref s.heap.size) ∧ D'.slots[fC.slot]? = some (.int 0) ∧ Arr .byte s.heap.size V u ∧ V.vm = .none ∧ u.vm.findClass "[B" = some V.cls ∧ V.slots.size = len ∧ (∀ j, j < len → V.slots[j]? = some (.int (lo8 (cv A (o + j))))) ∧ (∀ (y : Addr) (c : Cell), y ≠ a → s.heap[y]? = some c → u.heap[y]? = some c) ∧ u.heap.size = s.heap.size + 1
theorem Got.mv {a : Addr} {D A : Cell} {fV fC : Field} {o len : Nat} : ∀ r (U U' V V' : State), U'.heap = U.heap → V.vm.Alike V'.vm → V'.heap = V.heap → Got a D fV fC A o len r U V → Got a D fV fC A o len r U' V' :=
  fun r U U' V V' h1 hal h2 ⟨e0, D', X, a1, a2, a3, a4, a5, a6, a7, a8, a9, a10, a11⟩ => ⟨e0, D', X, a1.mv hal h2, a2, by rw [h1]; exact a3, a4, by rw [h1]; exact a5.mv hal h2, a6, by rw [hal.findClass]; exact a7, a8, a9, by rw [h1, h2]; exact a10, by rw [h1, h2]; exact a11⟩
namespace New4
def yN : MethodName := ⟨"java/lang/String", "<init>", "([CIILjava/lang/Void;)V"⟩
abbrev yB : ByteArray := jdk_42_method_149_code
theorem d0 : decode yB 0 = .ok (.aload_n 0, 1) := by decide +kernel
theorem d1 : decode yB 1 = .ok (.invokespecial 1, 3) := by decide +kernel
theorem d4 : decode yB 4 = .ok (.iload_n 3, 1) := by decide +kernel
theorem d5 : decode yB 5 = .ok (.ifCond (.ne) 22, 3) := by decide +kernel
theorem d27 : decode yB 27 = .ok (.getstatic 38, 3) := by decide +kernel
theorem d30 : decode yB 30 = .ok (.ifCond (.eq) 28, 3) := by decide +kernel
theorem d33 : decode yB 33 = .ok (.aload_n 1, 1) := by decide +kernel
theorem d34 : decode yB 34 = .ok (.iload_n 2, 1) := by decide +kernel
theorem d35 : decode yB 35 = .ok (.iload_n 3, 1) := by decide +kernel
theorem d36 : decode yB 36 = .ok (.invokestatic 177, 3) := by decide +kernel
theorem d39 : decode yB 39 = .ok (.astore 5, 2) := by decide +kernel
theorem d41 : decode yB 41 = .ok (.aload_n 0, 1) := by decide +kernel
theorem d42 : decode yB 42 = .ok (.aload 5, 2) := by decide +kernel
theorem d44 : decode yB 44 = .ok (.iload_n 3, 1) := by decide +kernel
theorem d45 : decode yB 45 = .ok (.invokestatic 47, 3) := by decide +kernel
theorem d48 : decode yB 48 = .ok (.putfield 15, 3) := by decide +kernel
theorem d51 : decode yB 51 = .ok (.aload_n 0, 1) := by decide +kernel
theorem d52 : decode yB 52 = .ok (.aload 5, 2) := by decide +kernel
theorem d54 : decode yB 54 = .ok (.putfield 9, 3) := by decide +kernel
theorem d57 : decode yB 57 = .ok (.return_, 1) := by decide +kernel
def site : List Cond := [.fieldLink "java/lang/String" 38 "java/lang/String" "COMPACT_STRINGS" "Z", Cmp3.tab, CodL.tab, .laysFinal "java/lang/String" "java/lang/String" "value" "[B", .fieldLink "java/lang/String" 9 "java/lang/String" "value" "[B", .laysFinal "java/lang/String" "java/lang/String" "coder" "B", .fieldLink "java/lang/String" 15 "java/lang/String" "coder" "B"] ++ objW "java/lang/String" 1 ++ staticW "java/lang/String" 177 Cmp3.yN ++ staticW "java/lang/String" 47 CodL.yN
def tab : Cond := tabOf yN yB 6 none site
def P (a : Addr) (D : Cell) (fV fC : Field) (b : Addr) (A : Cell) (z : Int32) (o len : Nat) (args : Array Value) (s : State) : Prop := args = #[.ref a, .ref b, .int (Int32.ofNat o), .int (Int32.ofNat len), .null] ∧ Blank "java/lang/String" a D s ∧ Found "java/lang/String" "value" "[B" fV s ∧ Found "java/lang/String" "coder" "B" fC s ∧ Ch b A s ∧ StaticIs s "java/lang/String" "COMPACT_STRINGS" "Z" (.int z) ∧ ¬ z = 0 ∧ 0 < len ∧ o + len ≤ A.slots.size ∧ len ≤ 536870912 ∧ ∀ i, i < len → ¬ 255 < cv A (o + i)
def E (a : Addr) (D : Cell) (fV fC : Field) (A : Cell) (o len : Nat) (r : Option Value) (s u : State) : Prop := Got a D fV fC A o len r s u
/-- len > 0, no char of the range above 255: a Latin-1 String of their low bytes -/
theorem law (l : Launch) (a : Addr) (D : Cell) (fV fC : Field) (b : Addr) (A : Cell) (z : Int32) (o len : Nat) : Law l yN 5 4 2 35 yB 6 none site (P a D fV fC b A z o len) (E a D fV fC A o len) [⟨a, fC.slot⟩, ⟨a, fV.slot⟩] 1 len := by
  refine Law.of_walk (plainFor_of_name (by decide +kernel)) (by decide +kernel) (by decide +kernel) (by decide) (fun _ _ h => by rw [h.1]; rfl) (fun _ U U' hal hh h => ⟨h.1, h.2.1.mv hal hh, h.2.2.1.al hal, h.2.2.2.1.al hal, h.2.2.2.2.1.mv hal hh, h.2.2.2.2.2.1.there hal hh, h.2.2.2.2.2.2⟩) (fun r U U' V V' h1 hal h2 h => Got.mv r U U' V V' h1 hal h2 h) ?_
  intro p e s m args below meth c s₁ X0 hexec hbytes hml hret hlk hnm hown hh0 W hP
  obtain ⟨rfl, hB, f1, f2, hA, s1, hz, l0, l1, l2, hp⟩ := hP
  have a31 := hA.1.2.2.2
  have c1 : Steps p.tables e below (s₁.setTop (entryFrame m #[.ref a, .ref b, .int (Int32.ofNat o), .int (Int32.ofNat len), .null] 6)) (s₁.setTop (mkF m 0 #[.val (.ref a), .val (.ref b), .val (.int (Int32.ofNat o)), .val (.int (Int32.ofNat len)), .val .null, .unset] [])) := entry rfl
  have c2 : Steps p.tables e below (s₁.setTop (entryFrame m #[.ref a, .ref b, .int (Int32.ofNat o), .int (Int32.ofNat len), .null] 6)) (s₁.setTop (mkF m 1 #[.val (.ref a), .val (.ref b), .val (.int (Int32.ofNat o)), .val (.int (Int32.ofNat len)), .val .null, .unset] [.ref a])) := c1.trans (by
    refine XS.aloadN X0.here hexec rfl (hb hbytes d0) rfl rfl ?_
    exact Steps.refl _)
  obtain ⟨T3, X3, q3, st3⟩ := X0.oinit hexec hown (wks W (objW "java/lang/String" 1)) (g := (mkF m 1 #[.val (.ref a), .val (.ref b), .val (.int (Int32.ofNat o)), .val (.int (Int32.ofNat len)), .val .null, .unset] [.ref a])) rfl (by rw [hml]; rfl) (rest := []) rfl (hb hbytes d1) (W := 0) (by show 2 * 0 + 0 ≤ _; decide) (Nat.le_of_ble_eq_true rfl) (Nat.le_of_ble_eq_true rfl)
  have hh3 := q3.trans hh0
  have c4 : Steps p.tables e below (s₁.setTop (entryFrame m #[.ref a, .ref b, .int (Int32.ofNat o), .int (Int32.ofNat len), .null] 6)) (T3.setTop (mkF m 27 #[.val (.ref a), .val (.ref b), .val (.int (Int32.ofNat o)), .val (.int (Int32.ofNat len)), .val .null, .unset] [])) := (c2.trans (st3 _ (Steps.refl _))).trans (by
    refine XS.iloadN X3.here hexec rfl (hb hbytes d4) rfl ?_
    refine XS.ifYes X3.here hexec rfl (pc0 := 5) rfl (hb hbytes d5) rfl (i0_ne_t (nz32 (by omega) l0)) (by decide) rfl ?_
    exact Steps.refl _)
  obtain ⟨T5, X5, q5, st5⟩ := X3.sget hexec hown (wk W (.fieldLink "java/lang/String" 38 "java/lang/String" "COMPACT_STRINGS" "Z")) s1 (fun _ _ h => by rw [hh3]; exact h) (g := (mkF m 27 #[.val (.ref a), .val (.ref b), .val (.int (Int32.ofNat o)), .val (.int (Int32.ofNat len)), .val .null, .unset] [])) rfl (hb hbytes d27)
  have hh5 := q5.trans hh3
  have c6 : Steps p.tables e below (s₁.setTop (entryFrame m #[.ref a, .ref b, .int (Int32.ofNat o), .int (Int32.ofNat len), .null] 6)) (T5.setTop (mkF m 30 #[.val (.ref a), .val (.ref b), .val (.int (Int32.ofNat o)), .val (.int (Int32.ofNat len)), .val .null, .unset] [.int z])) := c4.trans (st5 _ (Steps.refl _))
  have c7 : Steps p.tables e below (s₁.setTop (entryFrame m #[.ref a, .ref b, .int (Int32.ofNat o), .int (Int32.ofNat len), .null] 6)) (T5.setTop (mkF m 36 #[.val (.ref a), .val (.ref b), .val (.int (Int32.ofNat o)), .val (.int (Int32.ofNat len)), .val .null, .unset] [.int (Int32.ofNat len), .int (Int32.ofNat o), .ref b])) := c6.trans (by
    refine XS.ifNo X5.here hexec rfl (hb hbytes d30) rfl (i0_eq_f hz) ?_
    refine XS.aloadN X5.here hexec rfl (hb hbytes d33) rfl rfl ?_
    refine XS.iloadN X5.here hexec rfl (hb hbytes d34) rfl ?_
    refine XS.iloadN X5.here hexec rfl (hb hbytes d35) rfl ?_
    exact Steps.refl _)
  obtain ⟨v8, T8, X8, E8, g8⟩ := X5.callS hexec (Cmp3.law l b A o len) hown (wks W (staticW "java/lang/String" 177 Cmp3.yN)) (wk W Cmp3.tab) (W := 0) (Nat.le_of_ble_eq_true rfl) (Nat.le_of_ble_eq_true rfl) (Nat.le_refl _) (by show 0 + len ≤ len; omega) (g := (mkF m 36 #[.val (.ref a), .val (.ref b), .val (.int (Int32.ofNat o)), .val (.int (Int32.ofNat len)), .val .null, .unset] [.int (Int32.ofNat len), .int (Int32.ofNat o), .ref b])) rfl (by rw [hml]; rfl) c7 (argsL := [.ref b, .int (Int32.ofNat o), .int (Int32.ofNat len)]) (rest := []) rfl rfl (by show 2 * 0 + 0 ≤ _; decide) (hb hbytes d36) (⟨rfl, hA.mv X5.warmed.alike hh5, l1, l2, hp⟩)
  obtain ⟨e8, z8⟩ := E8
  obtain ⟨rfl, N, n1, n2, n3, n4, n5, n6⟩ := NewArr.mv _ T5 s _ _ hh5.symm (Vm.Alike.refl _) rfl e8
  rw [hh5] at z8
  have hB1 := hB.keep X8.warmed.alike (n6 _ _ hB.1)
  have hne : s.heap.size ≠ a := (Nat.ne_of_lt (Array.getElem?_eq_some_iff.mp hB.1).1).symm
  have c9 : Steps p.tables e below (s₁.setTop (entryFrame m #[.ref a, .ref b, .int (Int32.ofNat o), .int (Int32.ofNat len), .null] 6)) (T8.setTop (mkF m 39 #[.val (.ref a), .val (.ref b), .val (.int (Int32.ofNat o)), .val (.int (Int32.ofNat len)), .val .null, .unset] [.ref s.heap.size])) := g8
  have c10 : Steps p.tables e below (s₁.setTop (entryFrame m #[.ref a, .ref b, .int (Int32.ofNat o), .int (Int32.ofNat len), .null] 6)) (T8.setTop (mkF m 45 #[.val (.ref a), .val (.ref b), .val (.int (Int32.ofNat o)), .val (.int (Int32.ofNat len)), .val .null, .val (.ref s.heap.size)] [.int (Int32.ofNat N.slots.size), .ref s.heap.size, .ref a])) := by
    have hc : Steps p.tables e below (s₁.setTop (entryFrame m #[.ref a, .ref b, .int (Int32.ofNat o), .int (Int32.ofNat len), .null] 6)) (T8.setTop (mkF m 45 #[.val (.ref a), .val (.ref b), .val (.int (Int32.ofNat o)), .val (.int (Int32.ofNat len)), .val .null, .val (.ref s.heap.size)] [.int (Int32.ofNat len), .ref s.heap.size, .ref a])) := c9.trans (by
      refine XS.astore X8.here hexec rfl (hb hbytes d39) rfl rfl rfl ?_
      refine XS.aloadN X8.here hexec rfl (hb hbytes d41) rfl rfl ?_
      refine XS.aload X8.here hexec rfl (hb hbytes d42) rfl rfl ?_
      refine XS.iloadN X8.here hexec rfl (hb hbytes d44) rfl ?_
      exact Steps.refl _)
    rw [n4]; exact hc
  obtain ⟨v11, T11, X11, E11, g11⟩ := X8.callS hexec (CodL.law l s.heap.size N) hown (wks W (staticW "java/lang/String" 47 CodL.yN)) (wk W CodL.tab) (W := 1) (Nat.le_of_ble_eq_true rfl) (Nat.le_of_ble_eq_true rfl) (Nat.le_refl _) (by show 0 + len + 0 ≤ len; omega) (g := (mkF m 45 #[.val (.ref a), .val (.ref b), .val (.int (Int32.ofNat o)), .val (.int (Int32.ofNat len)), .val .null, .val (.ref s.heap.size)] [.int (Int32.ofNat N.slots.size), .ref s.heap.size, .ref a])) rfl (by rw [hml]; rfl) c10 (argsL := [.ref s.heap.size, .int (Int32.ofNat N.slots.size)]) (rest := [.ref a]) rfl rfl (by show 2 * 0 + (1 + 0) ≤ _; decide) (hb hbytes d45) (⟨rfl, n1⟩)
  obtain ⟨rfl, q11⟩ := E11
  have hB11 := hB1.mv (X8.warmed.alike.symm.trans X11.warmed.alike) q11
  have c12 : Steps p.tables e below (s₁.setTop (entryFrame m #[.ref a, .ref b, .int (Int32.ofNat o), .int (Int32.ofNat len), .null] 6)) (T11.setTop (mkF m 48 #[.val (.ref a), .val (.ref b), .val (.int (Int32.ofNat o)), .val (.int (Int32.ofNat len)), .val .null, .val (.ref s.heap.size)] [.int 0, .ref a])) := g11
  obtain ⟨T13, X13, p13, bl13, sl13, st13⟩ := X11.finit hexec hown (wk W (.fieldLink "java/lang/String" 15 "java/lang/String" "coder" "B")) (Or.inr ⟨_, (wk W (.laysFinal "java/lang/String" "java/lang/String" "coder" "B"))⟩) (Or.inl ⟨rfl, hnm⟩) f2 (Or.inl rfl) hB11 (t := .byte) (by decide +kernel) rfl (g := (mkF m 48 #[.val (.ref a), .val (.ref b), .val (.int (Int32.ofNat o)), .val (.int (Int32.ofNat len)), .val .null, .val (.ref s.heap.size)] [.int 0, .ref a])) rfl (rest := []) rfl (hb hbytes d48)
  have c14 : Steps p.tables e below (s₁.setTop (entryFrame m #[.ref a, .ref b, .int (Int32.ofNat o), .int (Int32.ofNat len), .null] 6)) (T13.setTop (mkF m 54 #[.val (.ref a), .val (.ref b), .val (.int (Int32.ofNat o)), .val (.int (Int32.ofNat len)), .val .null, .val (.ref s.heap.size)] [.ref s.heap.size, .ref a])) := (c12.trans (st13 _ (Steps.refl _))).trans (by
    refine XS.aloadN X13.here hexec rfl (hb hbytes d51) rfl rfl ?_
    refine XS.aload X13.here hexec rfl (hb hbytes d52) rfl rfl ?_
    exact Steps.refl _)
  obtain ⟨T15, X15, p15, bl15, sl15, st15⟩ := X13.finit hexec hown (wk W (.fieldLink "java/lang/String" 9 "java/lang/String" "value" "[B")) (Or.inr ⟨_, (wk W (.laysFinal "java/lang/String" "java/lang/String" "value" "[B"))⟩) (Or.inl ⟨rfl, hnm⟩) f1 (Or.inl rfl) bl13 (t := (.array .byte)) (by decide +kernel) rfl (g := (mkF m 54 #[.val (.ref a), .val (.ref b), .val (.int (Int32.ofNat o)), .val (.int (Int32.ofNat len)), .val .null, .val (.ref s.heap.size)] [.ref s.heap.size, .ref a])) rfl (rest := []) rfl (hb hbytes d54)
  have c16 : Steps p.tables e below (s₁.setTop (entryFrame m #[.ref a, .ref b, .int (Int32.ofNat o), .int (Int32.ofNat len), .null] 6)) (T15.setTop (mkF m 57 #[.val (.ref a), .val (.ref b), .val (.int (Int32.ofNat o)), .val (.int (Int32.ofNat len)), .val .null, .val (.ref s.heap.size)] [])) := c14.trans (st15 _ (Steps.refl _))
  have ap := apart (Or.inr ⟨_, (wk W (.laysFinal "java/lang/String" "java/lang/String" "value" "[B"))⟩) (Or.inr ⟨_, (wk W (.laysFinal "java/lang/String" "java/lang/String" "coder" "B"))⟩) f1 f2 (t₁ := .array .byte) (t₂ := .byte) (by decide +kernel) (by decide +kernel) (by decide)
  have al := X8.warmed.alike.symm.trans X15.warmed.alike
  have n7 : T11.heap[s.heap.size]? = some N := by rw [q11]; exact n1.1
  exact ⟨T15, none, _, _, _, X15, by simp, rfl, by omega, (fun _ => rfl), ⟨rfl, _, N, bl15, ((Same.refl D _).set _ (by simp)).set _ (by simp), sl15, (Cell.slots_setSlot_ne _ ap).trans sl13, n1.keep al (p15.other hne (p13.other hne n7)), n2, by rw [al.findClass]; exact n3, n4, n5, fun y c h1 h2 => p15.other h1 (p13.other h1 (by rw [q11]; exact n6 y c h2)), by rw [p15.2.2, p13.2.2, q11]; exact z8⟩, fun fs hl => c16.trans (X15.returnOut hexec hret (hb hbytes d57) hl)⟩
end New4
namespace New1
def yN : MethodName := ⟨"java/lang/String", "<init>", "([C)V"⟩
abbrev yB : ByteArray := jdk_42_method_3_code
theorem d0 : decode yB 0 = .ok (.aload_n 0, 1) := by decide +kernel
theorem d1 : decode yB 1 = .ok (.aload_n 1, 1) := by decide +kernel
theorem d2 : decode yB 2 = .ok (.iconst 0, 1) := by decide +kernel
theorem d3 : decode yB 3 = .ok (.aload_n 1, 1) := by decide +kernel
theorem d4 : decode yB 4 = .ok (.arraylength, 1) := by decide +kernel
theorem d5 : decode yB 5 = .ok (.aconst_null, 1) := by decide +kernel
theorem d6 : decode yB 6 = .ok (.invokespecial 27, 3) := by decide +kernel
theorem d9 : decode yB 9 = .ok (.return_, 1) := by decide +kernel
def site : List Cond := [New4.tab] ++ initW "java/lang/String" 27 New4.yN
def tab : Cond := tabOf yN yB 2 none site
def P (a : Addr) (D : Cell) (fV fC : Field) (b : Addr) (A : Cell) (z : Int32) (args : Array Value) (s : State) : Prop := args = #[.ref a, .ref b] ∧ Blank "java/lang/String" a D s ∧ Found "java/lang/String" "value" "[B" fV s ∧ Found "java/lang/String" "coder" "B" fC s ∧ Ch b A s ∧ StaticIs s "java/lang/String" "COMPACT_STRINGS" "Z" (.int z) ∧ ¬ z = 0 ∧ 0 < A.slots.size ∧ A.slots.size ≤ 536870912 ∧ ∀ i, i < A.slots.size → ¬ 255 < cv A i
def E (a : Addr) (D : Cell) (fV fC : Field) (A : Cell) (r : Option Value) (s u : State) : Prop := Got a D fV fC A 0 A.slots.size r s u
/-- new String(chars), not empty, no char above 255: a Latin-1 String of their low bytes -/
theorem law (l : Launch) (a : Addr) (D : Cell) (fV fC : Field) (b : Addr) (A : Cell) (z : Int32) : Law l yN 2 1 3 52 yB 2 none site (P a D fV fC b A z) (E a D fV fC A) [⟨a, fC.slot⟩, ⟨a, fV.slot⟩] 1 A.slots.size := by
  refine Law.of_walk (plainFor_of_name (by decide +kernel)) (by decide +kernel) (by decide +kernel) (by decide) (fun _ _ h => by rw [h.1]; rfl) (fun _ U U' hal hh h => ⟨h.1, h.2.1.mv hal hh, h.2.2.1.al hal, h.2.2.2.1.al hal, h.2.2.2.2.1.mv hal hh, h.2.2.2.2.2.1.there hal hh, h.2.2.2.2.2.2⟩) (fun r U U' V V' h1 hal h2 h => Got.mv r U U' V V' h1 hal h2 h) ?_
  intro p e s m args below meth c s₁ X0 hexec hbytes hml hret hlk hnm hown hh0 W hP
  obtain ⟨rfl, hB, f1, f2, hA, s1, hz, l0, l2, hp⟩ := hP
  have c1 : Steps p.tables e below (s₁.setTop (entryFrame m #[.ref a, .ref b] 2)) (s₁.setTop (mkF m 0 #[.val (.ref a), .val (.ref b)] [])) := entry rfl
  have c2 : Steps p.tables e below (s₁.setTop (entryFrame m #[.ref a, .ref b] 2)) (s₁.setTop (mkF m 6 #[.val (.ref a), .val (.ref b)] [.null, .int (Int32.ofNat A.slots.size), .int 0, .ref b, .ref a])) := c1.trans (by
    refine XS.aloadN X0.here hexec rfl (hb hbytes d0) rfl rfl ?_
    refine XS.aloadN X0.here hexec rfl (hb hbytes d1) rfl rfl ?_
    refine iconstV X0.here hexec rfl 0 (hb hbytes d2) (by decide) ?_
    refine XS.aloadN X0.here hexec rfl (hb hbytes d3) rfl rfl ?_
    refine X0.alen hexec (hA.1.mv X0.warmed.alike hh0) rfl rfl (hb hbytes d4) ?_
    refine XS.aconstNull X0.here hexec rfl (hb hbytes d5) ?_
    exact Steps.refl _)
  obtain ⟨v3, T3, X3, E3, g3⟩ := X0.callN hexec (New4.law l a D fV fC b A z 0 A.slots.size) rfl hown (wks W (initW "java/lang/String" 27 New4.yN)) (W New4.tab (by simp only [site, List.mem_cons, List.mem_append, true_or, or_true])) (W := 0) (Nat.le_of_ble_eq_true rfl) (Nat.le_of_ble_eq_true rfl) (Nat.le_refl _) (by show 0 + A.slots.size ≤ A.slots.size; omega) (g := (mkF m 6 #[.val (.ref a), .val (.ref b)] [.null, .int (Int32.ofNat A.slots.size), .int (Int32.ofNat 0), .ref b, .ref a])) rfl (by rw [hml]; rfl) c2 (argsL := [.ref b, .int (Int32.ofNat 0), .int (Int32.ofNat A.slots.size), .null]) (rest := []) rfl rfl (by show 2 * 0 + 0 ≤ _; decide) (hb hbytes d6) (⟨rfl, hB.mv X0.warmed.alike hh0, f1.al X0.warmed.alike, f2.al X0.warmed.alike, hA.mv X0.warmed.alike hh0, s1.there X0.warmed.alike hh0, hz, l0, by omega, l2, fun i hi => by rw [Nat.zero_add]; exact hp i hi⟩)
  have e0 := Got.mv _ s₁ s _ _ hh0.symm (Vm.Alike.refl _) rfl E3
  obtain rfl := e0.1
  have c4 : Steps p.tables e below (s₁.setTop (entryFrame m #[.ref a, .ref b] 2)) (T3.setTop (mkF m 9 #[.val (.ref a), .val (.ref b)] [])) := g3
  exact ⟨T3, none, _, _, _, X3, by simp, rfl, by omega, (fun _ => rfl), e0, fun fs hl => c4.trans (X3.returnOut hexec hret (hb hbytes d9) hl)⟩
theorem pays {l : Launch} {R : Room} {p : Program} {e : Env} {below : List Frame} {s : State} {sargs : Array Value} {len W : Nat} (a : Addr) (D : Cell) (fV fC : Field) (b : Addr) (A : Cell) (z : Int32) (htab : tab.before sargs s = true) (hfr : 4 ≤ R.frames) (hlo : W + 65 ≤ R.locals) :
    Back l R p e below s sargs yN len W (fun A₁ a₁ => A₁.cells + 1 ≤ R.cells ∧ A₁.slots + A.slots.size ≤ R.slots ∧ P a D fV fC b A z a₁ A₁.U) (fun A₁ _ v₁ B₁ => E a D fV fC A v₁ A₁.U B₁.U ∧ B₁.locs = A₁.locs ++ [⟨a, fC.slot⟩, ⟨a, fV.slot⟩] ∧ B₁.cells = A₁.cells + 1 ∧ B₁.slots = A₁.slots + A.slots.size) :=
  (law l a D fV fC b A z).pays htab hfr (by omega)
end New1
end StrChars
namespace StrChars.Road
open Jvm Sem ClassFile Op Lib Jvm.Stand Jvm.Free Jvm.Free.XT
open Jvm.Lib.Cold (StaticIs)
abbrev ST : String := "java/lang/String"
/-- every table word that New1's law asks, flat -/
abbrev words : List Jvm.Cond := [.code New1.yN New1.yB 2 none, .initialized ST, .methodLink ST 27 New4.yN, .instanceMethod New4.yN,
  .code New4.yN New4.yB 6 none, .fieldLink ST 38 ST "COMPACT_STRINGS" "Z", .laysFinal ST ST "value" "[B", .fieldLink ST 9 ST "value" "[B", .laysFinal ST ST "coder" "B", .fieldLink ST 15 ST "coder" "B",
  .methodLink ST 1 Lib.objectInit, .instanceMethod Lib.objectInit, .code Lib.objectInit ⟨#[0xb1]⟩ 1 none, .methodLink ST 177 Cmp3.yN, .static Cmp3.yN, .methodLink ST 47 CodL.yN, .static CodL.yN,
  .code Cmp3.yN Cmp3.yB 6 (some (.array .byte)), .initialized U16, .arrayClass .byte, .methodLink U16 115 Cmp5.yN, .static Cmp5.yN, .code Cmp5.yN Cmp5.yB 7 (some .int), .code CodL.yN CodL.yB 2 (some .byte)]
theorem tab_of {a : Array Value} {s : State} (h : ∀ w ∈ words, w.before a s = true) : New1.tab.before a s = true := by
  have h5 : Cmp5.tab.before a s = true := unparts (wk h (.code Cmp5.yN Cmp5.yB 7 (some .int))) (wks h (.initialized Cmp5.yN.cls :: Cmp5.site))
  have hc : CodL.tab.before a s = true := unparts (wk h (.code CodL.yN CodL.yB 2 (some .byte))) (wks h (.initialized CodL.yN.cls :: CodL.site))
  have q5 : ∀ w ∈ Cmp5.tab :: words, w.before a s = true := fun w hw => (List.mem_cons.mp hw).elim (fun e => e ▸ h5) (h w)
  have h3 : Cmp3.tab.before a s = true := unparts (wk q5 (.code Cmp3.yN Cmp3.yB 6 (some (.array .byte)))) (wks q5 (.initialized Cmp3.yN.cls :: Cmp3.site))
  have q3 : ∀ w ∈ Cmp3.tab :: CodL.tab :: words, w.before a s = true := fun w hw => (List.mem_cons.mp hw).elim (fun e => e ▸ h3) fun hw => (List.mem_cons.mp hw).elim (fun e => e ▸ hc) (h w)
  have h4 : New4.tab.before a s = true := unparts (wk q3 (.code New4.yN New4.yB 6 none)) (wks q3 (.initialized New4.yN.cls :: New4.site))
  have q4 : ∀ w ∈ New4.tab :: words, w.before a s = true := fun w hw => (List.mem_cons.mp hw).elim (fun e => e ▸ h4) (h w)
  exact unparts (wk q4 (.code New1.yN New1.yB 2 none)) (wks q4 (.initialized New1.yN.cls :: New1.site))
/-- the words ride from the start Z to the walk's own state -/
theorem moved {Z s : State} {a0 args : Array Value} (hZ : Z.Warmed39 s.vm) (hw : ∀ d ∈ words, d.before a0 Z = true) : ∀ d ∈ words, d.before args s = true := fun d hd => by
  have q := hw d hd
  have t : ∀ d ∈ words, d = .arrayClass .byte ∨ (d.onTables && d.keepsFace) = true := by decide +kernel
  rcases t d hd with rfl | t
  · exact RoadKit.mvA hZ q
  · exact RoadKit.mv hZ q t
/-- WHAT COMES BACK, over the tables of the start Z: h the heap at the call, h' behind it -/
def Q (Z : State) (x : Addr) (A : Cell) (h : Heap) (v : Option Value) (h' : Heap) (L : List Loc) : Prop := v = none ∧ (∀ y ∈ L, y.base = x) ∧ RoadKit.Keep h h' [x] ∧ h'.size = h.size + 1 ∧ RoadKit.Exa Z h' x ST ∧ RoadKit.Fld Z h' x ST "value" "[B" (.ref h.size) ∧ RoadKit.Fld Z h' x ST "coder" "B" (.int 0) ∧
  (∃ V : Cell, RoadKit.Arr Z h' h.size V .byte ∧ V.vm = .none ∧ Z.vm.findClass "[B" = some V.cls ∧ V.slots.size = A.slots.size ∧ ∀ j, j < A.slots.size → V.slots[j]? = some (.int (lo8 (cv A j)))) ∧
  ∀ (O n d : String) (w : Value), RoadKit.Fld Z h x O n d w → RoadKit.slotOf Z O n d ≠ RoadKit.slotOf Z ST "value" "[B" → RoadKit.slotOf Z O n d ≠ RoadKit.slotOf Z ST "coder" "B" → RoadKit.Fld Z h' x O n d w
/-- **new String(chars) AT A CALL, IN THE ROAD'S FORM**: for specialBack behind newO: x the fresh String, b the char[] with the cell A -/
theorem back {p : Program} {l : Launch} {e : Env} {R : Room} {s : State} {args : Array Value} {below : List Frame} {len W : Nat} {Z : State} {a0 : Array Value} {h : Heap} (hZ : Z.Warmed39 s.vm) (hw : ∀ d ∈ words, d.before a0 Z = true) {kI : Nat} (wi : (Jvm.Cond.instantiable ST kI).before a0 Z = true)
    {x b : Addr} {A : Cell} {z : Int32} {v0 c0 : Value} (E : RoadKit.Exa Z h x ST) (V : RoadKit.Fld Z h x ST "value" "[B" v0) (C : RoadKit.Fld Z h x ST "coder" "B" c0) (K : RoadKit.Arr Z h b A .char) (hty : Typed .char A) (S : RoadKit.Sta Z h ST "COMPACT_STRINGS" "Z" (.int z)) (hz : ¬ z = 0)
    (l0 : 0 < A.slots.size) (l2 : A.slots.size ≤ 536870912) (hp : ∀ i, i < A.slots.size → ¬ 255 < cv A i) (hfr : 4 ≤ R.frames) (hlo : W + 65 ≤ R.locals) :
    Back l R p e below s args New1.yN len W (fun P a => a = #[.ref x, .ref b] ∧ P.U.heap = h ∧ P.cells + 1 ≤ R.cells ∧ P.slots + A.slots.size ≤ R.slots)
      (fun P _ v B => ∃ L, Q Z x A h v B.U.heap L ∧ B.locs = P.locs ++ L ∧ B.cells = P.cells + 1 ∧ B.slots = P.slots + A.slots.size) := by
  intro m meth c P g ig mk a X hg hsize hdg hW hn hp'
  obtain ⟨rfl, rfl, r1, r2⟩ := hp'
  have al : Z.vm.Alike P.U.vm := hZ.alike.trans X.warmed.alike
  obtain ⟨D, cfV, kV, iV, fV, hD, gV, stV, knV, obV, asV, slV⟩ := id V
  obtain ⟨D', cfC, kC, iC, fC, hD', gC, stC, -, -, asC, slC⟩ := id C
  cases hD.symm.trans hD'
  obtain ⟨D2, kD, e1, e2, e3, e4, e5⟩ := id E
  cases hD.symm.trans e1
  obtain ⟨c2, k2, i1, i2, i3, -⟩ := Cond.instantiable_spec wi
  cases e2.symm.trans i1
  cases e3.symm.trans i2
  obtain ⟨kU, u1, u2⟩ := al.2.2 _ _ e3
  have hB : Blank ST x D P.U := ⟨hD, ⟨knV, fun q hq => by rw [hq] at obV; cases obV⟩, by rw [al.findClass]; exact e2, kU, u1, by rw [u2]; exact i3, by rw [u2]; exact e5 i3⟩
  have F1 : Found ST "value" "[B" fV P.U := ⟨SBG.found_only al ⟨cfV, kV, iV, gV⟩, stV⟩
  have F2 : Found ST "coder" "B" fC P.U := ⟨SBG.found_only al ⟨cfC, kC, iC, gC⟩, stC⟩
  have hA : Ch b A P.U := ⟨⟨K.1, State.isArrayOf_alike al K.2.1, K.2.2, by omega⟩, hty⟩
  have hS : StaticIs P.U ST "COMPACT_STRINGS" "Z" (.int z) := by
    obtain ⟨cfS, iS, kS, fS, st, cS, t1, t2, t3, t4, t5, t6, t7⟩ := S
    exact StaticIs.there (s := { Z with heap := P.U.heap }) ⟨cfS, iS, kS, fS, st, cS, t1, t2, t3, t4, t5, (fun q => by rw [q] at t6; cases t6), t7⟩ al rfl
  obtain ⟨v, B, X', ⟨⟨hv, E', V', q1, q2, q3, q4, q5, q6, q7, q8, q9, q10, q11⟩, hl, hc, hs⟩, st⟩ := New1.pays x D fV fC b A z (tab_of (moved hZ hw)) hfr hlo m meth c P g ig mk _ X hg hsize hdg hW hn ⟨r1, r2, rfl, hB, F1, F2, hA, hS, hz, l0, l2, hp⟩
  have al' : Z.vm.Alike B.U.vm := hZ.alike.trans X'.warmed.alike
  have hsz : E'.slots.size = D.slots.size := by
    obtain ⟨-, -, -, kB, w1, w2, w3⟩ := q1
    obtain ⟨kB', y1, y2⟩ := al'.2.2 _ _ e3
    rw [q2.2.1] at w1
    cases w1.symm.trans y1
    rw [w3, e5 i3, y2]
  refine ⟨v, B, X', ⟨_, ⟨hv, ?_, ⟨by omega, fun y cy hy hn' => q10 y cy (by simpa using hn') hy, fun y cy hy => ?_⟩, q11, ⟨E', _, q1.1, by rw [q2.2.1]; exact e2, by rw [q2.2.1]; exact e3, by rw [q2.1]; exact obV, fun _ => by rw [hsz]; exact e5 i3⟩,
    ⟨E', cfV, kV, iV, fV, q1.1, gV, stV, by rw [q2.1]; exact knV, by rw [q2.1]; exact obV, by rw [q2.2.1]; exact asV, q3⟩, ⟨E', cfC, kC, iC, fC, q1.1, gC, stC, by rw [q2.1]; exact knV, by rw [q2.1]; exact obV, by rw [q2.2.1]; exact asC, q4⟩,
    ⟨V', ⟨q5.1, State.isArrayOf_alike al'.symm q5.2.1, q5.2.2.1⟩, q6, by rw [← al'.findClass]; exact q7, q8, fun j hj => by have := q9 j hj; rwa [Nat.zero_add] at this⟩, fun O n d w F n1 n2 => ?_⟩, hl, hc, hs⟩, st⟩
  · intro y hy
    simp only [List.mem_cons, List.not_mem_nil, or_false] at hy
    rcases hy with rfl | rfl <;> rfl
  · by_cases q : y = x
    · subst q
      cases hD.symm.trans hy
      exact ⟨E', q1.1, q2.2.1, q2.1, hsz⟩
    · exact ⟨cy, q10 y cy q hy, rfl, rfl, rfl⟩
  · obtain ⟨D3, cf, k, i, f, g1, g2, g3, g4, g5, g6, g7⟩ := F
    cases hD.symm.trans g1
    simp only [RoadKit.slotOf, g2, gV, gC, Option.map_some, Option.getD_some] at n1 n2
    exact ⟨E', cf, k, i, f, q1.1, g2, g3, by rw [q2.1]; exact g4, by rw [q2.1]; exact g5, by rw [q2.2.1]; exact g6, by rw [q2.2.2 f.slot (by simp [n1, n2])]; exact g7⟩
end StrChars.Road
namespace StrChars.Road
open Jvm Sem ClassFile Op Lib Jvm.Stand Jvm.Free Jvm.Free.XT
/-- WHAT COMES BACK, the byte[] as a list of values -/
def QA (Z : State) (x : Addr) (zn : Int32) (cs : List Int32) (h : Heap) (v : Option Value) (h' : Heap) (L : List Loc) : Prop := v = none ∧ (∀ y ∈ L, y.base = x) ∧ RoadKit.Keep h h' [x] ∧ h'.size = h.size + 1 ∧ RoadKit.Exa Z h' x ST ∧ RoadKit.Fld Z h' x ST "value" "[B" (.ref h.size) ∧ RoadKit.Fld Z h' x ST "coder" "B" (.int 0) ∧
  (∃ kb, Z.vm.findClass "[B" = some kb ∧ RoadKit.Arv Z h' h.size kb .byte zn (cs.map fun c => .int (lo8 c)) (.int 0)) ∧
  ∀ (O n d : String) (w : Value), RoadKit.Fld Z h x O n d w → RoadKit.slotOf Z O n d ≠ RoadKit.slotOf Z ST "value" "[B" → RoadKit.slotOf Z O n d ≠ RoadKit.slotOf Z ST "coder" "B" → RoadKit.Fld Z h' x O n d w
/-- **new String(chars) AT A CALL, THE ARRAYS AS LISTS**: the char[] at b holds cs, not empty, no char above 255 -/
theorem backArv {p : Program} {l : Launch} {e : Env} {R : Room} {s : State} {args : Array Value} {below : List Frame} {len W : Nat} {Z : State} {a0 : Array Value} {h : Heap} (hZ : Z.Warmed39 s.vm) (hw : ∀ d ∈ words, d.before a0 Z = true) {kI : Nat} (wi : (Jvm.Cond.instantiable ST kI).before a0 Z = true)
    {x b : Addr} {k : ClassId} {zn z : Int32} {cs : List Int32} {dv v0 c0 : Value} (E : RoadKit.Exa Z h x ST) (V : RoadKit.Fld Z h x ST "value" "[B" v0) (C : RoadKit.Fld Z h x ST "coder" "B" c0) (K : RoadKit.Arv Z h b k .char zn (cs.map Value.int) dv) (S : RoadKit.Sta Z h ST "COMPACT_STRINGS" "Z" (.int z)) (hz : ¬ z = 0)
    (hlen : zn.toNatClampNeg = cs.length) (h0 : 0 < cs.length) (hbig : cs.length ≤ 536870912) (hall : ∀ c ∈ cs, ¬ 255 < c) (hfr : 4 ≤ R.frames) (hlo : W + 65 ≤ R.locals) :
    Back l R p e below s args New1.yN len W (fun P a => a = #[.ref x, .ref b] ∧ P.U.heap = h ∧ P.cells + 1 ≤ R.cells ∧ P.slots + cs.length ≤ R.slots)
      (fun P _ v B => ∃ L, QA Z x zn cs h v B.U.heap L ∧ B.locs = P.locs ++ L ∧ B.cells = P.cells + 1 ∧ B.slots = P.slots + cs.length) := by
  obtain ⟨A, K1, K2, K3, K4, K5, K6⟩ := K
  have e : A.slots.size = cs.length := K3.trans hlen
  have hat : ∀ (i : Nat) (hi : i < cs.length), A.slots[i]? = some (.int cs[i]) := fun i hi => by rw [K5 i (by omega)]; simp [List.getD_eq_getElem?_getD, hi]
  have hcv : ∀ (i : Nat) (hi : i < cs.length), cv A i = cs[i] := fun i hi => by unfold cv; rw [hat i hi]
  have hty : Typed .char A := fun i v hv => by
    have hi : i < A.slots.size := (Array.getElem?_eq_some_iff.mp hv).1
    have q := K5 i hi
    rw [hv] at q
    rw [Option.some.inj q]
    exact K6 i hi
  refine Back.mono (back hZ hw wi E V C K1 hty S hz (by omega) (by omega) (fun i hi => by rw [hcv i (by omega)]; exact hall _ (List.getElem_mem _)) hfr hlo) (fun P a hp => ⟨hp.1, hp.2.1, hp.2.2.1, by rw [e]; exact hp.2.2.2⟩) (fun P a v B hp hq => ?_)
  obtain ⟨L, ⟨q1, q2, q3, q4, q5, q6, q7, ⟨V', v1, v2, v3, v4, v5⟩, q9⟩, hl, hc, hs⟩ := hq
  refine ⟨L, ⟨q1, q2, q3, q4, q5, q6, q7, ⟨V'.cls, v3, V', v1, rfl, by rw [v4, e, hlen], K4, fun i hi => ?_, fun i hi => ?_⟩, q9⟩, hl, hc, by rw [hs, e]⟩
  · have hi' : i < cs.length := by omega
    rw [v5 i (by omega), hcv i hi']; simp [List.getD_eq_getElem?_getD, hi']
  · have hi' : i < cs.length := by omega
    simp only [List.getD_eq_getElem?_getD, List.getElem?_map, List.getElem?_eq_getElem hi', Option.map_some, Option.getD_some]
    exact fits_lo8 _
end StrChars.Road
namespace StrChars.Road
open Jvm Sem ClassFile Op Lib Jvm.Stand Jvm.Free Jvm.Free.XT
/-- WHAT COMES BACK, in the writer's own shape -/
def QV (Z : State) (x : Addr) (N : Int32) (bs : List Int32) (h : Heap) (n0 : Nat) (v : Option Value) (h' : Heap) (L : List Loc) : Prop := v = none ∧ RoadKit.Fr n0 L ∧ RoadKit.Keep h h' [x] ∧ RoadKit.Exa Z h' x ST ∧ RoadKit.Fld Z h' x ST "coder" "B" (.int 0) ∧
  ∃ (t : Addr) (kb : ClassId), n0 ≤ t ∧ h.size ≤ t ∧ ¬ t = x ∧ RoadKit.Fld Z h' x ST "value" "[B" (.ref t) ∧ RoadKit.Arv Z h' t kb .byte N (bs.map Value.int) (.int 0)
/-- **new String(chars) AT A CALL, FOR THE WRITER**: a char[] of n known ints, each 0 to 255 -/
theorem backV {p : Program} {l : Launch} {e : Env} {R : Room} {s : State} {args : Array Value} {below : List Frame} {len W : Nat} {Z : State} {a0 : Array Value} {h : Heap} (hZ : Z.Warmed39 s.vm) (hw : ∀ d ∈ words, d.before a0 Z = true) {kI : Nat} (wi : (Jvm.Cond.instantiable ST kI).before a0 Z = true)
    {x b : Addr} {kC : ClassId} {cs bs : List Int32} {d v0 c0 : Value} {z N : Int32} {n n0 : Nat} (hx0 : n0 ≤ x) (hh0 : n0 ≤ h.size) (E : RoadKit.Exa Z h x ST) (V : RoadKit.Fld Z h x ST "value" "[B" v0) (C : RoadKit.Fld Z h x ST "coder" "B" c0) (K : RoadKit.Arv Z h b kC .char N (cs.map Value.int) d) (S : RoadKit.Sta Z h ST "COMPACT_STRINGS" "Z" (.int z)) (hz : ¬ z = 0)
    (hn : cs.length = n) (hN : N = Int32.ofNat n) (l0 : 0 < n) (l2 : n ≤ 4000) (hp : ∀ c ∈ cs, ¬ c < 0 ∧ ¬ (255 : Int32) < c) (hb : bs = cs.map (fun c => c.toInt8.toInt32)) (hfr : 4 ≤ R.frames) (hlo : W + 65 ≤ R.locals) :
    Back l R p e below s args (⟨"java/lang/String", "<init>", "([C)V"⟩ : MethodName) len W (fun P a => a = #[.ref x, .ref b] ∧ P.U.heap = h ∧ P.cells + 1 ≤ R.cells ∧ P.slots + n ≤ R.slots)
      (fun P _ v B => ∃ L, QV Z x N bs h n0 v B.U.heap L ∧ B.locs = P.locs ++ L ∧ B.cells = P.cells + 1 ∧ B.slots = P.slots + n) := by
  subst hn hN hb
  refine Back.mono (backArv hZ hw wi E V C K S hz (n32 (by omega)) l0 (by omega) (fun c hc => (hp c hc).2) hfr hlo) (fun P a hp => hp) (fun P a v B hp hq => ?_)
  obtain ⟨L, ⟨q1, q2, q3, q4, q5, q6, q7, ⟨kb, v1, v2⟩, q9⟩, hl, hc, hs⟩ := hq
  exact ⟨L, ⟨q1, fun y hy => by rw [q2 y hy]; exact hx0, q3, q5, q7, h.size, kb, hh0, Nat.le_refl _, Nat.ne_of_gt E.lt, q6, by rw [List.map_map]; exact v2⟩, hl, hc, hs⟩
end StrChars.Road
end Jvm.Pilot.@@N@@

namespace Jvm.RoadKit
open Sem ClassFile Op Lib Jvm.Stand Jvm.Free Jvm.LawKit
section New
variable {p : Program} {l : Launch} {e : Env} {R : Room} {s : State} {m : MethodId} {args : Array Value} {below : List Frame} {meth : Method} {c : Code} {T : State} {locs : List Loc} {cells slots : Nat}
theorem retI (X : Stand p l e R s m args below meth c T locs cells slots) (hx : p.tables.exec = Jvm.exec) {pc : Nat} {Ls : Array Slot} {z : Int32} {rest : List Value} (hret : meth.sig.returnType = some .int) (hd : decode c.code pc = .ok (.ireturn, 1)) {fs : List Frame}
    (hl : ∀ (f : JFrame) (acts : List Action), f.method = m → f.locked = none → f.entered = [] → (doReturn e (T.setTop f) acts (some (.int z))).1 = T.setFrames fs) : Steps p.tables e below (T.setTop (mkF m pc Ls (.int z :: rest))) (T.setFrames fs) := by
  have hm' : T.vm.method? m = some meth := X.method'
  have hn : narrow .int (.int z) = .int z := rfl
  show Steps p.tables e below (T.setTop { method := m, pc := pc, locals := Ls, stack := _ :: rest, locked := none }) _
  jvm_step X.here [X.here.top, hx, hd, hm', hret, hn]
  first | (intro acts; rw [hl _ acts rfl rfl rfl]) | rw [hl _ _ rfl rfl rfl]
  exact Steps.refl _
end New
end Jvm.RoadKit
namespace Jvm.Pilot.@@N@@
open Jvm Jvm.ClassFile Sem Op Lib Jvm.Free Jvm.Stand Jvm.LawKit Jvm.RoadKit Bundle Jvm.Pilot.@@N@@.Jvm.D
/-- what is still to be run from the state A on: it ends, returned, and Q says what it leaves -/
def own_Gl (FE : State → Outcome → State → List Loc → Nat → Nat → Prop) (p : Program) (e : Env) (below : List Frame) (s : State) (Q : Option Value → Heap → List Loc → Prop) (C N : Nat) (A : State) : Prop :=
  ∃ s₂ o, Steps p.tables e below A s₂ ∧ s₂.status = .running ∧ Ended s₂ below o ∧ ∃ v L, o = .returned v ∧ Q v s₂.heap L ∧ FE s o s₂ L C N
theorem own_st {FE : State → Outcome → State → List Loc → Nat → Nat → Prop} {p : Program} {e : Env} {below : List Frame} {s : State} {Q : Option Value → Heap → List Loc → Prop} {C N : Nat} {A A' : State} (h : ∀ t, Steps p.tables e below A' t → Steps p.tables e below A t) (k : own_Gl FE p e below s Q C N A') : own_Gl FE p e below s Q C N A := by
  obtain ⟨s2, o, h1, r⟩ := k
  exact ⟨s2, o, h _ h1, r⟩
theorem own_tr {FE : State → Outcome → State → List Loc → Nat → Nat → Prop} {p : Program} {e : Env} {below : List Frame} {s : State} {Q : Option Value → Heap → List Loc → Prop} {C N : Nat} {A A' : State} (h : Steps p.tables e below A A') (k : own_Gl FE p e below s Q C N A') : own_Gl FE p e below s Q C N A := by
  obtain ⟨s2, o, h1, r⟩ := k
  exact ⟨s2, o, h.trans h1, r⟩
theorem own_ret {p : Program} {l : Launch} {e : Env} {R : Room} {s : State} {m : MethodId} {args : Array Value} {below : List Frame} {meth : Method} {c : Code} {T : State} {locs : List Loc} {cells slots : Nat} {Q : Option Value → Heap → List Loc → Prop} {C N : Nat} {A : State}
    (X : Stand p l e R s m args below meth c T locs cells slots) {v : Option Value} (hv : meth.sig.returnType = none → v = none) (hlocks : meth.locks = false) (hC : cells ≤ C) (hN : slots ≤ N) (q : Q v T.heap locs)
    (h : ∀ fs, (∀ (f : JFrame) (acts : List Action), f.method = m → f.locked = none → f.entered = [] → (doReturn e (T.setTop f) acts v).1 = T.setFrames fs) → Steps p.tables e below A (T.setFrames fs)) : own_Gl FrameEnd p e below s Q C N A := by
  obtain ⟨fs, hr, hrun, hended, hW, hsame⟩ := X.leave (v := v) hv hlocks
  exact ⟨_, _, h fs hr, hrun, hended, v, locs, rfl, q, ⟨v, rfl⟩, hW, hsame.mono hC hN⟩
theorem own_retW {p : Program} {l : Launch} {e : Env} {R : Room} {s : State} {vm0 : Vm} {m : MethodId} {args : Array Value} {below : List Frame} {meth : Method} {c : Code} {T : State} {locs : List Loc} {cells slots : Nat} {Q : Option Value → Heap → List Loc → Prop} {C N : Nat} {A : State}
    (X : Stand p l e R (s.setVm vm0) m args below meth c T locs cells slots) {k0 : Nat} (hS : s.Since vm0 k0) (hk : k0 ≤ T.heap.size) {v : Option Value} (hv : meth.sig.returnType = none → v = none) (hlocks : meth.locks = false) (hC : cells ≤ C) (hN : slots ≤ N) (q : Q v T.heap locs)
    (h : ∀ fs, (∀ (f : JFrame) (acts : List Action), f.method = m → f.locked = none → f.entered = [] → (doReturn e (T.setTop f) acts v).1 = T.setFrames fs) → Steps p.tables e below A (T.setFrames fs)) : own_Gl ReturnedEndW p e below s Q C N A := by
  obtain ⟨fs, hr, hrun, hended, h1, h2, h3, h4⟩ := X.leaveW hS hk (v := v) hv hlocks
  exact ⟨_, _, h fs hr, hrun, hended, v, locs, rfl, q, h1, h2, h3, h4.mono hC hN⟩
theorem own_at_heap {T : State} {h : Heap} {a : Addr} {cl : Cell} (e : T.heap = h) (q : h[a]? = some cl) : T.heap[a]? = some cl := by rw [e]; exact q
theorem own_kext {h0 h : Heap} (K : Keep h0 h ([] : List Addr)) : Ext h0 h := ⟨K.1, fun a c q => K.2.1 a c q nin0⟩
def own_FEH (Z : State) (EL : List (String × Nat)) (s : State) (o : Outcome) (t : State) (L : List Loc) (k n : Nat) : Prop := CHr Z EL s.vm s.heap t.vm t.heap ∧ ReturnedEndW s o t L k n
theorem own_retH {Z : State} {EL : List (String × Nat)} {a0 : Array Value} {p : Program} {l : Launch} {e : Env} {R : Room} {s : State} {vm0 : Vm} {m : MethodId} {args : Array Value} {below : List Frame} {meth : Method} {c : Code} {T : State} {locs : List Loc} {cells slots : Nat} {Q : Option Value → Heap → List Loc → Prop} {C N : Nat} {A : State} {h : Heap}
    (X : Stand p l e R (s.setVm vm0) m args below meth c T locs cells slots) {k0 : Nat} (hS : s.Since vm0 k0) (hk : k0 ≤ T.heap.size) (hZ : Z.Warmed39 vm0) (hEL : EW Z a0 EL) (eT : T.heap = h) (hR : CHr Z EL s.vm s.heap vm0 h) {v : Option Value} (hv : meth.sig.returnType = none → v = none) (hlocks : meth.locks = false) (hC : cells ≤ C) (hN : slots ≤ N) (q : Q v T.heap locs)
    (h' : ∀ fs, (∀ (f : JFrame) (acts : List Action), f.method = m → f.locked = none → f.entered = [] → (doReturn e (T.setTop f) acts v).1 = T.setFrames fs) → Steps p.tables e below A (T.setFrames fs)) : own_Gl (own_FEH Z EL) p e below s Q C N A := by
  obtain ⟨fs, hr, hrun, hended, h1, h2, h3, h4⟩ := X.leaveW hS hk (v := v) hv hlocks
  subst eT
  exact ⟨_, _, h' fs hr, hrun, hended, v, locs, rfl, q, (show CHr Z EL s.vm s.heap T.vm T.heap from hR.trans (CHv.at X hZ hEL hR.1)), h1, h2, h3, h4.mono hC hN⟩
theorem own_lgt {x y : Int64} (h : y < x) : (0 : Int32) < lcmpW x y := by rw [lcW]; exact (lc_gt _ _).mpr h
theorem own_ngt {x y : Int64} (h : ¬ y < x) : ¬ (0 : Int32) < lcmpW x y := by rw [lcW]; exact fun q => h ((lc_gt _ _).mp q)
theorem own_llt {x y : Int64} (h : x < y) : lcmpW x y < (0 : Int32) := by rw [lcW]; exact (lc_lt _ _).mpr h
theorem own_nlt {x y : Int64} (h : ¬ x < y) : ¬ lcmpW x y < (0 : Int32) := by rw [lcW]; exact fun q => h ((lc_lt _ _).mp q)
theorem own_leq {x y : Int64} (h : x = y) : lcmpW x y = (0 : Int32) := by rw [lcW]; exact (lc_eq _ _).mpr h
theorem own_neq {x y : Int64} (h : ¬ x = y) : ¬ lcmpW x y = (0 : Int32) := by rw [lcW]; exact fun q => h ((lc_eq _ _).mp q)
theorem own_lrem {p : Program} {l : Launch} {e : Env} {R : Room} {s : State} {m : MethodId} {args : Array Value} {below : List Frame} {meth : Method} {c : Code} {T : State} {locs : List Loc} {cells slots : Nat} {g : JFrame} {target : State} (X : Stand p l e R s m args below meth c T locs cells slots) (hx : p.tables.exec = Jvm.exec) (hg : g.method = m) {x y : Int64} {rest : List Value} (hd : decode c.code g.pc = .ok (.lrem, 1)) (hs : g.stack = .long y :: .long x :: rest) (hy : y ≠ 0)
    (hr : Steps p.tables e below (T.setTop { g with pc := g.pc + 1, stack := .long (x - (x / y) * y) :: rest }) target) : Steps p.tables e below (T.setTop g) target := XS.lrem X.here hx hg hd hs hy hr
theorem own_eqi {t : Term} {n : Int32} {args : Array Value} {s : State} (h : (Jvm.Cond.eq t (.int n)).value args s none s [] = some true) : t.eval args s none [] s = some (.int n) := by
  have hn : (Term.int n).eval args s none [] s = some (.int n) := rfl
  simp only [Cond.value, hn] at h
  cases hv : t.eval args s none [] s with
  | none => simp [hv] at h
  | some v => cases v <;> simp_all
theorem own_m31 (x : Int32) : (x &&& (2147483647 : Int32)).toInt = x.toInt % 2 ^ 31 := Jvm.Kit.i32_mask x 2147483647 (k := 31) (by decide) (by decide)
theorem own_rem (x k : Int32) (n : Nat) (hk : k.toInt = n) (hn : 0 < n) : 0 ≤ ((x &&& (2147483647 : Int32)) % k).toInt ∧ ((x &&& (2147483647 : Int32)) % k).toInt < n := by
  have m := own_m31 x
  rw [Jvm.Kit.i32_rem_nonneg (by rw [m]; omega), hk]
  exact ⟨Int.emod_nonneg _ (by omega), Int.emod_lt_of_pos _ (by omega)⟩
theorem own_split5 {z : Int32} (h0 : 0 ≤ z.toInt) (h1 : z.toInt < 5) : z = (0 : Int32) ∨ z = (1 : Int32) ∨ z = (2 : Int32) ∨ z = (3 : Int32) ∨ z = (4 : Int32) := by
  have e : ∀ k : Int32, z.toInt = k.toInt → z = k := fun k h => Int32.toInt_inj.mp h
  have q : z.toInt = 0 ∨ z.toInt = 1 ∨ z.toInt = 2 ∨ z.toInt = 3 ∨ z.toInt = 4 := by omega
  rcases q with h | h | h | h | h
  · exact Or.inl (e 0 (h.trans (by decide)))
  · exact Or.inr (Or.inl (e 1 (h.trans (by decide))))
  · exact Or.inr (Or.inr (Or.inl (e 2 (h.trans (by decide)))))
  · exact Or.inr (Or.inr (Or.inr (Or.inl (e 3 (h.trans (by decide))))))
  · exact Or.inr (Or.inr (Or.inr (Or.inr (e 4 (h.trans (by decide))))))
theorem own_wS {a0 : Array Value} {Z : State} (hw : ∀ d ∈ tables_1, d.before a0 Z = true) : ∀ a ∈ Bundle.stringAtoms, a.before a0 Z = true := by
  intro a ha
  simp only [Bundle.stringAtoms, List.mem_cons, List.not_mem_nil, or_false] at ha
  rcases ha with rfl | rfl | rfl | rfl | rfl | rfl | rfl
  · exact (hw _ (List.mem_of_getElem? (i := 11) rfl))
  · exact (hw _ (List.mem_of_getElem? (i := 10) rfl))
  · exact (hw _ (List.mem_of_getElem? (i := 27) rfl))
  · exact (hw _ (List.mem_of_getElem? (i := 37) rfl))
  · exact (hw _ (List.mem_of_getElem? (i := 35) rfl))
  · exact (hw _ (List.mem_of_getElem? (i := 49) rfl))
  · exact (hw _ (List.mem_of_getElem? (i := 50) rfl))
theorem own_not {d : Jvm.Cond} {args : Array Value} {s : State} (h : d.value args s none s [] = some true) : ¬ (Jvm.Cond.not d).value args s none s [] = some true := by simp [Cond.value, h]
theorem own_ssel {s : State} {args : Array Value} {y : MethodName} {n : Nat} (wi : (Jvm.Cond.instantiable y.cls n).before args s = true) (hp : s.PrivateAt y) (hinst : (Jvm.Cond.instanceMethod y).before args s = true) (hy : y.cls ≠ "java/lang/invoke/MethodHandle" ∧ y.cls ≠ "java/lang/invoke/VarHandle") : (Jvm.Cond.selects y.cls y y).before args s = true := by
  obtain ⟨c2, k2, i1, i2, i3, i4, i5⟩ := Cond.instantiable_spec wi
  exact Stand.selects_self_of_private i1 i2 (by have q := i4; simp only [Bool.or_eq_false_iff] at q; exact q.1) hp hinst hy
def own_min (a b : Int32) : Int32 := if b < a then b else a
def own_max (a b : Int32) : Int32 := if a < b then b else a
def own_num (a i d : Addr) : Int32 := if a = i then 1 else if a = d then 1 else 0
theorem own_b53 (x : Int32) : B53 x.toInt64 := by
  have a := x.toInt_lt; have b := x.le_toInt
  unfold B53
  rw [Jvm.Kit.i64_of_i32]; omega
theorem own_fin (x : Int32) : Jvm.Free.Fl.Fin64 (FP.i2d x) := by rw [i2d_w]; exact Jvm.Free.Fl.l2d_fin _
theorem own_le (x y : Int32) : ¬ (0 : Int32) < cmpValue (FP.dcmp (FP.i2d (own_min x y)) (FP.i2d (own_max x y))) .l := by
  rw [i2d_w, i2d_w, dcmpV_w (own_b53 _) (own_b53 _)]
  refine own_ngt ?_
  rw [Int64.lt_iff_toInt_lt, Jvm.Kit.i64_of_i32, Jvm.Kit.i64_of_i32]
  unfold own_min own_max
  simp only [Int32.lt_iff_toInt_lt]
  split <;> split <;> omega
theorem own_rel {r : Option Ordering} (h : Jvm.Free.Fl.relLe r = true) : ¬ (0 : Int32) < cmpValue r .g := by
  rcases r with _ | (_ | _ | _) <;> revert h <;> decide
theorem own_isf {d : UInt64} (h : Jvm.Free.Fl.Fin64 d) : ¬ (0 : Int32) < cmpValue (FP.dcmp (d &&& 0x7fffffffffffffff) (9218868437227405311 : UInt64)) .g := own_rel ((Jvm.Free.Fl.le_max_iff h.noNaN).mpr h)
def own_pick1 (p : Int32) (a_INTEGER a_DECIMAL a_STRING a_BOOLEAN a_STRINGS : Addr) : Addr := if p = (0 : Int32) then a_INTEGER else if p = (1 : Int32) then a_DECIMAL else if p = (2 : Int32) then a_STRING else if p = (3 : Int32) then a_BOOLEAN else a_STRINGS
theorem own_d1_0 : decode method_2_code 0 = .ok (.iload_n 0, 1) := by decide +kernel
theorem own_d1_1 : decode method_2_code 1 = .ok (.ifCond .ne 7, 3) := by decide +kernel
theorem own_d1_4 : decode method_2_code 4 = .ok (.getstatic 7, 3) := by decide +kernel
theorem own_d1_7 : decode method_2_code 7 = .ok (.areturn, 1) := by decide +kernel
theorem own_d1_8 : decode method_2_code 8 = .ok (.iload_n 0, 1) := by decide +kernel
theorem own_d1_9 : decode method_2_code 9 = .ok (.iconst 1, 1) := by decide +kernel
theorem own_d1_10 : decode method_2_code 10 = .ok (.if_icmp .ne 7, 3) := by decide +kernel
theorem own_d1_13 : decode method_2_code 13 = .ok (.getstatic 13, 3) := by decide +kernel
theorem own_d1_16 : decode method_2_code 16 = .ok (.areturn, 1) := by decide +kernel
theorem own_d1_17 : decode method_2_code 17 = .ok (.iload_n 0, 1) := by decide +kernel
theorem own_d1_18 : decode method_2_code 18 = .ok (.iconst 2, 1) := by decide +kernel
theorem own_d1_19 : decode method_2_code 19 = .ok (.if_icmp .ne 7, 3) := by decide +kernel
theorem own_d1_22 : decode method_2_code 22 = .ok (.getstatic 16, 3) := by decide +kernel
theorem own_d1_25 : decode method_2_code 25 = .ok (.areturn, 1) := by decide +kernel
theorem own_d1_26 : decode method_2_code 26 = .ok (.iload_n 0, 1) := by decide +kernel
theorem own_d1_27 : decode method_2_code 27 = .ok (.iconst 3, 1) := by decide +kernel
theorem own_d1_28 : decode method_2_code 28 = .ok (.if_icmp .ne 7, 3) := by decide +kernel
theorem own_d1_31 : decode method_2_code 31 = .ok (.getstatic 19, 3) := by decide +kernel
theorem own_d1_34 : decode method_2_code 34 = .ok (.areturn, 1) := by decide +kernel
theorem own_d1_35 : decode method_2_code 35 = .ok (.getstatic 22, 3) := by decide +kernel
theorem own_d1_38 : decode method_2_code 38 = .ok (.areturn, 1) := by decide +kernel
theorem own_ef_rm1 (m : MethodId) (p0 : Int32) : entryFrame m #[(.int p0)] 1 = mkF m 0 #[.val (.int p0)] [] := by first | (simp [entryFrame, mkF, argsToLocals, Value.category]; done) | rfl
theorem own_pn0 : plainName "com/example/inexact_search/inexactsearch/engine/AttributeHasDeclaredRangePinLaw" = true := by first | (simp [plainName, overriddenIn]; done) | decide +kernel
def Q1 (Z : State) (p0 : Int32) (a_INTEGER : Addr) (a_DECIMAL : Addr) (a_STRING : Addr) (a_BOOLEAN : Addr) (a_STRINGS : Addr) (h0 : Heap) (n0 : Nat) (v : Option Value) (h : Heap) (L : List Loc) : Prop := v = some (.ref (own_pick1 p0 a_INTEGER a_DECIMAL a_STRING a_BOOLEAN a_STRINGS)) ∧ Fr n0 L ∧ h = h0
set_option maxRecDepth 65536 in
set_option maxHeartbeats 40000000 in
theorem rm1 (l : Launch) (Z : State) (a0 : Array Value) (hw : ∀ d ∈ tables_1, d.before a0 Z = true) (ws : List Jvm.Cond) (p0 : Int32) (a_INTEGER : Addr) (a_DECIMAL : Addr) (a_STRING : Addr) (a_BOOLEAN : Addr) (a_STRINGS : Addr) (h0 : Heap) (n0 : Nat) (Z0 : n0 ≤ h0.size) (S_INTEGER : Sta Z h0 "com/example/inexact_search/inexactsearch/engine/AttributeType" "INTEGER" "Lcom/example/inexact_search/inexactsearch/engine/AttributeType;" (.ref a_INTEGER)) (S_DECIMAL : Sta Z h0 "com/example/inexact_search/inexactsearch/engine/AttributeType" "DECIMAL" "Lcom/example/inexact_search/inexactsearch/engine/AttributeType;" (.ref a_DECIMAL)) (S_STRING : Sta Z h0 "com/example/inexact_search/inexactsearch/engine/AttributeType" "STRING" "Lcom/example/inexact_search/inexactsearch/engine/AttributeType;" (.ref a_STRING)) (S_BOOLEAN : Sta Z h0 "com/example/inexact_search/inexactsearch/engine/AttributeType" "BOOLEAN" "Lcom/example/inexact_search/inexactsearch/engine/AttributeType;" (.ref a_BOOLEAN)) (S_STRINGS : Sta Z h0 "com/example/inexact_search/inexactsearch/engine/AttributeType" "STRINGS" "Lcom/example/inexact_search/inexactsearch/engine/AttributeType;" (.ref a_STRINGS)) :
    MetFree l (⟨"com/example/inexact_search/inexactsearch/engine/AttributeHasDeclaredRangePinLaw", "typeOf", "(I)Lcom/example/inexact_search/inexactsearch/engine/AttributeType;"⟩ : MethodName) (head1 (Jvm.Cond.code (⟨"com/example/inexact_search/inexactsearch/engine/AttributeHasDeclaredRangePinLaw", "typeOf", "(I)Lcom/example/inexact_search/inexactsearch/engine/AttributeType;"⟩ : MethodName) method_2_code 1 (some (.object "com/example/inexact_search/inexactsearch/engine/AttributeType")) :: ws) ({ frames := 0, cells := 0, slots := 0, locals := 0 } : Room)) (fun a U => a = #[(.int p0)] ∧ Z.Warmed39 U.vm ∧ U.heap = h0) (fun _ _ _ _ _ => True) (fun _ U o U' => ∃ v L, o = .returned v ∧ Q1 Z p0 a_INTEGER a_DECIMAL a_STRING a_BOOLEAN a_STRINGS h0 n0 v U'.heap L ∧ FrameEnd U o U' L ({ frames := 0, cells := 0, slots := 0, locals := 0 } : Room).cells ({ frames := 0, cells := 0, slots := 0, locals := 0 } : Room).slots) := by
  refine MetFree.of_bodySF (plainFor_of_name own_pn0) hisR ?_
  intro p e s m args below meth c s₁ Bd hml0 hP hK
  obtain ⟨rfl, hZ, hh⟩ := hP
  have hx := Bd.exec
  have hby := Bd.bytes
  have hml : c.maxLocals = 1 := hml0
  have hown : s.vm.findClass "com/example/inexact_search/inexactsearch/engine/AttributeHasDeclaredRangePinLaw" = some m.cls := findClass_of_methodNamed Bd.named
  have hnm := (name_of_methodNamed Bd.named Bd.method).1
  have hlk : meth.locks = false := BodyLoose.notSynchronized Bd
  have X0 : Stand p l e ({ frames := 0, cells := 0, slots := 0, locals := 0 } : Room) s m #[(.int p0)] below meth c s₁ [] 0 0 := Stand.of_body Bd
  have e0 : s₁.heap = h0 := by rw [← hh, Bd.state]; rfl
  have N0 := Fr.nil n0
  show own_Gl FrameEnd p e below s (Q1 Z p0 a_INTEGER a_DECIMAL a_STRING a_BOOLEAN a_STRINGS h0 n0) ({ frames := 0, cells := 0, slots := 0, locals := 0 } : Room).cells ({ frames := 0, cells := 0, slots := 0, locals := 0 } : Room).slots (s₁.setTop (entryFrame m #[(.int p0)] 1))
  rw [own_ef_rm1 m p0]
  refine own_st (A' := s₁.setTop (mkF m 1 #[.val (.int p0)] [(.int p0)])) (fun tg kt => ?_) ?_
  · show Steps p.tables e below (s₁.setTop (mkF m 0 #[.val (.int p0)] [])) _
    refine XS.iloadN X0.here hx rfl (hb hby own_d1_0) rfl ?_
    exact kt
  by_cases hc1_1 : p0 = (0 : Int32)
  · refine own_st (A' := s₁.setTop (mkF m 4 #[.val (.int p0)] [])) (fun tg kt => ?_) ?_
    · show Steps p.tables e below (s₁.setTop (mkF m 1 #[.val (.int p0)] [(.int p0)])) _
      refine XS.ifNo X0.here hx rfl (hb hby own_d1_1) rfl ((if0 _ _).trans (teq hc1_1).2) ?_
      exact kt
    obtain ⟨T2, X2, e2, st2⟩ := getS2 X0 hx hZ hown (host := "") (Or.inl (hw _ (List.mem_of_getElem? (i := 5) rfl))) Via.refl e0 S_INTEGER (g := (mkF m 4 #[.val (.int p0)] [])) rfl (hb hby own_d1_4)
    refine own_st st2 ?_
    show own_Gl _ _ _ _ _ _ _ _ (T2.setTop (mkF m 7 #[.val (.int p0)] [(.ref a_INTEGER)]))
    refine own_ret X2 (v := some (.ref a_INTEGER)) (fun h => by rw [Bd.returns] at h; cases h) hlk (by decide) (by decide) ?_ (fun fs hr => ?_)
    · show Q1 Z p0 a_INTEGER a_DECIMAL a_STRING a_BOOLEAN a_STRINGS h0 n0 (some (.ref a_INTEGER)) T2.heap _
      rw [e2]
      exact ⟨congrArg (fun z => some (Value.ref z)) (by unfold own_pick1; rw [if_pos hc1_1]), N0, rfl⟩
    · show Steps p.tables e below (T2.setTop (mkF m 7 #[.val (.int p0)] [(.ref a_INTEGER)])) _
      jvm_step X2.here [X2.here.top, hx, (hb hby own_d1_7), X2.method', Bd.returns, Value.isRef, FieldType.isReference]
      first | (intro acts; rw [hr _ acts rfl rfl rfl]) | rw [hr _ _ rfl rfl rfl]
      exact Steps.refl _
  · refine own_st (A' := s₁.setTop (mkF m 10 #[.val (.int p0)] [(.int (1 : Int32)), (.int p0)])) (fun tg kt => ?_) ?_
    · show Steps p.tables e below (s₁.setTop (mkF m 1 #[.val (.int p0)] [(.int p0)])) _
      refine XS.ifYes X0.here hx rfl (pc0 := 1) (pc' := 8) rfl (hb hby own_d1_1) rfl ((if0 _ _).trans (feq hc1_1).2) (by decide) (by decide) ?_
      show Steps p.tables e below (s₁.setTop (mkF m 8 #[.val (.int p0)] [])) _
      refine XS.iloadN X0.here hx rfl (hb hby own_d1_8) rfl ?_
      show Steps p.tables e below (s₁.setTop (mkF m 9 #[.val (.int p0)] [(.int p0)])) _
      refine XS.iconst X0.here hx rfl (hb hby own_d1_9) ?_
      exact kt
    by_cases hc10_3 : p0 = (1 : Int32)
    · refine own_st (A' := s₁.setTop (mkF m 13 #[.val (.int p0)] [])) (fun tg kt => ?_) ?_
      · show Steps p.tables e below (s₁.setTop (mkF m 10 #[.val (.int p0)] [(.int (1 : Int32)), (.int p0)])) _
        refine XS.icmpNo X0.here hx rfl (hb hby own_d1_10) rfl (teq hc10_3).2 ?_
        exact kt
      obtain ⟨T4, X4, e4, st4⟩ := getS2 X0 hx hZ hown (host := "") (Or.inl (hw _ (List.mem_of_getElem? (i := 138) rfl))) Via.refl e0 S_DECIMAL (g := (mkF m 13 #[.val (.int p0)] [])) rfl (hb hby own_d1_13)
      refine own_st st4 ?_
      show own_Gl _ _ _ _ _ _ _ _ (T4.setTop (mkF m 16 #[.val (.int p0)] [(.ref a_DECIMAL)]))
      refine own_ret X4 (v := some (.ref a_DECIMAL)) (fun h => by rw [Bd.returns] at h; cases h) hlk (by decide) (by decide) ?_ (fun fs hr => ?_)
      · show Q1 Z p0 a_INTEGER a_DECIMAL a_STRING a_BOOLEAN a_STRINGS h0 n0 (some (.ref a_DECIMAL)) T4.heap _
        rw [e4]
        exact ⟨congrArg (fun z => some (Value.ref z)) (by unfold own_pick1; rw [if_neg hc1_1, if_pos hc10_3]), N0, rfl⟩
      · show Steps p.tables e below (T4.setTop (mkF m 16 #[.val (.int p0)] [(.ref a_DECIMAL)])) _
        jvm_step X4.here [X4.here.top, hx, (hb hby own_d1_16), X4.method', Bd.returns, Value.isRef, FieldType.isReference]
        first | (intro acts; rw [hr _ acts rfl rfl rfl]) | rw [hr _ _ rfl rfl rfl]
        exact Steps.refl _
    · refine own_st (A' := s₁.setTop (mkF m 19 #[.val (.int p0)] [(.int (2 : Int32)), (.int p0)])) (fun tg kt => ?_) ?_
      · show Steps p.tables e below (s₁.setTop (mkF m 10 #[.val (.int p0)] [(.int (1 : Int32)), (.int p0)])) _
        refine XS.icmpYes X0.here hx rfl (pc0 := 10) (pc' := 17) rfl (hb hby own_d1_10) rfl (feq hc10_3).2 (by decide) (by decide) ?_
        show Steps p.tables e below (s₁.setTop (mkF m 17 #[.val (.int p0)] [])) _
        refine XS.iloadN X0.here hx rfl (hb hby own_d1_17) rfl ?_
        show Steps p.tables e below (s₁.setTop (mkF m 18 #[.val (.int p0)] [(.int p0)])) _
        refine XS.iconst X0.here hx rfl (hb hby own_d1_18) ?_
        exact kt
      by_cases hc19_5 : p0 = (2 : Int32)
      · refine own_st (A' := s₁.setTop (mkF m 22 #[.val (.int p0)] [])) (fun tg kt => ?_) ?_
        · show Steps p.tables e below (s₁.setTop (mkF m 19 #[.val (.int p0)] [(.int (2 : Int32)), (.int p0)])) _
          refine XS.icmpNo X0.here hx rfl (hb hby own_d1_19) rfl (teq hc19_5).2 ?_
          exact kt
        obtain ⟨T6, X6, e6, st6⟩ := getS2 X0 hx hZ hown (host := "") (Or.inl (hw _ (List.mem_of_getElem? (i := 76) rfl))) Via.refl e0 S_STRING (g := (mkF m 22 #[.val (.int p0)] [])) rfl (hb hby own_d1_22)
        refine own_st st6 ?_
        show own_Gl _ _ _ _ _ _ _ _ (T6.setTop (mkF m 25 #[.val (.int p0)] [(.ref a_STRING)]))
        refine own_ret X6 (v := some (.ref a_STRING)) (fun h => by rw [Bd.returns] at h; cases h) hlk (by decide) (by decide) ?_ (fun fs hr => ?_)
        · show Q1 Z p0 a_INTEGER a_DECIMAL a_STRING a_BOOLEAN a_STRINGS h0 n0 (some (.ref a_STRING)) T6.heap _
          rw [e6]
          exact ⟨congrArg (fun z => some (Value.ref z)) (by unfold own_pick1; rw [if_neg hc1_1, if_neg hc10_3, if_pos hc19_5]), N0, rfl⟩
        · show Steps p.tables e below (T6.setTop (mkF m 25 #[.val (.int p0)] [(.ref a_STRING)])) _
          jvm_step X6.here [X6.here.top, hx, (hb hby own_d1_25), X6.method', Bd.returns, Value.isRef, FieldType.isReference]
          first | (intro acts; rw [hr _ acts rfl rfl rfl]) | rw [hr _ _ rfl rfl rfl]
          exact Steps.refl _
      · refine own_st (A' := s₁.setTop (mkF m 28 #[.val (.int p0)] [(.int (3 : Int32)), (.int p0)])) (fun tg kt => ?_) ?_
        · show Steps p.tables e below (s₁.setTop (mkF m 19 #[.val (.int p0)] [(.int (2 : Int32)), (.int p0)])) _
          refine XS.icmpYes X0.here hx rfl (pc0 := 19) (pc' := 26) rfl (hb hby own_d1_19) rfl (feq hc19_5).2 (by decide) (by decide) ?_
          show Steps p.tables e below (s₁.setTop (mkF m 26 #[.val (.int p0)] [])) _
          refine XS.iloadN X0.here hx rfl (hb hby own_d1_26) rfl ?_
          show Steps p.tables e below (s₁.setTop (mkF m 27 #[.val (.int p0)] [(.int p0)])) _
          refine XS.iconst X0.here hx rfl (hb hby own_d1_27) ?_
          exact kt
        by_cases hc28_7 : p0 = (3 : Int32)
        · refine own_st (A' := s₁.setTop (mkF m 31 #[.val (.int p0)] [])) (fun tg kt => ?_) ?_
          · show Steps p.tables e below (s₁.setTop (mkF m 28 #[.val (.int p0)] [(.int (3 : Int32)), (.int p0)])) _
            refine XS.icmpNo X0.here hx rfl (hb hby own_d1_28) rfl (teq hc28_7).2 ?_
            exact kt
          obtain ⟨T8, X8, e8, st8⟩ := getS2 X0 hx hZ hown (host := "") (Or.inl (hw _ (List.mem_of_getElem? (i := 74) rfl))) Via.refl e0 S_BOOLEAN (g := (mkF m 31 #[.val (.int p0)] [])) rfl (hb hby own_d1_31)
          refine own_st st8 ?_
          show own_Gl _ _ _ _ _ _ _ _ (T8.setTop (mkF m 34 #[.val (.int p0)] [(.ref a_BOOLEAN)]))
          refine own_ret X8 (v := some (.ref a_BOOLEAN)) (fun h => by rw [Bd.returns] at h; cases h) hlk (by decide) (by decide) ?_ (fun fs hr => ?_)
          · show Q1 Z p0 a_INTEGER a_DECIMAL a_STRING a_BOOLEAN a_STRINGS h0 n0 (some (.ref a_BOOLEAN)) T8.heap _
            rw [e8]
            exact ⟨congrArg (fun z => some (Value.ref z)) (by unfold own_pick1; rw [if_neg hc1_1, if_neg hc10_3, if_neg hc19_5, if_pos hc28_7]), N0, rfl⟩
          · show Steps p.tables e below (T8.setTop (mkF m 34 #[.val (.int p0)] [(.ref a_BOOLEAN)])) _
            jvm_step X8.here [X8.here.top, hx, (hb hby own_d1_34), X8.method', Bd.returns, Value.isRef, FieldType.isReference]
            first | (intro acts; rw [hr _ acts rfl rfl rfl]) | rw [hr _ _ rfl rfl rfl]
            exact Steps.refl _
        · refine own_st (A' := s₁.setTop (mkF m 35 #[.val (.int p0)] [])) (fun tg kt => ?_) ?_
          · show Steps p.tables e below (s₁.setTop (mkF m 28 #[.val (.int p0)] [(.int (3 : Int32)), (.int p0)])) _
            refine XS.icmpYes X0.here hx rfl (pc0 := 28) (pc' := 35) rfl (hb hby own_d1_28) rfl (feq hc28_7).2 (by decide) (by decide) ?_
            exact kt
          obtain ⟨T9, X9, e9, st9⟩ := getS2 X0 hx hZ hown (host := "") (Or.inl (hw _ (List.mem_of_getElem? (i := 141) rfl))) Via.refl e0 S_STRINGS (g := (mkF m 35 #[.val (.int p0)] [])) rfl (hb hby own_d1_35)
          refine own_st st9 ?_
          show own_Gl _ _ _ _ _ _ _ _ (T9.setTop (mkF m 38 #[.val (.int p0)] [(.ref a_STRINGS)]))
          refine own_ret X9 (v := some (.ref a_STRINGS)) (fun h => by rw [Bd.returns] at h; cases h) hlk (by decide) (by decide) ?_ (fun fs hr => ?_)
          · show Q1 Z p0 a_INTEGER a_DECIMAL a_STRING a_BOOLEAN a_STRINGS h0 n0 (some (.ref a_STRINGS)) T9.heap _
            rw [e9]
            exact ⟨congrArg (fun z => some (Value.ref z)) (by unfold own_pick1; rw [if_neg hc1_1, if_neg hc10_3, if_neg hc19_5, if_neg hc28_7]), N0, rfl⟩
          · show Steps p.tables e below (T9.setTop (mkF m 38 #[.val (.int p0)] [(.ref a_STRINGS)])) _
            jvm_step X9.here [X9.here.top, hx, (hb hby own_d1_38), X9.method', Bd.returns, Value.isRef, FieldType.isReference]
            first | (intro acts; rw [hr _ acts rfl rfl rfl]) | rw [hr _ _ rfl rfl rfl]
            exact Steps.refl _
theorem own_d10_0 : decode jdk_31_method_11_code 0 = .ok (.aload_n 0, 1) := by decide +kernel
theorem own_d10_1 : decode jdk_31_method_11_code 1 = .ok (.ifnonnull 12, 3) := by decide +kernel
theorem own_d10_13 : decode jdk_31_method_11_code 13 = .ok (.aload_n 0, 1) := by decide +kernel
theorem own_d10_14 : decode jdk_31_method_11_code 14 = .ok (.areturn, 1) := by decide +kernel
theorem own_ef_rm10 (m : MethodId) (aa : Addr) (msg : Addr) : entryFrame m #[(.ref aa), (.ref msg)] 2 = mkF m 0 #[.val (.ref aa), .val (.ref msg)] [] := by first | (simp [entryFrame, mkF, argsToLocals, Value.category]; done) | rfl
theorem own_pn1 : plainName "java/util/Objects" = true := by first | (simp [plainName, overriddenIn]; done) | decide +kernel
def Q10 (Z : State) (aa : Addr) (msg : Addr) (h0 : Heap) (n0 : Nat) (v : Option Value) (h : Heap) (L : List Loc) : Prop := v = some (.ref aa) ∧ Fr n0 L ∧ h = h0
set_option maxRecDepth 65536 in
set_option maxHeartbeats 40000000 in
theorem rm10 (l : Launch) (Z : State) (a0 : Array Value) (hw : ∀ d ∈ tables_1, d.before a0 Z = true) (ws : List Jvm.Cond) (aa : Addr) (msg : Addr) (h0 : Heap) (n0 : Nat) (Z0 : n0 ≤ h0.size) :
    MetFree l (⟨"java/util/Objects", "requireNonNull", "(Ljava/lang/Object;Ljava/lang/String;)Ljava/lang/Object;"⟩ : MethodName) (head1 (Jvm.Cond.code (⟨"java/util/Objects", "requireNonNull", "(Ljava/lang/Object;Ljava/lang/String;)Ljava/lang/Object;"⟩ : MethodName) jdk_31_method_11_code 2 (some (.object "java/lang/Object")) :: ws) ({ frames := 0, cells := 0, slots := 0, locals := 0 } : Room)) (fun a U => a = #[(.ref aa), (.ref msg)] ∧ Z.Warmed39 U.vm ∧ U.heap = h0) (fun _ _ _ _ _ => True) (fun _ U o U' => ∃ v L, o = .returned v ∧ Q10 Z aa msg h0 n0 v U'.heap L ∧ FrameEnd U o U' L ({ frames := 0, cells := 0, slots := 0, locals := 0 } : Room).cells ({ frames := 0, cells := 0, slots := 0, locals := 0 } : Room).slots) := by
  refine MetFree.of_bodySF (plainFor_of_name own_pn1) hisR ?_
  intro p e s m args below meth c s₁ Bd hml0 hP hK
  obtain ⟨rfl, hZ, hh⟩ := hP
  have hx := Bd.exec
  have hby := Bd.bytes
  have hml : c.maxLocals = 2 := hml0
  have hown : s.vm.findClass "java/util/Objects" = some m.cls := findClass_of_methodNamed Bd.named
  have hnm := (name_of_methodNamed Bd.named Bd.method).1
  have hlk : meth.locks = false := BodyLoose.notSynchronized Bd
  have X0 : Stand p l e ({ frames := 0, cells := 0, slots := 0, locals := 0 } : Room) s m #[(.ref aa), (.ref msg)] below meth c s₁ [] 0 0 := Stand.of_body Bd
  have e0 : s₁.heap = h0 := by rw [← hh, Bd.state]; rfl
  have N0 := Fr.nil n0
  show own_Gl FrameEnd p e below s (Q10 Z aa msg h0 n0) ({ frames := 0, cells := 0, slots := 0, locals := 0 } : Room).cells ({ frames := 0, cells := 0, slots := 0, locals := 0 } : Room).slots (s₁.setTop (entryFrame m #[(.ref aa), (.ref msg)] 2))
  rw [own_ef_rm10 m aa msg]
  refine own_st (A' := s₁.setTop (mkF m 14 #[.val (.ref aa), .val (.ref msg)] [(.ref aa)])) (fun tg kt => ?_) ?_
  · show Steps p.tables e below (s₁.setTop (mkF m 0 #[.val (.ref aa), .val (.ref msg)] [])) _
    refine XS.aloadN X0.here hx rfl (hb hby own_d10_0) rfl rfl ?_
    show Steps p.tables e below (s₁.setTop (mkF m 1 #[.val (.ref aa), .val (.ref msg)] [(.ref aa)])) _
    refine XS.ifnonnullYes X0.here hx rfl (pc0 := 1) (pc' := 13) rfl (hb hby own_d10_1) rfl (by decide) (by decide) ?_
    show Steps p.tables e below (s₁.setTop (mkF m 13 #[.val (.ref aa), .val (.ref msg)] [])) _
    refine XS.aloadN X0.here hx rfl (hb hby own_d10_13) rfl rfl ?_
    exact kt
  refine own_ret X0 (v := some (.ref aa)) (fun h => by rw [Bd.returns] at h; cases h) hlk (by decide) (by decide) ?_ (fun fs hr => ?_)
  · show Q10 Z aa msg h0 n0 (some (.ref aa)) s₁.heap _
    rw [e0]
    exact ⟨rfl, N0, rfl⟩
  · show Steps p.tables e below (s₁.setTop (mkF m 14 #[.val (.ref aa), .val (.ref msg)] [(.ref aa)])) _
    jvm_step X0.here [X0.here.top, hx, (hb hby own_d10_14), X0.method', Bd.returns, Value.isRef, FieldType.isReference]
    first | (intro acts; rw [hr _ acts rfl rfl rfl]) | rw [hr _ _ rfl rfl rfl]
    exact Steps.refl _
theorem own_d13_0 : decode jdk_29_method_69_code 0 = .ok (.iload_n 0, 1) := by decide +kernel
theorem own_d13_1 : decode jdk_29_method_69_code 1 = .ok (.iload_n 1, 1) := by decide +kernel
theorem own_d13_2 : decode jdk_29_method_69_code 2 = .ok (.if_icmp .gt 7, 3) := by decide +kernel
theorem own_d13_5 : decode jdk_29_method_69_code 5 = .ok (.iload_n 0, 1) := by decide +kernel
theorem own_d13_6 : decode jdk_29_method_69_code 6 = .ok (.goto 4, 3) := by decide +kernel
theorem own_d13_9 : decode jdk_29_method_69_code 9 = .ok (.iload_n 1, 1) := by decide +kernel
theorem own_d13_10 : decode jdk_29_method_69_code 10 = .ok (.ireturn, 1) := by decide +kernel
theorem own_ef_rm13 (m : MethodId) (p0 : Int32) (p1 : Int32) : entryFrame m #[(.int p0), (.int p1)] 2 = mkF m 0 #[.val (.int p0), .val (.int p1)] [] := by first | (simp [entryFrame, mkF, argsToLocals, Value.category]; done) | rfl
def Q13 (Z : State) (p0 : Int32) (p1 : Int32) (h0 : Heap) (n0 : Nat) (v : Option Value) (h : Heap) (L : List Loc) : Prop := v = some (.int (own_min p0 p1)) ∧ Fr n0 L ∧ h = h0
set_option maxRecDepth 65536 in
set_option maxHeartbeats 40000000 in
theorem rm13 (l : Launch) (Z : State) (a0 : Array Value) (hw : ∀ d ∈ tables_1, d.before a0 Z = true) (ws : List Jvm.Cond) (p0 : Int32) (p1 : Int32) (h0 : Heap) (n0 : Nat) (Z0 : n0 ≤ h0.size) :
    MetFree l (⟨"java/lang/Math", "min", "(II)I"⟩ : MethodName) (head1 (Jvm.Cond.code (⟨"java/lang/Math", "min", "(II)I"⟩ : MethodName) jdk_29_method_69_code 2 (some .int) :: ws) ({ frames := 0, cells := 0, slots := 0, locals := 0 } : Room)) (fun a U => a = #[(.int p0), (.int p1)] ∧ Z.Warmed39 U.vm ∧ U.heap = h0) (fun _ _ _ _ _ => True) (fun _ U o U' => ∃ v L, o = .returned v ∧ Q13 Z p0 p1 h0 n0 v U'.heap L ∧ FrameEnd U o U' L ({ frames := 0, cells := 0, slots := 0, locals := 0 } : Room).cells ({ frames := 0, cells := 0, slots := 0, locals := 0 } : Room).slots) := by
  refine MetFree.of_bodySF (Jvm.Free.JP.mathPlain rfl (by decide +kernel)) hisR ?_
  intro p e s m args below meth c s₁ Bd hml0 hP hK
  obtain ⟨rfl, hZ, hh⟩ := hP
  have hx := Bd.exec
  have hby := Bd.bytes
  have hml : c.maxLocals = 2 := hml0
  have hown : s.vm.findClass "java/lang/Math" = some m.cls := findClass_of_methodNamed Bd.named
  have hnm := (name_of_methodNamed Bd.named Bd.method).1
  have hlk : meth.locks = false := BodyLoose.notSynchronized Bd
  have X0 : Stand p l e ({ frames := 0, cells := 0, slots := 0, locals := 0 } : Room) s m #[(.int p0), (.int p1)] below meth c s₁ [] 0 0 := Stand.of_body Bd
  have e0 : s₁.heap = h0 := by rw [← hh, Bd.state]; rfl
  have N0 := Fr.nil n0
  show own_Gl FrameEnd p e below s (Q13 Z p0 p1 h0 n0) ({ frames := 0, cells := 0, slots := 0, locals := 0 } : Room).cells ({ frames := 0, cells := 0, slots := 0, locals := 0 } : Room).slots (s₁.setTop (entryFrame m #[(.int p0), (.int p1)] 2))
  rw [own_ef_rm13 m p0 p1]
  refine own_st (A' := s₁.setTop (mkF m 2 #[.val (.int p0), .val (.int p1)] [(.int p1), (.int p0)])) (fun tg kt => ?_) ?_
  · show Steps p.tables e below (s₁.setTop (mkF m 0 #[.val (.int p0), .val (.int p1)] [])) _
    refine XS.iloadN X0.here hx rfl (hb hby own_d13_0) rfl ?_
    show Steps p.tables e below (s₁.setTop (mkF m 1 #[.val (.int p0), .val (.int p1)] [(.int p0)])) _
    refine XS.iloadN X0.here hx rfl (hb hby own_d13_1) rfl ?_
    exact kt
  by_cases hc2_1 : p1 < p0
  · refine own_st (A' := s₁.setTop (mkF m 10 #[.val (.int p0), .val (.int p1)] [(.int p1)])) (fun tg kt => ?_) ?_
    · show Steps p.tables e below (s₁.setTop (mkF m 2 #[.val (.int p0), .val (.int p1)] [(.int p1), (.int p0)])) _
      refine XS.icmpYes X0.here hx rfl (pc0 := 2) (pc' := 9) rfl (hb hby own_d13_2) rfl (tlt hc2_1).2.2.1 (by decide) (by decide) ?_
      show Steps p.tables e below (s₁.setTop (mkF m 9 #[.val (.int p0), .val (.int p1)] [])) _
      refine XS.iloadN X0.here hx rfl (hb hby own_d13_9) rfl ?_
      exact kt
    refine own_ret X0 (v := some (.int p1)) (fun h => by rw [Bd.returns] at h; cases h) hlk (by decide) (by decide) ?_ (fun fs hr => ?_)
    · show Q13 Z p0 p1 h0 n0 (some (.int p1)) s₁.heap _
      rw [e0]
      exact ⟨congrArg (fun z => some (Value.int z)) (by unfold own_min; rw [if_pos hc2_1]), N0, rfl⟩
    · show Steps p.tables e below (s₁.setTop (mkF m 10 #[.val (.int p0), .val (.int p1)] [(.int p1)])) _
      exact retI X0 hx Bd.returns (hb hby own_d13_10) hr
  · refine own_st (A' := s₁.setTop (mkF m 10 #[.val (.int p0), .val (.int p1)] [(.int p0)])) (fun tg kt => ?_) ?_
    · show Steps p.tables e below (s₁.setTop (mkF m 2 #[.val (.int p0), .val (.int p1)] [(.int p1), (.int p0)])) _
      refine XS.icmpNo X0.here hx rfl (hb hby own_d13_2) rfl (flt hc2_1).2.2.1 ?_
      show Steps p.tables e below (s₁.setTop (mkF m 5 #[.val (.int p0), .val (.int p1)] [])) _
      refine XS.iloadN X0.here hx rfl (hb hby own_d13_5) rfl ?_
      show Steps p.tables e below (s₁.setTop (mkF m 6 #[.val (.int p0), .val (.int p1)] [(.int p0)])) _
      refine XS.goto X0.here hx rfl (pc0 := 6) (pc' := 10) rfl (hb hby own_d13_6) (by decide) (by decide) ?_
      exact kt
    refine own_ret X0 (v := some (.int p0)) (fun h => by rw [Bd.returns] at h; cases h) hlk (by decide) (by decide) ?_ (fun fs hr => ?_)
    · show Q13 Z p0 p1 h0 n0 (some (.int p0)) s₁.heap _
      rw [e0]
      exact ⟨congrArg (fun z => some (Value.int z)) (by unfold own_min; rw [if_neg hc2_1]), N0, rfl⟩
    · show Steps p.tables e below (s₁.setTop (mkF m 10 #[.val (.int p0), .val (.int p1)] [(.int p0)])) _
      exact retI X0 hx Bd.returns (hb hby own_d13_10) hr
theorem own_d14_0 : decode jdk_29_method_65_code 0 = .ok (.iload_n 0, 1) := by decide +kernel
theorem own_d14_1 : decode jdk_29_method_65_code 1 = .ok (.iload_n 1, 1) := by decide +kernel
theorem own_d14_2 : decode jdk_29_method_65_code 2 = .ok (.if_icmp .lt 7, 3) := by decide +kernel
theorem own_d14_5 : decode jdk_29_method_65_code 5 = .ok (.iload_n 0, 1) := by decide +kernel
theorem own_d14_6 : decode jdk_29_method_65_code 6 = .ok (.goto 4, 3) := by decide +kernel
theorem own_d14_9 : decode jdk_29_method_65_code 9 = .ok (.iload_n 1, 1) := by decide +kernel
theorem own_d14_10 : decode jdk_29_method_65_code 10 = .ok (.ireturn, 1) := by decide +kernel
theorem own_ef_rm14 (m : MethodId) (p0 : Int32) (p1 : Int32) : entryFrame m #[(.int p0), (.int p1)] 2 = mkF m 0 #[.val (.int p0), .val (.int p1)] [] := by first | (simp [entryFrame, mkF, argsToLocals, Value.category]; done) | rfl
def Q14 (Z : State) (p0 : Int32) (p1 : Int32) (h0 : Heap) (n0 : Nat) (v : Option Value) (h : Heap) (L : List Loc) : Prop := v = some (.int (own_max p0 p1)) ∧ Fr n0 L ∧ h = h0
set_option maxRecDepth 65536 in
set_option maxHeartbeats 40000000 in
theorem rm14 (l : Launch) (Z : State) (a0 : Array Value) (hw : ∀ d ∈ tables_1, d.before a0 Z = true) (ws : List Jvm.Cond) (p0 : Int32) (p1 : Int32) (h0 : Heap) (n0 : Nat) (Z0 : n0 ≤ h0.size) :
    MetFree l (⟨"java/lang/Math", "max", "(II)I"⟩ : MethodName) (head1 (Jvm.Cond.code (⟨"java/lang/Math", "max", "(II)I"⟩ : MethodName) jdk_29_method_65_code 2 (some .int) :: ws) ({ frames := 0, cells := 0, slots := 0, locals := 0 } : Room)) (fun a U => a = #[(.int p0), (.int p1)] ∧ Z.Warmed39 U.vm ∧ U.heap = h0) (fun _ _ _ _ _ => True) (fun _ U o U' => ∃ v L, o = .returned v ∧ Q14 Z p0 p1 h0 n0 v U'.heap L ∧ FrameEnd U o U' L ({ frames := 0, cells := 0, slots := 0, locals := 0 } : Room).cells ({ frames := 0, cells := 0, slots := 0, locals := 0 } : Room).slots) := by
  refine MetFree.of_bodySF (Jvm.Free.JP.mathPlain rfl (by decide +kernel)) hisR ?_
  intro p e s m args below meth c s₁ Bd hml0 hP hK
  obtain ⟨rfl, hZ, hh⟩ := hP
  have hx := Bd.exec
  have hby := Bd.bytes
  have hml : c.maxLocals = 2 := hml0
  have hown : s.vm.findClass "java/lang/Math" = some m.cls := findClass_of_methodNamed Bd.named
  have hnm := (name_of_methodNamed Bd.named Bd.method).1
  have hlk : meth.locks = false := BodyLoose.notSynchronized Bd
  have X0 : Stand p l e ({ frames := 0, cells := 0, slots := 0, locals := 0 } : Room) s m #[(.int p0), (.int p1)] below meth c s₁ [] 0 0 := Stand.of_body Bd
  have e0 : s₁.heap = h0 := by rw [← hh, Bd.state]; rfl
  have N0 := Fr.nil n0
  show own_Gl FrameEnd p e below s (Q14 Z p0 p1 h0 n0) ({ frames := 0, cells := 0, slots := 0, locals := 0 } : Room).cells ({ frames := 0, cells := 0, slots := 0, locals := 0 } : Room).slots (s₁.setTop (entryFrame m #[(.int p0), (.int p1)] 2))
  rw [own_ef_rm14 m p0 p1]
  refine own_st (A' := s₁.setTop (mkF m 2 #[.val (.int p0), .val (.int p1)] [(.int p1), (.int p0)])) (fun tg kt => ?_) ?_
  · show Steps p.tables e below (s₁.setTop (mkF m 0 #[.val (.int p0), .val (.int p1)] [])) _
    refine XS.iloadN X0.here hx rfl (hb hby own_d14_0) rfl ?_
    show Steps p.tables e below (s₁.setTop (mkF m 1 #[.val (.int p0), .val (.int p1)] [(.int p0)])) _
    refine XS.iloadN X0.here hx rfl (hb hby own_d14_1) rfl ?_
    exact kt
  by_cases hc2_1 : p0 < p1
  · refine own_st (A' := s₁.setTop (mkF m 10 #[.val (.int p0), .val (.int p1)] [(.int p1)])) (fun tg kt => ?_) ?_
    · show Steps p.tables e below (s₁.setTop (mkF m 2 #[.val (.int p0), .val (.int p1)] [(.int p1), (.int p0)])) _
      refine XS.icmpYes X0.here hx rfl (pc0 := 2) (pc' := 9) rfl (hb hby own_d14_2) rfl (tlt hc2_1).1 (by decide) (by decide) ?_
      show Steps p.tables e below (s₁.setTop (mkF m 9 #[.val (.int p0), .val (.int p1)] [])) _
      refine XS.iloadN X0.here hx rfl (hb hby own_d14_9) rfl ?_
      exact kt
    refine own_ret X0 (v := some (.int p1)) (fun h => by rw [Bd.returns] at h; cases h) hlk (by decide) (by decide) ?_ (fun fs hr => ?_)
    · show Q14 Z p0 p1 h0 n0 (some (.int p1)) s₁.heap _
      rw [e0]
      exact ⟨congrArg (fun z => some (Value.int z)) (by unfold own_max; rw [if_pos hc2_1]), N0, rfl⟩
    · show Steps p.tables e below (s₁.setTop (mkF m 10 #[.val (.int p0), .val (.int p1)] [(.int p1)])) _
      exact retI X0 hx Bd.returns (hb hby own_d14_10) hr
  · refine own_st (A' := s₁.setTop (mkF m 10 #[.val (.int p0), .val (.int p1)] [(.int p0)])) (fun tg kt => ?_) ?_
    · show Steps p.tables e below (s₁.setTop (mkF m 2 #[.val (.int p0), .val (.int p1)] [(.int p1), (.int p0)])) _
      refine XS.icmpNo X0.here hx rfl (hb hby own_d14_2) rfl (flt hc2_1).1 ?_
      show Steps p.tables e below (s₁.setTop (mkF m 5 #[.val (.int p0), .val (.int p1)] [])) _
      refine XS.iloadN X0.here hx rfl (hb hby own_d14_5) rfl ?_
      show Steps p.tables e below (s₁.setTop (mkF m 6 #[.val (.int p0), .val (.int p1)] [(.int p0)])) _
      refine XS.goto X0.here hx rfl (pc0 := 6) (pc' := 10) rfl (hb hby own_d14_6) (by decide) (by decide) ?_
      exact kt
    refine own_ret X0 (v := some (.int p0)) (fun h => by rw [Bd.returns] at h; cases h) hlk (by decide) (by decide) ?_ (fun fs hr => ?_)
    · show Q14 Z p0 p1 h0 n0 (some (.int p0)) s₁.heap _
      rw [e0]
      exact ⟨congrArg (fun z => some (Value.int z)) (by unfold own_max; rw [if_neg hc2_1]), N0, rfl⟩
    · show Steps p.tables e below (s₁.setTop (mkF m 10 #[.val (.int p0), .val (.int p1)] [(.int p0)])) _
      exact retI X0 hx Bd.returns (hb hby own_d14_10) hr
theorem own_d17_0 : decode jdk_18_method_1_code 0 = .ok (.aload_n 0, 1) := by decide +kernel
theorem own_d17_1 : decode jdk_18_method_1_code 1 = .ok (.invokespecial 1, 3) := by decide +kernel
theorem own_d17_4 : decode jdk_18_method_1_code 4 = .ok (.return_, 1) := by decide +kernel
theorem own_ef_rm17 (m : MethodId) (th : Addr) : entryFrame m #[(.ref th)] 1 = mkF m 0 #[.val (.ref th)] [] := by first | (simp [entryFrame, mkF, argsToLocals, Value.category]; done) | rfl
theorem own_pn2 : plainName "java/lang/Number" = true := by first | (simp [plainName, overriddenIn]; done) | decide +kernel
def Q17 (Z : State) (th : Addr) (h0 : Heap) (n0 : Nat) (v : Option Value) (h : Heap) (L : List Loc) : Prop := v = none ∧ Fr n0 L ∧ h = h0
set_option maxRecDepth 65536 in
set_option maxHeartbeats 40000000 in
theorem rm17 (l : Launch) (Z : State) (a0 : Array Value) (hw : ∀ d ∈ tables_1, d.before a0 Z = true) (ws : List Jvm.Cond) (th : Addr) (h0 : Heap) (n0 : Nat) (Z0 : n0 ≤ h0.size) :
    MetFree l (⟨"java/lang/Number", "<init>", "()V"⟩ : MethodName) (head1 (Jvm.Cond.code (⟨"java/lang/Number", "<init>", "()V"⟩ : MethodName) jdk_18_method_1_code 1 none :: ws) ({ frames := 1, cells := 0, slots := 0, locals := 12 } : Room)) (fun a U => a = #[(.ref th)] ∧ Z.Warmed39 U.vm ∧ U.heap = h0) (fun _ _ _ _ _ => True) (fun _ U o U' => ∃ v L, o = .returned v ∧ Q17 Z th h0 n0 v U'.heap L ∧ FrameEnd U o U' L ({ frames := 1, cells := 0, slots := 0, locals := 12 } : Room).cells ({ frames := 1, cells := 0, slots := 0, locals := 12 } : Room).slots) := by
  refine MetFree.of_bodySF (plainFor_of_name own_pn2) hisR ?_
  intro p e s m args below meth c s₁ Bd hml0 hP hK
  obtain ⟨rfl, hZ, hh⟩ := hP
  have hx := Bd.exec
  have hby := Bd.bytes
  have hml : c.maxLocals = 1 := hml0
  have hown : s.vm.findClass "java/lang/Number" = some m.cls := findClass_of_methodNamed Bd.named
  have hnm := (name_of_methodNamed Bd.named Bd.method).1
  have hlk : meth.locks = false := BodyLoose.notSynchronized Bd
  have X0 : Stand p l e ({ frames := 1, cells := 0, slots := 0, locals := 12 } : Room) s m #[(.ref th)] below meth c s₁ [] 0 0 := Stand.of_body Bd
  have e0 : s₁.heap = h0 := by rw [← hh, Bd.state]; rfl
  have N0 := Fr.nil n0
  show own_Gl FrameEnd p e below s (Q17 Z th h0 n0) ({ frames := 1, cells := 0, slots := 0, locals := 12 } : Room).cells ({ frames := 1, cells := 0, slots := 0, locals := 12 } : Room).slots (s₁.setTop (entryFrame m #[(.ref th)] 1))
  rw [own_ef_rm17 m th]
  refine own_st (A' := s₁.setTop (mkF m 1 #[.val (.ref th)] [(.ref th)])) (fun tg kt => ?_) ?_
  · show Steps p.tables e below (s₁.setTop (mkF m 0 #[.val (.ref th)] [])) _
    refine XS.aloadN X0.here hx rfl (hb hby own_d17_0) rfl rfl ?_
    exact kt
  obtain ⟨T1, X1, e1, st1⟩ := initO X0 hx hZ hown (hw _ (List.mem_of_getElem? (i := 102) rfl)) (hw _ (List.mem_of_getElem? (i := 20) rfl)) (hw _ (List.mem_of_getElem? (i := 21) rfl)) e0 (g := (mkF m 1 #[.val (.ref th)] [(.ref th)])) rfl (by rw [hml]; rfl) rfl (hb hby own_d17_1) (by decide) (W := 0) (by show 2 * 0 + _ ≤ _; exact Nat.le_of_eq rfl) (by decide)
  refine own_st st1 ?_
  show own_Gl _ _ _ _ _ _ _ _ (T1.setTop (mkF m 4 #[.val (.ref th)] []))
  refine own_ret X1 (v := none) (fun _ => rfl) hlk (by decide) (by decide) ?_ (fun fs hr => ?_)
  · show Q17 Z th h0 n0 (none) T1.heap _
    rw [e1]
    exact ⟨rfl, N0, rfl⟩
  · show Steps p.tables e below (T1.setTop (mkF m 4 #[.val (.ref th)] [])) _
    exact X1.returnOut hx Bd.returns (hb hby own_d17_4) hr
theorem own_pd3 : parseMethodDescriptor "()V" = some ⟨[], none⟩ := by decide +kernel
theorem own_d16_0 : decode jdk_117_method_9_code 0 = .ok (.aload_n 0, 1) := by decide +kernel
theorem own_d16_1 : decode jdk_117_method_9_code 1 = .ok (.invokespecial 113, 3) := by decide +kernel
theorem own_d16_4 : decode jdk_117_method_9_code 4 = .ok (.aload_n 0, 1) := by decide +kernel
theorem own_d16_5 : decode jdk_117_method_9_code 5 = .ok (.dload_n 1, 1) := by decide +kernel
theorem own_d16_6 : decode jdk_117_method_9_code 6 = .ok (.putfield 118, 3) := by decide +kernel
theorem own_d16_9 : decode jdk_117_method_9_code 9 = .ok (.return_, 1) := by decide +kernel
theorem own_ef_rm16 (m : MethodId) (th : Addr) (d : UInt64) : entryFrame m #[(.ref th), (.double d)] 3 = mkF m 0 #[.val (.ref th), .val (.double d), .second] [] := by first | (simp [entryFrame, mkF, argsToLocals, Value.category]; done) | rfl
theorem own_pn4 : plainName "java/lang/Double" = true := by first | (simp [plainName, overriddenIn]; done) | decide +kernel
def Q16 (Z : State) (th : Addr) (d : UInt64) (u0 : UInt64) (h0 : Heap) (n0 : Nat) (v : Option Value) (h : Heap) (L : List Loc) : Prop := v = none ∧ Fr n0 L ∧ Keep h0 h [th] ∧ Exa Z h th "java/lang/Double" ∧ Fld Z h th "java/lang/Double" "value" "D" (.double d)
set_option maxRecDepth 65536 in
set_option maxHeartbeats 40000000 in
theorem rm16 (l : Launch) (Z : State) (a0 : Array Value) (hw : ∀ d ∈ tables_1, d.before a0 Z = true) (ws : List Jvm.Cond) (th : Addr) (d : UInt64) (u0 : UInt64) (h0 : Heap) (n0 : Nat) (Z0 : n0 ≤ h0.size) (Fv : Fld Z h0 th "java/lang/Double" "value" "D" (.double u0)) (Eth : Exa Z h0 th "java/lang/Double") (gth : n0 ≤ th) :
    MetFree l (⟨"java/lang/Double", "<init>", "(D)V"⟩ : MethodName) (head1 (Jvm.Cond.code (⟨"java/lang/Double", "<init>", "(D)V"⟩ : MethodName) jdk_117_method_9_code 3 none :: ws) ({ frames := 2, cells := 0, slots := 0, locals := 24 } : Room)) (fun a U => a = #[(.ref th), (.double d)] ∧ Z.Warmed39 U.vm ∧ U.heap = h0) (fun _ _ _ _ _ => True) (fun _ U o U' => ∃ v L, o = .returned v ∧ Q16 Z th d u0 h0 n0 v U'.heap L ∧ FrameEnd U o U' L ({ frames := 2, cells := 0, slots := 0, locals := 24 } : Room).cells ({ frames := 2, cells := 0, slots := 0, locals := 24 } : Room).slots) := by
  refine MetFree.of_bodySF (plainFor_of_name own_pn4) hisR ?_
  intro p e s m args below meth c s₁ Bd hml0 hP hK
  obtain ⟨rfl, hZ, hh⟩ := hP
  have hx := Bd.exec
  have hby := Bd.bytes
  have hml : c.maxLocals = 3 := hml0
  have hown : s.vm.findClass "java/lang/Double" = some m.cls := findClass_of_methodNamed Bd.named
  have hnm := (name_of_methodNamed Bd.named Bd.method).1
  have hlk : meth.locks = false := BodyLoose.notSynchronized Bd
  have X0 : Stand p l e ({ frames := 2, cells := 0, slots := 0, locals := 24 } : Room) s m #[(.ref th), (.double d)] below meth c s₁ [] 0 0 := Stand.of_body Bd
  have e0 : s₁.heap = h0 := by rw [← hh, Bd.state]; rfl
  have N0 := Fr.nil n0
  show own_Gl FrameEnd p e below s (Q16 Z th d u0 h0 n0) ({ frames := 2, cells := 0, slots := 0, locals := 24 } : Room).cells ({ frames := 2, cells := 0, slots := 0, locals := 24 } : Room).slots (s₁.setTop (entryFrame m #[(.ref th), (.double d)] 3))
  rw [own_ef_rm16 m th d]
  refine own_st (A' := s₁.setTop (mkF m 1 #[.val (.ref th), .val (.double d), .second] [(.ref th)])) (fun tg kt => ?_) ?_
  · show Steps p.tables e below (s₁.setTop (mkF m 0 #[.val (.ref th), .val (.double d), .second] [])) _
    refine XS.aloadN X0.here hx rfl (hb hby own_d16_0) rfl rfl ?_
    exact kt
  obtain ⟨_, _, ⟨T1, L1, k1, n1⟩, -, X1, ⟨Lc1, hQ1, l1, y1, z1⟩, st1⟩ := X0.specialBack hx (y := (⟨"java/lang/Number", "<init>", "()V"⟩ : MethodName)) rfl hown (mvT hZ (hw _ (List.mem_of_getElem? (i := 96) rfl))) (mvT hZ (hw _ (List.mem_of_getElem? (i := 97) rfl))) (mvT hZ (hw _ (List.mem_of_getElem? (i := 101) rfl))) (by decide) (backOf (W := 0) (rm17 l Z a0 hw [] th h0 n0 Z0) hZ (hw _ (List.mem_of_getElem? (i := 101) rfl)) (hw _ (List.mem_of_getElem? (i := 100) rfl)) (by decide) (by decide)) (g := (mkF m 1 #[.val (.ref th), .val (.double d), .second] [(.ref th)])) rfl (by rw [hml]; rfl) (Steps.refl _) (a := th) (argsL := []) (rest := []) (lenOf own_pd3 rfl) rfl (by show 2 * 0 + _ ≤ _; exact Nat.le_of_eq rfl) (hb hby own_d16_1) (fun _ _ => ⟨rfl, e0, (by decide : 0 + 0 ≤ _), (by decide : 0 + 0 ≤ _)⟩)
  dsimp only [Pt.U, Pt.locs, Pt.cells, Pt.slots] at X1 l1 y1 z1 st1 hQ1
  subst l1 y1 z1
  obtain ⟨rfl, Nq1, eq1⟩ := hQ1
  have N1 := Fr.app N0 Nq1
  refine own_tr st1 ?_
  show own_Gl _ _ _ _ _ _ _ _ (T1.setTop (mkF m 4 #[.val (.ref th), .val (.double d), .second] []))
  refine own_st (A' := T1.setTop (mkF m 6 #[.val (.ref th), .val (.double d), .second] [(.double d), (.ref th)])) (fun tg kt => ?_) ?_
  · show Steps p.tables e below (T1.setTop (mkF m 4 #[.val (.ref th), .val (.double d), .second] [])) _
    refine XS.aloadN X1.here hx rfl (hb hby own_d16_4) rfl rfl ?_
    show Steps p.tables e below (T1.setTop (mkF m 5 #[.val (.ref th), .val (.double d), .second] [(.ref th)])) _
    refine XS.dloadN X1.here hx rfl (hb hby own_d16_5) rfl ?_
    exact kt
  obtain ⟨T2, h2, X2, e2, W2, st2⟩ := putF X1 hx hZ hown (host := "") (Or.inl (hw _ (List.mem_of_getElem? (i := 103) rfl))) Via.refl eq1 Fv Eth (Or.inr ⟨(hw _ (List.mem_of_getElem? (i := 104) rfl)), rfl, hnm⟩) (hw _ (List.mem_of_getElem? (i := 91) rfl)) (ty := .double) (by decide) rfl rfl (g := (mkF m 6 #[.val (.ref th), .val (.double d), .second] [(.double d), (.ref th)])) rfl rfl (hb hby own_d16_6)
  have N2 := Fr.snoc X2 N1 gth
  have K2 := ((Keep.refl h0 ([th] : List Addr))).wr W2 (Or.inl (List.mem_of_getElem? (i := 0) rfl))
  have Z2 : n0 ≤ h2.size := Nat.le_trans Z0 (Keep.of_wr W2).1
  refine own_st st2 ?_
  show own_Gl _ _ _ _ _ _ _ _ (T2.setTop (mkF m 9 #[.val (.ref th), .val (.double d), .second] []))
  refine own_ret X2 (v := none) (fun _ => rfl) hlk (by decide) (by decide) ?_ (fun fs hr => ?_)
  · show Q16 Z th d u0 h0 n0 (none) T2.heap _
    rw [e2]
    exact ⟨rfl, N2, K2, (Eth.wr W2), (Fv.same W2)⟩
  · show Steps p.tables e below (T2.setTop (mkF m 9 #[.val (.ref th), .val (.double d), .second] [])) _
    exact X2.returnOut hx Bd.returns (hb hby own_d16_9) hr
theorem own_pd5 : parseMethodDescriptor "(D)V" = some ⟨[.double], none⟩ := by decide +kernel
theorem own_d15_0 : decode jdk_117_method_4_code 0 = .ok (.new 1, 3) := by decide +kernel
theorem own_d15_3 : decode jdk_117_method_4_code 3 = .ok (.dup, 1) := by decide +kernel
theorem own_d15_4 : decode jdk_117_method_4_code 4 = .ok (.dload_n 0, 1) := by decide +kernel
theorem own_d15_5 : decode jdk_117_method_4_code 5 = .ok (.invokespecial 105, 3) := by decide +kernel
theorem own_d15_8 : decode jdk_117_method_4_code 8 = .ok (.areturn, 1) := by decide +kernel
theorem own_ef_rm15 (m : MethodId) (d : UInt64) : entryFrame m #[(.double d)] 2 = mkF m 0 #[.val (.double d), .second] [] := by first | (simp [entryFrame, mkF, argsToLocals, Value.category]; done) | rfl
def Q15 (Z : State) (d : UInt64) (h0 : Heap) (n0 : Nat) (v : Option Value) (h : Heap) (L : List Loc) : Prop := ∃ a : Addr, v = some (.ref a) ∧ Fr n0 L ∧ Keep h0 h [] ∧ Exa Z h a "java/lang/Double" ∧ Fld Z h a "java/lang/Double" "value" "D" (.double d) ∧ h0.size ≤ a
set_option maxRecDepth 65536 in
set_option maxHeartbeats 40000000 in
theorem rm15 (l : Launch) (Z : State) (a0 : Array Value) (hw : ∀ d ∈ tables_1, d.before a0 Z = true) (ws : List Jvm.Cond) (d : UInt64) (h0 : Heap) (n0 : Nat) (Z0 : n0 ≤ h0.size) :
    MetFree l (⟨"java/lang/Double", "valueOf", "(D)Ljava/lang/Double;"⟩ : MethodName) (head1 (Jvm.Cond.code (⟨"java/lang/Double", "valueOf", "(D)Ljava/lang/Double;"⟩ : MethodName) jdk_117_method_4_code 2 (some (.object "java/lang/Double")) :: ws) ({ frames := 3, cells := 1, slots := 1, locals := 39 } : Room)) (fun a U => a = #[(.double d)] ∧ Z.Warmed39 U.vm ∧ U.heap = h0) (fun _ _ _ _ _ => True) (fun _ U o U' => ∃ v L, o = .returned v ∧ Q15 Z d h0 n0 v U'.heap L ∧ FrameEnd U o U' L ({ frames := 3, cells := 1, slots := 1, locals := 39 } : Room).cells ({ frames := 3, cells := 1, slots := 1, locals := 39 } : Room).slots) := by
  refine MetFree.of_bodySF (plainFor_of_name own_pn4) hisR ?_
  intro p e s m args below meth c s₁ Bd hml0 hP hK
  obtain ⟨rfl, hZ, hh⟩ := hP
  have hx := Bd.exec
  have hby := Bd.bytes
  have hml : c.maxLocals = 2 := hml0
  have hown : s.vm.findClass "java/lang/Double" = some m.cls := findClass_of_methodNamed Bd.named
  have hnm := (name_of_methodNamed Bd.named Bd.method).1
  have hlk : meth.locks = false := BodyLoose.notSynchronized Bd
  have X0 : Stand p l e ({ frames := 3, cells := 1, slots := 1, locals := 39 } : Room) s m #[(.double d)] below meth c s₁ [] 0 0 := Stand.of_body Bd
  have e0 : s₁.heap = h0 := by rw [← hh, Bd.state]; rfl
  have N0 := Fr.nil n0
  show own_Gl FrameEnd p e below s (Q15 Z d h0 n0) ({ frames := 3, cells := 1, slots := 1, locals := 39 } : Room).cells ({ frames := 3, cells := 1, slots := 1, locals := 39 } : Room).slots (s₁.setTop (entryFrame m #[(.double d)] 2))
  rw [own_ef_rm15 m d]
  obtain ⟨T1, h1, X1, e1, E1, A1, D1, -, st1⟩ := newO X0 hx hZ hown (hw _ (List.mem_of_getElem? (i := 90) rfl)) (hw _ (List.mem_of_getElem? (i := 91) rfl)) (hw _ (List.mem_of_getElem? (i := 88) rfl)) e0 (g := (mkF m 0 #[.val (.double d), .second] [])) rfl (hb hby own_d15_0) (by decide) (by decide)
  obtain ⟨b1, g1⟩ : ∃ z, z = h0.size := ⟨_, rfl⟩
  rw [← g1] at A1 D1 st1
  have g_b1 : n0 ≤ b1 := Nat.le_trans Z0 (Nat.le_of_eq g1.symm)
  have kw_b1 : h0.size ≤ b1 := Nat.le_trans ((Keep.refl h0 ([] : List Addr))).1 (Nat.le_of_eq g1.symm)
  have K1 := ((Keep.refl h0 ([] : List Addr))).ext E1
  have Z1 : n0 ≤ h1.size := Nat.le_trans Z0 E1.1
  refine own_st st1 ?_
  show own_Gl _ _ _ _ _ _ _ _ (T1.setTop (mkF m 3 #[.val (.double d), .second] [(.ref b1)]))
  refine own_st (A' := T1.setTop (mkF m 5 #[.val (.double d), .second] [(.double d), (.ref b1), (.ref b1)])) (fun tg kt => ?_) ?_
  · show Steps p.tables e below (T1.setTop (mkF m 3 #[.val (.double d), .second] [(.ref b1)])) _
    refine XS.dup X1.here hx rfl (hb hby own_d15_3) rfl rfl ?_
    show Steps p.tables e below (T1.setTop (mkF m 4 #[.val (.double d), .second] [(.ref b1), (.ref b1)])) _
    refine XS.dloadN X1.here hx rfl (hb hby own_d15_4) rfl ?_
    exact kt
  have Fz_b1 : Fld Z h1 b1 "java/lang/Double" "value" "D" (.double 0) := D1 (Or.inr (hw _ (List.mem_of_getElem? (i := 104) rfl))) (ty := .double) (by decide)
  obtain ⟨_, _, ⟨T2, L2, k2, n2⟩, -, X2, ⟨Lc2, hQ2, l2, y2, z2⟩, st2⟩ := X1.specialBack hx (y := (⟨"java/lang/Double", "<init>", "(D)V"⟩ : MethodName)) rfl hown (mvT hZ (hw _ (List.mem_of_getElem? (i := 92) rfl))) (mvT hZ (hw _ (List.mem_of_getElem? (i := 93) rfl))) (mvT hZ (hw _ (List.mem_of_getElem? (i := 95) rfl))) (by decide) (backOf (W := 1) (rm16 l Z a0 hw [] b1 d 0 h1 n0 Z1 Fz_b1 A1 g_b1) hZ (hw _ (List.mem_of_getElem? (i := 95) rfl)) (hw _ (List.mem_of_getElem? (i := 88) rfl)) (by decide) (by decide)) (g := (mkF m 5 #[.val (.double d), .second] [(.double d), (.ref b1), (.ref b1)])) rfl (by rw [hml]; rfl) (Steps.refl _) (a := b1) (argsL := [(.double d)]) (rest := [(.ref b1)]) (lenOf own_pd5 rfl) rfl (by show 2 * 0 + _ ≤ _; exact Nat.le_of_eq rfl) (hb hby own_d15_5) (fun _ _ => ⟨rfl, e1, (by decide : 1 + 0 ≤ _), (by decide : 1 + 0 ≤ _)⟩)
  dsimp only [Pt.U, Pt.locs, Pt.cells, Pt.slots] at X2 l2 y2 z2 st2 hQ2
  subst l2 y2 z2
  obtain ⟨rfl, Nq2, Kq2, Eq2, Fq2⟩ := hQ2
  have N2 := Fr.app N0 Nq2
  have K2 := (K1).trans Kq2 (allS (Or.inr kw_b1) all0)
  have Z2 : n0 ≤ T2.heap.size := Nat.le_trans Z1 Kq2.1
  refine own_tr st2 ?_
  show own_Gl _ _ _ _ _ _ _ _ (T2.setTop (mkF m 8 #[.val (.double d), .second] [(.ref b1)]))
  refine own_ret X2 (v := some (.ref b1)) (fun h => by rw [Bd.returns] at h; cases h) hlk (by decide) (by decide) ?_ (fun fs hr => ?_)
  · show Q15 Z d h0 n0 (some (.ref b1)) T2.heap _
    exact ⟨b1, rfl, N2, K2, Eq2, Fq2, kw_b1⟩
  · show Steps p.tables e below (T2.setTop (mkF m 8 #[.val (.double d), .second] [(.ref b1)])) _
    jvm_step X2.here [X2.here.top, hx, (hb hby own_d15_8), X2.method', Bd.returns, Value.isRef, FieldType.isReference]
    first | (intro acts; rw [hr _ acts rfl rfl rfl]) | rw [hr _ _ rfl rfl rfl]
    exact Steps.refl _
theorem own_d18_0 : decode prog_11_method_7_code 0 = .ok (.aload_n 0, 1) := by decide +kernel
theorem own_d18_1 : decode prog_11_method_7_code 1 = .ok (.getstatic 3, 3) := by decide +kernel
theorem own_d18_4 : decode prog_11_method_7_code 4 = .ok (.if_acmp .eq 10, 3) := by decide +kernel
theorem own_d18_7 : decode prog_11_method_7_code 7 = .ok (.aload_n 0, 1) := by decide +kernel
theorem own_d18_8 : decode prog_11_method_7_code 8 = .ok (.getstatic 7, 3) := by decide +kernel
theorem own_d18_11 : decode prog_11_method_7_code 11 = .ok (.if_acmp .ne 7, 3) := by decide +kernel
theorem own_d18_14 : decode prog_11_method_7_code 14 = .ok (.iconst 1, 1) := by decide +kernel
theorem own_d18_15 : decode prog_11_method_7_code 15 = .ok (.goto 4, 3) := by decide +kernel
theorem own_d18_18 : decode prog_11_method_7_code 18 = .ok (.iconst 0, 1) := by decide +kernel
theorem own_d18_19 : decode prog_11_method_7_code 19 = .ok (.ireturn, 1) := by decide +kernel
theorem own_ef_rm18 (m : MethodId) (th : Addr) : entryFrame m #[(.ref th)] 1 = mkF m 0 #[.val (.ref th)] [] := by first | (simp [entryFrame, mkF, argsToLocals, Value.category]; done) | rfl
theorem own_pn6 : plainName "com/example/inexact_search/inexactsearch/engine/AttributeType" = true := by first | (simp [plainName, overriddenIn]; done) | decide +kernel
def Q18 (Z : State) (th : Addr) (a_INTEGER : Addr) (a_DECIMAL : Addr) (h0 : Heap) (n0 : Nat) (v : Option Value) (h : Heap) (L : List Loc) : Prop := v = some (.int (own_num th a_INTEGER a_DECIMAL)) ∧ Fr n0 L ∧ h = h0
set_option maxRecDepth 65536 in
set_option maxHeartbeats 40000000 in
theorem rm18 (l : Launch) (Z : State) (a0 : Array Value) (hw : ∀ d ∈ tables_1, d.before a0 Z = true) (ws : List Jvm.Cond) (th : Addr) (a_INTEGER : Addr) (a_DECIMAL : Addr) (h0 : Heap) (n0 : Nat) (Z0 : n0 ≤ h0.size) (S_INTEGER : Sta Z h0 "com/example/inexact_search/inexactsearch/engine/AttributeType" "INTEGER" "Lcom/example/inexact_search/inexactsearch/engine/AttributeType;" (.ref a_INTEGER)) (S_DECIMAL : Sta Z h0 "com/example/inexact_search/inexactsearch/engine/AttributeType" "DECIMAL" "Lcom/example/inexact_search/inexactsearch/engine/AttributeType;" (.ref a_DECIMAL)) :
    MetFree l (⟨"com/example/inexact_search/inexactsearch/engine/AttributeType", "isNumber", "()Z"⟩ : MethodName) (head1 (Jvm.Cond.code (⟨"com/example/inexact_search/inexactsearch/engine/AttributeType", "isNumber", "()Z"⟩ : MethodName) prog_11_method_7_code 1 (some .boolean) :: ws) ({ frames := 0, cells := 0, slots := 0, locals := 0 } : Room)) (fun a U => a = #[(.ref th)] ∧ Z.Warmed39 U.vm ∧ U.heap = h0) (fun _ _ _ _ _ => True) (fun _ U o U' => ∃ v L, o = .returned v ∧ Q18 Z th a_INTEGER a_DECIMAL h0 n0 v U'.heap L ∧ FrameEnd U o U' L ({ frames := 0, cells := 0, slots := 0, locals := 0 } : Room).cells ({ frames := 0, cells := 0, slots := 0, locals := 0 } : Room).slots) := by
  refine MetFree.of_bodySF (plainFor_of_name own_pn6) hisR ?_
  intro p e s m args below meth c s₁ Bd hml0 hP hK
  obtain ⟨rfl, hZ, hh⟩ := hP
  have hx := Bd.exec
  have hby := Bd.bytes
  have hml : c.maxLocals = 1 := hml0
  have hown : s.vm.findClass "com/example/inexact_search/inexactsearch/engine/AttributeType" = some m.cls := findClass_of_methodNamed Bd.named
  have hnm := (name_of_methodNamed Bd.named Bd.method).1
  have hlk : meth.locks = false := BodyLoose.notSynchronized Bd
  have X0 : Stand p l e ({ frames := 0, cells := 0, slots := 0, locals := 0 } : Room) s m #[(.ref th)] below meth c s₁ [] 0 0 := Stand.of_body Bd
  have e0 : s₁.heap = h0 := by rw [← hh, Bd.state]; rfl
  have N0 := Fr.nil n0
  show own_Gl FrameEnd p e below s (Q18 Z th a_INTEGER a_DECIMAL h0 n0) ({ frames := 0, cells := 0, slots := 0, locals := 0 } : Room).cells ({ frames := 0, cells := 0, slots := 0, locals := 0 } : Room).slots (s₁.setTop (entryFrame m #[(.ref th)] 1))
  rw [own_ef_rm18 m th]
  refine own_st (A' := s₁.setTop (mkF m 1 #[.val (.ref th)] [(.ref th)])) (fun tg kt => ?_) ?_
  · show Steps p.tables e below (s₁.setTop (mkF m 0 #[.val (.ref th)] [])) _
    refine XS.aloadN X0.here hx rfl (hb hby own_d18_0) rfl rfl ?_
    exact kt
  obtain ⟨T1, X1, e1, st1⟩ := getS2 X0 hx hZ hown (host := "") (Or.inl (hw _ (List.mem_of_getElem? (i := 110) rfl))) Via.refl e0 S_INTEGER (g := (mkF m 1 #[.val (.ref th)] [(.ref th)])) rfl (hb hby own_d18_1)
  refine own_st st1 ?_
  show own_Gl _ _ _ _ _ _ _ _ (T1.setTop (mkF m 4 #[.val (.ref th)] [(.ref a_INTEGER), (.ref th)]))
  by_cases ha4_2 : th = a_INTEGER
  · refine own_st (A' := T1.setTop (mkF m 19 #[.val (.ref th)] [(.int (1 : Int32))])) (fun tg kt => ?_) ?_
    · show Steps p.tables e below (T1.setTop (mkF m 4 #[.val (.ref th)] [(.ref a_INTEGER), (.ref th)])) _
      refine Jvm.RoadKit.acmp (g := (mkF m 4 #[.val (.ref th)] [(.ref a_INTEGER), (.ref th)])) X1 hx rfl rfl rfl (pc0 := 4) (pc' := 14) (same := true) rfl (hb hby own_d18_4) rfl (decide_eq_true (congrArg Value.ref ha4_2)) (by decide) (by decide) ?_
      show Steps p.tables e below (T1.setTop (mkF m 14 #[.val (.ref th)] [])) _
      refine XS.iconst X1.here hx rfl (hb hby own_d18_14) ?_
      show Steps p.tables e below (T1.setTop (mkF m 15 #[.val (.ref th)] [(.int (1 : Int32))])) _
      refine XS.goto X1.here hx rfl (pc0 := 15) (pc' := 19) rfl (hb hby own_d18_15) (by decide) (by decide) ?_
      exact kt
    refine own_ret X1 (v := some (.int (1 : Int32))) (fun h => by rw [Bd.returns] at h; cases h) hlk (by decide) (by decide) ?_ (fun fs hr => ?_)
    · show Q18 Z th a_INTEGER a_DECIMAL h0 n0 (some (.int (1 : Int32))) T1.heap _
      rw [e1]
      exact ⟨congrArg (fun z => some (Value.int z)) (by unfold own_num; rw [if_pos ha4_2]), N0, rfl⟩
    · show Steps p.tables e below (T1.setTop (mkF m 19 #[.val (.ref th)] [(.int (1 : Int32))])) _
      exact retN X1 hx (t := .boolean) Bd.returns (by simp) (hb hby own_d18_19) hr
  · refine own_st (A' := T1.setTop (mkF m 8 #[.val (.ref th)] [(.ref th)])) (fun tg kt => ?_) ?_
    · show Steps p.tables e below (T1.setTop (mkF m 4 #[.val (.ref th)] [(.ref a_INTEGER), (.ref th)])) _
      refine Jvm.RoadKit.acmp (g := (mkF m 4 #[.val (.ref th)] [(.ref a_INTEGER), (.ref th)])) X1 hx rfl rfl rfl (pc0 := 4) (pc' := 7) (same := false) rfl (hb hby own_d18_4) rfl (decide_eq_false fun q => ha4_2 (Value.ref.inj q)) (by decide) (by decide) ?_
      show Steps p.tables e below (T1.setTop (mkF m 7 #[.val (.ref th)] [])) _
      refine XS.aloadN X1.here hx rfl (hb hby own_d18_7) rfl rfl ?_
      exact kt
    obtain ⟨T3, X3, e3, st3⟩ := getS2 X1 hx hZ hown (host := "") (Or.inl (hw _ (List.mem_of_getElem? (i := 140) rfl))) Via.refl e1 S_DECIMAL (g := (mkF m 8 #[.val (.ref th)] [(.ref th)])) rfl (hb hby own_d18_8)
    refine own_st st3 ?_
    show own_Gl _ _ _ _ _ _ _ _ (T3.setTop (mkF m 11 #[.val (.ref th)] [(.ref a_DECIMAL), (.ref th)]))
    by_cases ha11_4 : th = a_DECIMAL
    · refine own_st (A' := T3.setTop (mkF m 19 #[.val (.ref th)] [(.int (1 : Int32))])) (fun tg kt => ?_) ?_
      · show Steps p.tables e below (T3.setTop (mkF m 11 #[.val (.ref th)] [(.ref a_DECIMAL), (.ref th)])) _
        refine Jvm.RoadKit.acmp (g := (mkF m 11 #[.val (.ref th)] [(.ref a_DECIMAL), (.ref th)])) X3 hx rfl rfl rfl (pc0 := 11) (pc' := 14) (same := true) rfl (hb hby own_d18_11) rfl (decide_eq_true (congrArg Value.ref ha11_4)) (by decide) (by decide) ?_
        show Steps p.tables e below (T3.setTop (mkF m 14 #[.val (.ref th)] [])) _
        refine XS.iconst X3.here hx rfl (hb hby own_d18_14) ?_
        show Steps p.tables e below (T3.setTop (mkF m 15 #[.val (.ref th)] [(.int (1 : Int32))])) _
        refine XS.goto X3.here hx rfl (pc0 := 15) (pc' := 19) rfl (hb hby own_d18_15) (by decide) (by decide) ?_
        exact kt
      refine own_ret X3 (v := some (.int (1 : Int32))) (fun h => by rw [Bd.returns] at h; cases h) hlk (by decide) (by decide) ?_ (fun fs hr => ?_)
      · show Q18 Z th a_INTEGER a_DECIMAL h0 n0 (some (.int (1 : Int32))) T3.heap _
        rw [e3]
        exact ⟨congrArg (fun z => some (Value.int z)) (by unfold own_num; rw [if_neg ha4_2, if_pos ha11_4]), N0, rfl⟩
      · show Steps p.tables e below (T3.setTop (mkF m 19 #[.val (.ref th)] [(.int (1 : Int32))])) _
        exact retN X3 hx (t := .boolean) Bd.returns (by simp) (hb hby own_d18_19) hr
    · refine own_st (A' := T3.setTop (mkF m 19 #[.val (.ref th)] [(.int (0 : Int32))])) (fun tg kt => ?_) ?_
      · show Steps p.tables e below (T3.setTop (mkF m 11 #[.val (.ref th)] [(.ref a_DECIMAL), (.ref th)])) _
        refine Jvm.RoadKit.acmp (g := (mkF m 11 #[.val (.ref th)] [(.ref a_DECIMAL), (.ref th)])) X3 hx rfl rfl rfl (pc0 := 11) (pc' := 18) (same := false) rfl (hb hby own_d18_11) rfl (decide_eq_false fun q => ha11_4 (Value.ref.inj q)) (by decide) (by decide) ?_
        show Steps p.tables e below (T3.setTop (mkF m 18 #[.val (.ref th)] [])) _
        refine XS.iconst X3.here hx rfl (hb hby own_d18_18) ?_
        exact kt
      refine own_ret X3 (v := some (.int (0 : Int32))) (fun h => by rw [Bd.returns] at h; cases h) hlk (by decide) (by decide) ?_ (fun fs hr => ?_)
      · show Q18 Z th a_INTEGER a_DECIMAL h0 n0 (some (.int (0 : Int32))) T3.heap _
        rw [e3]
        exact ⟨congrArg (fun z => some (Value.int z)) (by unfold own_num; rw [if_neg ha4_2, if_neg ha11_4]), N0, rfl⟩
      · show Steps p.tables e below (T3.setTop (mkF m 19 #[.val (.ref th)] [(.int (0 : Int32))])) _
        exact retN X3 hx (t := .boolean) Bd.returns (by simp) (hb hby own_d18_19) hr
theorem own_d19_0 : decode jdk_117_method_19_code 0 = .ok (.aload_n 0, 1) := by decide +kernel
theorem own_d19_1 : decode jdk_117_method_19_code 1 = .ok (.getfield 118, 3) := by decide +kernel
theorem own_d19_4 : decode jdk_117_method_19_code 4 = .ok (.dreturn, 1) := by decide +kernel
theorem own_ef_rm19 (m : MethodId) (th : Addr) : entryFrame m #[(.ref th)] 1 = mkF m 0 #[.val (.ref th)] [] := by first | (simp [entryFrame, mkF, argsToLocals, Value.category]; done) | rfl
def Q19 (Z : State) (th : Addr) (d : UInt64) (h0 : Heap) (n0 : Nat) (v : Option Value) (h : Heap) (L : List Loc) : Prop := v = some (.double d) ∧ Fr n0 L ∧ h = h0
set_option maxRecDepth 65536 in
set_option maxHeartbeats 40000000 in
theorem rm19 (l : Launch) (Z : State) (a0 : Array Value) (hw : ∀ d ∈ tables_1, d.before a0 Z = true) (ws : List Jvm.Cond) (th : Addr) (d : UInt64) (h0 : Heap) (n0 : Nat) (Z0 : n0 ≤ h0.size) (Fv : Fld Z h0 th "java/lang/Double" "value" "D" (.double d)) :
    MetFree l (⟨"java/lang/Double", "doubleValue", "()D"⟩ : MethodName) (head1 (Jvm.Cond.code (⟨"java/lang/Double", "doubleValue", "()D"⟩ : MethodName) jdk_117_method_19_code 1 (some .double) :: ws) ({ frames := 0, cells := 0, slots := 0, locals := 0 } : Room)) (fun a U => a = #[(.ref th)] ∧ Z.Warmed39 U.vm ∧ U.heap = h0) (fun _ _ _ _ _ => True) (fun _ U o U' => ∃ v L, o = .returned v ∧ Q19 Z th d h0 n0 v U'.heap L ∧ FrameEnd U o U' L ({ frames := 0, cells := 0, slots := 0, locals := 0 } : Room).cells ({ frames := 0, cells := 0, slots := 0, locals := 0 } : Room).slots) := by
  refine MetFree.of_bodySF (plainFor_of_name own_pn4) hisR ?_
  intro p e s m args below meth c s₁ Bd hml0 hP hK
  obtain ⟨rfl, hZ, hh⟩ := hP
  have hx := Bd.exec
  have hby := Bd.bytes
  have hml : c.maxLocals = 1 := hml0
  have hown : s.vm.findClass "java/lang/Double" = some m.cls := findClass_of_methodNamed Bd.named
  have hnm := (name_of_methodNamed Bd.named Bd.method).1
  have hlk : meth.locks = false := BodyLoose.notSynchronized Bd
  have X0 : Stand p l e ({ frames := 0, cells := 0, slots := 0, locals := 0 } : Room) s m #[(.ref th)] below meth c s₁ [] 0 0 := Stand.of_body Bd
  have e0 : s₁.heap = h0 := by rw [← hh, Bd.state]; rfl
  have N0 := Fr.nil n0
  show own_Gl FrameEnd p e below s (Q19 Z th d h0 n0) ({ frames := 0, cells := 0, slots := 0, locals := 0 } : Room).cells ({ frames := 0, cells := 0, slots := 0, locals := 0 } : Room).slots (s₁.setTop (entryFrame m #[(.ref th)] 1))
  rw [own_ef_rm19 m th]
  refine own_st (A' := s₁.setTop (mkF m 1 #[.val (.ref th)] [(.ref th)])) (fun tg kt => ?_) ?_
  · show Steps p.tables e below (s₁.setTop (mkF m 0 #[.val (.ref th)] [])) _
    refine XS.aloadN X0.here hx rfl (hb hby own_d19_0) rfl rfl ?_
    exact kt
  obtain ⟨T1, X1, e1, st1⟩ := getF X0 hx hZ hown (host := "") (Or.inl (hw _ (List.mem_of_getElem? (i := 103) rfl))) Via.refl e0 Fv (g := (mkF m 1 #[.val (.ref th)] [(.ref th)])) rfl rfl (hb hby own_d19_1)
  refine own_st st1 ?_
  show own_Gl _ _ _ _ _ _ _ _ (T1.setTop (mkF m 4 #[.val (.ref th)] [(.double d)]))
  refine own_ret X1 (v := some (.double d)) (fun h => by rw [Bd.returns] at h; cases h) hlk (by decide) (by decide) ?_ (fun fs hr => ?_)
  · show Q19 Z th d h0 n0 (some (.double d)) T1.heap _
    rw [e1]
    exact ⟨rfl, N0, rfl⟩
  · show Steps p.tables e below (T1.setTop (mkF m 4 #[.val (.ref th)] [(.double d)])) _
    jvm_step X1.here [X1.here.top, hx, (hb hby own_d19_4), X1.method', Bd.returns, narrow]
    first | (intro acts; rw [hr _ acts rfl rfl rfl]) | rw [hr _ _ rfl rfl rfl]
    exact Steps.refl _
theorem own_pd7 : parseMethodDescriptor "(D)D" = some ⟨[.double], some .double⟩ := by decide +kernel
theorem own_d20_0 : decode jdk_117_method_8_code 0 = .ok (.dload_n 0, 1) := by decide +kernel
theorem own_d20_1 : decode jdk_117_method_8_code 1 = .ok (.invokestatic 38, 3) := by decide +kernel
theorem own_d20_4 : decode jdk_117_method_8_code 4 = .ok (.ldc2_w 111, 3) := by decide +kernel
theorem own_d20_7 : decode jdk_117_method_8_code 7 = .ok (.dcmp .g, 1) := by decide +kernel
theorem own_d20_8 : decode jdk_117_method_8_code 8 = .ok (.ifCond .gt 7, 3) := by decide +kernel
theorem own_d20_11 : decode jdk_117_method_8_code 11 = .ok (.iconst 1, 1) := by decide +kernel
theorem own_d20_12 : decode jdk_117_method_8_code 12 = .ok (.goto 4, 3) := by decide +kernel
theorem own_d20_16 : decode jdk_117_method_8_code 16 = .ok (.ireturn, 1) := by decide +kernel
theorem own_ef_rm20 (m : MethodId) (d : UInt64) : entryFrame m #[(.double d)] 2 = mkF m 0 #[.val (.double d), .second] [] := by first | (simp [entryFrame, mkF, argsToLocals, Value.category]; done) | rfl
def Q20 (Z : State) (d : UInt64) (h0 : Heap) (n0 : Nat) (v : Option Value) (h : Heap) (L : List Loc) : Prop := v = some (.int 1) ∧ Fr n0 L ∧ h = h0
set_option maxRecDepth 65536 in
set_option maxHeartbeats 40000000 in
theorem rm20 (l : Launch) (Z : State) (a0 : Array Value) (hw : ∀ d ∈ tables_1, d.before a0 Z = true) (ws : List Jvm.Cond) (d : UInt64) (h0 : Heap) (n0 : Nat) (Z0 : n0 ≤ h0.size) (hf : Jvm.Free.Fl.Fin64 d) :
    MetFree l (⟨"java/lang/Double", "isFinite", "(D)Z"⟩ : MethodName) (head1 (Jvm.Cond.code (⟨"java/lang/Double", "isFinite", "(D)Z"⟩ : MethodName) jdk_117_method_8_code 2 (some .boolean) :: ws) ({ frames := 1, cells := 0, slots := 0, locals := 13 } : Room)) (fun a U => a = #[(.double d)] ∧ Z.Warmed39 U.vm ∧ U.heap = h0) (fun _ _ _ _ _ => True) (fun _ U o U' => ∃ v L, o = .returned v ∧ Q20 Z d h0 n0 v U'.heap L ∧ FrameEnd U o U' L ({ frames := 1, cells := 0, slots := 0, locals := 13 } : Room).cells ({ frames := 1, cells := 0, slots := 0, locals := 13 } : Room).slots) := by
  refine MetFree.of_bodySF (plainFor_of_name own_pn4) hisR ?_
  intro p e s m args below meth c s₁ Bd hml0 hP hK
  obtain ⟨rfl, hZ, hh⟩ := hP
  have hx := Bd.exec
  have hby := Bd.bytes
  have hml : c.maxLocals = 2 := hml0
  have hown : s.vm.findClass "java/lang/Double" = some m.cls := findClass_of_methodNamed Bd.named
  have hnm := (name_of_methodNamed Bd.named Bd.method).1
  have hlk : meth.locks = false := BodyLoose.notSynchronized Bd
  have X0 : Stand p l e ({ frames := 1, cells := 0, slots := 0, locals := 13 } : Room) s m #[(.double d)] below meth c s₁ [] 0 0 := Stand.of_body Bd
  have e0 : s₁.heap = h0 := by rw [← hh, Bd.state]; rfl
  have N0 := Fr.nil n0
  show own_Gl FrameEnd p e below s (Q20 Z d h0 n0) ({ frames := 1, cells := 0, slots := 0, locals := 13 } : Room).cells ({ frames := 1, cells := 0, slots := 0, locals := 13 } : Room).slots (s₁.setTop (entryFrame m #[(.double d)] 2))
  rw [own_ef_rm20 m d]
  refine own_st (A' := s₁.setTop (mkF m 1 #[.val (.double d), .second] [(.double d)])) (fun tg kt => ?_) ?_
  · show Steps p.tables e below (s₁.setTop (mkF m 0 #[.val (.double d), .second] [])) _
    refine XS.dloadN X0.here hx rfl (hb hby own_d20_0) rfl ?_
    exact kt
  obtain ⟨T1, X1, e1, st1⟩ := natS X0 hx hZ hown (hw _ (List.mem_of_getElem? (i := 119) rfl)) (hw _ (List.mem_of_getElem? (i := 120) rfl)) (hw _ (List.mem_of_getElem? (i := 81) rfl)) (hw _ (List.mem_of_getElem? (i := 121) rfl)) (by decide) e0 (W := 0) (fun hc => Jvm.Free.Fl.Abs.absD_pays d hc (by decide) (by decide)) (g := (mkF m 1 #[.val (.double d), .second] [(.double d)])) rfl (by rw [hml]; rfl) (argsL := [(.double d)]) (rest := []) (lenOf own_pd7 rfl) rfl (by show 2 * 0 + _ ≤ _; exact Nat.le_of_eq rfl) (hb hby own_d20_1) (by decide) (by decide) ⟨rfl, hf.noNaN⟩ rfl
  refine own_st st1 ?_
  show own_Gl _ _ _ _ _ _ _ _ (T1.setTop (mkF m 4 #[.val (.double d), .second] [(.double (d &&& 0x7fffffffffffffff))]))
  refine own_st (A' := T1.setTop (mkF m 16 #[.val (.double d), .second] [(.int (1 : Int32))])) (fun tg kt => ?_) ?_
  · show Steps p.tables e below (T1.setTop (mkF m 4 #[.val (.double d), .second] [(.double (d &&& 0x7fffffffffffffff))])) _
    refine X1.ldc2DoubleC hx hown (mvT hZ (hw _ (List.mem_of_getElem? (i := 122) rfl))) (g := (mkF m 4 #[.val (.double d), .second] [(.double (d &&& 0x7fffffffffffffff))])) rfl (hb hby own_d20_4) _ ?_
    show Steps p.tables e below (T1.setTop (mkF m 7 #[.val (.double d), .second] [(.double (9218868437227405311 : UInt64)), (.double (d &&& 0x7fffffffffffffff))])) _
    refine XS.dcmpS X1.here hx rfl (hb hby own_d20_7) rfl rfl ?_
    show Steps p.tables e below (T1.setTop (mkF m 8 #[.val (.double d), .second] [(.int (cmpValue (FP.dcmp (d &&& 0x7fffffffffffffff) (9218868437227405311 : UInt64)) .g))])) _
    refine XS.ifNo X1.here hx rfl (hb hby own_d20_8) rfl ((if0 _ _).trans (flt (own_isf hf : ¬ ((0 : Int32) < (cmpValue (FP.dcmp (d &&& 0x7fffffffffffffff) (9218868437227405311 : UInt64)) .g)))).2.2.1) ?_
    show Steps p.tables e below (T1.setTop (mkF m 11 #[.val (.double d), .second] [])) _
    refine XS.iconst X1.here hx rfl (hb hby own_d20_11) ?_
    show Steps p.tables e below (T1.setTop (mkF m 12 #[.val (.double d), .second] [(.int (1 : Int32))])) _
    refine XS.goto X1.here hx rfl (pc0 := 12) (pc' := 16) rfl (hb hby own_d20_12) (by decide) (by decide) ?_
    exact kt
  refine own_ret X1 (v := some (.int (1 : Int32))) (fun h => by rw [Bd.returns] at h; cases h) hlk (by decide) (by decide) ?_ (fun fs hr => ?_)
  · show Q20 Z d h0 n0 (some (.int (1 : Int32))) T1.heap _
    rw [e1]
    exact ⟨rfl, N0, rfl⟩
  · show Steps p.tables e below (T1.setTop (mkF m 16 #[.val (.double d), .second] [(.int (1 : Int32))])) _
    exact retN X1 hx (t := .boolean) Bd.returns (by simp) (hb hby own_d20_16) hr
theorem own_d11_0 : decode jdk_42_method_55_code 0 = .ok (.aload_n 0, 1) := by decide +kernel
theorem own_d11_1 : decode jdk_42_method_55_code 1 = .ok (.getfield 9, 3) := by decide +kernel
theorem own_d11_4 : decode jdk_42_method_55_code 4 = .ok (.arraylength, 1) := by decide +kernel
theorem own_d11_5 : decode jdk_42_method_55_code 5 = .ok (.ifCond .ne 7, 3) := by decide +kernel
theorem own_d11_12 : decode jdk_42_method_55_code 12 = .ok (.iconst 0, 1) := by decide +kernel
theorem own_d11_13 : decode jdk_42_method_55_code 13 = .ok (.ireturn, 1) := by decide +kernel
theorem own_ef_rm11 (m : MethodId) (th : Addr) : entryFrame m #[(.ref th)] 1 = mkF m 0 #[.val (.ref th)] [] := by first | (simp [entryFrame, mkF, argsToLocals, Value.category]; done) | rfl
theorem own_pn8 : plainName "java/lang/String" = true := by first | (simp [plainName, overriddenIn]; done) | decide +kernel
def Q11 (Z : State) (th : Addr) (vb : Addr) (kb : ClassId) (vs : List Value) (h0 : Heap) (n0 : Nat) (v : Option Value) (h : Heap) (L : List Loc) : Prop := v = some (.int 0) ∧ Fr n0 L ∧ h = h0
set_option maxRecDepth 65536 in
set_option maxHeartbeats 40000000 in
theorem rm11 (l : Launch) (Z : State) (a0 : Array Value) (hw : ∀ d ∈ tables_1, d.before a0 Z = true) (ws : List Jvm.Cond) (th : Addr) (vb : Addr) (kb : ClassId) (vs : List Value) (h0 : Heap) (n0 : Nat) (Z0 : n0 ≤ h0.size) (Fv : Fld Z h0 th "java/lang/String" "value" "[B" (.ref vb)) (Vb : Arv Z h0 vb kb .byte (1 : Int32) vs (.int (0 : Int32))) :
    MetFree l (⟨"java/lang/String", "isEmpty", "()Z"⟩ : MethodName) (head1 (Jvm.Cond.code (⟨"java/lang/String", "isEmpty", "()Z"⟩ : MethodName) jdk_42_method_55_code 1 (some .boolean) :: ws) ({ frames := 0, cells := 0, slots := 0, locals := 0 } : Room)) (fun a U => a = #[(.ref th)] ∧ Z.Warmed39 U.vm ∧ U.heap = h0) (fun _ _ _ _ _ => True) (fun _ U o U' => ∃ v L, o = .returned v ∧ Q11 Z th vb kb vs h0 n0 v U'.heap L ∧ FrameEnd U o U' L ({ frames := 0, cells := 0, slots := 0, locals := 0 } : Room).cells ({ frames := 0, cells := 0, slots := 0, locals := 0 } : Room).slots) := by
  refine MetFree.of_bodySF (plainFor_of_name own_pn8) hisR ?_
  intro p e s m args below meth c s₁ Bd hml0 hP hK
  obtain ⟨rfl, hZ, hh⟩ := hP
  have hx := Bd.exec
  have hby := Bd.bytes
  have hml : c.maxLocals = 1 := hml0
  have hown : s.vm.findClass "java/lang/String" = some m.cls := findClass_of_methodNamed Bd.named
  have hnm := (name_of_methodNamed Bd.named Bd.method).1
  have hlk : meth.locks = false := BodyLoose.notSynchronized Bd
  have X0 : Stand p l e ({ frames := 0, cells := 0, slots := 0, locals := 0 } : Room) s m #[(.ref th)] below meth c s₁ [] 0 0 := Stand.of_body Bd
  have e0 : s₁.heap = h0 := by rw [← hh, Bd.state]; rfl
  have N0 := Fr.nil n0
  show own_Gl FrameEnd p e below s (Q11 Z th vb kb vs h0 n0) ({ frames := 0, cells := 0, slots := 0, locals := 0 } : Room).cells ({ frames := 0, cells := 0, slots := 0, locals := 0 } : Room).slots (s₁.setTop (entryFrame m #[(.ref th)] 1))
  rw [own_ef_rm11 m th]
  refine own_st (A' := s₁.setTop (mkF m 1 #[.val (.ref th)] [(.ref th)])) (fun tg kt => ?_) ?_
  · show Steps p.tables e below (s₁.setTop (mkF m 0 #[.val (.ref th)] [])) _
    refine XS.aloadN X0.here hx rfl (hb hby own_d11_0) rfl rfl ?_
    exact kt
  obtain ⟨T1, X1, e1, st1⟩ := getF X0 hx hZ hown (host := "") (Or.inl (hw _ (List.mem_of_getElem? (i := 36) rfl))) Via.refl e0 Fv (g := (mkF m 1 #[.val (.ref th)] [(.ref th)])) rfl rfl (hb hby own_d11_1)
  refine own_st st1 ?_
  show own_Gl _ _ _ _ _ _ _ _ (T1.setTop (mkF m 4 #[.val (.ref th)] [(.ref vb)]))
  have Vt2 := Vb
  obtain ⟨cl2, Ar2, -, Sz2, Nn2, -, -⟩ := Vt2
  refine own_st (A' := T1.setTop (mkF m 13 #[.val (.ref th)] [(.int (0 : Int32))])) (fun tg kt => ?_) ?_
  · show Steps p.tables e below (T1.setTop (mkF m 4 #[.val (.ref th)] [(.ref vb)])) _
    refine X1.arraylength hx (own_at_heap e1 Ar2.1) (State.isArrayOf_alike hZ.alike Ar2.2.1) (g := (mkF m 4 #[.val (.ref th)] [(.ref vb)])) rfl rfl (hb hby own_d11_4) _ ?_
    rw [len_of Sz2 Nn2]
    show Steps p.tables e below (T1.setTop (mkF m 5 #[.val (.ref th)] [(.int (1 : Int32))])) _
    refine XS.ifYes X1.here hx rfl (pc0 := 5) (pc' := 12) rfl (hb hby own_d11_5) rfl ((if0 _ _).trans (feq ((by decide) : ¬ ((1 : Int32) = (0 : Int32)))).2) (by decide) (by decide) ?_
    show Steps p.tables e below (T1.setTop (mkF m 12 #[.val (.ref th)] [])) _
    refine XS.iconst X1.here hx rfl (hb hby own_d11_12) ?_
    exact kt
  refine own_ret X1 (v := some (.int (0 : Int32))) (fun h => by rw [Bd.returns] at h; cases h) hlk (by decide) (by decide) ?_ (fun fs hr => ?_)
  · show Q11 Z th vb kb vs h0 n0 (some (.int (0 : Int32))) T1.heap _
    rw [e1]
    exact ⟨rfl, N0, rfl⟩
  · show Steps p.tables e below (T1.setTop (mkF m 13 #[.val (.ref th)] [(.int (0 : Int32))])) _
    exact retN X1 hx (t := .boolean) Bd.returns (by simp) (hb hby own_d11_13) hr
theorem own_pd9 : parseMethodDescriptor "(Ljava/lang/Object;Ljava/lang/String;)Ljava/lang/Object;" = some ⟨[(.object "java/lang/Object"), (.object "java/lang/String")], some (.object "java/lang/Object")⟩ := by decide +kernel
theorem own_pd10 : parseMethodDescriptor "()Z" = some ⟨[], some .boolean⟩ := by decide +kernel
theorem own_d9_0 : decode prog_9_method_2_code 0 = .ok (.aload_n 0, 1) := by decide +kernel
theorem own_d9_1 : decode prog_9_method_2_code 1 = .ok (.invokespecial 7, 3) := by decide +kernel
theorem own_d9_4 : decode prog_9_method_2_code 4 = .ok (.aload_n 1, 1) := by decide +kernel
theorem own_d9_5 : decode prog_9_method_2_code 5 = .ok (.ldc 12, 2) := by decide +kernel
theorem own_d9_7 : decode prog_9_method_2_code 7 = .ok (.invokestatic 14, 3) := by decide +kernel
theorem own_d9_10 : decode prog_9_method_2_code 10 = .ok (.pop, 1) := by decide +kernel
theorem own_d9_11 : decode prog_9_method_2_code 11 = .ok (.aload_n 2, 1) := by decide +kernel
theorem own_d9_12 : decode prog_9_method_2_code 12 = .ok (.ldc 20, 2) := by decide +kernel
theorem own_d9_14 : decode prog_9_method_2_code 14 = .ok (.invokestatic 14, 3) := by decide +kernel
theorem own_d9_17 : decode prog_9_method_2_code 17 = .ok (.pop, 1) := by decide +kernel
theorem own_d9_18 : decode prog_9_method_2_code 18 = .ok (.aload_n 1, 1) := by decide +kernel
theorem own_d9_19 : decode prog_9_method_2_code 19 = .ok (.invokevirtual 22, 3) := by decide +kernel
theorem own_d9_22 : decode prog_9_method_2_code 22 = .ok (.ifCond .eq 13, 3) := by decide +kernel
theorem own_d9_35 : decode prog_9_method_2_code 35 = .ok (.aload_n 3, 1) := by decide +kernel
theorem own_d9_36 : decode prog_9_method_2_code 36 = .ok (.ifnonnull 7, 3) := by decide +kernel
theorem own_d9_39 : decode prog_9_method_2_code 39 = .ok (.iconst 1, 1) := by decide +kernel
theorem own_d9_40 : decode prog_9_method_2_code 40 = .ok (.goto 4, 3) := by decide +kernel
theorem own_d9_44 : decode prog_9_method_2_code 44 = .ok (.aload 4, 2) := by decide +kernel
theorem own_d9_46 : decode prog_9_method_2_code 46 = .ok (.ifnonnull 7, 3) := by decide +kernel
theorem own_d9_49 : decode prog_9_method_2_code 49 = .ok (.iconst 1, 1) := by decide +kernel
theorem own_d9_50 : decode prog_9_method_2_code 50 = .ok (.goto 4, 3) := by decide +kernel
theorem own_d9_54 : decode prog_9_method_2_code 54 = .ok (.if_icmp .eq 17, 3) := by decide +kernel
theorem own_d9_71 : decode prog_9_method_2_code 71 = .ok (.aload_n 3, 1) := by decide +kernel
theorem own_d9_72 : decode prog_9_method_2_code 72 = .ok (.ifnull 28, 3) := by decide +kernel
theorem own_d9_100 : decode prog_9_method_2_code 100 = .ok (.aload_n 3, 1) := by decide +kernel
theorem own_d9_101 : decode prog_9_method_2_code 101 = .ok (.ifnull 38, 3) := by decide +kernel
theorem own_d9_139 : decode prog_9_method_2_code 139 = .ok (.aload_n 3, 1) := by decide +kernel
theorem own_d9_140 : decode prog_9_method_2_code 140 = .ok (.ifnull 30, 3) := by decide +kernel
theorem own_d9_170 : decode prog_9_method_2_code 170 = .ok (.aload_n 0, 1) := by decide +kernel
theorem own_d9_171 : decode prog_9_method_2_code 171 = .ok (.aload_n 1, 1) := by decide +kernel
theorem own_d9_172 : decode prog_9_method_2_code 172 = .ok (.putfield 63, 3) := by decide +kernel
theorem own_d9_175 : decode prog_9_method_2_code 175 = .ok (.aload_n 0, 1) := by decide +kernel
theorem own_d9_176 : decode prog_9_method_2_code 176 = .ok (.aload_n 2, 1) := by decide +kernel
theorem own_d9_177 : decode prog_9_method_2_code 177 = .ok (.putfield 66, 3) := by decide +kernel
theorem own_d9_180 : decode prog_9_method_2_code 180 = .ok (.aload_n 0, 1) := by decide +kernel
theorem own_d9_181 : decode prog_9_method_2_code 181 = .ok (.aload_n 3, 1) := by decide +kernel
theorem own_d9_182 : decode prog_9_method_2_code 182 = .ok (.putfield 69, 3) := by decide +kernel
theorem own_d9_185 : decode prog_9_method_2_code 185 = .ok (.aload_n 0, 1) := by decide +kernel
theorem own_d9_186 : decode prog_9_method_2_code 186 = .ok (.aload 4, 2) := by decide +kernel
theorem own_d9_188 : decode prog_9_method_2_code 188 = .ok (.putfield 73, 3) := by decide +kernel
theorem own_d9_191 : decode prog_9_method_2_code 191 = .ok (.return_, 1) := by decide +kernel
theorem own_ef_rm9n (m : MethodId) (th : Addr) (nm : Addr) (ty : Addr) : entryFrame m #[(.ref th), (.ref nm), (.ref ty), .null, .null] 5 = mkF m 0 #[.val (.ref th), .val (.ref nm), .val (.ref ty), .val .null, .val .null] [] := by first | (simp [entryFrame, mkF, argsToLocals, Value.category]; done) | rfl
theorem own_pn11 : plainName "com/example/inexact_search/inexactsearch/engine/Attribute" = true := by first | (simp [plainName, overriddenIn]; done) | decide +kernel
def Q9n (Z : State) (th : Addr) (nm : Addr) (ty : Addr) (vb : Addr) (kb : ClassId) (vs : List Value) (h0 : Heap) (n0 : Nat) (v : Option Value) (h : Heap) (L : List Loc) : Prop := v = none ∧ Fr n0 L ∧ Keep h0 h [th] ∧ Exa Z h th "com/example/inexact_search/inexactsearch/engine/Attribute" ∧ Fld Z h th "com/example/inexact_search/inexactsearch/engine/Attribute" "declaredMin" "Ljava/lang/Double;" .null
set_option maxRecDepth 65536 in
set_option maxHeartbeats 40000000 in
theorem rm9n (l : Launch) (Z : State) (a0 : Array Value) (hw : ∀ d ∈ tables_1, d.before a0 Z = true) (ws : List Jvm.Cond) (th : Addr) (nm : Addr) (ty : Addr) (vb : Addr) (kb : ClassId) (vs : List Value) (h0 : Heap) (n0 : Nat) (Z0 : n0 ≤ h0.size) (F_name : Fld Z h0 th "com/example/inexact_search/inexactsearch/engine/Attribute" "name" "Ljava/lang/String;" .null) (F_type : Fld Z h0 th "com/example/inexact_search/inexactsearch/engine/Attribute" "type" "Lcom/example/inexact_search/inexactsearch/engine/AttributeType;" .null) (F_declaredMin : Fld Z h0 th "com/example/inexact_search/inexactsearch/engine/Attribute" "declaredMin" "Ljava/lang/Double;" .null) (F_declaredMax : Fld Z h0 th "com/example/inexact_search/inexactsearch/engine/Attribute" "declaredMax" "Ljava/lang/Double;" .null) (Eth : Exa Z h0 th "com/example/inexact_search/inexactsearch/engine/Attribute") (gth : n0 ≤ th) (Es : Exa Z h0 nm "java/lang/String") (Fs : Fld Z h0 nm "java/lang/String" "value" "[B" (.ref vb)) (Vs : Arv Z h0 vb kb .byte (1 : Int32) vs (.int (0 : Int32))) (nes : nm ≠ th) (nev : vb ≠ th) :
    MetFree l (⟨"com/example/inexact_search/inexactsearch/engine/Attribute", "<init>", "(Ljava/lang/String;Lcom/example/inexact_search/inexactsearch/engine/AttributeType;Ljava/lang/Double;Ljava/lang/Double;)V"⟩ : MethodName) (head1 (Jvm.Cond.code (⟨"com/example/inexact_search/inexactsearch/engine/Attribute", "<init>", "(Ljava/lang/String;Lcom/example/inexact_search/inexactsearch/engine/AttributeType;Ljava/lang/Double;Ljava/lang/Double;)V"⟩ : MethodName) prog_9_method_2_code 5 none :: ws) ({ frames := 1, cells := 4, slots := 40, locals := 13 } : Room)) (fun a U => a = #[(.ref th), (.ref nm), (.ref ty), .null, .null] ∧ Z.Warmed39 U.vm ∧ U.heap = h0) (fun _ _ _ _ _ => True) (fun _ U o U' => ∃ v L, o = .returned v ∧ Q9n Z th nm ty vb kb vs h0 n0 v U'.heap L ∧ ReturnedEndW U o U' L ({ frames := 1, cells := 4, slots := 40, locals := 13 } : Room).cells ({ frames := 1, cells := 4, slots := 40, locals := 13 } : Room).slots) := by
  refine MetFree.of_bodySF (plainFor_of_name own_pn11) hisR ?_
  intro p e s m args below meth c s₁ Bd hml0 hP hK
  obtain ⟨rfl, hZ, hh⟩ := hP
  have wS : ∀ a ∈ Bundle.stringAtoms, a.before a0 Z = true := own_wS hw
  have hx := Bd.exec
  have hby := Bd.bytes
  have hml : c.maxLocals = 5 := hml0
  have hown : s.vm.findClass "com/example/inexact_search/inexactsearch/engine/Attribute" = some m.cls := findClass_of_methodNamed Bd.named
  have hnm := (name_of_methodNamed Bd.named Bd.method).1
  have hlk : meth.locks = false := BodyLoose.notSynchronized Bd
  have X0 : Stand p l e ({ frames := 1, cells := 4, slots := 40, locals := 13 } : Room) (s.setVm s.vm) m #[(.ref th), (.ref nm), (.ref ty), .null, .null] below meth c s₁ [] 0 0 := Stand.of_body Bd
  have e0 : s₁.heap = h0 := by rw [← hh, Bd.state]; rfl
  have N0 := Fr.nil n0
  show own_Gl ReturnedEndW p e below s (Q9n Z th nm ty vb kb vs h0 n0) ({ frames := 1, cells := 4, slots := 40, locals := 13 } : Room).cells ({ frames := 1, cells := 4, slots := 40, locals := 13 } : Room).slots (s₁.setTop (entryFrame m #[(.ref th), (.ref nm), (.ref ty), .null, .null] 5))
  rw [own_ef_rm9n m th nm ty]
  have hS0 : s.Since s.vm 0 := State.WarmedH.since (State.WarmedH.refl s) 0
  have hk0 : 0 ≤ h0.size := Nat.zero_le _
  refine own_st (A' := s₁.setTop (mkF m 1 #[.val (.ref th), .val (.ref nm), .val (.ref ty), .val .null, .val .null] [(.ref th)])) (fun tg kt => ?_) ?_
  · show Steps p.tables e below (s₁.setTop (mkF m 0 #[.val (.ref th), .val (.ref nm), .val (.ref ty), .val .null, .val .null] [])) _
    refine XS.aloadN X0.here hx rfl (hb hby own_d9_0) rfl rfl ?_
    exact kt
  obtain ⟨T1, X1, e1, st1⟩ := initO X0 hx hZ hown (hw _ (List.mem_of_getElem? (i := 47) rfl)) (hw _ (List.mem_of_getElem? (i := 20) rfl)) (hw _ (List.mem_of_getElem? (i := 21) rfl)) e0 (g := (mkF m 1 #[.val (.ref th), .val (.ref nm), .val (.ref ty), .val .null, .val .null] [(.ref th)])) rfl (by rw [hml]; rfl) rfl (hb hby own_d9_1) (by decide) (W := 0) (by show 2 * 0 + _ ≤ _; exact Nat.le_of_eq rfl) (by decide)
  refine own_st st1 ?_
  show own_Gl _ _ _ _ _ _ _ _ (T1.setTop (mkF m 4 #[.val (.ref th), .val (.ref nm), .val (.ref ty), .val .null, .val .null] []))
  refine own_st (A' := T1.setTop (mkF m 5 #[.val (.ref th), .val (.ref nm), .val (.ref ty), .val .null, .val .null] [(.ref nm)])) (fun tg kt => ?_) ?_
  · show Steps p.tables e below (T1.setTop (mkF m 4 #[.val (.ref th), .val (.ref nm), .val (.ref ty), .val .null, .val .null] [])) _
    refine XS.aloadN X1.here hx rfl (hb hby own_d9_4) rfl rfl ?_
    exact kt
  obtain ⟨b2, T2, h2, k2, X2, e2, E2, hS2, hk2, hZ2, hown2, st2⟩ := ldcS X1 hx hZ hown (hw _ (List.mem_of_getElem? (i := 48) rfl)) wS e1 hS0 hk0 (g := (mkF m 5 #[.val (.ref th), .val (.ref nm), .val (.ref ty), .val .null, .val .null] [(.ref nm)])) rfl (hb hby own_d9_5) (n := 16) (by decide +kernel) (by decide) (by decide) (by decide)
  have K2 := ((Keep.refl h0 ([th] : List Addr))).ext E2
  have Z2 : n0 ≤ h2.size := Nat.le_trans Z0 E2.1
  refine own_st st2 ?_
  show own_Gl _ _ _ _ _ _ _ _ (T2.setTop (mkF m 7 #[.val (.ref th), .val (.ref nm), .val (.ref ty), .val .null, .val .null] [(.ref b2), (.ref nm)]))
  obtain ⟨_, _, ⟨T3, L3, k3, n3⟩, -, X3, ⟨Lc3, hQ3, l3, y3, z3⟩, st3⟩ := Jvm.LawKit.callS X2 hx (y := (⟨"java/util/Objects", "requireNonNull", "(Ljava/lang/Object;Ljava/lang/String;)Ljava/lang/Object;"⟩ : MethodName)) hown2 (mvT hZ2 (hw _ (List.mem_of_getElem? (i := 51) rfl))) (mvT hZ2 (hw _ (List.mem_of_getElem? (i := 52) rfl))) (mvT hZ2 (hw _ (List.mem_of_getElem? (i := 53) rfl))) (mvT hZ2 (hw _ (List.mem_of_getElem? (i := 54) rfl))) (by decide) (backOf (W := 0) (rm10 l Z a0 hw [] nm b2 h2 n0 Z2) hZ2 (hw _ (List.mem_of_getElem? (i := 54) rfl)) (hw _ (List.mem_of_getElem? (i := 53) rfl)) (by decide) (by decide)) (g := (mkF m 7 #[.val (.ref th), .val (.ref nm), .val (.ref ty), .val .null, .val .null] [(.ref b2), (.ref nm)])) rfl (by rw [hml]; rfl) (argsL := [(.ref nm), (.ref b2)]) (rest := []) (lenOf own_pd9 rfl) rfl (by show 2 * 0 + _ ≤ _; exact Nat.le_of_eq rfl) (hb hby own_d9_7) (fun _ _ => ⟨rfl, e2, (by decide : 2 + 0 ≤ _), (by decide : 20 + 0 ≤ _)⟩)
  dsimp only [Pt.U, Pt.locs, Pt.cells, Pt.slots] at X3 l3 y3 z3 st3 hQ3
  subst l3 y3 z3
  obtain ⟨rfl, Nq3, eq3⟩ := hQ3
  have N3 := Fr.app N0 Nq3
  refine own_st st3 ?_
  show own_Gl _ _ _ _ _ _ _ _ (T3.setTop (mkF m 10 #[.val (.ref th), .val (.ref nm), .val (.ref ty), .val .null, .val .null] [(.ref nm)]))
  refine own_st (A' := T3.setTop (mkF m 12 #[.val (.ref th), .val (.ref nm), .val (.ref ty), .val .null, .val .null] [(.ref ty)])) (fun tg kt => ?_) ?_
  · show Steps p.tables e below (T3.setTop (mkF m 10 #[.val (.ref th), .val (.ref nm), .val (.ref ty), .val .null, .val .null] [(.ref nm)])) _
    refine XS.pop X3.here hx rfl (hb hby own_d9_10) rfl rfl ?_
    show Steps p.tables e below (T3.setTop (mkF m 11 #[.val (.ref th), .val (.ref nm), .val (.ref ty), .val .null, .val .null] [])) _
    refine XS.aloadN X3.here hx rfl (hb hby own_d9_11) rfl rfl ?_
    exact kt
  obtain ⟨b4, T4, h4, k4, X4, e4, E4, hS4, hk4, hZ4, hown4, st4⟩ := ldcS X3 hx hZ2 hown2 (hw _ (List.mem_of_getElem? (i := 55) rfl)) wS eq3 hS2 hk2 (g := (mkF m 12 #[.val (.ref th), .val (.ref nm), .val (.ref ty), .val .null, .val .null] [(.ref ty)])) rfl (hb hby own_d9_12) (n := 16) (by decide +kernel) (by decide) (by decide) (by decide)
  have K4 := (K2).ext E4
  have Z4 : n0 ≤ h4.size := Nat.le_trans Z2 E4.1
  refine own_st st4 ?_
  show own_Gl _ _ _ _ _ _ _ _ (T4.setTop (mkF m 14 #[.val (.ref th), .val (.ref nm), .val (.ref ty), .val .null, .val .null] [(.ref b4), (.ref ty)]))
  obtain ⟨_, _, ⟨T5, L5, k5, n5⟩, -, X5, ⟨Lc5, hQ5, l5, y5, z5⟩, st5⟩ := Jvm.LawKit.callS X4 hx (y := (⟨"java/util/Objects", "requireNonNull", "(Ljava/lang/Object;Ljava/lang/String;)Ljava/lang/Object;"⟩ : MethodName)) hown4 (mvT hZ4 (hw _ (List.mem_of_getElem? (i := 51) rfl))) (mvT hZ4 (hw _ (List.mem_of_getElem? (i := 52) rfl))) (mvT hZ4 (hw _ (List.mem_of_getElem? (i := 53) rfl))) (mvT hZ4 (hw _ (List.mem_of_getElem? (i := 54) rfl))) (by decide) (backOf (W := 0) (rm10 l Z a0 hw [] ty b4 h4 n0 Z4) hZ4 (hw _ (List.mem_of_getElem? (i := 54) rfl)) (hw _ (List.mem_of_getElem? (i := 53) rfl)) (by decide) (by decide)) (g := (mkF m 14 #[.val (.ref th), .val (.ref nm), .val (.ref ty), .val .null, .val .null] [(.ref b4), (.ref ty)])) rfl (by rw [hml]; rfl) (argsL := [(.ref ty), (.ref b4)]) (rest := []) (lenOf own_pd9 rfl) rfl (by show 2 * 0 + _ ≤ _; exact Nat.le_of_eq rfl) (hb hby own_d9_14) (fun _ _ => ⟨rfl, e4, (by decide : 4 + 0 ≤ _), (by decide : 40 + 0 ≤ _)⟩)
  dsimp only [Pt.U, Pt.locs, Pt.cells, Pt.slots] at X5 l5 y5 z5 st5 hQ5
  subst l5 y5 z5
  obtain ⟨rfl, Nq5, eq5⟩ := hQ5
  have N5 := Fr.app N3 Nq5
  refine own_st st5 ?_
  show own_Gl _ _ _ _ _ _ _ _ (T5.setTop (mkF m 17 #[.val (.ref th), .val (.ref nm), .val (.ref ty), .val .null, .val .null] [(.ref ty)]))
  refine own_st (A' := T5.setTop (mkF m 19 #[.val (.ref th), .val (.ref nm), .val (.ref ty), .val .null, .val .null] [(.ref nm)])) (fun tg kt => ?_) ?_
  · show Steps p.tables e below (T5.setTop (mkF m 17 #[.val (.ref th), .val (.ref nm), .val (.ref ty), .val .null, .val .null] [(.ref ty)])) _
    refine XS.pop X5.here hx rfl (hb hby own_d9_17) rfl rfl ?_
    show Steps p.tables e below (T5.setTop (mkF m 18 #[.val (.ref th), .val (.ref nm), .val (.ref ty), .val .null, .val .null] [])) _
    refine XS.aloadN X5.here hx rfl (hb hby own_d9_18) rfl rfl ?_
    exact kt
  obtain ⟨cq6, kq6, q6a, q6b, q6c⟩ := isOf hZ4 eq5 ((Es.ext E2).ext E4)
  obtain ⟨_, _, ⟨T6, L6, k6, n6⟩, -, X6, ⟨Lc6, hQ6, l6, y6, z6⟩, st6⟩ := X5.virtualBack hx (y := (⟨"java/lang/String", "isEmpty", "()Z"⟩ : MethodName)) (z := (⟨"java/lang/String", "isEmpty", "()Z"⟩ : MethodName)) hown4 (mvT hZ4 (hw _ (List.mem_of_getElem? (i := 56) rfl))) (mvT hZ4 (hw _ (List.mem_of_getElem? (i := 57) rfl))) (notFace_of_selects (args := #[]) (mvT hZ4 (hw _ (List.mem_of_getElem? (i := 59) rfl)))) (mvT hZ4 (hw _ (List.mem_of_getElem? (i := 59) rfl))) (mvT hZ4 (hw _ (List.mem_of_getElem? (i := 58) rfl))) (by decide) (backOf (W := 0) (rm11 l Z a0 hw [] nm vb kb vs h4 n0 Z4 ((Fs.ext E2).ext E4) ((Vs.ext E2).ext E4)) hZ4 (hw _ (List.mem_of_getElem? (i := 60) rfl)) (hw _ (List.mem_of_getElem? (i := 11) rfl)) (by decide) (by decide)) q6a q6c (g := (mkF m 19 #[.val (.ref th), .val (.ref nm), .val (.ref ty), .val .null, .val .null] [(.ref nm)])) rfl (by rw [hml]; rfl) (Steps.refl _) (argsL := []) (rest := []) (lenOf own_pd10 rfl) rfl (by show 2 * 0 + _ ≤ _; exact Nat.le_of_eq rfl) (hb hby own_d9_19) (fun _ _ => ⟨rfl, eq5, (by decide : 4 + 0 ≤ _), (by decide : 40 + 0 ≤ _)⟩)
  dsimp only [Pt.U, Pt.locs, Pt.cells, Pt.slots] at X6 l6 y6 z6 st6 hQ6
  subst l6 y6 z6
  obtain ⟨rfl, Nq6, eq6⟩ := hQ6
  have N6 := Fr.app N5 Nq6
  refine own_tr st6 ?_
  show own_Gl _ _ _ _ _ _ _ _ (T6.setTop (mkF m 22 #[.val (.ref th), .val (.ref nm), .val (.ref ty), .val .null, .val .null] [(.int (0 : Int32))]))
  refine own_st (A' := T6.setTop (mkF m 172 #[.val (.ref th), .val (.ref nm), .val (.ref ty), .val .null, .val .null] [(.ref nm), (.ref th)])) (fun tg kt => ?_) ?_
  · show Steps p.tables e below (T6.setTop (mkF m 22 #[.val (.ref th), .val (.ref nm), .val (.ref ty), .val .null, .val .null] [(.int (0 : Int32))])) _
    refine XS.ifYes X6.here hx rfl (pc0 := 22) (pc' := 35) rfl (hb hby own_d9_22) rfl ((if0 _ _).trans (teq ((by decide) : (0 : Int32) = (0 : Int32))).1) (by decide) (by decide) ?_
    show Steps p.tables e below (T6.setTop (mkF m 35 #[.val (.ref th), .val (.ref nm), .val (.ref ty), .val .null, .val .null] [])) _
    refine XS.aloadN X6.here hx rfl (hb hby own_d9_35) rfl rfl ?_
    show Steps p.tables e below (T6.setTop (mkF m 36 #[.val (.ref th), .val (.ref nm), .val (.ref ty), .val .null, .val .null] [.null])) _
    refine XS.ifnonnullNo X6.here hx rfl (hb hby own_d9_36) rfl ?_
    show Steps p.tables e below (T6.setTop (mkF m 39 #[.val (.ref th), .val (.ref nm), .val (.ref ty), .val .null, .val .null] [])) _
    refine XS.iconst X6.here hx rfl (hb hby own_d9_39) ?_
    show Steps p.tables e below (T6.setTop (mkF m 40 #[.val (.ref th), .val (.ref nm), .val (.ref ty), .val .null, .val .null] [(.int (1 : Int32))])) _
    refine XS.goto X6.here hx rfl (pc0 := 40) (pc' := 44) rfl (hb hby own_d9_40) (by decide) (by decide) ?_
    show Steps p.tables e below (T6.setTop (mkF m 44 #[.val (.ref th), .val (.ref nm), .val (.ref ty), .val .null, .val .null] [(.int (1 : Int32))])) _
    refine XS.aload X6.here hx rfl (hb hby own_d9_44) rfl rfl ?_
    show Steps p.tables e below (T6.setTop (mkF m 46 #[.val (.ref th), .val (.ref nm), .val (.ref ty), .val .null, .val .null] [.null, (.int (1 : Int32))])) _
    refine XS.ifnonnullNo X6.here hx rfl (hb hby own_d9_46) rfl ?_
    show Steps p.tables e below (T6.setTop (mkF m 49 #[.val (.ref th), .val (.ref nm), .val (.ref ty), .val .null, .val .null] [(.int (1 : Int32))])) _
    refine XS.iconst X6.here hx rfl (hb hby own_d9_49) ?_
    show Steps p.tables e below (T6.setTop (mkF m 50 #[.val (.ref th), .val (.ref nm), .val (.ref ty), .val .null, .val .null] [(.int (1 : Int32)), (.int (1 : Int32))])) _
    refine XS.goto X6.here hx rfl (pc0 := 50) (pc' := 54) rfl (hb hby own_d9_50) (by decide) (by decide) ?_
    show Steps p.tables e below (T6.setTop (mkF m 54 #[.val (.ref th), .val (.ref nm), .val (.ref ty), .val .null, .val .null] [(.int (1 : Int32)), (.int (1 : Int32))])) _
    refine XS.icmpYes X6.here hx rfl (pc0 := 54) (pc' := 71) rfl (hb hby own_d9_54) rfl (teq ((by decide) : (1 : Int32) = (1 : Int32))).1 (by decide) (by decide) ?_
    show Steps p.tables e below (T6.setTop (mkF m 71 #[.val (.ref th), .val (.ref nm), .val (.ref ty), .val .null, .val .null] [])) _
    refine XS.aloadN X6.here hx rfl (hb hby own_d9_71) rfl rfl ?_
    show Steps p.tables e below (T6.setTop (mkF m 72 #[.val (.ref th), .val (.ref nm), .val (.ref ty), .val .null, .val .null] [.null])) _
    refine XS.ifnullYes X6.here hx rfl (pc0 := 72) (pc' := 100) rfl (hb hby own_d9_72) rfl (by decide) (by decide) ?_
    show Steps p.tables e below (T6.setTop (mkF m 100 #[.val (.ref th), .val (.ref nm), .val (.ref ty), .val .null, .val .null] [])) _
    refine XS.aloadN X6.here hx rfl (hb hby own_d9_100) rfl rfl ?_
    show Steps p.tables e below (T6.setTop (mkF m 101 #[.val (.ref th), .val (.ref nm), .val (.ref ty), .val .null, .val .null] [.null])) _
    refine XS.ifnullYes X6.here hx rfl (pc0 := 101) (pc' := 139) rfl (hb hby own_d9_101) rfl (by decide) (by decide) ?_
    show Steps p.tables e below (T6.setTop (mkF m 139 #[.val (.ref th), .val (.ref nm), .val (.ref ty), .val .null, .val .null] [])) _
    refine XS.aloadN X6.here hx rfl (hb hby own_d9_139) rfl rfl ?_
    show Steps p.tables e below (T6.setTop (mkF m 140 #[.val (.ref th), .val (.ref nm), .val (.ref ty), .val .null, .val .null] [.null])) _
    refine XS.ifnullYes X6.here hx rfl (pc0 := 140) (pc' := 170) rfl (hb hby own_d9_140) rfl (by decide) (by decide) ?_
    show Steps p.tables e below (T6.setTop (mkF m 170 #[.val (.ref th), .val (.ref nm), .val (.ref ty), .val .null, .val .null] [])) _
    refine XS.aloadN X6.here hx rfl (hb hby own_d9_170) rfl rfl ?_
    show Steps p.tables e below (T6.setTop (mkF m 171 #[.val (.ref th), .val (.ref nm), .val (.ref ty), .val .null, .val .null] [(.ref th)])) _
    refine XS.aloadN X6.here hx rfl (hb hby own_d9_171) rfl rfl ?_
    exact kt
  obtain ⟨T7, h7, X7, e7, W7, st7⟩ := putF X6 hx hZ4 hown4 (host := "") (Or.inl (hw _ (List.mem_of_getElem? (i := 61) rfl))) Via.refl eq6 ((F_name.ext E2).ext E4) ((Eth.ext E2).ext E4) (Or.inr ⟨(hw _ (List.mem_of_getElem? (i := 62) rfl)), rfl, hnm⟩) (hw _ (List.mem_of_getElem? (i := 39) rfl)) (ty := (.object "java/lang/String")) (by decide) rfl rfl (g := (mkF m 172 #[.val (.ref th), .val (.ref nm), .val (.ref ty), .val .null, .val .null] [(.ref nm), (.ref th)])) rfl rfl (hb hby own_d9_172)
  have N7 := Fr.snoc X7 N6 gth
  have K7 := (K4).wr W7 (Or.inl (List.mem_of_getElem? (i := 0) rfl))
  have Z7 : n0 ≤ h7.size := Nat.le_trans Z4 (Keep.of_wr W7).1
  have hk7 := Nat.le_trans hk4 (Keep.of_wr W7).1
  have Fa8 := (((F_type.ext E2).ext E4).other W7 (Or.inr (slot_ne (Or.inr (hw _ (List.mem_of_getElem? (i := 64) rfl))) (Or.inr (hw _ (List.mem_of_getElem? (i := 62) rfl))) (by decide) (t := (.object "com/example/inexact_search/inexactsearch/engine/AttributeType")) (t' := (.object "java/lang/String")) (by decide) (by decide))))
  have Fa9 := (((F_declaredMin.ext E2).ext E4).other W7 (Or.inr (slot_ne (Or.inr (hw _ (List.mem_of_getElem? (i := 66) rfl))) (Or.inr (hw _ (List.mem_of_getElem? (i := 62) rfl))) (by decide) (t := (.object "java/lang/Double")) (t' := (.object "java/lang/String")) (by decide) (by decide))))
  have Fa10 := (((F_declaredMax.ext E2).ext E4).other W7 (Or.inr (slot_ne (Or.inr (hw _ (List.mem_of_getElem? (i := 68) rfl))) (Or.inr (hw _ (List.mem_of_getElem? (i := 62) rfl))) (by decide) (t := (.object "java/lang/Double")) (t' := (.object "java/lang/String")) (by decide) (by decide))))
  refine own_st st7 ?_
  show own_Gl _ _ _ _ _ _ _ _ (T7.setTop (mkF m 175 #[.val (.ref th), .val (.ref nm), .val (.ref ty), .val .null, .val .null] []))
  refine own_st (A' := T7.setTop (mkF m 177 #[.val (.ref th), .val (.ref nm), .val (.ref ty), .val .null, .val .null] [(.ref ty), (.ref th)])) (fun tg kt => ?_) ?_
  · show Steps p.tables e below (T7.setTop (mkF m 175 #[.val (.ref th), .val (.ref nm), .val (.ref ty), .val .null, .val .null] [])) _
    refine XS.aloadN X7.here hx rfl (hb hby own_d9_175) rfl rfl ?_
    show Steps p.tables e below (T7.setTop (mkF m 176 #[.val (.ref th), .val (.ref nm), .val (.ref ty), .val .null, .val .null] [(.ref th)])) _
    refine XS.aloadN X7.here hx rfl (hb hby own_d9_176) rfl rfl ?_
    exact kt
  obtain ⟨T11, h11, X11, e11, W11, st11⟩ := putF X7 hx hZ4 hown4 (host := "") (Or.inl (hw _ (List.mem_of_getElem? (i := 63) rfl))) Via.refl e7 Fa8 (((Eth.ext E2).ext E4).wr W7) (Or.inr ⟨(hw _ (List.mem_of_getElem? (i := 64) rfl)), rfl, hnm⟩) (hw _ (List.mem_of_getElem? (i := 39) rfl)) (ty := (.object "com/example/inexact_search/inexactsearch/engine/AttributeType")) (by decide) rfl rfl (g := (mkF m 177 #[.val (.ref th), .val (.ref nm), .val (.ref ty), .val .null, .val .null] [(.ref ty), (.ref th)])) rfl rfl (hb hby own_d9_177)
  have N11 := Fr.snoc X11 N7 gth
  have K11 := (K7).wr W11 (Or.inl (List.mem_of_getElem? (i := 0) rfl))
  have Z11 : n0 ≤ h11.size := Nat.le_trans Z7 (Keep.of_wr W11).1
  have hk11 := Nat.le_trans hk7 (Keep.of_wr W11).1
  have Fa12 := (Fa9.other W11 (Or.inr (slot_ne (Or.inr (hw _ (List.mem_of_getElem? (i := 66) rfl))) (Or.inr (hw _ (List.mem_of_getElem? (i := 64) rfl))) (by decide) (t := (.object "java/lang/Double")) (t' := (.object "com/example/inexact_search/inexactsearch/engine/AttributeType")) (by decide) (by decide))))
  have Fa13 := (Fa10.other W11 (Or.inr (slot_ne (Or.inr (hw _ (List.mem_of_getElem? (i := 68) rfl))) (Or.inr (hw _ (List.mem_of_getElem? (i := 64) rfl))) (by decide) (t := (.object "java/lang/Double")) (t' := (.object "com/example/inexact_search/inexactsearch/engine/AttributeType")) (by decide) (by decide))))
  have Fa14 := ((((Fs.ext E2).ext E4).other W7 (Or.inl nes)).other W11 (Or.inl nes))
  have Fa15 := ((((F_name.ext E2).ext E4).same W7).other W11 (Or.inr (slot_ne (Or.inr (hw _ (List.mem_of_getElem? (i := 62) rfl))) (Or.inr (hw _ (List.mem_of_getElem? (i := 64) rfl))) (by decide) (t := (.object "java/lang/String")) (t' := (.object "com/example/inexact_search/inexactsearch/engine/AttributeType")) (by decide) (by decide))))
  refine own_st st11 ?_
  show own_Gl _ _ _ _ _ _ _ _ (T11.setTop (mkF m 180 #[.val (.ref th), .val (.ref nm), .val (.ref ty), .val .null, .val .null] []))
  refine own_st (A' := T11.setTop (mkF m 182 #[.val (.ref th), .val (.ref nm), .val (.ref ty), .val .null, .val .null] [.null, (.ref th)])) (fun tg kt => ?_) ?_
  · show Steps p.tables e below (T11.setTop (mkF m 180 #[.val (.ref th), .val (.ref nm), .val (.ref ty), .val .null, .val .null] [])) _
    refine XS.aloadN X11.here hx rfl (hb hby own_d9_180) rfl rfl ?_
    show Steps p.tables e below (T11.setTop (mkF m 181 #[.val (.ref th), .val (.ref nm), .val (.ref ty), .val .null, .val .null] [(.ref th)])) _
    refine XS.aloadN X11.here hx rfl (hb hby own_d9_181) rfl rfl ?_
    exact kt
  obtain ⟨T16, h16, X16, e16, W16, st16⟩ := putF X11 hx hZ4 hown4 (host := "") (Or.inl (hw _ (List.mem_of_getElem? (i := 65) rfl))) Via.refl e11 Fa12 ((((Eth.ext E2).ext E4).wr W7).wr W11) (Or.inr ⟨(hw _ (List.mem_of_getElem? (i := 66) rfl)), rfl, hnm⟩) (hw _ (List.mem_of_getElem? (i := 39) rfl)) (ty := (.object "java/lang/Double")) (by decide) rfl rfl (g := (mkF m 182 #[.val (.ref th), .val (.ref nm), .val (.ref ty), .val .null, .val .null] [.null, (.ref th)])) rfl rfl (hb hby own_d9_182)
  have N16 := Fr.snoc X16 N11 gth
  have K16 := (K11).wr W16 (Or.inl (List.mem_of_getElem? (i := 0) rfl))
  have Z16 : n0 ≤ h16.size := Nat.le_trans Z11 (Keep.of_wr W16).1
  have hk16 := Nat.le_trans hk11 (Keep.of_wr W16).1
  have Fa17 := (Fa13.other W16 (Or.inr (slot_ne (Or.inr (hw _ (List.mem_of_getElem? (i := 68) rfl))) (Or.inr (hw _ (List.mem_of_getElem? (i := 66) rfl))) (by decide) (t := (.object "java/lang/Double")) (t' := (.object "java/lang/Double")) (by decide) (by decide))))
  have Fa18 := (((((Vs.ext E2).ext E4).other W7 nev).other W11 nev).other W16 nev)
  have Fa19 := (Fa15.other W16 (Or.inr (slot_ne (Or.inr (hw _ (List.mem_of_getElem? (i := 62) rfl))) (Or.inr (hw _ (List.mem_of_getElem? (i := 66) rfl))) (by decide) (t := (.object "java/lang/String")) (t' := (.object "java/lang/Double")) (by decide) (by decide))))
  have Fa20 := ((Fa8.same W11).other W16 (Or.inr (slot_ne (Or.inr (hw _ (List.mem_of_getElem? (i := 64) rfl))) (Or.inr (hw _ (List.mem_of_getElem? (i := 66) rfl))) (by decide) (t := (.object "com/example/inexact_search/inexactsearch/engine/AttributeType")) (t' := (.object "java/lang/Double")) (by decide) (by decide))))
  refine own_st st16 ?_
  show own_Gl _ _ _ _ _ _ _ _ (T16.setTop (mkF m 185 #[.val (.ref th), .val (.ref nm), .val (.ref ty), .val .null, .val .null] []))
  refine own_st (A' := T16.setTop (mkF m 188 #[.val (.ref th), .val (.ref nm), .val (.ref ty), .val .null, .val .null] [.null, (.ref th)])) (fun tg kt => ?_) ?_
  · show Steps p.tables e below (T16.setTop (mkF m 185 #[.val (.ref th), .val (.ref nm), .val (.ref ty), .val .null, .val .null] [])) _
    refine XS.aloadN X16.here hx rfl (hb hby own_d9_185) rfl rfl ?_
    show Steps p.tables e below (T16.setTop (mkF m 186 #[.val (.ref th), .val (.ref nm), .val (.ref ty), .val .null, .val .null] [(.ref th)])) _
    refine XS.aload X16.here hx rfl (hb hby own_d9_186) rfl rfl ?_
    exact kt
  obtain ⟨T21, h21, X21, e21, W21, st21⟩ := putF X16 hx hZ4 hown4 (host := "") (Or.inl (hw _ (List.mem_of_getElem? (i := 67) rfl))) Via.refl e16 Fa17 (((((Eth.ext E2).ext E4).wr W7).wr W11).wr W16) (Or.inr ⟨(hw _ (List.mem_of_getElem? (i := 68) rfl)), rfl, hnm⟩) (hw _ (List.mem_of_getElem? (i := 39) rfl)) (ty := (.object "java/lang/Double")) (by decide) rfl rfl (g := (mkF m 188 #[.val (.ref th), .val (.ref nm), .val (.ref ty), .val .null, .val .null] [.null, (.ref th)])) rfl rfl (hb hby own_d9_188)
  have N21 := Fr.snoc X21 N16 gth
  have K21 := (K16).wr W21 (Or.inl (List.mem_of_getElem? (i := 0) rfl))
  have Z21 : n0 ≤ h21.size := Nat.le_trans Z16 (Keep.of_wr W21).1
  have hk21 := Nat.le_trans hk16 (Keep.of_wr W21).1
  have Fa22 := (Fa19.other W21 (Or.inr (slot_ne (Or.inr (hw _ (List.mem_of_getElem? (i := 62) rfl))) (Or.inr (hw _ (List.mem_of_getElem? (i := 68) rfl))) (by decide) (t := (.object "java/lang/String")) (t' := (.object "java/lang/Double")) (by decide) (by decide))))
  have Fa23 := (Fa20.other W21 (Or.inr (slot_ne (Or.inr (hw _ (List.mem_of_getElem? (i := 64) rfl))) (Or.inr (hw _ (List.mem_of_getElem? (i := 68) rfl))) (by decide) (t := (.object "com/example/inexact_search/inexactsearch/engine/AttributeType")) (t' := (.object "java/lang/Double")) (by decide) (by decide))))
  have Fa24 := ((Fa12.same W16).other W21 (Or.inr (slot_ne (Or.inr (hw _ (List.mem_of_getElem? (i := 66) rfl))) (Or.inr (hw _ (List.mem_of_getElem? (i := 68) rfl))) (by decide) (t := (.object "java/lang/Double")) (t' := (.object "java/lang/Double")) (by decide) (by decide))))
  refine own_st st21 ?_
  show own_Gl _ _ _ _ _ _ _ _ (T21.setTop (mkF m 191 #[.val (.ref th), .val (.ref nm), .val (.ref ty), .val .null, .val .null] []))
  refine own_retW X21 hS4 (by rw [e21]; exact hk21) (v := none) (fun _ => rfl) hlk (by decide) (by decide) ?_ (fun fs hr => ?_)
  · show Q9n Z th nm ty vb kb vs h0 n0 (none) T21.heap _
    rw [e21]
    exact ⟨rfl, N21, K21, ((((((Eth.ext E2).ext E4).wr W7).wr W11).wr W16).wr W21), Fa24⟩
  · show Steps p.tables e below (T21.setTop (mkF m 191 #[.val (.ref th), .val (.ref nm), .val (.ref ty), .val .null, .val .null] [])) _
    exact X21.returnOut hx Bd.returns (hb hby own_d9_191) hr
theorem own_pd12 : parseMethodDescriptor "()D" = some ⟨[], some .double⟩ := by decide +kernel
theorem own_pd13 : parseMethodDescriptor "(D)Z" = some ⟨[.double], some .boolean⟩ := by decide +kernel
theorem own_d9_43 : decode prog_9_method_2_code 43 = .ok (.iconst 0, 1) := by decide +kernel
theorem own_d9_53 : decode prog_9_method_2_code 53 = .ok (.iconst 0, 1) := by decide +kernel
theorem own_d9_75 : decode prog_9_method_2_code 75 = .ok (.aload_n 2, 1) := by decide +kernel
theorem own_d9_76 : decode prog_9_method_2_code 76 = .ok (.invokevirtual 39, 3) := by decide +kernel
theorem own_d9_79 : decode prog_9_method_2_code 79 = .ok (.ifCond .ne 21, 3) := by decide +kernel
theorem own_d9_104 : decode prog_9_method_2_code 104 = .ok (.aload_n 3, 1) := by decide +kernel
theorem own_d9_105 : decode prog_9_method_2_code 105 = .ok (.invokevirtual 51, 3) := by decide +kernel
theorem own_d9_108 : decode prog_9_method_2_code 108 = .ok (.invokestatic 57, 3) := by decide +kernel
theorem own_d9_111 : decode prog_9_method_2_code 111 = .ok (.ifCond .eq 14, 3) := by decide +kernel
theorem own_d9_114 : decode prog_9_method_2_code 114 = .ok (.aload 4, 2) := by decide +kernel
theorem own_d9_116 : decode prog_9_method_2_code 116 = .ok (.invokevirtual 51, 3) := by decide +kernel
theorem own_d9_119 : decode prog_9_method_2_code 119 = .ok (.invokestatic 57, 3) := by decide +kernel
theorem own_d9_122 : decode prog_9_method_2_code 122 = .ok (.ifCond .ne 17, 3) := by decide +kernel
theorem own_d9_143 : decode prog_9_method_2_code 143 = .ok (.aload_n 3, 1) := by decide +kernel
theorem own_d9_144 : decode prog_9_method_2_code 144 = .ok (.invokevirtual 51, 3) := by decide +kernel
theorem own_d9_147 : decode prog_9_method_2_code 147 = .ok (.aload 4, 2) := by decide +kernel
theorem own_d9_149 : decode prog_9_method_2_code 149 = .ok (.invokevirtual 51, 3) := by decide +kernel
theorem own_d9_152 : decode prog_9_method_2_code 152 = .ok (.dcmp .l, 1) := by decide +kernel
theorem own_d9_153 : decode prog_9_method_2_code 153 = .ok (.ifCond .le 17, 3) := by decide +kernel
theorem own_ef_rm9d (m : MethodId) (th : Addr) (nm : Addr) (ty : Addr) (mn : Addr) (mx : Addr) : entryFrame m #[(.ref th), (.ref nm), (.ref ty), (.ref mn), (.ref mx)] 5 = mkF m 0 #[.val (.ref th), .val (.ref nm), .val (.ref ty), .val (.ref mn), .val (.ref mx)] [] := by first | (simp [entryFrame, mkF, argsToLocals, Value.category]; done) | rfl
def Q9d (Z : State) (th : Addr) (nm : Addr) (ty : Addr) (mn : Addr) (mx : Addr) (vb : Addr) (kb : ClassId) (vs : List Value) (a_INTEGER : Addr) (a_DECIMAL : Addr) (d1 : UInt64) (d2 : UInt64) (h0 : Heap) (n0 : Nat) (v : Option Value) (h : Heap) (L : List Loc) : Prop := v = none ∧ Fr n0 L ∧ Keep h0 h [th] ∧ Exa Z h th "com/example/inexact_search/inexactsearch/engine/Attribute" ∧ Fld Z h th "com/example/inexact_search/inexactsearch/engine/Attribute" "declaredMin" "Ljava/lang/Double;" (.ref mn) ∧ Fld Z h th "com/example/inexact_search/inexactsearch/engine/Attribute" "declaredMax" "Ljava/lang/Double;" (.ref mx)
set_option maxRecDepth 65536 in
set_option maxHeartbeats 40000000 in
theorem rm9d (l : Launch) (Z : State) (a0 : Array Value) (hw : ∀ d ∈ tables_1, d.before a0 Z = true) (ws : List Jvm.Cond) (th : Addr) (nm : Addr) (ty : Addr) (mn : Addr) (mx : Addr) (vb : Addr) (kb : ClassId) (vs : List Value) (a_INTEGER : Addr) (a_DECIMAL : Addr) (d1 : UInt64) (d2 : UInt64) (h0 : Heap) (n0 : Nat) (Z0 : n0 ≤ h0.size) (F_name : Fld Z h0 th "com/example/inexact_search/inexactsearch/engine/Attribute" "name" "Ljava/lang/String;" .null) (F_type : Fld Z h0 th "com/example/inexact_search/inexactsearch/engine/Attribute" "type" "Lcom/example/inexact_search/inexactsearch/engine/AttributeType;" .null) (F_declaredMin : Fld Z h0 th "com/example/inexact_search/inexactsearch/engine/Attribute" "declaredMin" "Ljava/lang/Double;" .null) (F_declaredMax : Fld Z h0 th "com/example/inexact_search/inexactsearch/engine/Attribute" "declaredMax" "Ljava/lang/Double;" .null) (Eth : Exa Z h0 th "com/example/inexact_search/inexactsearch/engine/Attribute") (gth : n0 ≤ th) (Es : Exa Z h0 nm "java/lang/String") (Fs : Fld Z h0 nm "java/lang/String" "value" "[B" (.ref vb)) (Vs : Arv Z h0 vb kb .byte (1 : Int32) vs (.int (0 : Int32))) (nes : nm ≠ th) (nev : vb ≠ th) (S_INTEGER : Sta Z h0 "com/example/inexact_search/inexactsearch/engine/AttributeType" "INTEGER" "Lcom/example/inexact_search/inexactsearch/engine/AttributeType;" (.ref a_INTEGER)) (S_DECIMAL : Sta Z h0 "com/example/inexact_search/inexactsearch/engine/AttributeType" "DECIMAL" "Lcom/example/inexact_search/inexactsearch/engine/AttributeType;" (.ref a_DECIMAL)) (Ety : Exa Z h0 ty "com/example/inexact_search/inexactsearch/engine/AttributeType") (hnb : own_num ty a_INTEGER a_DECIMAL = (1 : Int32)) (Em1 : Exa Z h0 mn "java/lang/Double") (Fm1 : Fld Z h0 mn "java/lang/Double" "value" "D" (.double d1)) (Em2 : Exa Z h0 mx "java/lang/Double") (Fm2 : Fld Z h0 mx "java/lang/Double" "value" "D" (.double d2)) (nem1 : mn ≠ th) (nem2 : mx ≠ th) (nety : ty ≠ th) (hf1 : Jvm.Free.Fl.Fin64 d1) (hf2 : Jvm.Free.Fl.Fin64 d2) (hle : ¬ (0 : Int32) < cmpValue (FP.dcmp d1 d2) .l) :
    MetFree l (⟨"com/example/inexact_search/inexactsearch/engine/Attribute", "<init>", "(Ljava/lang/String;Lcom/example/inexact_search/inexactsearch/engine/AttributeType;Ljava/lang/Double;Ljava/lang/Double;)V"⟩ : MethodName) (head1 (Jvm.Cond.code (⟨"com/example/inexact_search/inexactsearch/engine/Attribute", "<init>", "(Ljava/lang/String;Lcom/example/inexact_search/inexactsearch/engine/AttributeType;Ljava/lang/Double;Ljava/lang/Double;)V"⟩ : MethodName) prog_9_method_2_code 5 none :: ws) ({ frames := 2, cells := 4, slots := 40, locals := 26 } : Room)) (fun a U => a = #[(.ref th), (.ref nm), (.ref ty), (.ref mn), (.ref mx)] ∧ Z.Warmed39 U.vm ∧ U.heap = h0) (fun _ _ _ _ _ => True) (fun _ U o U' => ∃ v L, o = .returned v ∧ Q9d Z th nm ty mn mx vb kb vs a_INTEGER a_DECIMAL d1 d2 h0 n0 v U'.heap L ∧ ReturnedEndW U o U' L ({ frames := 2, cells := 4, slots := 40, locals := 26 } : Room).cells ({ frames := 2, cells := 4, slots := 40, locals := 26 } : Room).slots) := by
  refine MetFree.of_bodySF (plainFor_of_name own_pn11) hisR ?_
  intro p e s m args below meth c s₁ Bd hml0 hP hK
  obtain ⟨rfl, hZ, hh⟩ := hP
  have wS : ∀ a ∈ Bundle.stringAtoms, a.before a0 Z = true := own_wS hw
  have hx := Bd.exec
  have hby := Bd.bytes
  have hml : c.maxLocals = 5 := hml0
  have hown : s.vm.findClass "com/example/inexact_search/inexactsearch/engine/Attribute" = some m.cls := findClass_of_methodNamed Bd.named
  have hnm := (name_of_methodNamed Bd.named Bd.method).1
  have hlk : meth.locks = false := BodyLoose.notSynchronized Bd
  have X0 : Stand p l e ({ frames := 2, cells := 4, slots := 40, locals := 26 } : Room) (s.setVm s.vm) m #[(.ref th), (.ref nm), (.ref ty), (.ref mn), (.ref mx)] below meth c s₁ [] 0 0 := Stand.of_body Bd
  have e0 : s₁.heap = h0 := by rw [← hh, Bd.state]; rfl
  have N0 := Fr.nil n0
  show own_Gl ReturnedEndW p e below s (Q9d Z th nm ty mn mx vb kb vs a_INTEGER a_DECIMAL d1 d2 h0 n0) ({ frames := 2, cells := 4, slots := 40, locals := 26 } : Room).cells ({ frames := 2, cells := 4, slots := 40, locals := 26 } : Room).slots (s₁.setTop (entryFrame m #[(.ref th), (.ref nm), (.ref ty), (.ref mn), (.ref mx)] 5))
  rw [own_ef_rm9d m th nm ty mn mx]
  have hS0 : s.Since s.vm 0 := State.WarmedH.since (State.WarmedH.refl s) 0
  have hk0 : 0 ≤ h0.size := Nat.zero_le _
  refine own_st (A' := s₁.setTop (mkF m 1 #[.val (.ref th), .val (.ref nm), .val (.ref ty), .val (.ref mn), .val (.ref mx)] [(.ref th)])) (fun tg kt => ?_) ?_
  · show Steps p.tables e below (s₁.setTop (mkF m 0 #[.val (.ref th), .val (.ref nm), .val (.ref ty), .val (.ref mn), .val (.ref mx)] [])) _
    refine XS.aloadN X0.here hx rfl (hb hby own_d9_0) rfl rfl ?_
    exact kt
  obtain ⟨T1, X1, e1, st1⟩ := initO X0 hx hZ hown (hw _ (List.mem_of_getElem? (i := 47) rfl)) (hw _ (List.mem_of_getElem? (i := 20) rfl)) (hw _ (List.mem_of_getElem? (i := 21) rfl)) e0 (g := (mkF m 1 #[.val (.ref th), .val (.ref nm), .val (.ref ty), .val (.ref mn), .val (.ref mx)] [(.ref th)])) rfl (by rw [hml]; rfl) rfl (hb hby own_d9_1) (by decide) (W := 0) (by show 2 * 0 + _ ≤ _; exact Nat.le_of_eq rfl) (by decide)
  refine own_st st1 ?_
  show own_Gl _ _ _ _ _ _ _ _ (T1.setTop (mkF m 4 #[.val (.ref th), .val (.ref nm), .val (.ref ty), .val (.ref mn), .val (.ref mx)] []))
  refine own_st (A' := T1.setTop (mkF m 5 #[.val (.ref th), .val (.ref nm), .val (.ref ty), .val (.ref mn), .val (.ref mx)] [(.ref nm)])) (fun tg kt => ?_) ?_
  · show Steps p.tables e below (T1.setTop (mkF m 4 #[.val (.ref th), .val (.ref nm), .val (.ref ty), .val (.ref mn), .val (.ref mx)] [])) _
    refine XS.aloadN X1.here hx rfl (hb hby own_d9_4) rfl rfl ?_
    exact kt
  obtain ⟨b2, T2, h2, k2, X2, e2, E2, hS2, hk2, hZ2, hown2, st2⟩ := ldcS X1 hx hZ hown (hw _ (List.mem_of_getElem? (i := 48) rfl)) wS e1 hS0 hk0 (g := (mkF m 5 #[.val (.ref th), .val (.ref nm), .val (.ref ty), .val (.ref mn), .val (.ref mx)] [(.ref nm)])) rfl (hb hby own_d9_5) (n := 16) (by decide +kernel) (by decide) (by decide) (by decide)
  have K2 := ((Keep.refl h0 ([th] : List Addr))).ext E2
  have Z2 : n0 ≤ h2.size := Nat.le_trans Z0 E2.1
  refine own_st st2 ?_
  show own_Gl _ _ _ _ _ _ _ _ (T2.setTop (mkF m 7 #[.val (.ref th), .val (.ref nm), .val (.ref ty), .val (.ref mn), .val (.ref mx)] [(.ref b2), (.ref nm)]))
  obtain ⟨_, _, ⟨T3, L3, k3, n3⟩, -, X3, ⟨Lc3, hQ3, l3, y3, z3⟩, st3⟩ := Jvm.LawKit.callS X2 hx (y := (⟨"java/util/Objects", "requireNonNull", "(Ljava/lang/Object;Ljava/lang/String;)Ljava/lang/Object;"⟩ : MethodName)) hown2 (mvT hZ2 (hw _ (List.mem_of_getElem? (i := 51) rfl))) (mvT hZ2 (hw _ (List.mem_of_getElem? (i := 52) rfl))) (mvT hZ2 (hw _ (List.mem_of_getElem? (i := 53) rfl))) (mvT hZ2 (hw _ (List.mem_of_getElem? (i := 54) rfl))) (by decide) (backOf (W := 0) (rm10 l Z a0 hw [] nm b2 h2 n0 Z2) hZ2 (hw _ (List.mem_of_getElem? (i := 54) rfl)) (hw _ (List.mem_of_getElem? (i := 53) rfl)) (by decide) (by decide)) (g := (mkF m 7 #[.val (.ref th), .val (.ref nm), .val (.ref ty), .val (.ref mn), .val (.ref mx)] [(.ref b2), (.ref nm)])) rfl (by rw [hml]; rfl) (argsL := [(.ref nm), (.ref b2)]) (rest := []) (lenOf own_pd9 rfl) rfl (by show 2 * 0 + _ ≤ _; exact Nat.le_of_eq rfl) (hb hby own_d9_7) (fun _ _ => ⟨rfl, e2, (by decide : 2 + 0 ≤ _), (by decide : 20 + 0 ≤ _)⟩)
  dsimp only [Pt.U, Pt.locs, Pt.cells, Pt.slots] at X3 l3 y3 z3 st3 hQ3
  subst l3 y3 z3
  obtain ⟨rfl, Nq3, eq3⟩ := hQ3
  have N3 := Fr.app N0 Nq3
  refine own_st st3 ?_
  show own_Gl _ _ _ _ _ _ _ _ (T3.setTop (mkF m 10 #[.val (.ref th), .val (.ref nm), .val (.ref ty), .val (.ref mn), .val (.ref mx)] [(.ref nm)]))
  refine own_st (A' := T3.setTop (mkF m 12 #[.val (.ref th), .val (.ref nm), .val (.ref ty), .val (.ref mn), .val (.ref mx)] [(.ref ty)])) (fun tg kt => ?_) ?_
  · show Steps p.tables e below (T3.setTop (mkF m 10 #[.val (.ref th), .val (.ref nm), .val (.ref ty), .val (.ref mn), .val (.ref mx)] [(.ref nm)])) _
    refine XS.pop X3.here hx rfl (hb hby own_d9_10) rfl rfl ?_
    show Steps p.tables e below (T3.setTop (mkF m 11 #[.val (.ref th), .val (.ref nm), .val (.ref ty), .val (.ref mn), .val (.ref mx)] [])) _
    refine XS.aloadN X3.here hx rfl (hb hby own_d9_11) rfl rfl ?_
    exact kt
  obtain ⟨b4, T4, h4, k4, X4, e4, E4, hS4, hk4, hZ4, hown4, st4⟩ := ldcS X3 hx hZ2 hown2 (hw _ (List.mem_of_getElem? (i := 55) rfl)) wS eq3 hS2 hk2 (g := (mkF m 12 #[.val (.ref th), .val (.ref nm), .val (.ref ty), .val (.ref mn), .val (.ref mx)] [(.ref ty)])) rfl (hb hby own_d9_12) (n := 16) (by decide +kernel) (by decide) (by decide) (by decide)
  have K4 := (K2).ext E4
  have Z4 : n0 ≤ h4.size := Nat.le_trans Z2 E4.1
  refine own_st st4 ?_
  show own_Gl _ _ _ _ _ _ _ _ (T4.setTop (mkF m 14 #[.val (.ref th), .val (.ref nm), .val (.ref ty), .val (.ref mn), .val (.ref mx)] [(.ref b4), (.ref ty)]))
  obtain ⟨_, _, ⟨T5, L5, k5, n5⟩, -, X5, ⟨Lc5, hQ5, l5, y5, z5⟩, st5⟩ := Jvm.LawKit.callS X4 hx (y := (⟨"java/util/Objects", "requireNonNull", "(Ljava/lang/Object;Ljava/lang/String;)Ljava/lang/Object;"⟩ : MethodName)) hown4 (mvT hZ4 (hw _ (List.mem_of_getElem? (i := 51) rfl))) (mvT hZ4 (hw _ (List.mem_of_getElem? (i := 52) rfl))) (mvT hZ4 (hw _ (List.mem_of_getElem? (i := 53) rfl))) (mvT hZ4 (hw _ (List.mem_of_getElem? (i := 54) rfl))) (by decide) (backOf (W := 0) (rm10 l Z a0 hw [] ty b4 h4 n0 Z4) hZ4 (hw _ (List.mem_of_getElem? (i := 54) rfl)) (hw _ (List.mem_of_getElem? (i := 53) rfl)) (by decide) (by decide)) (g := (mkF m 14 #[.val (.ref th), .val (.ref nm), .val (.ref ty), .val (.ref mn), .val (.ref mx)] [(.ref b4), (.ref ty)])) rfl (by rw [hml]; rfl) (argsL := [(.ref ty), (.ref b4)]) (rest := []) (lenOf own_pd9 rfl) rfl (by show 2 * 0 + _ ≤ _; exact Nat.le_of_eq rfl) (hb hby own_d9_14) (fun _ _ => ⟨rfl, e4, (by decide : 4 + 0 ≤ _), (by decide : 40 + 0 ≤ _)⟩)
  dsimp only [Pt.U, Pt.locs, Pt.cells, Pt.slots] at X5 l5 y5 z5 st5 hQ5
  subst l5 y5 z5
  obtain ⟨rfl, Nq5, eq5⟩ := hQ5
  have N5 := Fr.app N3 Nq5
  refine own_st st5 ?_
  show own_Gl _ _ _ _ _ _ _ _ (T5.setTop (mkF m 17 #[.val (.ref th), .val (.ref nm), .val (.ref ty), .val (.ref mn), .val (.ref mx)] [(.ref ty)]))
  have ext0 : Ext h0 h4 := ⟨Nat.le_trans E2.1 E4.1, fun x c q => E4.2 x c (E2.2 x c q)⟩
  refine own_st (A' := T5.setTop (mkF m 19 #[.val (.ref th), .val (.ref nm), .val (.ref ty), .val (.ref mn), .val (.ref mx)] [(.ref nm)])) (fun tg kt => ?_) ?_
  · show Steps p.tables e below (T5.setTop (mkF m 17 #[.val (.ref th), .val (.ref nm), .val (.ref ty), .val (.ref mn), .val (.ref mx)] [(.ref ty)])) _
    refine XS.pop X5.here hx rfl (hb hby own_d9_17) rfl rfl ?_
    show Steps p.tables e below (T5.setTop (mkF m 18 #[.val (.ref th), .val (.ref nm), .val (.ref ty), .val (.ref mn), .val (.ref mx)] [])) _
    refine XS.aloadN X5.here hx rfl (hb hby own_d9_18) rfl rfl ?_
    exact kt
  obtain ⟨cq6, kq6, q6a, q6b, q6c⟩ := isOf hZ4 eq5 ((Es.ext E2).ext E4)
  obtain ⟨_, _, ⟨T6, L6, k6, n6⟩, -, X6, ⟨Lc6, hQ6, l6, y6, z6⟩, st6⟩ := X5.virtualBack hx (y := (⟨"java/lang/String", "isEmpty", "()Z"⟩ : MethodName)) (z := (⟨"java/lang/String", "isEmpty", "()Z"⟩ : MethodName)) hown4 (mvT hZ4 (hw _ (List.mem_of_getElem? (i := 56) rfl))) (mvT hZ4 (hw _ (List.mem_of_getElem? (i := 57) rfl))) (notFace_of_selects (args := #[]) (mvT hZ4 (hw _ (List.mem_of_getElem? (i := 59) rfl)))) (mvT hZ4 (hw _ (List.mem_of_getElem? (i := 59) rfl))) (mvT hZ4 (hw _ (List.mem_of_getElem? (i := 58) rfl))) (by decide) (backOf (W := 0) (rm11 l Z a0 hw [] nm vb kb vs h4 n0 Z4 ((Fs.ext E2).ext E4) ((Vs.ext E2).ext E4)) hZ4 (hw _ (List.mem_of_getElem? (i := 60) rfl)) (hw _ (List.mem_of_getElem? (i := 11) rfl)) (by decide) (by decide)) q6a q6c (g := (mkF m 19 #[.val (.ref th), .val (.ref nm), .val (.ref ty), .val (.ref mn), .val (.ref mx)] [(.ref nm)])) rfl (by rw [hml]; rfl) (Steps.refl _) (argsL := []) (rest := []) (lenOf own_pd10 rfl) rfl (by show 2 * 0 + _ ≤ _; exact Nat.le_of_eq rfl) (hb hby own_d9_19) (fun _ _ => ⟨rfl, eq5, (by decide : 4 + 0 ≤ _), (by decide : 40 + 0 ≤ _)⟩)
  dsimp only [Pt.U, Pt.locs, Pt.cells, Pt.slots] at X6 l6 y6 z6 st6 hQ6
  subst l6 y6 z6
  obtain ⟨rfl, Nq6, eq6⟩ := hQ6
  have N6 := Fr.app N5 Nq6
  refine own_tr st6 ?_
  show own_Gl _ _ _ _ _ _ _ _ (T6.setTop (mkF m 22 #[.val (.ref th), .val (.ref nm), .val (.ref ty), .val (.ref mn), .val (.ref mx)] [(.int (0 : Int32))]))
  refine own_st (A' := T6.setTop (mkF m 76 #[.val (.ref th), .val (.ref nm), .val (.ref ty), .val (.ref mn), .val (.ref mx)] [(.ref ty)])) (fun tg kt => ?_) ?_
  · show Steps p.tables e below (T6.setTop (mkF m 22 #[.val (.ref th), .val (.ref nm), .val (.ref ty), .val (.ref mn), .val (.ref mx)] [(.int (0 : Int32))])) _
    refine XS.ifYes X6.here hx rfl (pc0 := 22) (pc' := 35) rfl (hb hby own_d9_22) rfl ((if0 _ _).trans (teq ((by decide) : (0 : Int32) = (0 : Int32))).1) (by decide) (by decide) ?_
    show Steps p.tables e below (T6.setTop (mkF m 35 #[.val (.ref th), .val (.ref nm), .val (.ref ty), .val (.ref mn), .val (.ref mx)] [])) _
    refine XS.aloadN X6.here hx rfl (hb hby own_d9_35) rfl rfl ?_
    show Steps p.tables e below (T6.setTop (mkF m 36 #[.val (.ref th), .val (.ref nm), .val (.ref ty), .val (.ref mn), .val (.ref mx)] [(.ref mn)])) _
    refine XS.ifnonnullYes X6.here hx rfl (pc0 := 36) (pc' := 43) rfl (hb hby own_d9_36) rfl (by decide) (by decide) ?_
    show Steps p.tables e below (T6.setTop (mkF m 43 #[.val (.ref th), .val (.ref nm), .val (.ref ty), .val (.ref mn), .val (.ref mx)] [])) _
    refine XS.iconst X6.here hx rfl (hb hby own_d9_43) ?_
    show Steps p.tables e below (T6.setTop (mkF m 44 #[.val (.ref th), .val (.ref nm), .val (.ref ty), .val (.ref mn), .val (.ref mx)] [(.int (0 : Int32))])) _
    refine XS.aload X6.here hx rfl (hb hby own_d9_44) rfl rfl ?_
    show Steps p.tables e below (T6.setTop (mkF m 46 #[.val (.ref th), .val (.ref nm), .val (.ref ty), .val (.ref mn), .val (.ref mx)] [(.ref mx), (.int (0 : Int32))])) _
    refine XS.ifnonnullYes X6.here hx rfl (pc0 := 46) (pc' := 53) rfl (hb hby own_d9_46) rfl (by decide) (by decide) ?_
    show Steps p.tables e below (T6.setTop (mkF m 53 #[.val (.ref th), .val (.ref nm), .val (.ref ty), .val (.ref mn), .val (.ref mx)] [(.int (0 : Int32))])) _
    refine XS.iconst X6.here hx rfl (hb hby own_d9_53) ?_
    show Steps p.tables e below (T6.setTop (mkF m 54 #[.val (.ref th), .val (.ref nm), .val (.ref ty), .val (.ref mn), .val (.ref mx)] [(.int (0 : Int32)), (.int (0 : Int32))])) _
    refine XS.icmpYes X6.here hx rfl (pc0 := 54) (pc' := 71) rfl (hb hby own_d9_54) rfl (teq ((by decide) : (0 : Int32) = (0 : Int32))).1 (by decide) (by decide) ?_
    show Steps p.tables e below (T6.setTop (mkF m 71 #[.val (.ref th), .val (.ref nm), .val (.ref ty), .val (.ref mn), .val (.ref mx)] [])) _
    refine XS.aloadN X6.here hx rfl (hb hby own_d9_71) rfl rfl ?_
    show Steps p.tables e below (T6.setTop (mkF m 72 #[.val (.ref th), .val (.ref nm), .val (.ref ty), .val (.ref mn), .val (.ref mx)] [(.ref mn)])) _
    refine XS.ifnullNo X6.here hx rfl (hb hby own_d9_72) rfl ?_
    show Steps p.tables e below (T6.setTop (mkF m 75 #[.val (.ref th), .val (.ref nm), .val (.ref ty), .val (.ref mn), .val (.ref mx)] [])) _
    refine XS.aloadN X6.here hx rfl (hb hby own_d9_75) rfl rfl ?_
    exact kt
  obtain ⟨cq7, kq7, q7a, q7b, q7c⟩ := isOf hZ4 eq6 ((Ety.ext E2).ext E4)
  obtain ⟨_, _, ⟨T7, L7, k7, n7⟩, -, X7, ⟨Lc7, hQ7, l7, y7, z7⟩, st7⟩ := X6.virtualBack hx (y := (⟨"com/example/inexact_search/inexactsearch/engine/AttributeType", "isNumber", "()Z"⟩ : MethodName)) (z := (⟨"com/example/inexact_search/inexactsearch/engine/AttributeType", "isNumber", "()Z"⟩ : MethodName)) hown4 (mvT hZ4 (hw _ (List.mem_of_getElem? (i := 105) rfl))) (mvT hZ4 (hw _ (List.mem_of_getElem? (i := 106) rfl))) (notFace_of_selects (args := #[]) (mvT hZ4 (hw _ (List.mem_of_getElem? (i := 108) rfl)))) (mvT hZ4 (hw _ (List.mem_of_getElem? (i := 108) rfl))) (mvT hZ4 (hw _ (List.mem_of_getElem? (i := 107) rfl))) (by decide) (backOf (W := 0) (rm18 l Z a0 hw [] ty a_INTEGER a_DECIMAL h4 n0 Z4 (S_INTEGER.ext ext0) (S_DECIMAL.ext ext0)) hZ4 (hw _ (List.mem_of_getElem? (i := 109) rfl)) (hw _ (List.mem_of_getElem? (i := 6) rfl)) (by decide) (by decide)) q7a q7c (g := (mkF m 76 #[.val (.ref th), .val (.ref nm), .val (.ref ty), .val (.ref mn), .val (.ref mx)] [(.ref ty)])) rfl (by rw [hml]; rfl) (Steps.refl _) (argsL := []) (rest := []) (lenOf own_pd10 rfl) rfl (by show 2 * 0 + _ ≤ _; exact Nat.le_of_eq rfl) (hb hby own_d9_76) (fun _ _ => ⟨rfl, eq6, (by decide : 4 + 0 ≤ _), (by decide : 40 + 0 ≤ _)⟩)
  dsimp only [Pt.U, Pt.locs, Pt.cells, Pt.slots] at X7 l7 y7 z7 st7 hQ7
  subst l7 y7 z7
  unfold Q18 at hQ7; rw [hnb] at hQ7
  obtain ⟨rfl, Nq7, eq7⟩ := hQ7
  have N7 := Fr.app N6 Nq7
  refine own_tr st7 ?_
  show own_Gl _ _ _ _ _ _ _ _ (T7.setTop (mkF m 79 #[.val (.ref th), .val (.ref nm), .val (.ref ty), .val (.ref mn), .val (.ref mx)] [(.int (1 : Int32))]))
  refine own_st (A' := T7.setTop (mkF m 105 #[.val (.ref th), .val (.ref nm), .val (.ref ty), .val (.ref mn), .val (.ref mx)] [(.ref mn)])) (fun tg kt => ?_) ?_
  · show Steps p.tables e below (T7.setTop (mkF m 79 #[.val (.ref th), .val (.ref nm), .val (.ref ty), .val (.ref mn), .val (.ref mx)] [(.int (1 : Int32))])) _
    refine XS.ifYes X7.here hx rfl (pc0 := 79) (pc' := 100) rfl (hb hby own_d9_79) rfl ((if0 _ _).trans (feq ((by decide) : ¬ ((1 : Int32) = (0 : Int32)))).2) (by decide) (by decide) ?_
    show Steps p.tables e below (T7.setTop (mkF m 100 #[.val (.ref th), .val (.ref nm), .val (.ref ty), .val (.ref mn), .val (.ref mx)] [])) _
    refine XS.aloadN X7.here hx rfl (hb hby own_d9_100) rfl rfl ?_
    show Steps p.tables e below (T7.setTop (mkF m 101 #[.val (.ref th), .val (.ref nm), .val (.ref ty), .val (.ref mn), .val (.ref mx)] [(.ref mn)])) _
    refine XS.ifnullNo X7.here hx rfl (hb hby own_d9_101) rfl ?_
    show Steps p.tables e below (T7.setTop (mkF m 104 #[.val (.ref th), .val (.ref nm), .val (.ref ty), .val (.ref mn), .val (.ref mx)] [])) _
    refine XS.aloadN X7.here hx rfl (hb hby own_d9_104) rfl rfl ?_
    exact kt
  obtain ⟨cq8, kq8, q8a, q8b, q8c⟩ := isOf hZ4 eq7 ((Em1.ext E2).ext E4)
  obtain ⟨_, _, ⟨T8, L8, k8, n8⟩, -, X8, ⟨Lc8, hQ8, l8, y8, z8⟩, st8⟩ := X7.virtualBack hx (y := (⟨"java/lang/Double", "doubleValue", "()D"⟩ : MethodName)) (z := (⟨"java/lang/Double", "doubleValue", "()D"⟩ : MethodName)) hown4 (mvT hZ4 (hw _ (List.mem_of_getElem? (i := 111) rfl))) (mvT hZ4 (hw _ (List.mem_of_getElem? (i := 112) rfl))) (notFace_of_selects (args := #[]) (mvT hZ4 (hw _ (List.mem_of_getElem? (i := 114) rfl)))) (mvT hZ4 (hw _ (List.mem_of_getElem? (i := 114) rfl))) (mvT hZ4 (hw _ (List.mem_of_getElem? (i := 113) rfl))) (by decide) (backOf (W := 0) (rm19 l Z a0 hw [] mn d1 h4 n0 Z4 ((Fm1.ext E2).ext E4)) hZ4 (hw _ (List.mem_of_getElem? (i := 115) rfl)) (hw _ (List.mem_of_getElem? (i := 88) rfl)) (by decide) (by decide)) q8a q8c (g := (mkF m 105 #[.val (.ref th), .val (.ref nm), .val (.ref ty), .val (.ref mn), .val (.ref mx)] [(.ref mn)])) rfl (by rw [hml]; rfl) (Steps.refl _) (argsL := []) (rest := []) (lenOf own_pd12 rfl) rfl (by show 2 * 0 + _ ≤ _; exact Nat.le_of_eq rfl) (hb hby own_d9_105) (fun _ _ => ⟨rfl, eq7, (by decide : 4 + 0 ≤ _), (by decide : 40 + 0 ≤ _)⟩)
  dsimp only [Pt.U, Pt.locs, Pt.cells, Pt.slots] at X8 l8 y8 z8 st8 hQ8
  subst l8 y8 z8
  obtain ⟨rfl, Nq8, eq8⟩ := hQ8
  have N8 := Fr.app N7 Nq8
  refine own_tr st8 ?_
  show own_Gl _ _ _ _ _ _ _ _ (T8.setTop (mkF m 108 #[.val (.ref th), .val (.ref nm), .val (.ref ty), .val (.ref mn), .val (.ref mx)] [(.double d1)]))
  obtain ⟨_, _, ⟨T9, L9, k9, n9⟩, -, X9, ⟨Lc9, hQ9, l9, y9, z9⟩, st9⟩ := Jvm.LawKit.callS X8 hx (y := (⟨"java/lang/Double", "isFinite", "(D)Z"⟩ : MethodName)) hown4 (mvT hZ4 (hw _ (List.mem_of_getElem? (i := 116) rfl))) (mvT hZ4 (hw _ (List.mem_of_getElem? (i := 117) rfl))) (mvT hZ4 (hw _ (List.mem_of_getElem? (i := 88) rfl))) (mvT hZ4 (hw _ (List.mem_of_getElem? (i := 118) rfl))) (by decide) (backOf (W := 0) (rm20 l Z a0 hw [] d1 h4 n0 Z4 hf1) hZ4 (hw _ (List.mem_of_getElem? (i := 118) rfl)) (hw _ (List.mem_of_getElem? (i := 88) rfl)) (by decide) (by decide)) (g := (mkF m 108 #[.val (.ref th), .val (.ref nm), .val (.ref ty), .val (.ref mn), .val (.ref mx)] [(.double d1)])) rfl (by rw [hml]; rfl) (argsL := [(.double d1)]) (rest := []) (lenOf own_pd13 rfl) rfl (by show 2 * 0 + _ ≤ _; exact Nat.le_of_eq rfl) (hb hby own_d9_108) (fun _ _ => ⟨rfl, eq8, (by decide : 4 + 0 ≤ _), (by decide : 40 + 0 ≤ _)⟩)
  dsimp only [Pt.U, Pt.locs, Pt.cells, Pt.slots] at X9 l9 y9 z9 st9 hQ9
  subst l9 y9 z9
  obtain ⟨rfl, Nq9, eq9⟩ := hQ9
  have N9 := Fr.app N8 Nq9
  refine own_st st9 ?_
  show own_Gl _ _ _ _ _ _ _ _ (T9.setTop (mkF m 111 #[.val (.ref th), .val (.ref nm), .val (.ref ty), .val (.ref mn), .val (.ref mx)] [(.int (1 : Int32))]))
  refine own_st (A' := T9.setTop (mkF m 116 #[.val (.ref th), .val (.ref nm), .val (.ref ty), .val (.ref mn), .val (.ref mx)] [(.ref mx)])) (fun tg kt => ?_) ?_
  · show Steps p.tables e below (T9.setTop (mkF m 111 #[.val (.ref th), .val (.ref nm), .val (.ref ty), .val (.ref mn), .val (.ref mx)] [(.int (1 : Int32))])) _
    refine XS.ifNo X9.here hx rfl (hb hby own_d9_111) rfl ((if0 _ _).trans (feq ((by decide) : ¬ ((1 : Int32) = (0 : Int32)))).1) ?_
    show Steps p.tables e below (T9.setTop (mkF m 114 #[.val (.ref th), .val (.ref nm), .val (.ref ty), .val (.ref mn), .val (.ref mx)] [])) _
    refine XS.aload X9.here hx rfl (hb hby own_d9_114) rfl rfl ?_
    exact kt
  obtain ⟨cq10, kq10, q10a, q10b, q10c⟩ := isOf hZ4 eq9 ((Em2.ext E2).ext E4)
  obtain ⟨_, _, ⟨T10, L10, k10, n10⟩, -, X10, ⟨Lc10, hQ10, l10, y10, z10⟩, st10⟩ := X9.virtualBack hx (y := (⟨"java/lang/Double", "doubleValue", "()D"⟩ : MethodName)) (z := (⟨"java/lang/Double", "doubleValue", "()D"⟩ : MethodName)) hown4 (mvT hZ4 (hw _ (List.mem_of_getElem? (i := 111) rfl))) (mvT hZ4 (hw _ (List.mem_of_getElem? (i := 112) rfl))) (notFace_of_selects (args := #[]) (mvT hZ4 (hw _ (List.mem_of_getElem? (i := 114) rfl)))) (mvT hZ4 (hw _ (List.mem_of_getElem? (i := 114) rfl))) (mvT hZ4 (hw _ (List.mem_of_getElem? (i := 113) rfl))) (by decide) (backOf (W := 0) (rm19 l Z a0 hw [] mx d2 h4 n0 Z4 ((Fm2.ext E2).ext E4)) hZ4 (hw _ (List.mem_of_getElem? (i := 115) rfl)) (hw _ (List.mem_of_getElem? (i := 88) rfl)) (by decide) (by decide)) q10a q10c (g := (mkF m 116 #[.val (.ref th), .val (.ref nm), .val (.ref ty), .val (.ref mn), .val (.ref mx)] [(.ref mx)])) rfl (by rw [hml]; rfl) (Steps.refl _) (argsL := []) (rest := []) (lenOf own_pd12 rfl) rfl (by show 2 * 0 + _ ≤ _; exact Nat.le_of_eq rfl) (hb hby own_d9_116) (fun _ _ => ⟨rfl, eq9, (by decide : 4 + 0 ≤ _), (by decide : 40 + 0 ≤ _)⟩)
  dsimp only [Pt.U, Pt.locs, Pt.cells, Pt.slots] at X10 l10 y10 z10 st10 hQ10
  subst l10 y10 z10
  obtain ⟨rfl, Nq10, eq10⟩ := hQ10
  have N10 := Fr.app N9 Nq10
  refine own_tr st10 ?_
  show own_Gl _ _ _ _ _ _ _ _ (T10.setTop (mkF m 119 #[.val (.ref th), .val (.ref nm), .val (.ref ty), .val (.ref mn), .val (.ref mx)] [(.double d2)]))
  obtain ⟨_, _, ⟨T11, L11, k11, n11⟩, -, X11, ⟨Lc11, hQ11, l11, y11, z11⟩, st11⟩ := Jvm.LawKit.callS X10 hx (y := (⟨"java/lang/Double", "isFinite", "(D)Z"⟩ : MethodName)) hown4 (mvT hZ4 (hw _ (List.mem_of_getElem? (i := 116) rfl))) (mvT hZ4 (hw _ (List.mem_of_getElem? (i := 117) rfl))) (mvT hZ4 (hw _ (List.mem_of_getElem? (i := 88) rfl))) (mvT hZ4 (hw _ (List.mem_of_getElem? (i := 118) rfl))) (by decide) (backOf (W := 0) (rm20 l Z a0 hw [] d2 h4 n0 Z4 hf2) hZ4 (hw _ (List.mem_of_getElem? (i := 118) rfl)) (hw _ (List.mem_of_getElem? (i := 88) rfl)) (by decide) (by decide)) (g := (mkF m 119 #[.val (.ref th), .val (.ref nm), .val (.ref ty), .val (.ref mn), .val (.ref mx)] [(.double d2)])) rfl (by rw [hml]; rfl) (argsL := [(.double d2)]) (rest := []) (lenOf own_pd13 rfl) rfl (by show 2 * 0 + _ ≤ _; exact Nat.le_of_eq rfl) (hb hby own_d9_119) (fun _ _ => ⟨rfl, eq10, (by decide : 4 + 0 ≤ _), (by decide : 40 + 0 ≤ _)⟩)
  dsimp only [Pt.U, Pt.locs, Pt.cells, Pt.slots] at X11 l11 y11 z11 st11 hQ11
  subst l11 y11 z11
  obtain ⟨rfl, Nq11, eq11⟩ := hQ11
  have N11 := Fr.app N10 Nq11
  refine own_st st11 ?_
  show own_Gl _ _ _ _ _ _ _ _ (T11.setTop (mkF m 122 #[.val (.ref th), .val (.ref nm), .val (.ref ty), .val (.ref mn), .val (.ref mx)] [(.int (1 : Int32))]))
  refine own_st (A' := T11.setTop (mkF m 144 #[.val (.ref th), .val (.ref nm), .val (.ref ty), .val (.ref mn), .val (.ref mx)] [(.ref mn)])) (fun tg kt => ?_) ?_
  · show Steps p.tables e below (T11.setTop (mkF m 122 #[.val (.ref th), .val (.ref nm), .val (.ref ty), .val (.ref mn), .val (.ref mx)] [(.int (1 : Int32))])) _
    refine XS.ifYes X11.here hx rfl (pc0 := 122) (pc' := 139) rfl (hb hby own_d9_122) rfl ((if0 _ _).trans (feq ((by decide) : ¬ ((1 : Int32) = (0 : Int32)))).2) (by decide) (by decide) ?_
    show Steps p.tables e below (T11.setTop (mkF m 139 #[.val (.ref th), .val (.ref nm), .val (.ref ty), .val (.ref mn), .val (.ref mx)] [])) _
    refine XS.aloadN X11.here hx rfl (hb hby own_d9_139) rfl rfl ?_
    show Steps p.tables e below (T11.setTop (mkF m 140 #[.val (.ref th), .val (.ref nm), .val (.ref ty), .val (.ref mn), .val (.ref mx)] [(.ref mn)])) _
    refine XS.ifnullNo X11.here hx rfl (hb hby own_d9_140) rfl ?_
    show Steps p.tables e below (T11.setTop (mkF m 143 #[.val (.ref th), .val (.ref nm), .val (.ref ty), .val (.ref mn), .val (.ref mx)] [])) _
    refine XS.aloadN X11.here hx rfl (hb hby own_d9_143) rfl rfl ?_
    exact kt
  obtain ⟨cq12, kq12, q12a, q12b, q12c⟩ := isOf hZ4 eq11 ((Em1.ext E2).ext E4)
  obtain ⟨_, _, ⟨T12, L12, k12, n12⟩, -, X12, ⟨Lc12, hQ12, l12, y12, z12⟩, st12⟩ := X11.virtualBack hx (y := (⟨"java/lang/Double", "doubleValue", "()D"⟩ : MethodName)) (z := (⟨"java/lang/Double", "doubleValue", "()D"⟩ : MethodName)) hown4 (mvT hZ4 (hw _ (List.mem_of_getElem? (i := 111) rfl))) (mvT hZ4 (hw _ (List.mem_of_getElem? (i := 112) rfl))) (notFace_of_selects (args := #[]) (mvT hZ4 (hw _ (List.mem_of_getElem? (i := 114) rfl)))) (mvT hZ4 (hw _ (List.mem_of_getElem? (i := 114) rfl))) (mvT hZ4 (hw _ (List.mem_of_getElem? (i := 113) rfl))) (by decide) (backOf (W := 0) (rm19 l Z a0 hw [] mn d1 h4 n0 Z4 ((Fm1.ext E2).ext E4)) hZ4 (hw _ (List.mem_of_getElem? (i := 115) rfl)) (hw _ (List.mem_of_getElem? (i := 88) rfl)) (by decide) (by decide)) q12a q12c (g := (mkF m 144 #[.val (.ref th), .val (.ref nm), .val (.ref ty), .val (.ref mn), .val (.ref mx)] [(.ref mn)])) rfl (by rw [hml]; rfl) (Steps.refl _) (argsL := []) (rest := []) (lenOf own_pd12 rfl) rfl (by show 2 * 0 + _ ≤ _; exact Nat.le_of_eq rfl) (hb hby own_d9_144) (fun _ _ => ⟨rfl, eq11, (by decide : 4 + 0 ≤ _), (by decide : 40 + 0 ≤ _)⟩)
  dsimp only [Pt.U, Pt.locs, Pt.cells, Pt.slots] at X12 l12 y12 z12 st12 hQ12
  subst l12 y12 z12
  obtain ⟨rfl, Nq12, eq12⟩ := hQ12
  have N12 := Fr.app N11 Nq12
  refine own_tr st12 ?_
  show own_Gl _ _ _ _ _ _ _ _ (T12.setTop (mkF m 147 #[.val (.ref th), .val (.ref nm), .val (.ref ty), .val (.ref mn), .val (.ref mx)] [(.double d1)]))
  refine own_st (A' := T12.setTop (mkF m 149 #[.val (.ref th), .val (.ref nm), .val (.ref ty), .val (.ref mn), .val (.ref mx)] [(.ref mx), (.double d1)])) (fun tg kt => ?_) ?_
  · show Steps p.tables e below (T12.setTop (mkF m 147 #[.val (.ref th), .val (.ref nm), .val (.ref ty), .val (.ref mn), .val (.ref mx)] [(.double d1)])) _
    refine XS.aload X12.here hx rfl (hb hby own_d9_147) rfl rfl ?_
    exact kt
  obtain ⟨cq13, kq13, q13a, q13b, q13c⟩ := isOf hZ4 eq12 ((Em2.ext E2).ext E4)
  obtain ⟨_, _, ⟨T13, L13, k13, n13⟩, -, X13, ⟨Lc13, hQ13, l13, y13, z13⟩, st13⟩ := X12.virtualBack hx (y := (⟨"java/lang/Double", "doubleValue", "()D"⟩ : MethodName)) (z := (⟨"java/lang/Double", "doubleValue", "()D"⟩ : MethodName)) hown4 (mvT hZ4 (hw _ (List.mem_of_getElem? (i := 111) rfl))) (mvT hZ4 (hw _ (List.mem_of_getElem? (i := 112) rfl))) (notFace_of_selects (args := #[]) (mvT hZ4 (hw _ (List.mem_of_getElem? (i := 114) rfl)))) (mvT hZ4 (hw _ (List.mem_of_getElem? (i := 114) rfl))) (mvT hZ4 (hw _ (List.mem_of_getElem? (i := 113) rfl))) (by decide) (backOf (W := 2) (rm19 l Z a0 hw [] mx d2 h4 n0 Z4 ((Fm2.ext E2).ext E4)) hZ4 (hw _ (List.mem_of_getElem? (i := 115) rfl)) (hw _ (List.mem_of_getElem? (i := 88) rfl)) (by decide) (by decide)) q13a q13c (g := (mkF m 149 #[.val (.ref th), .val (.ref nm), .val (.ref ty), .val (.ref mn), .val (.ref mx)] [(.ref mx), (.double d1)])) rfl (by rw [hml]; rfl) (Steps.refl _) (argsL := []) (rest := [(.double d1)]) (lenOf own_pd12 rfl) rfl (by show 2 * 0 + _ ≤ _; exact Nat.le_of_eq rfl) (hb hby own_d9_149) (fun _ _ => ⟨rfl, eq12, (by decide : 4 + 0 ≤ _), (by decide : 40 + 0 ≤ _)⟩)
  dsimp only [Pt.U, Pt.locs, Pt.cells, Pt.slots] at X13 l13 y13 z13 st13 hQ13
  subst l13 y13 z13
  obtain ⟨rfl, Nq13, eq13⟩ := hQ13
  have N13 := Fr.app N12 Nq13
  refine own_tr st13 ?_
  show own_Gl _ _ _ _ _ _ _ _ (T13.setTop (mkF m 152 #[.val (.ref th), .val (.ref nm), .val (.ref ty), .val (.ref mn), .val (.ref mx)] [(.double d2), (.double d1)]))
  refine own_st (A' := T13.setTop (mkF m 172 #[.val (.ref th), .val (.ref nm), .val (.ref ty), .val (.ref mn), .val (.ref mx)] [(.ref nm), (.ref th)])) (fun tg kt => ?_) ?_
  · show Steps p.tables e below (T13.setTop (mkF m 152 #[.val (.ref th), .val (.ref nm), .val (.ref ty), .val (.ref mn), .val (.ref mx)] [(.double d2), (.double d1)])) _
    refine XS.dcmpS X13.here hx rfl (hb hby own_d9_152) rfl rfl ?_
    show Steps p.tables e below (T13.setTop (mkF m 153 #[.val (.ref th), .val (.ref nm), .val (.ref ty), .val (.ref mn), .val (.ref mx)] [(.int (cmpValue (FP.dcmp d1 d2) .l))])) _
    refine XS.ifYes X13.here hx rfl (pc0 := 153) (pc' := 170) rfl (hb hby own_d9_153) rfl ((if0 _ _).trans (flt (hle : ¬ ((0 : Int32) < (cmpValue (FP.dcmp d1 d2) .l)))).2.2.2) (by decide) (by decide) ?_
    show Steps p.tables e below (T13.setTop (mkF m 170 #[.val (.ref th), .val (.ref nm), .val (.ref ty), .val (.ref mn), .val (.ref mx)] [])) _
    refine XS.aloadN X13.here hx rfl (hb hby own_d9_170) rfl rfl ?_
    show Steps p.tables e below (T13.setTop (mkF m 171 #[.val (.ref th), .val (.ref nm), .val (.ref ty), .val (.ref mn), .val (.ref mx)] [(.ref th)])) _
    refine XS.aloadN X13.here hx rfl (hb hby own_d9_171) rfl rfl ?_
    exact kt
  obtain ⟨T14, h14, X14, e14, W14, st14⟩ := putF X13 hx hZ4 hown4 (host := "") (Or.inl (hw _ (List.mem_of_getElem? (i := 61) rfl))) Via.refl eq13 ((F_name.ext E2).ext E4) ((Eth.ext E2).ext E4) (Or.inr ⟨(hw _ (List.mem_of_getElem? (i := 62) rfl)), rfl, hnm⟩) (hw _ (List.mem_of_getElem? (i := 39) rfl)) (ty := (.object "java/lang/String")) (by decide) rfl rfl (g := (mkF m 172 #[.val (.ref th), .val (.ref nm), .val (.ref ty), .val (.ref mn), .val (.ref mx)] [(.ref nm), (.ref th)])) rfl rfl (hb hby own_d9_172)
  have N14 := Fr.snoc X14 N13 gth
  have K14 := (K4).wr W14 (Or.inl (List.mem_of_getElem? (i := 0) rfl))
  have Z14 : n0 ≤ h14.size := Nat.le_trans Z4 (Keep.of_wr W14).1
  have hk14 := Nat.le_trans hk4 (Keep.of_wr W14).1
  have Fa15 := (((F_type.ext E2).ext E4).other W14 (Or.inr (slot_ne (Or.inr (hw _ (List.mem_of_getElem? (i := 64) rfl))) (Or.inr (hw _ (List.mem_of_getElem? (i := 62) rfl))) (by decide) (t := (.object "com/example/inexact_search/inexactsearch/engine/AttributeType")) (t' := (.object "java/lang/String")) (by decide) (by decide))))
  have Fa16 := (((F_declaredMin.ext E2).ext E4).other W14 (Or.inr (slot_ne (Or.inr (hw _ (List.mem_of_getElem? (i := 66) rfl))) (Or.inr (hw _ (List.mem_of_getElem? (i := 62) rfl))) (by decide) (t := (.object "java/lang/Double")) (t' := (.object "java/lang/String")) (by decide) (by decide))))
  have Fa17 := (((F_declaredMax.ext E2).ext E4).other W14 (Or.inr (slot_ne (Or.inr (hw _ (List.mem_of_getElem? (i := 68) rfl))) (Or.inr (hw _ (List.mem_of_getElem? (i := 62) rfl))) (by decide) (t := (.object "java/lang/Double")) (t' := (.object "java/lang/String")) (by decide) (by decide))))
  refine own_st st14 ?_
  show own_Gl _ _ _ _ _ _ _ _ (T14.setTop (mkF m 175 #[.val (.ref th), .val (.ref nm), .val (.ref ty), .val (.ref mn), .val (.ref mx)] []))
  refine own_st (A' := T14.setTop (mkF m 177 #[.val (.ref th), .val (.ref nm), .val (.ref ty), .val (.ref mn), .val (.ref mx)] [(.ref ty), (.ref th)])) (fun tg kt => ?_) ?_
  · show Steps p.tables e below (T14.setTop (mkF m 175 #[.val (.ref th), .val (.ref nm), .val (.ref ty), .val (.ref mn), .val (.ref mx)] [])) _
    refine XS.aloadN X14.here hx rfl (hb hby own_d9_175) rfl rfl ?_
    show Steps p.tables e below (T14.setTop (mkF m 176 #[.val (.ref th), .val (.ref nm), .val (.ref ty), .val (.ref mn), .val (.ref mx)] [(.ref th)])) _
    refine XS.aloadN X14.here hx rfl (hb hby own_d9_176) rfl rfl ?_
    exact kt
  obtain ⟨T18, h18, X18, e18, W18, st18⟩ := putF X14 hx hZ4 hown4 (host := "") (Or.inl (hw _ (List.mem_of_getElem? (i := 63) rfl))) Via.refl e14 Fa15 (((Eth.ext E2).ext E4).wr W14) (Or.inr ⟨(hw _ (List.mem_of_getElem? (i := 64) rfl)), rfl, hnm⟩) (hw _ (List.mem_of_getElem? (i := 39) rfl)) (ty := (.object "com/example/inexact_search/inexactsearch/engine/AttributeType")) (by decide) rfl rfl (g := (mkF m 177 #[.val (.ref th), .val (.ref nm), .val (.ref ty), .val (.ref mn), .val (.ref mx)] [(.ref ty), (.ref th)])) rfl rfl (hb hby own_d9_177)
  have N18 := Fr.snoc X18 N14 gth
  have K18 := (K14).wr W18 (Or.inl (List.mem_of_getElem? (i := 0) rfl))
  have Z18 : n0 ≤ h18.size := Nat.le_trans Z14 (Keep.of_wr W18).1
  have hk18 := Nat.le_trans hk14 (Keep.of_wr W18).1
  have Fa19 := (Fa16.other W18 (Or.inr (slot_ne (Or.inr (hw _ (List.mem_of_getElem? (i := 66) rfl))) (Or.inr (hw _ (List.mem_of_getElem? (i := 64) rfl))) (by decide) (t := (.object "java/lang/Double")) (t' := (.object "com/example/inexact_search/inexactsearch/engine/AttributeType")) (by decide) (by decide))))
  have Fa20 := (Fa17.other W18 (Or.inr (slot_ne (Or.inr (hw _ (List.mem_of_getElem? (i := 68) rfl))) (Or.inr (hw _ (List.mem_of_getElem? (i := 64) rfl))) (by decide) (t := (.object "java/lang/Double")) (t' := (.object "com/example/inexact_search/inexactsearch/engine/AttributeType")) (by decide) (by decide))))
  have Fa21 := ((((Fs.ext E2).ext E4).other W14 (Or.inl nes)).other W18 (Or.inl nes))
  have Fa22 := ((((Fm1.ext E2).ext E4).other W14 (Or.inl nem1)).other W18 (Or.inl nem1))
  have Fa23 := ((((Fm2.ext E2).ext E4).other W14 (Or.inl nem2)).other W18 (Or.inl nem2))
  have Fa24 := ((((F_name.ext E2).ext E4).same W14).other W18 (Or.inr (slot_ne (Or.inr (hw _ (List.mem_of_getElem? (i := 62) rfl))) (Or.inr (hw _ (List.mem_of_getElem? (i := 64) rfl))) (by decide) (t := (.object "java/lang/String")) (t' := (.object "com/example/inexact_search/inexactsearch/engine/AttributeType")) (by decide) (by decide))))
  refine own_st st18 ?_
  show own_Gl _ _ _ _ _ _ _ _ (T18.setTop (mkF m 180 #[.val (.ref th), .val (.ref nm), .val (.ref ty), .val (.ref mn), .val (.ref mx)] []))
  refine own_st (A' := T18.setTop (mkF m 182 #[.val (.ref th), .val (.ref nm), .val (.ref ty), .val (.ref mn), .val (.ref mx)] [(.ref mn), (.ref th)])) (fun tg kt => ?_) ?_
  · show Steps p.tables e below (T18.setTop (mkF m 180 #[.val (.ref th), .val (.ref nm), .val (.ref ty), .val (.ref mn), .val (.ref mx)] [])) _
    refine XS.aloadN X18.here hx rfl (hb hby own_d9_180) rfl rfl ?_
    show Steps p.tables e below (T18.setTop (mkF m 181 #[.val (.ref th), .val (.ref nm), .val (.ref ty), .val (.ref mn), .val (.ref mx)] [(.ref th)])) _
    refine XS.aloadN X18.here hx rfl (hb hby own_d9_181) rfl rfl ?_
    exact kt
  obtain ⟨T25, h25, X25, e25, W25, st25⟩ := putF X18 hx hZ4 hown4 (host := "") (Or.inl (hw _ (List.mem_of_getElem? (i := 65) rfl))) Via.refl e18 Fa19 ((((Eth.ext E2).ext E4).wr W14).wr W18) (Or.inr ⟨(hw _ (List.mem_of_getElem? (i := 66) rfl)), rfl, hnm⟩) (hw _ (List.mem_of_getElem? (i := 39) rfl)) (ty := (.object "java/lang/Double")) (by decide) rfl rfl (g := (mkF m 182 #[.val (.ref th), .val (.ref nm), .val (.ref ty), .val (.ref mn), .val (.ref mx)] [(.ref mn), (.ref th)])) rfl rfl (hb hby own_d9_182)
  have N25 := Fr.snoc X25 N18 gth
  have K25 := (K18).wr W25 (Or.inl (List.mem_of_getElem? (i := 0) rfl))
  have Z25 : n0 ≤ h25.size := Nat.le_trans Z18 (Keep.of_wr W25).1
  have hk25 := Nat.le_trans hk18 (Keep.of_wr W25).1
  have Fa26 := (Fa20.other W25 (Or.inr (slot_ne (Or.inr (hw _ (List.mem_of_getElem? (i := 68) rfl))) (Or.inr (hw _ (List.mem_of_getElem? (i := 66) rfl))) (by decide) (t := (.object "java/lang/Double")) (t' := (.object "java/lang/Double")) (by decide) (by decide))))
  have Fa27 := (((((Vs.ext E2).ext E4).other W14 nev).other W18 nev).other W25 nev)
  have Fa28 := (Fa24.other W25 (Or.inr (slot_ne (Or.inr (hw _ (List.mem_of_getElem? (i := 62) rfl))) (Or.inr (hw _ (List.mem_of_getElem? (i := 66) rfl))) (by decide) (t := (.object "java/lang/String")) (t' := (.object "java/lang/Double")) (by decide) (by decide))))
  have Fa29 := ((Fa15.same W18).other W25 (Or.inr (slot_ne (Or.inr (hw _ (List.mem_of_getElem? (i := 64) rfl))) (Or.inr (hw _ (List.mem_of_getElem? (i := 66) rfl))) (by decide) (t := (.object "com/example/inexact_search/inexactsearch/engine/AttributeType")) (t' := (.object "java/lang/Double")) (by decide) (by decide))))
  refine own_st st25 ?_
  show own_Gl _ _ _ _ _ _ _ _ (T25.setTop (mkF m 185 #[.val (.ref th), .val (.ref nm), .val (.ref ty), .val (.ref mn), .val (.ref mx)] []))
  refine own_st (A' := T25.setTop (mkF m 188 #[.val (.ref th), .val (.ref nm), .val (.ref ty), .val (.ref mn), .val (.ref mx)] [(.ref mx), (.ref th)])) (fun tg kt => ?_) ?_
  · show Steps p.tables e below (T25.setTop (mkF m 185 #[.val (.ref th), .val (.ref nm), .val (.ref ty), .val (.ref mn), .val (.ref mx)] [])) _
    refine XS.aloadN X25.here hx rfl (hb hby own_d9_185) rfl rfl ?_
    show Steps p.tables e below (T25.setTop (mkF m 186 #[.val (.ref th), .val (.ref nm), .val (.ref ty), .val (.ref mn), .val (.ref mx)] [(.ref th)])) _
    refine XS.aload X25.here hx rfl (hb hby own_d9_186) rfl rfl ?_
    exact kt
  obtain ⟨T30, h30, X30, e30, W30, st30⟩ := putF X25 hx hZ4 hown4 (host := "") (Or.inl (hw _ (List.mem_of_getElem? (i := 67) rfl))) Via.refl e25 Fa26 (((((Eth.ext E2).ext E4).wr W14).wr W18).wr W25) (Or.inr ⟨(hw _ (List.mem_of_getElem? (i := 68) rfl)), rfl, hnm⟩) (hw _ (List.mem_of_getElem? (i := 39) rfl)) (ty := (.object "java/lang/Double")) (by decide) rfl rfl (g := (mkF m 188 #[.val (.ref th), .val (.ref nm), .val (.ref ty), .val (.ref mn), .val (.ref mx)] [(.ref mx), (.ref th)])) rfl rfl (hb hby own_d9_188)
  have N30 := Fr.snoc X30 N25 gth
  have K30 := (K25).wr W30 (Or.inl (List.mem_of_getElem? (i := 0) rfl))
  have Z30 : n0 ≤ h30.size := Nat.le_trans Z25 (Keep.of_wr W30).1
  have hk30 := Nat.le_trans hk25 (Keep.of_wr W30).1
  have Fa31 := (Fa28.other W30 (Or.inr (slot_ne (Or.inr (hw _ (List.mem_of_getElem? (i := 62) rfl))) (Or.inr (hw _ (List.mem_of_getElem? (i := 68) rfl))) (by decide) (t := (.object "java/lang/String")) (t' := (.object "java/lang/Double")) (by decide) (by decide))))
  have Fa32 := (Fa29.other W30 (Or.inr (slot_ne (Or.inr (hw _ (List.mem_of_getElem? (i := 64) rfl))) (Or.inr (hw _ (List.mem_of_getElem? (i := 68) rfl))) (by decide) (t := (.object "com/example/inexact_search/inexactsearch/engine/AttributeType")) (t' := (.object "java/lang/Double")) (by decide) (by decide))))
  have Fa33 := ((Fa19.same W25).other W30 (Or.inr (slot_ne (Or.inr (hw _ (List.mem_of_getElem? (i := 66) rfl))) (Or.inr (hw _ (List.mem_of_getElem? (i := 68) rfl))) (by decide) (t := (.object "java/lang/Double")) (t' := (.object "java/lang/Double")) (by decide) (by decide))))
  refine own_st st30 ?_
  show own_Gl _ _ _ _ _ _ _ _ (T30.setTop (mkF m 191 #[.val (.ref th), .val (.ref nm), .val (.ref ty), .val (.ref mn), .val (.ref mx)] []))
  refine own_retW X30 hS4 (by rw [e30]; exact hk30) (v := none) (fun _ => rfl) hlk (by decide) (by decide) ?_ (fun fs hr => ?_)
  · show Q9d Z th nm ty mn mx vb kb vs a_INTEGER a_DECIMAL d1 d2 h0 n0 (none) T30.heap _
    rw [e30]
    exact ⟨rfl, N30, K30, ((((((Eth.ext E2).ext E4).wr W14).wr W18).wr W25).wr W30), Fa33, (Fa26.same W30)⟩
  · show Steps p.tables e below (T30.setTop (mkF m 191 #[.val (.ref th), .val (.ref nm), .val (.ref ty), .val (.ref mn), .val (.ref mx)] [])) _
    exact X30.returnOut hx Bd.returns (hb hby own_d9_191) hr
theorem own_pd14 : parseMethodDescriptor "(Ljava/lang/String;Lcom/example/inexact_search/inexactsearch/engine/AttributeType;Ljava/lang/Double;Ljava/lang/Double;)V" = some ⟨[(.object "java/lang/String"), (.object "com/example/inexact_search/inexactsearch/engine/AttributeType"), (.object "java/lang/Double"), (.object "java/lang/Double")], none⟩ := by decide +kernel
theorem own_d8_0 : decode prog_9_method_1_code 0 = .ok (.aload_n 0, 1) := by decide +kernel
theorem own_d8_1 : decode prog_9_method_1_code 1 = .ok (.aload_n 1, 1) := by decide +kernel
theorem own_d8_2 : decode prog_9_method_1_code 2 = .ok (.aload_n 2, 1) := by decide +kernel
theorem own_d8_3 : decode prog_9_method_1_code 3 = .ok (.aconst_null, 1) := by decide +kernel
theorem own_d8_4 : decode prog_9_method_1_code 4 = .ok (.aconst_null, 1) := by decide +kernel
theorem own_d8_5 : decode prog_9_method_1_code 5 = .ok (.invokespecial 1, 3) := by decide +kernel
theorem own_d8_8 : decode prog_9_method_1_code 8 = .ok (.return_, 1) := by decide +kernel
theorem own_ef_rm8 (m : MethodId) (th : Addr) (nm : Addr) (ty : Addr) : entryFrame m #[(.ref th), (.ref nm), (.ref ty)] 3 = mkF m 0 #[.val (.ref th), .val (.ref nm), .val (.ref ty)] [] := by first | (simp [entryFrame, mkF, argsToLocals, Value.category]; done) | rfl
def Q8 (Z : State) (th : Addr) (nm : Addr) (ty : Addr) (vb : Addr) (kb : ClassId) (vs : List Value) (h0 : Heap) (n0 : Nat) (v : Option Value) (h : Heap) (L : List Loc) : Prop := v = none ∧ Fr n0 L ∧ Keep h0 h [th] ∧ Exa Z h th "com/example/inexact_search/inexactsearch/engine/Attribute" ∧ Fld Z h th "com/example/inexact_search/inexactsearch/engine/Attribute" "declaredMin" "Ljava/lang/Double;" .null
set_option maxRecDepth 65536 in
set_option maxHeartbeats 40000000 in
theorem rm8 (l : Launch) (Z : State) (a0 : Array Value) (hw : ∀ d ∈ tables_1, d.before a0 Z = true) (ws : List Jvm.Cond) (th : Addr) (nm : Addr) (ty : Addr) (vb : Addr) (kb : ClassId) (vs : List Value) (h0 : Heap) (n0 : Nat) (Z0 : n0 ≤ h0.size) (F_name : Fld Z h0 th "com/example/inexact_search/inexactsearch/engine/Attribute" "name" "Ljava/lang/String;" .null) (F_type : Fld Z h0 th "com/example/inexact_search/inexactsearch/engine/Attribute" "type" "Lcom/example/inexact_search/inexactsearch/engine/AttributeType;" .null) (F_declaredMin : Fld Z h0 th "com/example/inexact_search/inexactsearch/engine/Attribute" "declaredMin" "Ljava/lang/Double;" .null) (F_declaredMax : Fld Z h0 th "com/example/inexact_search/inexactsearch/engine/Attribute" "declaredMax" "Ljava/lang/Double;" .null) (Eth : Exa Z h0 th "com/example/inexact_search/inexactsearch/engine/Attribute") (gth : n0 ≤ th) (Es : Exa Z h0 nm "java/lang/String") (Fs : Fld Z h0 nm "java/lang/String" "value" "[B" (.ref vb)) (Vs : Arv Z h0 vb kb .byte (1 : Int32) vs (.int (0 : Int32))) (nes : nm ≠ th) (nev : vb ≠ th) :
    MetFree l (⟨"com/example/inexact_search/inexactsearch/engine/Attribute", "<init>", "(Ljava/lang/String;Lcom/example/inexact_search/inexactsearch/engine/AttributeType;)V"⟩ : MethodName) (head1 (Jvm.Cond.code (⟨"com/example/inexact_search/inexactsearch/engine/Attribute", "<init>", "(Ljava/lang/String;Lcom/example/inexact_search/inexactsearch/engine/AttributeType;)V"⟩ : MethodName) prog_9_method_1_code 3 none :: ws) ({ frames := 2, cells := 4, slots := 40, locals := 29 } : Room)) (fun a U => a = #[(.ref th), (.ref nm), (.ref ty)] ∧ Z.Warmed39 U.vm ∧ U.heap = h0) (fun _ _ _ _ _ => True) (fun _ U o U' => ∃ v L, o = .returned v ∧ Q8 Z th nm ty vb kb vs h0 n0 v U'.heap L ∧ ReturnedEndW U o U' L ({ frames := 2, cells := 4, slots := 40, locals := 29 } : Room).cells ({ frames := 2, cells := 4, slots := 40, locals := 29 } : Room).slots) := by
  refine MetFree.of_bodySF (plainFor_of_name own_pn11) hisR ?_
  intro p e s m args below meth c s₁ Bd hml0 hP hK
  obtain ⟨rfl, hZ, hh⟩ := hP
  have hx := Bd.exec
  have hby := Bd.bytes
  have hml : c.maxLocals = 3 := hml0
  have hown : s.vm.findClass "com/example/inexact_search/inexactsearch/engine/Attribute" = some m.cls := findClass_of_methodNamed Bd.named
  have hnm := (name_of_methodNamed Bd.named Bd.method).1
  have hlk : meth.locks = false := BodyLoose.notSynchronized Bd
  have X0 : Stand p l e ({ frames := 2, cells := 4, slots := 40, locals := 29 } : Room) (s.setVm s.vm) m #[(.ref th), (.ref nm), (.ref ty)] below meth c s₁ [] 0 0 := Stand.of_body Bd
  have e0 : s₁.heap = h0 := by rw [← hh, Bd.state]; rfl
  have N0 := Fr.nil n0
  show own_Gl ReturnedEndW p e below s (Q8 Z th nm ty vb kb vs h0 n0) ({ frames := 2, cells := 4, slots := 40, locals := 29 } : Room).cells ({ frames := 2, cells := 4, slots := 40, locals := 29 } : Room).slots (s₁.setTop (entryFrame m #[(.ref th), (.ref nm), (.ref ty)] 3))
  rw [own_ef_rm8 m th nm ty]
  have hS0 : s.Since s.vm 0 := State.WarmedH.since (State.WarmedH.refl s) 0
  have hk0 : 0 ≤ h0.size := Nat.zero_le _
  refine own_st (A' := s₁.setTop (mkF m 5 #[.val (.ref th), .val (.ref nm), .val (.ref ty)] [.null, .null, (.ref ty), (.ref nm), (.ref th)])) (fun tg kt => ?_) ?_
  · show Steps p.tables e below (s₁.setTop (mkF m 0 #[.val (.ref th), .val (.ref nm), .val (.ref ty)] [])) _
    refine XS.aloadN X0.here hx rfl (hb hby own_d8_0) rfl rfl ?_
    show Steps p.tables e below (s₁.setTop (mkF m 1 #[.val (.ref th), .val (.ref nm), .val (.ref ty)] [(.ref th)])) _
    refine XS.aloadN X0.here hx rfl (hb hby own_d8_1) rfl rfl ?_
    show Steps p.tables e below (s₁.setTop (mkF m 2 #[.val (.ref th), .val (.ref nm), .val (.ref ty)] [(.ref nm), (.ref th)])) _
    refine XS.aloadN X0.here hx rfl (hb hby own_d8_2) rfl rfl ?_
    show Steps p.tables e below (s₁.setTop (mkF m 3 #[.val (.ref th), .val (.ref nm), .val (.ref ty)] [(.ref ty), (.ref nm), (.ref th)])) _
    refine XS.aconstNull X0.here hx rfl (hb hby own_d8_3) ?_
    show Steps p.tables e below (s₁.setTop (mkF m 4 #[.val (.ref th), .val (.ref nm), .val (.ref ty)] [.null, (.ref ty), (.ref nm), (.ref th)])) _
    refine XS.aconstNull X0.here hx rfl (hb hby own_d8_4) ?_
    exact kt
  obtain ⟨_, _, ⟨T1, L1, k1, n1⟩, -, X1, hSq1, hgq1, ⟨Lc1, hQ1, l1, y1, z1⟩, st1⟩ := X0.specialBackS hx (y := (⟨"com/example/inexact_search/inexactsearch/engine/Attribute", "<init>", "(Ljava/lang/String;Lcom/example/inexact_search/inexactsearch/engine/AttributeType;Ljava/lang/Double;Ljava/lang/Double;)V"⟩ : MethodName)) rfl hown (mvT hZ (hw _ (List.mem_of_getElem? (i := 44) rfl))) (mvT hZ (hw _ (List.mem_of_getElem? (i := 45) rfl))) (mvT hZ (hw _ (List.mem_of_getElem? (i := 46) rfl))) (by decide) (backOfS (W := 0) (rm9n l Z a0 hw [] th nm ty vb kb vs h0 n0 Z0 F_name F_type F_declaredMin F_declaredMax Eth gth Es Fs Vs nes nev) hZ (hw _ (List.mem_of_getElem? (i := 46) rfl)) (hw _ (List.mem_of_getElem? (i := 40) rfl)) (by decide) (by decide)) (g := (mkF m 5 #[.val (.ref th), .val (.ref nm), .val (.ref ty)] [.null, .null, (.ref ty), (.ref nm), (.ref th)])) rfl (by rw [hml]; rfl) (Steps.refl _) (a := th) (argsL := [(.ref nm), (.ref ty), .null, .null]) (rest := []) (lenOf own_pd14 rfl) rfl (by show 2 * 0 + _ ≤ _; exact Nat.le_of_eq rfl) (hb hby own_d8_5) (fun _ _ => ⟨rfl, e0, (by decide : 0 + 4 ≤ _), (by decide : 0 + 40 ≤ _)⟩)
  dsimp only [Pt.U, Pt.locs, Pt.cells, Pt.slots] at X1 l1 y1 z1 st1 hQ1 hSq1 hgq1
  subst l1 y1 z1
  replace X1 : Stand p l e _ (s.setVm T1.vm) m _ below meth c T1 _ _ _ := X1
  have hS1 : s.Since T1.vm T1.heap.size := hS0.trans hSq1 (Nat.le_trans hk0 (by rw [← e0]; exact hgq1))
  have hZ1 : Z.Warmed39 (s.setVm T1.vm).vm := State.Warmed39.trans (t := (s.setVm s.vm)) hZ hSq1.1
  have hown1 : (s.setVm T1.vm).vm.findClass "com/example/inexact_search/inexactsearch/engine/Attribute" = some m.cls := by rw [show (s.setVm T1.vm).vm = T1.vm from rfl, hSq1.1.alike.findClass]; exact hown
  have hk1 : T1.heap.size ≤ T1.heap.size := Nat.le_refl _
  obtain ⟨rfl, Nq1, Kq1, Eq1, Fq1⟩ := hQ1
  have N1 := Fr.app N0 Nq1
  have K1 := ((Keep.refl h0 ([th] : List Addr))).trans Kq1 (allS (Or.inl (List.mem_of_getElem? (i := 0) rfl)) all0)
  have Z1 : n0 ≤ T1.heap.size := Nat.le_trans Z0 Kq1.1
  refine own_tr st1 ?_
  show own_Gl _ _ _ _ _ _ _ _ (T1.setTop (mkF m 8 #[.val (.ref th), .val (.ref nm), .val (.ref ty)] []))
  refine own_retW X1 hS1 hk1 (v := none) (fun _ => rfl) hlk (by decide) (by decide) ?_ (fun fs hr => ?_)
  · show Q8 Z th nm ty vb kb vs h0 n0 (none) T1.heap _
    exact ⟨rfl, N1, K1, Eq1, Fq1⟩
  · show Steps p.tables e below (T1.setTop (mkF m 8 #[.val (.ref th), .val (.ref nm), .val (.ref ty)] [])) _
    exact X1.returnOut hx Bd.returns (hb hby own_d8_8) hr
theorem own_d12_0 : decode prog_9_method_5_code 0 = .ok (.aload_n 0, 1) := by decide +kernel
theorem own_d12_1 : decode prog_9_method_5_code 1 = .ok (.getfield 69, 3) := by decide +kernel
theorem own_d12_4 : decode prog_9_method_5_code 4 = .ok (.ifnull 7, 3) := by decide +kernel
theorem own_d12_11 : decode prog_9_method_5_code 11 = .ok (.iconst 0, 1) := by decide +kernel
theorem own_d12_12 : decode prog_9_method_5_code 12 = .ok (.ireturn, 1) := by decide +kernel
theorem own_ef_rm12n (m : MethodId) (th : Addr) : entryFrame m #[(.ref th)] 1 = mkF m 0 #[.val (.ref th)] [] := by first | (simp [entryFrame, mkF, argsToLocals, Value.category]; done) | rfl
def Q12n (Z : State) (th : Addr) (h0 : Heap) (n0 : Nat) (v : Option Value) (h : Heap) (L : List Loc) : Prop := v = some (.int 0) ∧ Fr n0 L ∧ h = h0
set_option maxRecDepth 65536 in
set_option maxHeartbeats 40000000 in
theorem rm12n (l : Launch) (Z : State) (a0 : Array Value) (hw : ∀ d ∈ tables_1, d.before a0 Z = true) (ws : List Jvm.Cond) (th : Addr) (h0 : Heap) (n0 : Nat) (Z0 : n0 ≤ h0.size) (Fm : Fld Z h0 th "com/example/inexact_search/inexactsearch/engine/Attribute" "declaredMin" "Ljava/lang/Double;" .null) :
    MetFree l (⟨"com/example/inexact_search/inexactsearch/engine/Attribute", "hasDeclaredRange", "()Z"⟩ : MethodName) (head1 (Jvm.Cond.code (⟨"com/example/inexact_search/inexactsearch/engine/Attribute", "hasDeclaredRange", "()Z"⟩ : MethodName) prog_9_method_5_code 1 (some .boolean) :: ws) ({ frames := 0, cells := 0, slots := 0, locals := 0 } : Room)) (fun a U => a = #[(.ref th)] ∧ Z.Warmed39 U.vm ∧ U.heap = h0) (fun _ _ _ _ _ => True) (fun _ U o U' => ∃ v L, o = .returned v ∧ Q12n Z th h0 n0 v U'.heap L ∧ FrameEnd U o U' L ({ frames := 0, cells := 0, slots := 0, locals := 0 } : Room).cells ({ frames := 0, cells := 0, slots := 0, locals := 0 } : Room).slots) := by
  refine MetFree.of_bodySF (plainFor_of_name own_pn11) hisR ?_
  intro p e s m args below meth c s₁ Bd hml0 hP hK
  obtain ⟨rfl, hZ, hh⟩ := hP
  have hx := Bd.exec
  have hby := Bd.bytes
  have hml : c.maxLocals = 1 := hml0
  have hown : s.vm.findClass "com/example/inexact_search/inexactsearch/engine/Attribute" = some m.cls := findClass_of_methodNamed Bd.named
  have hnm := (name_of_methodNamed Bd.named Bd.method).1
  have hlk : meth.locks = false := BodyLoose.notSynchronized Bd
  have X0 : Stand p l e ({ frames := 0, cells := 0, slots := 0, locals := 0 } : Room) s m #[(.ref th)] below meth c s₁ [] 0 0 := Stand.of_body Bd
  have e0 : s₁.heap = h0 := by rw [← hh, Bd.state]; rfl
  have N0 := Fr.nil n0
  show own_Gl FrameEnd p e below s (Q12n Z th h0 n0) ({ frames := 0, cells := 0, slots := 0, locals := 0 } : Room).cells ({ frames := 0, cells := 0, slots := 0, locals := 0 } : Room).slots (s₁.setTop (entryFrame m #[(.ref th)] 1))
  rw [own_ef_rm12n m th]
  refine own_st (A' := s₁.setTop (mkF m 1 #[.val (.ref th)] [(.ref th)])) (fun tg kt => ?_) ?_
  · show Steps p.tables e below (s₁.setTop (mkF m 0 #[.val (.ref th)] [])) _
    refine XS.aloadN X0.here hx rfl (hb hby own_d12_0) rfl rfl ?_
    exact kt
  obtain ⟨T1, X1, e1, st1⟩ := getF X0 hx hZ hown (host := "") (Or.inl (hw _ (List.mem_of_getElem? (i := 65) rfl))) Via.refl e0 Fm (g := (mkF m 1 #[.val (.ref th)] [(.ref th)])) rfl rfl (hb hby own_d12_1)
  refine own_st st1 ?_
  show own_Gl _ _ _ _ _ _ _ _ (T1.setTop (mkF m 4 #[.val (.ref th)] [.null]))
  refine own_st (A' := T1.setTop (mkF m 12 #[.val (.ref th)] [(.int (0 : Int32))])) (fun tg kt => ?_) ?_
  · show Steps p.tables e below (T1.setTop (mkF m 4 #[.val (.ref th)] [.null])) _
    refine XS.ifnullYes X1.here hx rfl (pc0 := 4) (pc' := 11) rfl (hb hby own_d12_4) rfl (by decide) (by decide) ?_
    show Steps p.tables e below (T1.setTop (mkF m 11 #[.val (.ref th)] [])) _
    refine XS.iconst X1.here hx rfl (hb hby own_d12_11) ?_
    exact kt
  refine own_ret X1 (v := some (.int (0 : Int32))) (fun h => by rw [Bd.returns] at h; cases h) hlk (by decide) (by decide) ?_ (fun fs hr => ?_)
  · show Q12n Z th h0 n0 (some (.int (0 : Int32))) T1.heap _
    rw [e1]
    exact ⟨rfl, N0, rfl⟩
  · show Steps p.tables e below (T1.setTop (mkF m 12 #[.val (.ref th)] [(.int (0 : Int32))])) _
    exact retN X1 hx (t := .boolean) Bd.returns (by simp) (hb hby own_d12_12) hr
theorem own_d12_7 : decode prog_9_method_5_code 7 = .ok (.iconst 1, 1) := by decide +kernel
theorem own_d12_8 : decode prog_9_method_5_code 8 = .ok (.goto 4, 3) := by decide +kernel
theorem own_ef_rm12d (m : MethodId) (th : Addr) : entryFrame m #[(.ref th)] 1 = mkF m 0 #[.val (.ref th)] [] := by first | (simp [entryFrame, mkF, argsToLocals, Value.category]; done) | rfl
def Q12d (Z : State) (th : Addr) (mn : Addr) (h0 : Heap) (n0 : Nat) (v : Option Value) (h : Heap) (L : List Loc) : Prop := v = some (.int 1) ∧ Fr n0 L ∧ h = h0
set_option maxRecDepth 65536 in
set_option maxHeartbeats 40000000 in
theorem rm12d (l : Launch) (Z : State) (a0 : Array Value) (hw : ∀ d ∈ tables_1, d.before a0 Z = true) (ws : List Jvm.Cond) (th : Addr) (mn : Addr) (h0 : Heap) (n0 : Nat) (Z0 : n0 ≤ h0.size) (Fm : Fld Z h0 th "com/example/inexact_search/inexactsearch/engine/Attribute" "declaredMin" "Ljava/lang/Double;" (.ref mn)) :
    MetFree l (⟨"com/example/inexact_search/inexactsearch/engine/Attribute", "hasDeclaredRange", "()Z"⟩ : MethodName) (head1 (Jvm.Cond.code (⟨"com/example/inexact_search/inexactsearch/engine/Attribute", "hasDeclaredRange", "()Z"⟩ : MethodName) prog_9_method_5_code 1 (some .boolean) :: ws) ({ frames := 0, cells := 0, slots := 0, locals := 0 } : Room)) (fun a U => a = #[(.ref th)] ∧ Z.Warmed39 U.vm ∧ U.heap = h0) (fun _ _ _ _ _ => True) (fun _ U o U' => ∃ v L, o = .returned v ∧ Q12d Z th mn h0 n0 v U'.heap L ∧ FrameEnd U o U' L ({ frames := 0, cells := 0, slots := 0, locals := 0 } : Room).cells ({ frames := 0, cells := 0, slots := 0, locals := 0 } : Room).slots) := by
  refine MetFree.of_bodySF (plainFor_of_name own_pn11) hisR ?_
  intro p e s m args below meth c s₁ Bd hml0 hP hK
  obtain ⟨rfl, hZ, hh⟩ := hP
  have hx := Bd.exec
  have hby := Bd.bytes
  have hml : c.maxLocals = 1 := hml0
  have hown : s.vm.findClass "com/example/inexact_search/inexactsearch/engine/Attribute" = some m.cls := findClass_of_methodNamed Bd.named
  have hnm := (name_of_methodNamed Bd.named Bd.method).1
  have hlk : meth.locks = false := BodyLoose.notSynchronized Bd
  have X0 : Stand p l e ({ frames := 0, cells := 0, slots := 0, locals := 0 } : Room) s m #[(.ref th)] below meth c s₁ [] 0 0 := Stand.of_body Bd
  have e0 : s₁.heap = h0 := by rw [← hh, Bd.state]; rfl
  have N0 := Fr.nil n0
  show own_Gl FrameEnd p e below s (Q12d Z th mn h0 n0) ({ frames := 0, cells := 0, slots := 0, locals := 0 } : Room).cells ({ frames := 0, cells := 0, slots := 0, locals := 0 } : Room).slots (s₁.setTop (entryFrame m #[(.ref th)] 1))
  rw [own_ef_rm12d m th]
  refine own_st (A' := s₁.setTop (mkF m 1 #[.val (.ref th)] [(.ref th)])) (fun tg kt => ?_) ?_
  · show Steps p.tables e below (s₁.setTop (mkF m 0 #[.val (.ref th)] [])) _
    refine XS.aloadN X0.here hx rfl (hb hby own_d12_0) rfl rfl ?_
    exact kt
  obtain ⟨T1, X1, e1, st1⟩ := getF X0 hx hZ hown (host := "") (Or.inl (hw _ (List.mem_of_getElem? (i := 65) rfl))) Via.refl e0 Fm (g := (mkF m 1 #[.val (.ref th)] [(.ref th)])) rfl rfl (hb hby own_d12_1)
  refine own_st st1 ?_
  show own_Gl _ _ _ _ _ _ _ _ (T1.setTop (mkF m 4 #[.val (.ref th)] [(.ref mn)]))
  refine own_st (A' := T1.setTop (mkF m 12 #[.val (.ref th)] [(.int (1 : Int32))])) (fun tg kt => ?_) ?_
  · show Steps p.tables e below (T1.setTop (mkF m 4 #[.val (.ref th)] [(.ref mn)])) _
    refine XS.ifnullNo X1.here hx rfl (hb hby own_d12_4) rfl ?_
    show Steps p.tables e below (T1.setTop (mkF m 7 #[.val (.ref th)] [])) _
    refine XS.iconst X1.here hx rfl (hb hby own_d12_7) ?_
    show Steps p.tables e below (T1.setTop (mkF m 8 #[.val (.ref th)] [(.int (1 : Int32))])) _
    refine XS.goto X1.here hx rfl (pc0 := 8) (pc' := 12) rfl (hb hby own_d12_8) (by decide) (by decide) ?_
    exact kt
  refine own_ret X1 (v := some (.int (1 : Int32))) (fun h => by rw [Bd.returns] at h; cases h) hlk (by decide) (by decide) ?_ (fun fs hr => ?_)
  · show Q12d Z th mn h0 n0 (some (.int (1 : Int32))) T1.heap _
    rw [e1]
    exact ⟨rfl, N0, rfl⟩
  · show Steps p.tables e below (T1.setTop (mkF m 12 #[.val (.ref th)] [(.int (1 : Int32))])) _
    exact retN X1 hx (t := .boolean) Bd.returns (by simp) (hb hby own_d12_12) hr
theorem own_d23_0 : decode prog_9_method_8_code 0 = .ok (.aload_n 0, 1) := by decide +kernel
theorem own_d23_1 : decode prog_9_method_8_code 1 = .ok (.invokevirtual 79, 3) := by decide +kernel
theorem own_d23_4 : decode prog_9_method_8_code 4 = .ok (.ifCond .ne 20, 3) := by decide +kernel
theorem own_d23_24 : decode prog_9_method_8_code 24 = .ok (.return_, 1) := by decide +kernel
theorem own_ef_rm23 (m : MethodId) (th : Addr) : entryFrame m #[(.ref th)] 1 = mkF m 0 #[.val (.ref th)] [] := by first | (simp [entryFrame, mkF, argsToLocals, Value.category]; done) | rfl
def Q23 (Z : State) (th : Addr) (mn : Addr) (h0 : Heap) (n0 : Nat) (v : Option Value) (h : Heap) (L : List Loc) : Prop := v = none ∧ Fr n0 L ∧ h = h0
set_option maxRecDepth 65536 in
set_option maxHeartbeats 40000000 in
theorem rm23 (l : Launch) (Z : State) (a0 : Array Value) (hw : ∀ d ∈ tables_1, d.before a0 Z = true) (ws : List Jvm.Cond) (th : Addr) (mn : Addr) (h0 : Heap) (n0 : Nat) (Z0 : n0 ≤ h0.size) (Fm : Fld Z h0 th "com/example/inexact_search/inexactsearch/engine/Attribute" "declaredMin" "Ljava/lang/Double;" (.ref mn)) (Eth : Exa Z h0 th "com/example/inexact_search/inexactsearch/engine/Attribute") :
    MetFree l (⟨"com/example/inexact_search/inexactsearch/engine/Attribute", "requireDeclaredRange", "()V"⟩ : MethodName) (head1 (Jvm.Cond.code (⟨"com/example/inexact_search/inexactsearch/engine/Attribute", "requireDeclaredRange", "()V"⟩ : MethodName) prog_9_method_8_code 1 none :: ws) ({ frames := 1, cells := 0, slots := 0, locals := 12 } : Room)) (fun a U => a = #[(.ref th)] ∧ Z.Warmed39 U.vm ∧ U.heap = h0) (fun _ _ _ _ _ => True) (fun _ U o U' => ∃ v L, o = .returned v ∧ Q23 Z th mn h0 n0 v U'.heap L ∧ FrameEnd U o U' L ({ frames := 1, cells := 0, slots := 0, locals := 12 } : Room).cells ({ frames := 1, cells := 0, slots := 0, locals := 12 } : Room).slots) := by
  refine MetFree.of_bodySF (plainFor_of_name own_pn11) hisR ?_
  intro p e s m args below meth c s₁ Bd hml0 hP hK
  obtain ⟨rfl, hZ, hh⟩ := hP
  have hx := Bd.exec
  have hby := Bd.bytes
  have hml : c.maxLocals = 1 := hml0
  have hown : s.vm.findClass "com/example/inexact_search/inexactsearch/engine/Attribute" = some m.cls := findClass_of_methodNamed Bd.named
  have hnm := (name_of_methodNamed Bd.named Bd.method).1
  have hlk : meth.locks = false := BodyLoose.notSynchronized Bd
  have X0 : Stand p l e ({ frames := 1, cells := 0, slots := 0, locals := 12 } : Room) s m #[(.ref th)] below meth c s₁ [] 0 0 := Stand.of_body Bd
  have e0 : s₁.heap = h0 := by rw [← hh, Bd.state]; rfl
  have N0 := Fr.nil n0
  show own_Gl FrameEnd p e below s (Q23 Z th mn h0 n0) ({ frames := 1, cells := 0, slots := 0, locals := 12 } : Room).cells ({ frames := 1, cells := 0, slots := 0, locals := 12 } : Room).slots (s₁.setTop (entryFrame m #[(.ref th)] 1))
  rw [own_ef_rm23 m th]
  refine own_st (A' := s₁.setTop (mkF m 1 #[.val (.ref th)] [(.ref th)])) (fun tg kt => ?_) ?_
  · show Steps p.tables e below (s₁.setTop (mkF m 0 #[.val (.ref th)] [])) _
    refine XS.aloadN X0.here hx rfl (hb hby own_d23_0) rfl rfl ?_
    exact kt
  obtain ⟨cq1, kq1, q1a, q1b, q1c⟩ := isOf hZ e0 Eth
  obtain ⟨_, _, ⟨T1, L1, k1, n1⟩, -, X1, ⟨Lc1, hQ1, l1, y1, z1⟩, st1⟩ := X0.virtualBack hx (y := (⟨"com/example/inexact_search/inexactsearch/engine/Attribute", "hasDeclaredRange", "()Z"⟩ : MethodName)) (z := (⟨"com/example/inexact_search/inexactsearch/engine/Attribute", "hasDeclaredRange", "()Z"⟩ : MethodName)) hown (mvT hZ (hw _ (List.mem_of_getElem? (i := 132) rfl))) (mvT hZ (hw _ (List.mem_of_getElem? (i := 70) rfl))) (notFace_of_selects (args := #[]) (mvT hZ (hw _ (List.mem_of_getElem? (i := 72) rfl)))) (mvT hZ (hw _ (List.mem_of_getElem? (i := 72) rfl))) (mvT hZ (hw _ (List.mem_of_getElem? (i := 71) rfl))) (by decide) (backOf (W := 0) (rm12d l Z a0 hw [] th mn h0 n0 Z0 Fm) hZ (hw _ (List.mem_of_getElem? (i := 73) rfl)) (hw _ (List.mem_of_getElem? (i := 40) rfl)) (by decide) (by decide)) q1a q1c (g := (mkF m 1 #[.val (.ref th)] [(.ref th)])) rfl (by rw [hml]; rfl) (Steps.refl _) (argsL := []) (rest := []) (lenOf own_pd10 rfl) rfl (by show 2 * 0 + _ ≤ _; exact Nat.le_of_eq rfl) (hb hby own_d23_1) (fun _ _ => ⟨rfl, e0, (by decide : 0 + 0 ≤ _), (by decide : 0 + 0 ≤ _)⟩)
  dsimp only [Pt.U, Pt.locs, Pt.cells, Pt.slots] at X1 l1 y1 z1 st1 hQ1
  subst l1 y1 z1
  obtain ⟨rfl, Nq1, eq1⟩ := hQ1
  have N1 := Fr.app N0 Nq1
  refine own_tr st1 ?_
  show own_Gl _ _ _ _ _ _ _ _ (T1.setTop (mkF m 4 #[.val (.ref th)] [(.int (1 : Int32))]))
  refine own_st (A' := T1.setTop (mkF m 24 #[.val (.ref th)] [])) (fun tg kt => ?_) ?_
  · show Steps p.tables e below (T1.setTop (mkF m 4 #[.val (.ref th)] [(.int (1 : Int32))])) _
    refine XS.ifYes X1.here hx rfl (pc0 := 4) (pc' := 24) rfl (hb hby own_d23_4) rfl ((if0 _ _).trans (feq ((by decide) : ¬ ((1 : Int32) = (0 : Int32)))).2) (by decide) (by decide) ?_
    exact kt
  refine own_ret X1 (v := none) (fun _ => rfl) hlk (by decide) (by decide) ?_ (fun fs hr => ?_)
  · show Q23 Z th mn h0 n0 (none) T1.heap _
    rw [eq1]
    exact ⟨rfl, N1, rfl⟩
  · show Steps p.tables e below (T1.setTop (mkF m 24 #[.val (.ref th)] [])) _
    exact X1.returnOut hx Bd.returns (hb hby own_d23_24) hr
theorem own_d22_0 : decode prog_9_method_6_code 0 = .ok (.aload_n 0, 1) := by decide +kernel
theorem own_d22_1 : decode prog_9_method_6_code 1 = .ok (.invokevirtual 76, 3) := by decide +kernel
theorem own_d22_4 : decode prog_9_method_6_code 4 = .ok (.aload_n 0, 1) := by decide +kernel
theorem own_d22_5 : decode prog_9_method_6_code 5 = .ok (.getfield 69, 3) := by decide +kernel
theorem own_d22_8 : decode prog_9_method_6_code 8 = .ok (.invokevirtual 51, 3) := by decide +kernel
theorem own_d22_11 : decode prog_9_method_6_code 11 = .ok (.dreturn, 1) := by decide +kernel
theorem own_ef_rm22 (m : MethodId) (th : Addr) : entryFrame m #[(.ref th)] 1 = mkF m 0 #[.val (.ref th)] [] := by first | (simp [entryFrame, mkF, argsToLocals, Value.category]; done) | rfl
def Q22 (Z : State) (th : Addr) (mn : Addr) (mx : Addr) (d : UInt64) (h0 : Heap) (n0 : Nat) (v : Option Value) (h : Heap) (L : List Loc) : Prop := v = some (.double d) ∧ Fr n0 L ∧ h = h0
set_option maxRecDepth 65536 in
set_option maxHeartbeats 40000000 in
theorem rm22 (l : Launch) (Z : State) (a0 : Array Value) (hw : ∀ d ∈ tables_1, d.before a0 Z = true) (ws : List Jvm.Cond) (th : Addr) (mn : Addr) (mx : Addr) (d : UInt64) (h0 : Heap) (n0 : Nat) (Z0 : n0 ≤ h0.size) (Fm : Fld Z h0 th "com/example/inexact_search/inexactsearch/engine/Attribute" "declaredMin" "Ljava/lang/Double;" (.ref mn)) (Fx : Fld Z h0 th "com/example/inexact_search/inexactsearch/engine/Attribute" "declaredMax" "Ljava/lang/Double;" (.ref mx)) (Eth : Exa Z h0 th "com/example/inexact_search/inexactsearch/engine/Attribute") (Ed : Exa Z h0 mn "java/lang/Double") (Fd : Fld Z h0 mn "java/lang/Double" "value" "D" (.double d)) :
    MetFree l (⟨"com/example/inexact_search/inexactsearch/engine/Attribute", "declaredMin", "()D"⟩ : MethodName) (head1 (Jvm.Cond.code (⟨"com/example/inexact_search/inexactsearch/engine/Attribute", "declaredMin", "()D"⟩ : MethodName) prog_9_method_6_code 1 (some .double) :: ws) ({ frames := 2, cells := 0, slots := 0, locals := 24 } : Room)) (fun a U => a = #[(.ref th)] ∧ Z.Warmed39 U.vm ∧ U.heap = h0) (fun _ _ _ _ _ => True) (fun _ U o U' => ∃ v L, o = .returned v ∧ Q22 Z th mn mx d h0 n0 v U'.heap L ∧ FrameEnd U o U' L ({ frames := 2, cells := 0, slots := 0, locals := 24 } : Room).cells ({ frames := 2, cells := 0, slots := 0, locals := 24 } : Room).slots) := by
  refine MetFree.of_bodySF (plainFor_of_name own_pn11) hisR ?_
  intro p e s m args below meth c s₁ Bd hml0 hP hK
  obtain ⟨rfl, hZ, hh⟩ := hP
  have hx := Bd.exec
  have hby := Bd.bytes
  have hml : c.maxLocals = 1 := hml0
  have hown : s.vm.findClass "com/example/inexact_search/inexactsearch/engine/Attribute" = some m.cls := findClass_of_methodNamed Bd.named
  have hnm := (name_of_methodNamed Bd.named Bd.method).1
  have hlk : meth.locks = false := BodyLoose.notSynchronized Bd
  have X0 : Stand p l e ({ frames := 2, cells := 0, slots := 0, locals := 24 } : Room) s m #[(.ref th)] below meth c s₁ [] 0 0 := Stand.of_body Bd
  have e0 : s₁.heap = h0 := by rw [← hh, Bd.state]; rfl
  have N0 := Fr.nil n0
  show own_Gl FrameEnd p e below s (Q22 Z th mn mx d h0 n0) ({ frames := 2, cells := 0, slots := 0, locals := 24 } : Room).cells ({ frames := 2, cells := 0, slots := 0, locals := 24 } : Room).slots (s₁.setTop (entryFrame m #[(.ref th)] 1))
  rw [own_ef_rm22 m th]
  refine own_st (A' := s₁.setTop (mkF m 1 #[.val (.ref th)] [(.ref th)])) (fun tg kt => ?_) ?_
  · show Steps p.tables e below (s₁.setTop (mkF m 0 #[.val (.ref th)] [])) _
    refine XS.aloadN X0.here hx rfl (hb hby own_d22_0) rfl rfl ?_
    exact kt
  obtain ⟨cq1, q1, q1'⟩ := Eth.cell
  obtain ⟨_, _, ⟨T1, L1, k1, n1⟩, -, X1, ⟨Lc1, hQ1, l1, y1, z1⟩, st1⟩ := X0.privateBack hx (y := (⟨"com/example/inexact_search/inexactsearch/engine/Attribute", "requireDeclaredRange", "()V"⟩ : MethodName)) hown (mvT hZ (hw _ (List.mem_of_getElem? (i := 128) rfl))) (mvT hZ (hw _ (List.mem_of_getElem? (i := 129) rfl))) (own_ssel (y := (⟨"com/example/inexact_search/inexactsearch/engine/Attribute", "requireDeclaredRange", "()V"⟩ : MethodName)) (mvT hZ (hw _ (List.mem_of_getElem? (i := 39) rfl))) (Cond.privateMethod_at (mvP hZ (hw _ (List.mem_of_getElem? (i := 130) rfl)) (args := #[]))) (mvT hZ (hw _ (List.mem_of_getElem? (i := 129) rfl))) (by decide)) (Cond.privateMethod_at (mvP hZ (hw _ (List.mem_of_getElem? (i := 130) rfl)) (args := #[]))) (mvT hZ (hw _ (List.mem_of_getElem? (i := 131) rfl))) (by decide) (backOf (W := 0) (rm23 l Z a0 hw [] th mn h0 n0 Z0 Fm Eth) hZ (hw _ (List.mem_of_getElem? (i := 131) rfl)) (hw _ (List.mem_of_getElem? (i := 40) rfl)) (by decide) (by decide)) (g := (mkF m 1 #[.val (.ref th)] [(.ref th)])) rfl (by rw [hml]; rfl) (Steps.refl _) (a := th) (own_at_heap e0 q1) q1' (argsL := []) (rest := []) (lenOf own_pd3 rfl) rfl (by show 2 * 0 + _ ≤ _; exact Nat.le_of_eq rfl) (hb hby own_d22_1) (fun _ _ => ⟨rfl, e0, (by decide : 0 + 0 ≤ _), (by decide : 0 + 0 ≤ _)⟩)
  dsimp only [Pt.U, Pt.locs, Pt.cells, Pt.slots] at X1 l1 y1 z1 st1 hQ1
  subst l1 y1 z1
  obtain ⟨rfl, Nq1, eq1⟩ := hQ1
  have N1 := Fr.app N0 Nq1
  refine own_tr st1 ?_
  show own_Gl _ _ _ _ _ _ _ _ (T1.setTop (mkF m 4 #[.val (.ref th)] []))
  refine own_st (A' := T1.setTop (mkF m 5 #[.val (.ref th)] [(.ref th)])) (fun tg kt => ?_) ?_
  · show Steps p.tables e below (T1.setTop (mkF m 4 #[.val (.ref th)] [])) _
    refine XS.aloadN X1.here hx rfl (hb hby own_d22_4) rfl rfl ?_
    exact kt
  obtain ⟨T2, X2, e2, st2⟩ := getF X1 hx hZ hown (host := "") (Or.inl (hw _ (List.mem_of_getElem? (i := 65) rfl))) Via.refl eq1 Fm (g := (mkF m 5 #[.val (.ref th)] [(.ref th)])) rfl rfl (hb hby own_d22_5)
  refine own_st st2 ?_
  show own_Gl _ _ _ _ _ _ _ _ (T2.setTop (mkF m 8 #[.val (.ref th)] [(.ref mn)]))
  obtain ⟨cq3, kq3, q3a, q3b, q3c⟩ := isOf hZ e2 Ed
  obtain ⟨_, _, ⟨T3, L3, k3, n3⟩, -, X3, ⟨Lc3, hQ3, l3, y3, z3⟩, st3⟩ := X2.virtualBack hx (y := (⟨"java/lang/Double", "doubleValue", "()D"⟩ : MethodName)) (z := (⟨"java/lang/Double", "doubleValue", "()D"⟩ : MethodName)) hown (mvT hZ (hw _ (List.mem_of_getElem? (i := 111) rfl))) (mvT hZ (hw _ (List.mem_of_getElem? (i := 112) rfl))) (notFace_of_selects (args := #[]) (mvT hZ (hw _ (List.mem_of_getElem? (i := 114) rfl)))) (mvT hZ (hw _ (List.mem_of_getElem? (i := 114) rfl))) (mvT hZ (hw _ (List.mem_of_getElem? (i := 113) rfl))) (by decide) (backOf (W := 0) (rm19 l Z a0 hw [] mn d h0 n0 Z0 Fd) hZ (hw _ (List.mem_of_getElem? (i := 115) rfl)) (hw _ (List.mem_of_getElem? (i := 88) rfl)) (by decide) (by decide)) q3a q3c (g := (mkF m 8 #[.val (.ref th)] [(.ref mn)])) rfl (by rw [hml]; rfl) (Steps.refl _) (argsL := []) (rest := []) (lenOf own_pd12 rfl) rfl (by show 2 * 0 + _ ≤ _; exact Nat.le_of_eq rfl) (hb hby own_d22_8) (fun _ _ => ⟨rfl, e2, (by decide : 0 + 0 ≤ _), (by decide : 0 + 0 ≤ _)⟩)
  dsimp only [Pt.U, Pt.locs, Pt.cells, Pt.slots] at X3 l3 y3 z3 st3 hQ3
  subst l3 y3 z3
  obtain ⟨rfl, Nq3, eq3⟩ := hQ3
  have N3 := Fr.app N1 Nq3
  refine own_tr st3 ?_
  show own_Gl _ _ _ _ _ _ _ _ (T3.setTop (mkF m 11 #[.val (.ref th)] [(.double d)]))
  refine own_ret X3 (v := some (.double d)) (fun h => by rw [Bd.returns] at h; cases h) hlk (by decide) (by decide) ?_ (fun fs hr => ?_)
  · show Q22 Z th mn mx d h0 n0 (some (.double d)) T3.heap _
    rw [eq3]
    exact ⟨rfl, N3, rfl⟩
  · show Steps p.tables e below (T3.setTop (mkF m 11 #[.val (.ref th)] [(.double d)])) _
    jvm_step X3.here [X3.here.top, hx, (hb hby own_d22_11), X3.method', Bd.returns, narrow]
    first | (intro acts; rw [hr _ acts rfl rfl rfl]) | rw [hr _ _ rfl rfl rfl]
    exact Steps.refl _
theorem own_d24_0 : decode prog_9_method_7_code 0 = .ok (.aload_n 0, 1) := by decide +kernel
theorem own_d24_1 : decode prog_9_method_7_code 1 = .ok (.invokevirtual 76, 3) := by decide +kernel
theorem own_d24_4 : decode prog_9_method_7_code 4 = .ok (.aload_n 0, 1) := by decide +kernel
theorem own_d24_5 : decode prog_9_method_7_code 5 = .ok (.getfield 73, 3) := by decide +kernel
theorem own_d24_8 : decode prog_9_method_7_code 8 = .ok (.invokevirtual 51, 3) := by decide +kernel
theorem own_d24_11 : decode prog_9_method_7_code 11 = .ok (.dreturn, 1) := by decide +kernel
theorem own_ef_rm24 (m : MethodId) (th : Addr) : entryFrame m #[(.ref th)] 1 = mkF m 0 #[.val (.ref th)] [] := by first | (simp [entryFrame, mkF, argsToLocals, Value.category]; done) | rfl
def Q24 (Z : State) (th : Addr) (mn : Addr) (mx : Addr) (d : UInt64) (h0 : Heap) (n0 : Nat) (v : Option Value) (h : Heap) (L : List Loc) : Prop := v = some (.double d) ∧ Fr n0 L ∧ h = h0
set_option maxRecDepth 65536 in
set_option maxHeartbeats 40000000 in
theorem rm24 (l : Launch) (Z : State) (a0 : Array Value) (hw : ∀ d ∈ tables_1, d.before a0 Z = true) (ws : List Jvm.Cond) (th : Addr) (mn : Addr) (mx : Addr) (d : UInt64) (h0 : Heap) (n0 : Nat) (Z0 : n0 ≤ h0.size) (Fm : Fld Z h0 th "com/example/inexact_search/inexactsearch/engine/Attribute" "declaredMin" "Ljava/lang/Double;" (.ref mn)) (Fx : Fld Z h0 th "com/example/inexact_search/inexactsearch/engine/Attribute" "declaredMax" "Ljava/lang/Double;" (.ref mx)) (Eth : Exa Z h0 th "com/example/inexact_search/inexactsearch/engine/Attribute") (Ed : Exa Z h0 mx "java/lang/Double") (Fd : Fld Z h0 mx "java/lang/Double" "value" "D" (.double d)) :
    MetFree l (⟨"com/example/inexact_search/inexactsearch/engine/Attribute", "declaredMax", "()D"⟩ : MethodName) (head1 (Jvm.Cond.code (⟨"com/example/inexact_search/inexactsearch/engine/Attribute", "declaredMax", "()D"⟩ : MethodName) prog_9_method_7_code 1 (some .double) :: ws) ({ frames := 2, cells := 0, slots := 0, locals := 24 } : Room)) (fun a U => a = #[(.ref th)] ∧ Z.Warmed39 U.vm ∧ U.heap = h0) (fun _ _ _ _ _ => True) (fun _ U o U' => ∃ v L, o = .returned v ∧ Q24 Z th mn mx d h0 n0 v U'.heap L ∧ FrameEnd U o U' L ({ frames := 2, cells := 0, slots := 0, locals := 24 } : Room).cells ({ frames := 2, cells := 0, slots := 0, locals := 24 } : Room).slots) := by
  refine MetFree.of_bodySF (plainFor_of_name own_pn11) hisR ?_
  intro p e s m args below meth c s₁ Bd hml0 hP hK
  obtain ⟨rfl, hZ, hh⟩ := hP
  have hx := Bd.exec
  have hby := Bd.bytes
  have hml : c.maxLocals = 1 := hml0
  have hown : s.vm.findClass "com/example/inexact_search/inexactsearch/engine/Attribute" = some m.cls := findClass_of_methodNamed Bd.named
  have hnm := (name_of_methodNamed Bd.named Bd.method).1
  have hlk : meth.locks = false := BodyLoose.notSynchronized Bd
  have X0 : Stand p l e ({ frames := 2, cells := 0, slots := 0, locals := 24 } : Room) s m #[(.ref th)] below meth c s₁ [] 0 0 := Stand.of_body Bd
  have e0 : s₁.heap = h0 := by rw [← hh, Bd.state]; rfl
  have N0 := Fr.nil n0
  show own_Gl FrameEnd p e below s (Q24 Z th mn mx d h0 n0) ({ frames := 2, cells := 0, slots := 0, locals := 24 } : Room).cells ({ frames := 2, cells := 0, slots := 0, locals := 24 } : Room).slots (s₁.setTop (entryFrame m #[(.ref th)] 1))
  rw [own_ef_rm24 m th]
  refine own_st (A' := s₁.setTop (mkF m 1 #[.val (.ref th)] [(.ref th)])) (fun tg kt => ?_) ?_
  · show Steps p.tables e below (s₁.setTop (mkF m 0 #[.val (.ref th)] [])) _
    refine XS.aloadN X0.here hx rfl (hb hby own_d24_0) rfl rfl ?_
    exact kt
  obtain ⟨cq1, q1, q1'⟩ := Eth.cell
  obtain ⟨_, _, ⟨T1, L1, k1, n1⟩, -, X1, ⟨Lc1, hQ1, l1, y1, z1⟩, st1⟩ := X0.privateBack hx (y := (⟨"com/example/inexact_search/inexactsearch/engine/Attribute", "requireDeclaredRange", "()V"⟩ : MethodName)) hown (mvT hZ (hw _ (List.mem_of_getElem? (i := 128) rfl))) (mvT hZ (hw _ (List.mem_of_getElem? (i := 129) rfl))) (own_ssel (y := (⟨"com/example/inexact_search/inexactsearch/engine/Attribute", "requireDeclaredRange", "()V"⟩ : MethodName)) (mvT hZ (hw _ (List.mem_of_getElem? (i := 39) rfl))) (Cond.privateMethod_at (mvP hZ (hw _ (List.mem_of_getElem? (i := 130) rfl)) (args := #[]))) (mvT hZ (hw _ (List.mem_of_getElem? (i := 129) rfl))) (by decide)) (Cond.privateMethod_at (mvP hZ (hw _ (List.mem_of_getElem? (i := 130) rfl)) (args := #[]))) (mvT hZ (hw _ (List.mem_of_getElem? (i := 131) rfl))) (by decide) (backOf (W := 0) (rm23 l Z a0 hw [] th mn h0 n0 Z0 Fm Eth) hZ (hw _ (List.mem_of_getElem? (i := 131) rfl)) (hw _ (List.mem_of_getElem? (i := 40) rfl)) (by decide) (by decide)) (g := (mkF m 1 #[.val (.ref th)] [(.ref th)])) rfl (by rw [hml]; rfl) (Steps.refl _) (a := th) (own_at_heap e0 q1) q1' (argsL := []) (rest := []) (lenOf own_pd3 rfl) rfl (by show 2 * 0 + _ ≤ _; exact Nat.le_of_eq rfl) (hb hby own_d24_1) (fun _ _ => ⟨rfl, e0, (by decide : 0 + 0 ≤ _), (by decide : 0 + 0 ≤ _)⟩)
  dsimp only [Pt.U, Pt.locs, Pt.cells, Pt.slots] at X1 l1 y1 z1 st1 hQ1
  subst l1 y1 z1
  obtain ⟨rfl, Nq1, eq1⟩ := hQ1
  have N1 := Fr.app N0 Nq1
  refine own_tr st1 ?_
  show own_Gl _ _ _ _ _ _ _ _ (T1.setTop (mkF m 4 #[.val (.ref th)] []))
  refine own_st (A' := T1.setTop (mkF m 5 #[.val (.ref th)] [(.ref th)])) (fun tg kt => ?_) ?_
  · show Steps p.tables e below (T1.setTop (mkF m 4 #[.val (.ref th)] [])) _
    refine XS.aloadN X1.here hx rfl (hb hby own_d24_4) rfl rfl ?_
    exact kt
  obtain ⟨T2, X2, e2, st2⟩ := getF X1 hx hZ hown (host := "") (Or.inl (hw _ (List.mem_of_getElem? (i := 67) rfl))) Via.refl eq1 Fx (g := (mkF m 5 #[.val (.ref th)] [(.ref th)])) rfl rfl (hb hby own_d24_5)
  refine own_st st2 ?_
  show own_Gl _ _ _ _ _ _ _ _ (T2.setTop (mkF m 8 #[.val (.ref th)] [(.ref mx)]))
  obtain ⟨cq3, kq3, q3a, q3b, q3c⟩ := isOf hZ e2 Ed
  obtain ⟨_, _, ⟨T3, L3, k3, n3⟩, -, X3, ⟨Lc3, hQ3, l3, y3, z3⟩, st3⟩ := X2.virtualBack hx (y := (⟨"java/lang/Double", "doubleValue", "()D"⟩ : MethodName)) (z := (⟨"java/lang/Double", "doubleValue", "()D"⟩ : MethodName)) hown (mvT hZ (hw _ (List.mem_of_getElem? (i := 111) rfl))) (mvT hZ (hw _ (List.mem_of_getElem? (i := 112) rfl))) (notFace_of_selects (args := #[]) (mvT hZ (hw _ (List.mem_of_getElem? (i := 114) rfl)))) (mvT hZ (hw _ (List.mem_of_getElem? (i := 114) rfl))) (mvT hZ (hw _ (List.mem_of_getElem? (i := 113) rfl))) (by decide) (backOf (W := 0) (rm19 l Z a0 hw [] mx d h0 n0 Z0 Fd) hZ (hw _ (List.mem_of_getElem? (i := 115) rfl)) (hw _ (List.mem_of_getElem? (i := 88) rfl)) (by decide) (by decide)) q3a q3c (g := (mkF m 8 #[.val (.ref th)] [(.ref mx)])) rfl (by rw [hml]; rfl) (Steps.refl _) (argsL := []) (rest := []) (lenOf own_pd12 rfl) rfl (by show 2 * 0 + _ ≤ _; exact Nat.le_of_eq rfl) (hb hby own_d24_8) (fun _ _ => ⟨rfl, e2, (by decide : 0 + 0 ≤ _), (by decide : 0 + 0 ≤ _)⟩)
  dsimp only [Pt.U, Pt.locs, Pt.cells, Pt.slots] at X3 l3 y3 z3 st3 hQ3
  subst l3 y3 z3
  obtain ⟨rfl, Nq3, eq3⟩ := hQ3
  have N3 := Fr.app N1 Nq3
  refine own_tr st3 ?_
  show own_Gl _ _ _ _ _ _ _ _ (T3.setTop (mkF m 11 #[.val (.ref th)] [(.double d)]))
  refine own_ret X3 (v := some (.double d)) (fun h => by rw [Bd.returns] at h; cases h) hlk (by decide) (by decide) ?_ (fun fs hr => ?_)
  · show Q24 Z th mn mx d h0 n0 (some (.double d)) T3.heap _
    rw [eq3]
    exact ⟨rfl, N3, rfl⟩
  · show Steps p.tables e below (T3.setTop (mkF m 11 #[.val (.ref th)] [(.double d)])) _
    jvm_step X3.here [X3.here.top, hx, (hb hby own_d24_11), X3.method', Bd.returns, narrow]
    first | (intro acts; rw [hr _ acts rfl rfl rfl]) | rw [hr _ _ rfl rfl rfl]
    exact Steps.refl _
theorem own_lat (x : Int32) : ∀ c ∈ [nar .char (((x &&& (255 : Int32)).toUInt32.toUInt16.toUInt32.toInt32))], ¬ c < 0 ∧ ¬ (255 : Int32) < c := by
  intro c hc
  simp only [List.mem_cons, List.not_mem_nil, or_false] at hc
  rcases hc with rfl
  rw [show nar .char ((x &&& (255 : Int32)).toUInt32.toUInt16.toUInt32.toInt32) = x &&& 255 from by simp only [nar, i2c_mask]]
  have m := Jvm.Kit.i32_mask x 255 (k := 8) (by decide) (by decide)
  have c0 : (255 : Int32).toInt = 255 := by decide
  rw [Int32.lt_iff_toInt_lt, Int32.lt_iff_toInt_lt, Int32.toInt_zero, c0]
  omega
theorem own_sw {a0 : Array Value} {Z : State} (hw : ∀ d ∈ tables_1, d.before a0 Z = true) : ∀ d ∈ StrChars.Road.words, d.before a0 Z = true := fun d hd => hw d ((by decide +kernel : ∀ d ∈ StrChars.Road.words, d ∈ tables_1) d hd)
theorem own_pd15 : parseMethodDescriptor "(I)Lcom/example/inexact_search/inexactsearch/engine/AttributeType;" = some ⟨[.int], some (.object "com/example/inexact_search/inexactsearch/engine/AttributeType")⟩ := by decide +kernel
theorem own_pd16 : parseMethodDescriptor "([C)V" = some ⟨[(.array .char)], none⟩ := by decide +kernel
theorem own_pd17 : parseMethodDescriptor "(Ljava/lang/String;Lcom/example/inexact_search/inexactsearch/engine/AttributeType;)V" = some ⟨[(.object "java/lang/String"), (.object "com/example/inexact_search/inexactsearch/engine/AttributeType")], none⟩ := by decide +kernel
theorem own_pd18 : parseMethodDescriptor "(II)I" = some ⟨[.int, .int], some .int⟩ := by decide +kernel
theorem own_pd19 : parseMethodDescriptor "(D)Ljava/lang/Double;" = some ⟨[.double], some (.object "java/lang/Double")⟩ := by decide +kernel
theorem own_ef_rm0 (m : MethodId) (p0 : Int32) (p1 : Int32) (p2 : Int32) (p3 : Int32) (p4 : Int32) : entryFrame m #[(.int p0), (.int p1), (.int p2), (.int p3), (.int p4)] maxLocals = mkF m 0 #[.val (.int p0), .val (.int p1), .val (.int p2), .val (.int p3), .val (.int p4), .unset, .unset, .unset, .unset, .unset, .unset, .unset, .unset, .unset, .unset] [] := by first | (simp [entryFrame, mkF, argsToLocals, Value.category, maxLocals]; done) | rfl
def Q0 (Z : State) (p0 : Int32) (p1 : Int32) (p2 : Int32) (p3 : Int32) (p4 : Int32) (a_INTEGER : Addr) (a_DECIMAL : Addr) (a_STRING : Addr) (a_BOOLEAN : Addr) (a_STRINGS : Addr) (cs : Int32) (h0 : Heap) (n0 : Nat) (v : Option Value) (h : Heap) (L : List Loc) : Prop := v = some (.int 1) ∧ Fr n0 L
set_option maxRecDepth 65536 in
set_option maxHeartbeats 40000000 in
theorem rm0 (l : Launch) (Z : State) (a0 : Array Value) (hw : ∀ d ∈ tables_1, d.before a0 Z = true) (ws : List Jvm.Cond) (p0 : Int32) (p1 : Int32) (p2 : Int32) (p3 : Int32) (p4 : Int32) (a_INTEGER : Addr) (a_DECIMAL : Addr) (a_STRING : Addr) (a_BOOLEAN : Addr) (a_STRINGS : Addr) (cs : Int32) (h0 : Heap) (n0 : Nat) (Z0 : n0 ≤ h0.size) (S_INTEGER : Sta Z h0 "com/example/inexact_search/inexactsearch/engine/AttributeType" "INTEGER" "Lcom/example/inexact_search/inexactsearch/engine/AttributeType;" (.ref a_INTEGER)) (S_DECIMAL : Sta Z h0 "com/example/inexact_search/inexactsearch/engine/AttributeType" "DECIMAL" "Lcom/example/inexact_search/inexactsearch/engine/AttributeType;" (.ref a_DECIMAL)) (S_STRING : Sta Z h0 "com/example/inexact_search/inexactsearch/engine/AttributeType" "STRING" "Lcom/example/inexact_search/inexactsearch/engine/AttributeType;" (.ref a_STRING)) (S_BOOLEAN : Sta Z h0 "com/example/inexact_search/inexactsearch/engine/AttributeType" "BOOLEAN" "Lcom/example/inexact_search/inexactsearch/engine/AttributeType;" (.ref a_BOOLEAN)) (S_STRINGS : Sta Z h0 "com/example/inexact_search/inexactsearch/engine/AttributeType" "STRINGS" "Lcom/example/inexact_search/inexactsearch/engine/AttributeType;" (.ref a_STRINGS)) (E_INTEGER : Exa Z h0 a_INTEGER "com/example/inexact_search/inexactsearch/engine/AttributeType") (E_DECIMAL : Exa Z h0 a_DECIMAL "com/example/inexact_search/inexactsearch/engine/AttributeType") (E_STRING : Exa Z h0 a_STRING "com/example/inexact_search/inexactsearch/engine/AttributeType") (E_BOOLEAN : Exa Z h0 a_BOOLEAN "com/example/inexact_search/inexactsearch/engine/AttributeType") (E_STRINGS : Exa Z h0 a_STRINGS "com/example/inexact_search/inexactsearch/engine/AttributeType") (F_INTEGER_ordinal : Fld Z h0 a_INTEGER "java/lang/Enum" "ordinal" "I" (.int (0 : Int32))) (F_DECIMAL_ordinal : Fld Z h0 a_DECIMAL "java/lang/Enum" "ordinal" "I" (.int (1 : Int32))) (S_cs : Sta Z h0 "java/lang/String" "COMPACT_STRINGS" "Z" (.int cs)) (hcs : ¬ cs = (0 : Int32)) :
    MetFree l x (head1 (Jvm.Cond.code x code maxLocals ret :: ws) room_1) (fun a U => a = #[(.int p0), (.int p1), (.int p2), (.int p3), (.int p4)] ∧ Z.Warmed39 U.vm ∧ U.heap = h0) (fun _ _ _ _ _ => True) (fun _ U o U' => ∃ v L, o = .returned v ∧ Q0 Z p0 p1 p2 p3 p4 a_INTEGER a_DECIMAL a_STRING a_BOOLEAN a_STRINGS cs h0 n0 v U'.heap L ∧ ReturnedEndW U o U' L room_1.cells room_1.slots) := by
  refine MetFree.of_bodySF (plainFor_of_name own_pn0) hisR ?_
  intro p e s m args below meth c s₁ Bd hml0 hP hK
  obtain ⟨rfl, hZ, hh⟩ := hP
  have hx := Bd.exec
  have hby := Bd.bytes
  have hml : c.maxLocals = 15 := hml0
  have hown : s.vm.findClass "com/example/inexact_search/inexactsearch/engine/AttributeHasDeclaredRangePinLaw" = some m.cls := findClass_of_methodNamed Bd.named
  have hnm := (name_of_methodNamed Bd.named Bd.method).1
  have hlk : meth.locks = false := BodyLoose.notSynchronized Bd
  have X0 : Stand p l e room_1 (s.setVm s.vm) m #[(.int p0), (.int p1), (.int p2), (.int p3), (.int p4)] below meth c s₁ [] 0 0 := Stand.of_body Bd
  have e0 : s₁.heap = h0 := by rw [← hh, Bd.state]; rfl
  have N0 := Fr.nil n0
  show own_Gl ReturnedEndW p e below s (Q0 Z p0 p1 p2 p3 p4 a_INTEGER a_DECIMAL a_STRING a_BOOLEAN a_STRINGS cs h0 n0) room_1.cells room_1.slots (s₁.setTop (entryFrame m #[(.int p0), (.int p1), (.int p2), (.int p3), (.int p4)] maxLocals))
  rw [own_ef_rm0 m p0 p1 p2 p3 p4]
  have hS0 : s.Since s.vm 0 := State.WarmedH.since (State.WarmedH.refl s) 0
  have hk0 : 0 ≤ h0.size := Nat.zero_le _
  refine own_st (A' := s₁.setTop (mkF m 6 #[.val (.int p0), .val (.int p1), .val (.int p2), .val (.int p3), .val (.int p4), .unset, .unset, .unset, .unset, .unset, .unset, .unset, .unset, .unset, .unset] [(.int ((p0 &&& (2147483647 : Int32)) % (5 : Int32)))])) (fun tg kt => ?_) ?_
  · show Steps p.tables e below (s₁.setTop (mkF m 0 #[.val (.int p0), .val (.int p1), .val (.int p2), .val (.int p3), .val (.int p4), .unset, .unset, .unset, .unset, .unset, .unset, .unset, .unset, .unset, .unset] [])) _
    refine XS.iloadN X0.here hx rfl (hb hby at_0) rfl ?_
    show Steps p.tables e below (s₁.setTop (mkF m 1 #[.val (.int p0), .val (.int p1), .val (.int p2), .val (.int p3), .val (.int p4), .unset, .unset, .unset, .unset, .unset, .unset, .unset, .unset, .unset, .unset] [(.int p0)])) _
    refine X0.ldcInt hx hown (mvT hZ (hw _ (List.mem_of_getElem? (i := 0) rfl))) (g := (mkF m 1 #[.val (.int p0), .val (.int p1), .val (.int p2), .val (.int p3), .val (.int p4), .unset, .unset, .unset, .unset, .unset, .unset, .unset, .unset, .unset, .unset] [(.int p0)])) rfl (hb hby at_1) _ ?_
    show Steps p.tables e below (s₁.setTop (mkF m 3 #[.val (.int p0), .val (.int p1), .val (.int p2), .val (.int p3), .val (.int p4), .unset, .unset, .unset, .unset, .unset, .unset, .unset, .unset, .unset, .unset] [(.int (2147483647 : Int32)), (.int p0)])) _
    refine XS.iand X0.here hx rfl (hb hby at_3) rfl ?_
    show Steps p.tables e below (s₁.setTop (mkF m 4 #[.val (.int p0), .val (.int p1), .val (.int p2), .val (.int p3), .val (.int p4), .unset, .unset, .unset, .unset, .unset, .unset, .unset, .unset, .unset, .unset] [(.int (p0 &&& (2147483647 : Int32)))])) _
    refine XS.iconst X0.here hx rfl (hb hby at_4) ?_
    show Steps p.tables e below (s₁.setTop (mkF m 5 #[.val (.int p0), .val (.int p1), .val (.int p2), .val (.int p3), .val (.int p4), .unset, .unset, .unset, .unset, .unset, .unset, .unset, .unset, .unset, .unset] [(.int (5 : Int32)), (.int (p0 &&& (2147483647 : Int32)))])) _
    refine iremM X0 hx rfl (hb hby at_5) rfl (by decide) ?_
    exact kt
  obtain ⟨ix, hix⟩ : ∃ z, z = ((p0 &&& (2147483647 : Int32)) % (5 : Int32)) := ⟨_, rfl⟩
  rw [← hix]
  show own_Gl _ _ _ _ _ _ _ _ (s₁.setTop (mkF m 6 #[.val (.int p0), .val (.int p1), .val (.int p2), .val (.int p3), .val (.int p4), .unset, .unset, .unset, .unset, .unset, .unset, .unset, .unset, .unset, .unset] [(.int ix)]))
  have bx := own_rem p0 5 5 (by decide) (by decide)
  rw [← hix] at bx
  rcases (own_split5 bx.1 bx.2) with rfl | rfl | rfl | rfl | rfl
  · show own_Gl _ _ _ _ _ _ _ _ (s₁.setTop (mkF m 6 #[.val (.int p0), .val (.int p1), .val (.int p2), .val (.int p3), .val (.int p4), .unset, .unset, .unset, .unset, .unset, .unset, .unset, .unset, .unset, .unset] [(.int (0 : Int32))]))
    refine own_st (A' := s₁.setTop (mkF m 10 #[.val (.int p0), .val (.int p1), .val (.int p2), .val (.int p3), .val (.int p4), .val (.int (0 : Int32)), .unset, .unset, .unset, .unset, .unset, .unset, .unset, .unset, .unset] [(.int (0 : Int32))])) (fun tg kt => ?_) ?_
    · show Steps p.tables e below (s₁.setTop (mkF m 6 #[.val (.int p0), .val (.int p1), .val (.int p2), .val (.int p3), .val (.int p4), .unset, .unset, .unset, .unset, .unset, .unset, .unset, .unset, .unset, .unset] [(.int (0 : Int32))])) _
      refine XS.istore X0.here hx rfl (hb hby at_6) rfl (l' := #[.val (.int p0), .val (.int p1), .val (.int p2), .val (.int p3), .val (.int p4), .val (.int (0 : Int32)), .unset, .unset, .unset, .unset, .unset, .unset, .unset, .unset, .unset]) rfl ?_
      show Steps p.tables e below (s₁.setTop (mkF m 8 #[.val (.int p0), .val (.int p1), .val (.int p2), .val (.int p3), .val (.int p4), .val (.int (0 : Int32)), .unset, .unset, .unset, .unset, .unset, .unset, .unset, .unset, .unset] [])) _
      refine XS.iload X0.here hx rfl (hb hby at_8) rfl ?_
      exact kt
    obtain ⟨_, _, ⟨T1, L1, k1, n1⟩, -, X1, ⟨Lc1, hQ1, l1, y1, z1⟩, st1⟩ := Jvm.LawKit.callS X0 hx (y := (⟨"com/example/inexact_search/inexactsearch/engine/AttributeHasDeclaredRangePinLaw", "typeOf", "(I)Lcom/example/inexact_search/inexactsearch/engine/AttributeType;"⟩ : MethodName)) hown (mvT hZ (hw _ (List.mem_of_getElem? (i := 1) rfl))) (mvT hZ (hw _ (List.mem_of_getElem? (i := 2) rfl))) (mvT hZ (hw _ (List.mem_of_getElem? (i := 3) rfl))) (mvT hZ (hw _ (List.mem_of_getElem? (i := 4) rfl))) (by decide) (backOf (W := 0) (rm1 l Z a0 hw [] (0 : Int32) a_INTEGER a_DECIMAL a_STRING a_BOOLEAN a_STRINGS h0 n0 Z0 S_INTEGER S_DECIMAL S_STRING S_BOOLEAN S_STRINGS) hZ (hw _ (List.mem_of_getElem? (i := 4) rfl)) (hw _ (List.mem_of_getElem? (i := 3) rfl)) (by decide) (by decide)) (g := (mkF m 10 #[.val (.int p0), .val (.int p1), .val (.int p2), .val (.int p3), .val (.int p4), .val (.int (0 : Int32)), .unset, .unset, .unset, .unset, .unset, .unset, .unset, .unset, .unset] [(.int (0 : Int32))])) rfl (by rw [hml]; rfl) (argsL := [(.int (0 : Int32))]) (rest := []) (lenOf own_pd15 rfl) rfl (by show 2 * 0 + _ ≤ _; exact Nat.le_of_eq rfl) (hb hby at_10) (fun _ _ => ⟨rfl, e0, (by decide : 0 + 0 ≤ _), (by decide : 0 + 0 ≤ _)⟩)
    dsimp only [Pt.U, Pt.locs, Pt.cells, Pt.slots] at X1 l1 y1 z1 st1 hQ1
    subst l1 y1 z1
    obtain ⟨hv1, hr1⟩ := hQ1
    rw [show own_pick1 (0 : Int32) a_INTEGER a_DECIMAL a_STRING a_BOOLEAN a_STRINGS = a_INTEGER from rfl] at hv1
    have hQ1 := And.intro hv1 hr1
    obtain ⟨rfl, Nq1, eq1⟩ := hQ1
    have N1 := Fr.app N0 Nq1
    refine own_st st1 ?_
    show own_Gl _ _ _ _ _ _ _ _ (T1.setTop (mkF m 13 #[.val (.int p0), .val (.int p1), .val (.int p2), .val (.int p3), .val (.int p4), .val (.int (0 : Int32)), .unset, .unset, .unset, .unset, .unset, .unset, .unset, .unset, .unset] [(.ref a_INTEGER)]))
    refine own_st (A' := T1.setTop (mkF m 16 #[.val (.int p0), .val (.int p1), .val (.int p2), .val (.int p3), .val (.int p4), .val (.int (0 : Int32)), .val (.ref a_INTEGER), .unset, .unset, .unset, .unset, .unset, .unset, .unset, .unset] [(.int (1 : Int32))])) (fun tg kt => ?_) ?_
    · show Steps p.tables e below (T1.setTop (mkF m 13 #[.val (.int p0), .val (.int p1), .val (.int p2), .val (.int p3), .val (.int p4), .val (.int (0 : Int32)), .unset, .unset, .unset, .unset, .unset, .unset, .unset, .unset, .unset] [(.ref a_INTEGER)])) _
      refine XS.astore X1.here hx rfl (hb hby at_13) rfl rfl (l' := #[.val (.int p0), .val (.int p1), .val (.int p2), .val (.int p3), .val (.int p4), .val (.int (0 : Int32)), .val (.ref a_INTEGER), .unset, .unset, .unset, .unset, .unset, .unset, .unset, .unset]) rfl ?_
      show Steps p.tables e below (T1.setTop (mkF m 15 #[.val (.int p0), .val (.int p1), .val (.int p2), .val (.int p3), .val (.int p4), .val (.int (0 : Int32)), .val (.ref a_INTEGER), .unset, .unset, .unset, .unset, .unset, .unset, .unset, .unset] [])) _
      refine XS.iconst X1.here hx rfl (hb hby at_15) ?_
      exact kt
    obtain ⟨T2, h2, k2, X2, e2, E2, A2, st2⟩ := newP X1 hx hZ (hw _ (List.mem_of_getElem? (i := 8) rfl)) eq1 (g := (mkF m 16 #[.val (.int p0), .val (.int p1), .val (.int p2), .val (.int p3), .val (.int p4), .val (.int (0 : Int32)), .val (.ref a_INTEGER), .unset, .unset, .unset, .unset, .unset, .unset, .unset, .unset] [(.int (1 : Int32))])) rfl (hb hby at_16) rfl (by decide) (cap := 1) (by decide) (by decide) (by decide) (by decide)
    obtain ⟨b2, g2⟩ : ∃ z, z = h0.size := ⟨_, rfl⟩
    rw [← g2] at A2 st2
    have g_b2 : n0 ≤ b2 := Nat.le_trans Z0 (Nat.le_of_eq g2.symm)
    have kw_b2 : h0.size ≤ b2 := Nat.le_trans ((Keep.refl h0 ([] : List Addr))).1 (Nat.le_of_eq g2.symm)
    have K2 := ((Keep.refl h0 ([] : List Addr))).ext E2
    have Z2 : n0 ≤ h2.size := Nat.le_trans Z0 E2.1
    have hk2 := Nat.le_trans hk0 E2.1
    have V_b2 : Arv Z h2 b2 k2 .char (1 : Int32) [(.int (0 : Int32))] (.int (0 : Int32)) := (Arv.new A2 (by decide)).pad (pad_rep [] (.int (0 : Int32)) 1)
    refine own_st st2 ?_
    show own_Gl _ _ _ _ _ _ _ _ (T2.setTop (mkF m 18 #[.val (.int p0), .val (.int p1), .val (.int p2), .val (.int p3), .val (.int p4), .val (.int (0 : Int32)), .val (.ref a_INTEGER), .unset, .unset, .unset, .unset, .unset, .unset, .unset, .unset] [(.ref b2)]))
    refine own_st (A' := T2.setTop (mkF m 29 #[.val (.int p0), .val (.int p1), .val (.int p2), .val (.int p3), .val (.int p4), .val (.int (0 : Int32)), .val (.ref a_INTEGER), .val (.ref b2), .unset, .unset, .unset, .unset, .unset, .unset, .unset] [(.int ((p1 &&& (255 : Int32)).toUInt32.toUInt16.toUInt32.toInt32)), (.int (0 : Int32)), (.ref b2)])) (fun tg kt => ?_) ?_
    · show Steps p.tables e below (T2.setTop (mkF m 18 #[.val (.int p0), .val (.int p1), .val (.int p2), .val (.int p3), .val (.int p4), .val (.int (0 : Int32)), .val (.ref a_INTEGER), .unset, .unset, .unset, .unset, .unset, .unset, .unset, .unset] [(.ref b2)])) _
      refine XS.astore X2.here hx rfl (hb hby at_18) rfl rfl (l' := #[.val (.int p0), .val (.int p1), .val (.int p2), .val (.int p3), .val (.int p4), .val (.int (0 : Int32)), .val (.ref a_INTEGER), .val (.ref b2), .unset, .unset, .unset, .unset, .unset, .unset, .unset]) rfl ?_
      show Steps p.tables e below (T2.setTop (mkF m 20 #[.val (.int p0), .val (.int p1), .val (.int p2), .val (.int p3), .val (.int p4), .val (.int (0 : Int32)), .val (.ref a_INTEGER), .val (.ref b2), .unset, .unset, .unset, .unset, .unset, .unset, .unset] [])) _
      refine XS.aload X2.here hx rfl (hb hby at_20) rfl rfl ?_
      show Steps p.tables e below (T2.setTop (mkF m 22 #[.val (.int p0), .val (.int p1), .val (.int p2), .val (.int p3), .val (.int p4), .val (.int (0 : Int32)), .val (.ref a_INTEGER), .val (.ref b2), .unset, .unset, .unset, .unset, .unset, .unset, .unset] [(.ref b2)])) _
      refine XS.iconst X2.here hx rfl (hb hby at_22) ?_
      show Steps p.tables e below (T2.setTop (mkF m 23 #[.val (.int p0), .val (.int p1), .val (.int p2), .val (.int p3), .val (.int p4), .val (.int (0 : Int32)), .val (.ref a_INTEGER), .val (.ref b2), .unset, .unset, .unset, .unset, .unset, .unset, .unset] [(.int (0 : Int32)), (.ref b2)])) _
      refine XS.iloadN X2.here hx rfl (hb hby at_23) rfl ?_
      show Steps p.tables e below (T2.setTop (mkF m 24 #[.val (.int p0), .val (.int p1), .val (.int p2), .val (.int p3), .val (.int p4), .val (.int (0 : Int32)), .val (.ref a_INTEGER), .val (.ref b2), .unset, .unset, .unset, .unset, .unset, .unset, .unset] [(.int p1), (.int (0 : Int32)), (.ref b2)])) _
      refine XS.sipush X2.here hx rfl (hb hby at_24) ?_
      show Steps p.tables e below (T2.setTop (mkF m 27 #[.val (.int p0), .val (.int p1), .val (.int p2), .val (.int p3), .val (.int p4), .val (.int (0 : Int32)), .val (.ref a_INTEGER), .val (.ref b2), .unset, .unset, .unset, .unset, .unset, .unset, .unset] [(.int (255 : Int32)), (.int p1), (.int (0 : Int32)), (.ref b2)])) _
      refine XS.iand X2.here hx rfl (hb hby at_27) rfl ?_
      show Steps p.tables e below (T2.setTop (mkF m 28 #[.val (.int p0), .val (.int p1), .val (.int p2), .val (.int p3), .val (.int p4), .val (.int (0 : Int32)), .val (.ref a_INTEGER), .val (.ref b2), .unset, .unset, .unset, .unset, .unset, .unset, .unset] [(.int (p1 &&& (255 : Int32))), (.int (0 : Int32)), (.ref b2)])) _
      refine XS.i2c X2.here hx rfl (hb hby at_28) rfl ?_
      exact kt
    have Vt3 := V_b2
    obtain ⟨cl3, Ar3, qk3, Sz3, Nn3, Hs3, Gs3⟩ := Vt3
    have hin3 := inb_of (j := (0 : Int32)) Sz3 ⟨by decide, by decide⟩
    obtain ⟨T4, h4, X4, e4, W4, st4⟩ := stC X2 hx hZ e2 Ar3 (j := (0 : Int32)) hin3 (g := (mkF m 29 #[.val (.int p0), .val (.int p1), .val (.int p2), .val (.int p3), .val (.int p4), .val (.int (0 : Int32)), .val (.ref a_INTEGER), .val (.ref b2), .unset, .unset, .unset, .unset, .unset, .unset, .unset] [(.int ((p1 &&& (255 : Int32)).toUInt32.toUInt16.toUInt32.toInt32)), (.int (0 : Int32)), (.ref b2)])) rfl rfl (hb hby at_29)
    have N4 := Fr.snoc X4 N1 g_b2
    have K4 := (K2).wr W4 (Or.inr kw_b2)
    have Z4 : n0 ≤ h4.size := Nat.le_trans Z2 (Keep.of_wr W4).1
    have hk4 := Nat.le_trans hk2 (Keep.of_wr W4).1
    have V4 : Arv Z h4 b2 k2 .char (1 : Int32) [(.int (nar .char ((p1 &&& (255 : Int32)).toUInt32.toUInt16.toUInt32.toInt32)))] (.int (0 : Int32)) := Arv.set Ar3 qk3 Sz3 Nn3 Hs3 Gs3 (fits_nar_char _) W4 0 rfl (Nat.le_of_ble_eq_true rfl)
    refine own_st st4 ?_
    show own_Gl _ _ _ _ _ _ _ _ (T4.setTop (mkF m 30 #[.val (.int p0), .val (.int p1), .val (.int p2), .val (.int p3), .val (.int p4), .val (.int (0 : Int32)), .val (.ref a_INTEGER), .val (.ref b2), .unset, .unset, .unset, .unset, .unset, .unset, .unset] []))
    obtain ⟨T5, h5, X5, e5, E5, A5, D5, -, st5⟩ := newO X4 hx hZ hown (hw _ (List.mem_of_getElem? (i := 9) rfl)) (hw _ (List.mem_of_getElem? (i := 10) rfl)) (hw _ (List.mem_of_getElem? (i := 11) rfl)) e4 (g := (mkF m 30 #[.val (.int p0), .val (.int p1), .val (.int p2), .val (.int p3), .val (.int p4), .val (.int (0 : Int32)), .val (.ref a_INTEGER), .val (.ref b2), .unset, .unset, .unset, .unset, .unset, .unset, .unset] [])) rfl (hb hby at_30) (by decide) (by decide)
    obtain ⟨b5, g5⟩ : ∃ z, z = h4.size := ⟨_, rfl⟩
    rw [← g5] at A5 D5 st5
    have g_b5 : n0 ≤ b5 := Nat.le_trans Z4 (Nat.le_of_eq g5.symm)
    have kw_b5 : h0.size ≤ b5 := Nat.le_trans (K4).1 (Nat.le_of_eq g5.symm)
    have ne_b2_b5 : b2 ≠ b5 := Nat.ne_of_lt (Nat.lt_of_lt_of_le V4.lt (Nat.le_of_eq g5.symm))
    have K5 := (K4).ext E5
    have Z5 : n0 ≤ h5.size := Nat.le_trans Z4 E5.1
    have hk5 := Nat.le_trans hk4 E5.1
    have F_coder_b5 : Fld Z h5 b5 "java/lang/String" "coder" "B" (.int (0 : Int32)) := D5 (Or.inr (hw _ (List.mem_of_getElem? (i := 35) rfl))) (ty := .byte) (by decide)
    have F_value_b5 : Fld Z h5 b5 "java/lang/String" "value" "[B" .null := D5 (Or.inr (hw _ (List.mem_of_getElem? (i := 37) rfl))) (ty := (.array .byte)) (by decide)
    refine own_st st5 ?_
    show own_Gl _ _ _ _ _ _ _ _ (T5.setTop (mkF m 33 #[.val (.int p0), .val (.int p1), .val (.int p2), .val (.int p3), .val (.int p4), .val (.int (0 : Int32)), .val (.ref a_INTEGER), .val (.ref b2), .unset, .unset, .unset, .unset, .unset, .unset, .unset] [(.ref b5)]))
    refine own_st (A' := T5.setTop (mkF m 36 #[.val (.int p0), .val (.int p1), .val (.int p2), .val (.int p3), .val (.int p4), .val (.int (0 : Int32)), .val (.ref a_INTEGER), .val (.ref b2), .unset, .unset, .unset, .unset, .unset, .unset, .unset] [(.ref b2), (.ref b5), (.ref b5)])) (fun tg kt => ?_) ?_
    · show Steps p.tables e below (T5.setTop (mkF m 33 #[.val (.int p0), .val (.int p1), .val (.int p2), .val (.int p3), .val (.int p4), .val (.int (0 : Int32)), .val (.ref a_INTEGER), .val (.ref b2), .unset, .unset, .unset, .unset, .unset, .unset, .unset] [(.ref b5)])) _
      refine XS.dup X5.here hx rfl (hb hby at_33) rfl rfl ?_
      show Steps p.tables e below (T5.setTop (mkF m 34 #[.val (.int p0), .val (.int p1), .val (.int p2), .val (.int p3), .val (.int p4), .val (.int (0 : Int32)), .val (.ref a_INTEGER), .val (.ref b2), .unset, .unset, .unset, .unset, .unset, .unset, .unset] [(.ref b5), (.ref b5)])) _
      refine XS.aload X5.here hx rfl (hb hby at_34) rfl rfl ?_
      exact kt
    have hlat : ∀ c ∈ [(nar .char ((p1 &&& (255 : Int32)).toUInt32.toUInt16.toUInt32.toInt32))], ¬ c < 0 ∧ ¬ (255 : Int32) < c := own_lat p1
    obtain ⟨_, _, ⟨T6, L6, k6, n6⟩, -, X6, ⟨Lc6, hQ6, l6, y6, z6⟩, st6⟩ := X5.specialBack hx (y := (⟨"java/lang/String", "<init>", "([C)V"⟩ : MethodName)) rfl hown (mvT hZ (hw _ (List.mem_of_getElem? (i := 12) rfl))) (mvT hZ (hw _ (List.mem_of_getElem? (i := 13) rfl))) (mvT hZ (hw _ (List.mem_of_getElem? (i := 14) rfl))) (by decide) (StrChars.Road.backV (W := 1) hZ (own_sw hw) (kI := 4) (hw _ (List.mem_of_getElem? (i := 10) rfl)) (cs := [(nar .char ((p1 &&& (255 : Int32)).toUInt32.toUInt16.toUInt32.toInt32))]) (bs := [((nar .char ((p1 &&& (255 : Int32)).toUInt32.toUInt16.toUInt32.toInt32))).toInt8.toInt32]) (n := 1) g_b5 Z5 A5 F_value_b5 F_coder_b5 (V4.ext E5) (S_cs.ext (own_kext K5)) hcs rfl rfl (by decide) (by decide) hlat rfl (by decide) (by decide)) (g := (mkF m 36 #[.val (.int p0), .val (.int p1), .val (.int p2), .val (.int p3), .val (.int p4), .val (.int (0 : Int32)), .val (.ref a_INTEGER), .val (.ref b2), .unset, .unset, .unset, .unset, .unset, .unset, .unset] [(.ref b2), (.ref b5), (.ref b5)])) rfl (by rw [hml]; rfl) (Steps.refl _) (a := b5) (argsL := [(.ref b2)]) (rest := [(.ref b5)]) (lenOf own_pd16 rfl) rfl (by show 2 * 0 + _ ≤ _; exact Nat.le_of_eq rfl) (hb hby at_36) (fun _ _ => ⟨rfl, e5, (by decide : 2 + 1 ≤ _), (by decide : 5 + 1 ≤ _)⟩)
    dsimp only [Pt.U, Pt.locs, Pt.cells, Pt.slots] at X6 l6 y6 z6 st6 hQ6
    subst l6 y6 z6
    obtain ⟨rfl, Nq6, Kq6, Eq6, Cq6, sv, skb, hn6, hs6, hne6, Vq6, Aq6⟩ := hQ6
    have N6 := Fr.app N4 Nq6
    have K6 := (K5).trans Kq6 (allS (Or.inr kw_b5) all0)
    have Z6 : n0 ≤ T6.heap.size := Nat.le_trans Z5 Kq6.1
    have hk6 := Nat.le_trans hk5 Kq6.1
    refine own_tr st6 ?_
    show own_Gl _ _ _ _ _ _ _ _ (T6.setTop (mkF m 39 #[.val (.int p0), .val (.int p1), .val (.int p2), .val (.int p3), .val (.int p4), .val (.int (0 : Int32)), .val (.ref a_INTEGER), .val (.ref b2), .unset, .unset, .unset, .unset, .unset, .unset, .unset] [(.ref b5)]))
    refine own_st (A' := T6.setTop (mkF m 44 #[.val (.int p0), .val (.int p1), .val (.int p2), .val (.int p3), .val (.int p4), .val (.int (0 : Int32)), .val (.ref a_INTEGER), .val (.ref b2), .val (.ref b5), .unset, .unset, .unset, .unset, .unset, .unset] [(.int (p2 &&& (1 : Int32)))])) (fun tg kt => ?_) ?_
    · show Steps p.tables e below (T6.setTop (mkF m 39 #[.val (.int p0), .val (.int p1), .val (.int p2), .val (.int p3), .val (.int p4), .val (.int (0 : Int32)), .val (.ref a_INTEGER), .val (.ref b2), .unset, .unset, .unset, .unset, .unset, .unset, .unset] [(.ref b5)])) _
      refine XS.astore X6.here hx rfl (hb hby at_39) rfl rfl (l' := #[.val (.int p0), .val (.int p1), .val (.int p2), .val (.int p3), .val (.int p4), .val (.int (0 : Int32)), .val (.ref a_INTEGER), .val (.ref b2), .val (.ref b5), .unset, .unset, .unset, .unset, .unset, .unset]) rfl ?_
      show Steps p.tables e below (T6.setTop (mkF m 41 #[.val (.int p0), .val (.int p1), .val (.int p2), .val (.int p3), .val (.int p4), .val (.int (0 : Int32)), .val (.ref a_INTEGER), .val (.ref b2), .val (.ref b5), .unset, .unset, .unset, .unset, .unset, .unset] [])) _
      refine XS.iloadN X6.here hx rfl (hb hby at_41) rfl ?_
      show Steps p.tables e below (T6.setTop (mkF m 42 #[.val (.int p0), .val (.int p1), .val (.int p2), .val (.int p3), .val (.int p4), .val (.int (0 : Int32)), .val (.ref a_INTEGER), .val (.ref b2), .val (.ref b5), .unset, .unset, .unset, .unset, .unset, .unset] [(.int p2)])) _
      refine XS.iconst X6.here hx rfl (hb hby at_42) ?_
      show Steps p.tables e below (T6.setTop (mkF m 43 #[.val (.int p0), .val (.int p1), .val (.int p2), .val (.int p3), .val (.int p4), .val (.int (0 : Int32)), .val (.ref a_INTEGER), .val (.ref b2), .val (.ref b5), .unset, .unset, .unset, .unset, .unset, .unset] [(.int (1 : Int32)), (.int p2)])) _
      refine XS.iand X6.here hx rfl (hb hby at_43) rfl ?_
      exact kt
    by_cases hc44_7 : (p2 &&& (1 : Int32)) = (0 : Int32)
    · refine own_st (A' := T6.setTop (mkF m 68 #[.val (.int p0), .val (.int p1), .val (.int p2), .val (.int p3), .val (.int p4), .val (.int (0 : Int32)), .val (.ref a_INTEGER), .val (.ref b2), .val (.ref b5), .val (.int (0 : Int32)), .unset, .unset, .unset, .unset, .unset] [(.int (p2 &&& (2 : Int32)))])) (fun tg kt => ?_) ?_
      · show Steps p.tables e below (T6.setTop (mkF m 44 #[.val (.int p0), .val (.int p1), .val (.int p2), .val (.int p3), .val (.int p4), .val (.int (0 : Int32)), .val (.ref a_INTEGER), .val (.ref b2), .val (.ref b5), .unset, .unset, .unset, .unset, .unset, .unset] [(.int (p2 &&& (1 : Int32)))])) _
        refine XS.ifYes X6.here hx rfl (pc0 := 44) (pc' := 57) rfl (hb hby at_44) rfl ((if0 _ _).trans (teq hc44_7).1) (by decide) (by decide) ?_
        show Steps p.tables e below (T6.setTop (mkF m 57 #[.val (.int p0), .val (.int p1), .val (.int p2), .val (.int p3), .val (.int p4), .val (.int (0 : Int32)), .val (.ref a_INTEGER), .val (.ref b2), .val (.ref b5), .unset, .unset, .unset, .unset, .unset, .unset] [])) _
        refine XS.iconst X6.here hx rfl (hb hby at_57) ?_
        show Steps p.tables e below (T6.setTop (mkF m 58 #[.val (.int p0), .val (.int p1), .val (.int p2), .val (.int p3), .val (.int p4), .val (.int (0 : Int32)), .val (.ref a_INTEGER), .val (.ref b2), .val (.ref b5), .unset, .unset, .unset, .unset, .unset, .unset] [(.int (0 : Int32))])) _
        refine XS.istore X6.here hx rfl (hb hby at_58) rfl (l' := #[.val (.int p0), .val (.int p1), .val (.int p2), .val (.int p3), .val (.int p4), .val (.int (0 : Int32)), .val (.ref a_INTEGER), .val (.ref b2), .val (.ref b5), .val (.int (0 : Int32)), .unset, .unset, .unset, .unset, .unset]) rfl ?_
        show Steps p.tables e below (T6.setTop (mkF m 60 #[.val (.int p0), .val (.int p1), .val (.int p2), .val (.int p3), .val (.int p4), .val (.int (0 : Int32)), .val (.ref a_INTEGER), .val (.ref b2), .val (.ref b5), .val (.int (0 : Int32)), .unset, .unset, .unset, .unset, .unset] [])) _
        refine XS.iload X6.here hx rfl (hb hby at_60) rfl ?_
        show Steps p.tables e below (T6.setTop (mkF m 62 #[.val (.int p0), .val (.int p1), .val (.int p2), .val (.int p3), .val (.int p4), .val (.int (0 : Int32)), .val (.ref a_INTEGER), .val (.ref b2), .val (.ref b5), .val (.int (0 : Int32)), .unset, .unset, .unset, .unset, .unset] [(.int (0 : Int32))])) _
        refine XS.ifNo X6.here hx rfl (hb hby at_62) rfl ((if0 _ _).trans (teq ((by decide) : (0 : Int32) = (0 : Int32))).2) ?_
        show Steps p.tables e below (T6.setTop (mkF m 65 #[.val (.int p0), .val (.int p1), .val (.int p2), .val (.int p3), .val (.int p4), .val (.int (0 : Int32)), .val (.ref a_INTEGER), .val (.ref b2), .val (.ref b5), .val (.int (0 : Int32)), .unset, .unset, .unset, .unset, .unset] [])) _
        refine XS.iloadN X6.here hx rfl (hb hby at_65) rfl ?_
        show Steps p.tables e below (T6.setTop (mkF m 66 #[.val (.int p0), .val (.int p1), .val (.int p2), .val (.int p3), .val (.int p4), .val (.int (0 : Int32)), .val (.ref a_INTEGER), .val (.ref b2), .val (.ref b5), .val (.int (0 : Int32)), .unset, .unset, .unset, .unset, .unset] [(.int p2)])) _
        refine XS.iconst X6.here hx rfl (hb hby at_66) ?_
        show Steps p.tables e below (T6.setTop (mkF m 67 #[.val (.int p0), .val (.int p1), .val (.int p2), .val (.int p3), .val (.int p4), .val (.int (0 : Int32)), .val (.ref a_INTEGER), .val (.ref b2), .val (.ref b5), .val (.int (0 : Int32)), .unset, .unset, .unset, .unset, .unset] [(.int (2 : Int32)), (.int p2)])) _
        refine XS.iand X6.here hx rfl (hb hby at_67) rfl ?_
        exact kt
      by_cases hc68_8 : (p2 &&& (2 : Int32)) = (0 : Int32)
      · refine own_st (A' := T6.setTop (mkF m 90 #[.val (.int p0), .val (.int p1), .val (.int p2), .val (.int p3), .val (.int p4), .val (.int (0 : Int32)), .val (.ref a_INTEGER), .val (.ref b2), .val (.ref b5), .val (.int (0 : Int32)), .unset, .val .null, .unset, .unset, .unset] [])) (fun tg kt => ?_) ?_
        · show Steps p.tables e below (T6.setTop (mkF m 68 #[.val (.int p0), .val (.int p1), .val (.int p2), .val (.int p3), .val (.int p4), .val (.int (0 : Int32)), .val (.ref a_INTEGER), .val (.ref b2), .val (.ref b5), .val (.int (0 : Int32)), .unset, .unset, .unset, .unset, .unset] [(.int (p2 &&& (2 : Int32)))])) _
          refine XS.ifYes X6.here hx rfl (pc0 := 68) (pc' := 87) rfl (hb hby at_68) rfl ((if0 _ _).trans (teq hc68_8).1) (by decide) (by decide) ?_
          show Steps p.tables e below (T6.setTop (mkF m 87 #[.val (.int p0), .val (.int p1), .val (.int p2), .val (.int p3), .val (.int p4), .val (.int (0 : Int32)), .val (.ref a_INTEGER), .val (.ref b2), .val (.ref b5), .val (.int (0 : Int32)), .unset, .unset, .unset, .unset, .unset] [])) _
          refine XS.aconstNull X6.here hx rfl (hb hby at_87) ?_
          show Steps p.tables e below (T6.setTop (mkF m 88 #[.val (.int p0), .val (.int p1), .val (.int p2), .val (.int p3), .val (.int p4), .val (.int (0 : Int32)), .val (.ref a_INTEGER), .val (.ref b2), .val (.ref b5), .val (.int (0 : Int32)), .unset, .unset, .unset, .unset, .unset] [.null])) _
          refine XS.astore X6.here hx rfl (hb hby at_88) rfl rfl (l' := #[.val (.int p0), .val (.int p1), .val (.int p2), .val (.int p3), .val (.int p4), .val (.int (0 : Int32)), .val (.ref a_INTEGER), .val (.ref b2), .val (.ref b5), .val (.int (0 : Int32)), .unset, .val .null, .unset, .unset, .unset]) rfl ?_
          exact kt
        obtain ⟨T9, h9, X9, e9, E9, A9, D9, -, st9⟩ := newO X6 hx hZ hown (hw _ (List.mem_of_getElem? (i := 38) rfl)) (hw _ (List.mem_of_getElem? (i := 39) rfl)) (hw _ (List.mem_of_getElem? (i := 40) rfl)) rfl (g := (mkF m 90 #[.val (.int p0), .val (.int p1), .val (.int p2), .val (.int p3), .val (.int p4), .val (.int (0 : Int32)), .val (.ref a_INTEGER), .val (.ref b2), .val (.ref b5), .val (.int (0 : Int32)), .unset, .val .null, .unset, .unset, .unset] [])) rfl (hb hby at_90) (by decide) (by decide)
        obtain ⟨b9, g9⟩ : ∃ z, z = T6.heap.size := ⟨_, rfl⟩
        rw [← g9] at A9 D9 st9
        have g_b9 : n0 ≤ b9 := Nat.le_trans Z6 (Nat.le_of_eq g9.symm)
        have kw_b9 : h0.size ≤ b9 := Nat.le_trans (K6).1 (Nat.le_of_eq g9.symm)
        have ne_b2_b9 : b2 ≠ b9 := Nat.ne_of_lt (Nat.lt_of_lt_of_le ((V4.ext E5).keep Kq6 (ninS ne_b2_b5 nin0)).lt (Nat.le_of_eq g9.symm))
        have ne_b5_b9 : b5 ≠ b9 := Nat.ne_of_lt (Nat.lt_of_lt_of_le Eq6.lt (Nat.le_of_eq g9.symm))
        have ne_sv_b9 : sv ≠ b9 := Nat.ne_of_lt (Nat.lt_of_lt_of_le Aq6.lt (Nat.le_of_eq g9.symm))
        have K9 := (K6).ext E9
        have Z9 : n0 ≤ h9.size := Nat.le_trans Z6 E9.1
        have hk9 := Nat.le_trans hk6 E9.1
        have F_name_b9 : Fld Z h9 b9 "com/example/inexact_search/inexactsearch/engine/Attribute" "name" "Ljava/lang/String;" .null := D9 (Or.inr (hw _ (List.mem_of_getElem? (i := 62) rfl))) (ty := (.object "java/lang/String")) (by decide)
        have F_type_b9 : Fld Z h9 b9 "com/example/inexact_search/inexactsearch/engine/Attribute" "type" "Lcom/example/inexact_search/inexactsearch/engine/AttributeType;" .null := D9 (Or.inr (hw _ (List.mem_of_getElem? (i := 64) rfl))) (ty := (.object "com/example/inexact_search/inexactsearch/engine/AttributeType")) (by decide)
        have F_declaredMin_b9 : Fld Z h9 b9 "com/example/inexact_search/inexactsearch/engine/Attribute" "declaredMin" "Ljava/lang/Double;" .null := D9 (Or.inr (hw _ (List.mem_of_getElem? (i := 66) rfl))) (ty := (.object "java/lang/Double")) (by decide)
        have F_declaredMax_b9 : Fld Z h9 b9 "com/example/inexact_search/inexactsearch/engine/Attribute" "declaredMax" "Ljava/lang/Double;" .null := D9 (Or.inr (hw _ (List.mem_of_getElem? (i := 68) rfl))) (ty := (.object "java/lang/Double")) (by decide)
        refine own_st st9 ?_
        show own_Gl _ _ _ _ _ _ _ _ (T9.setTop (mkF m 93 #[.val (.int p0), .val (.int p1), .val (.int p2), .val (.int p3), .val (.int p4), .val (.int (0 : Int32)), .val (.ref a_INTEGER), .val (.ref b2), .val (.ref b5), .val (.int (0 : Int32)), .unset, .val .null, .unset, .unset, .unset] [(.ref b9)]))
        refine own_st (A' := T9.setTop (mkF m 102 #[.val (.int p0), .val (.int p1), .val (.int p2), .val (.int p3), .val (.int p4), .val (.int (0 : Int32)), .val (.ref a_INTEGER), .val (.ref b2), .val (.ref b5), .val (.int (0 : Int32)), .unset, .val .null, .unset, .unset, .unset] [.null, .null, (.ref a_INTEGER), (.ref b5), (.ref b9), (.ref b9)])) (fun tg kt => ?_) ?_
        · show Steps p.tables e below (T9.setTop (mkF m 93 #[.val (.int p0), .val (.int p1), .val (.int p2), .val (.int p3), .val (.int p4), .val (.int (0 : Int32)), .val (.ref a_INTEGER), .val (.ref b2), .val (.ref b5), .val (.int (0 : Int32)), .unset, .val .null, .unset, .unset, .unset] [(.ref b9)])) _
          refine XS.dup X9.here hx rfl (hb hby at_93) rfl rfl ?_
          show Steps p.tables e below (T9.setTop (mkF m 94 #[.val (.int p0), .val (.int p1), .val (.int p2), .val (.int p3), .val (.int p4), .val (.int (0 : Int32)), .val (.ref a_INTEGER), .val (.ref b2), .val (.ref b5), .val (.int (0 : Int32)), .unset, .val .null, .unset, .unset, .unset] [(.ref b9), (.ref b9)])) _
          refine XS.aload X9.here hx rfl (hb hby at_94) rfl rfl ?_
          show Steps p.tables e below (T9.setTop (mkF m 96 #[.val (.int p0), .val (.int p1), .val (.int p2), .val (.int p3), .val (.int p4), .val (.int (0 : Int32)), .val (.ref a_INTEGER), .val (.ref b2), .val (.ref b5), .val (.int (0 : Int32)), .unset, .val .null, .unset, .unset, .unset] [(.ref b5), (.ref b9), (.ref b9)])) _
          refine XS.aload X9.here hx rfl (hb hby at_96) rfl rfl ?_
          show Steps p.tables e below (T9.setTop (mkF m 98 #[.val (.int p0), .val (.int p1), .val (.int p2), .val (.int p3), .val (.int p4), .val (.int (0 : Int32)), .val (.ref a_INTEGER), .val (.ref b2), .val (.ref b5), .val (.int (0 : Int32)), .unset, .val .null, .unset, .unset, .unset] [(.ref a_INTEGER), (.ref b5), (.ref b9), (.ref b9)])) _
          refine XS.aload X9.here hx rfl (hb hby at_98) rfl rfl ?_
          show Steps p.tables e below (T9.setTop (mkF m 100 #[.val (.int p0), .val (.int p1), .val (.int p2), .val (.int p3), .val (.int p4), .val (.int (0 : Int32)), .val (.ref a_INTEGER), .val (.ref b2), .val (.ref b5), .val (.int (0 : Int32)), .unset, .val .null, .unset, .unset, .unset] [.null, (.ref a_INTEGER), (.ref b5), (.ref b9), (.ref b9)])) _
          refine XS.aload X9.here hx rfl (hb hby at_100) rfl rfl ?_
          exact kt
        obtain ⟨_, _, ⟨T10, L10, k10, n10⟩, -, X10, hSq10, hgq10, ⟨Lc10, hQ10, l10, y10, z10⟩, st10⟩ := X9.specialBackS hx (y := (⟨"com/example/inexact_search/inexactsearch/engine/Attribute", "<init>", "(Ljava/lang/String;Lcom/example/inexact_search/inexactsearch/engine/AttributeType;Ljava/lang/Double;Ljava/lang/Double;)V"⟩ : MethodName)) rfl hown (mvT hZ (hw _ (List.mem_of_getElem? (i := 78) rfl))) (mvT hZ (hw _ (List.mem_of_getElem? (i := 45) rfl))) (mvT hZ (hw _ (List.mem_of_getElem? (i := 46) rfl))) (by decide) (backOfS (W := 1) (rm9n l Z a0 hw [] b9 b5 a_INTEGER sv skb ([((nar .char ((p1 &&& (255 : Int32)).toUInt32.toUInt16.toUInt32.toInt32))).toInt8.toInt32].map Value.int) h9 n0 Z9 F_name_b9 F_type_b9 F_declaredMin_b9 F_declaredMax_b9 A9 g_b9 (Eq6.ext E9) (Vq6.ext E9) (Aq6.ext E9) ne_b5_b9 ne_sv_b9) hZ (hw _ (List.mem_of_getElem? (i := 46) rfl)) (hw _ (List.mem_of_getElem? (i := 40) rfl)) (by decide) (by decide)) (g := (mkF m 102 #[.val (.int p0), .val (.int p1), .val (.int p2), .val (.int p3), .val (.int p4), .val (.int (0 : Int32)), .val (.ref a_INTEGER), .val (.ref b2), .val (.ref b5), .val (.int (0 : Int32)), .unset, .val .null, .unset, .unset, .unset] [.null, .null, (.ref a_INTEGER), (.ref b5), (.ref b9), (.ref b9)])) rfl (by rw [hml]; rfl) (Steps.refl _) (a := b9) (argsL := [(.ref b5), (.ref a_INTEGER), .null, .null]) (rest := [(.ref b9)]) (lenOf own_pd14 rfl) rfl (by show 2 * 0 + _ ≤ _; exact Nat.le_of_eq rfl) (hb hby at_102) (fun _ _ => ⟨rfl, e9, (by decide : 4 + 4 ≤ _), (by decide : 10 + 40 ≤ _)⟩)
        dsimp only [Pt.U, Pt.locs, Pt.cells, Pt.slots] at X10 l10 y10 z10 st10 hQ10 hSq10 hgq10
        subst l10 y10 z10
        replace X10 : Stand p l e _ (s.setVm T10.vm) m _ below meth c T10 _ _ _ := X10
        have hS10 : s.Since T10.vm T10.heap.size := hS0.trans hSq10 (Nat.le_trans hk9 (by rw [← e9]; exact hgq10))
        have hZ10 : Z.Warmed39 (s.setVm T10.vm).vm := State.Warmed39.trans (t := (s.setVm s.vm)) hZ hSq10.1
        have hown10 : (s.setVm T10.vm).vm.findClass "com/example/inexact_search/inexactsearch/engine/AttributeHasDeclaredRangePinLaw" = some m.cls := by rw [show (s.setVm T10.vm).vm = T10.vm from rfl, hSq10.1.alike.findClass]; exact hown
        have hk10 : T10.heap.size ≤ T10.heap.size := Nat.le_refl _
        obtain ⟨rfl, Nq10, Kq10, Eq10, Fq10⟩ := hQ10
        have N10 := Fr.app N6 Nq10
        have Fa11 := ((((V4.ext E5).keep Kq6 (ninS ne_b2_b5 nin0)).ext E9).keep Kq10 (ninS ne_b2_b9 nin0))
        have K10 := (K9).trans Kq10 (allS (Or.inr kw_b9) all0)
        have Z10 : n0 ≤ T10.heap.size := Nat.le_trans Z9 Kq10.1
        refine own_tr st10 ?_
        show own_Gl _ _ _ _ _ _ _ _ (T10.setTop (mkF m 105 #[.val (.int p0), .val (.int p1), .val (.int p2), .val (.int p3), .val (.int p4), .val (.int (0 : Int32)), .val (.ref a_INTEGER), .val (.ref b2), .val (.ref b5), .val (.int (0 : Int32)), .unset, .val .null, .unset, .unset, .unset] [(.ref b9)]))
        refine own_st (A' := T10.setTop (mkF m 109 #[.val (.int p0), .val (.int p1), .val (.int p2), .val (.int p3), .val (.int p4), .val (.int (0 : Int32)), .val (.ref a_INTEGER), .val (.ref b2), .val (.ref b5), .val (.int (0 : Int32)), .val (.ref b9), .val .null, .unset, .unset, .unset] [(.ref b9)])) (fun tg kt => ?_) ?_
        · show Steps p.tables e below (T10.setTop (mkF m 105 #[.val (.int p0), .val (.int p1), .val (.int p2), .val (.int p3), .val (.int p4), .val (.int (0 : Int32)), .val (.ref a_INTEGER), .val (.ref b2), .val (.ref b5), .val (.int (0 : Int32)), .unset, .val .null, .unset, .unset, .unset] [(.ref b9)])) _
          refine XS.astore X10.here hx rfl (hb hby at_105) rfl rfl (l' := #[.val (.int p0), .val (.int p1), .val (.int p2), .val (.int p3), .val (.int p4), .val (.int (0 : Int32)), .val (.ref a_INTEGER), .val (.ref b2), .val (.ref b5), .val (.int (0 : Int32)), .val (.ref b9), .val .null, .unset, .unset, .unset]) rfl ?_
          show Steps p.tables e below (T10.setTop (mkF m 107 #[.val (.int p0), .val (.int p1), .val (.int p2), .val (.int p3), .val (.int p4), .val (.int (0 : Int32)), .val (.ref a_INTEGER), .val (.ref b2), .val (.ref b5), .val (.int (0 : Int32)), .val (.ref b9), .val .null, .unset, .unset, .unset] [])) _
          refine XS.aload X10.here hx rfl (hb hby at_107) rfl rfl ?_
          exact kt
        obtain ⟨cq12, kq12, q12a, q12b, q12c⟩ := isOf hZ10 rfl Eq10
        obtain ⟨_, _, ⟨T12, L12, k12, n12⟩, -, X12, ⟨Lc12, hQ12, l12, y12, z12⟩, st12⟩ := X10.virtualBack hx (y := (⟨"com/example/inexact_search/inexactsearch/engine/Attribute", "hasDeclaredRange", "()Z"⟩ : MethodName)) (z := (⟨"com/example/inexact_search/inexactsearch/engine/Attribute", "hasDeclaredRange", "()Z"⟩ : MethodName)) hown10 (mvT hZ10 (hw _ (List.mem_of_getElem? (i := 69) rfl))) (mvT hZ10 (hw _ (List.mem_of_getElem? (i := 70) rfl))) (notFace_of_selects (args := #[]) (mvT hZ10 (hw _ (List.mem_of_getElem? (i := 72) rfl)))) (mvT hZ10 (hw _ (List.mem_of_getElem? (i := 72) rfl))) (mvT hZ10 (hw _ (List.mem_of_getElem? (i := 71) rfl))) (by decide) (backOf (W := 0) (rm12n l Z a0 hw [] b9 T10.heap n0 Z10 Fq10) hZ10 (hw _ (List.mem_of_getElem? (i := 73) rfl)) (hw _ (List.mem_of_getElem? (i := 40) rfl)) (by decide) (by decide)) q12a q12c (g := (mkF m 109 #[.val (.int p0), .val (.int p1), .val (.int p2), .val (.int p3), .val (.int p4), .val (.int (0 : Int32)), .val (.ref a_INTEGER), .val (.ref b2), .val (.ref b5), .val (.int (0 : Int32)), .val (.ref b9), .val .null, .unset, .unset, .unset] [(.ref b9)])) rfl (by rw [hml]; rfl) (Steps.refl _) (argsL := []) (rest := []) (lenOf own_pd10 rfl) rfl (by show 2 * 0 + _ ≤ _; exact Nat.le_of_eq rfl) (hb hby at_109) (fun _ _ => ⟨rfl, rfl, (by decide : 8 + 0 ≤ _), (by decide : 50 + 0 ≤ _)⟩)
        dsimp only [Pt.U, Pt.locs, Pt.cells, Pt.slots] at X12 l12 y12 z12 st12 hQ12
        subst l12 y12 z12
        obtain ⟨rfl, Nq12, eq12⟩ := hQ12
        have N12 := Fr.app N10 Nq12
        refine own_tr st12 ?_
        show own_Gl _ _ _ _ _ _ _ _ (T12.setTop (mkF m 112 #[.val (.int p0), .val (.int p1), .val (.int p2), .val (.int p3), .val (.int p4), .val (.int (0 : Int32)), .val (.ref a_INTEGER), .val (.ref b2), .val (.ref b5), .val (.int (0 : Int32)), .val (.ref b9), .val .null, .unset, .unset, .unset] [(.int (0 : Int32))]))
        refine own_st (A' := T12.setTop (mkF m 120 #[.val (.int p0), .val (.int p1), .val (.int p2), .val (.int p3), .val (.int p4), .val (.int (0 : Int32)), .val (.ref a_INTEGER), .val (.ref b2), .val (.ref b5), .val (.int (0 : Int32)), .val (.ref b9), .val .null, .unset, .unset, .unset] [(.int (1 : Int32))])) (fun tg kt => ?_) ?_
        · show Steps p.tables e below (T12.setTop (mkF m 112 #[.val (.int p0), .val (.int p1), .val (.int p2), .val (.int p3), .val (.int p4), .val (.int (0 : Int32)), .val (.ref a_INTEGER), .val (.ref b2), .val (.ref b5), .val (.int (0 : Int32)), .val (.ref b9), .val .null, .unset, .unset, .unset] [(.int (0 : Int32))])) _
          refine XS.ifNo X12.here hx rfl (hb hby at_112) rfl ((if0 _ _).trans (teq ((by decide) : (0 : Int32) = (0 : Int32))).2) ?_
          show Steps p.tables e below (T12.setTop (mkF m 115 #[.val (.int p0), .val (.int p1), .val (.int p2), .val (.int p3), .val (.int p4), .val (.int (0 : Int32)), .val (.ref a_INTEGER), .val (.ref b2), .val (.ref b5), .val (.int (0 : Int32)), .val (.ref b9), .val .null, .unset, .unset, .unset] [])) _
          refine XS.iconst X12.here hx rfl (hb hby at_115) ?_
          show Steps p.tables e below (T12.setTop (mkF m 116 #[.val (.int p0), .val (.int p1), .val (.int p2), .val (.int p3), .val (.int p4), .val (.int (0 : Int32)), .val (.ref a_INTEGER), .val (.ref b2), .val (.ref b5), .val (.int (0 : Int32)), .val (.ref b9), .val .null, .unset, .unset, .unset] [(.int (1 : Int32))])) _
          refine XS.goto X12.here hx rfl (pc0 := 116) (pc' := 120) rfl (hb hby at_116) (by decide) (by decide) ?_
          exact kt
        refine own_retW X12 hS10 (by rw [eq12]; exact hk10) (v := some (.int (1 : Int32))) (fun h => by rw [Bd.returns] at h; cases h) hlk (by decide) (by decide) ?_ (fun fs hr => ?_)
        · show Q0 Z p0 p1 p2 p3 p4 a_INTEGER a_DECIMAL a_STRING a_BOOLEAN a_STRINGS cs h0 n0 (some (.int (1 : Int32))) T12.heap _
          rw [eq12]
          exact ⟨rfl, N12⟩
        · show Steps p.tables e below (T12.setTop (mkF m 120 #[.val (.int p0), .val (.int p1), .val (.int p2), .val (.int p3), .val (.int p4), .val (.int (0 : Int32)), .val (.ref a_INTEGER), .val (.ref b2), .val (.ref b5), .val (.int (0 : Int32)), .val (.ref b9), .val .null, .unset, .unset, .unset] [(.int (1 : Int32))])) _
          exact retN X12 hx (t := .boolean) Bd.returns (by simp) (hb hby at_120) hr
      · refine own_st (A' := T6.setTop (mkF m 71 #[.val (.int p0), .val (.int p1), .val (.int p2), .val (.int p3), .val (.int p4), .val (.int (0 : Int32)), .val (.ref a_INTEGER), .val (.ref b2), .val (.ref b5), .val (.int (0 : Int32)), .unset, .unset, .unset, .unset, .unset] [])) (fun tg kt => ?_) ?_
        · show Steps p.tables e below (T6.setTop (mkF m 68 #[.val (.int p0), .val (.int p1), .val (.int p2), .val (.int p3), .val (.int p4), .val (.int (0 : Int32)), .val (.ref a_INTEGER), .val (.ref b2), .val (.ref b5), .val (.int (0 : Int32)), .unset, .unset, .unset, .unset, .unset] [(.int (p2 &&& (2 : Int32)))])) _
          refine XS.ifNo X6.here hx rfl (hb hby at_68) rfl ((if0 _ _).trans (feq hc68_8).1) ?_
          exact kt
        obtain ⟨T13, h13, X13, e13, E13, A13, D13, -, st13⟩ := newO X6 hx hZ hown (hw _ (List.mem_of_getElem? (i := 38) rfl)) (hw _ (List.mem_of_getElem? (i := 39) rfl)) (hw _ (List.mem_of_getElem? (i := 40) rfl)) rfl (g := (mkF m 71 #[.val (.int p0), .val (.int p1), .val (.int p2), .val (.int p3), .val (.int p4), .val (.int (0 : Int32)), .val (.ref a_INTEGER), .val (.ref b2), .val (.ref b5), .val (.int (0 : Int32)), .unset, .unset, .unset, .unset, .unset] [])) rfl (hb hby at_71) (by decide) (by decide)
        obtain ⟨b13, g13⟩ : ∃ z, z = T6.heap.size := ⟨_, rfl⟩
        rw [← g13] at A13 D13 st13
        have g_b13 : n0 ≤ b13 := Nat.le_trans Z6 (Nat.le_of_eq g13.symm)
        have kw_b13 : h0.size ≤ b13 := Nat.le_trans (K6).1 (Nat.le_of_eq g13.symm)
        have ne_b2_b13 : b2 ≠ b13 := Nat.ne_of_lt (Nat.lt_of_lt_of_le ((V4.ext E5).keep Kq6 (ninS ne_b2_b5 nin0)).lt (Nat.le_of_eq g13.symm))
        have ne_b5_b13 : b5 ≠ b13 := Nat.ne_of_lt (Nat.lt_of_lt_of_le Eq6.lt (Nat.le_of_eq g13.symm))
        have ne_sv_b13 : sv ≠ b13 := Nat.ne_of_lt (Nat.lt_of_lt_of_le Aq6.lt (Nat.le_of_eq g13.symm))
        have K13 := (K6).ext E13
        have Z13 : n0 ≤ h13.size := Nat.le_trans Z6 E13.1
        have hk13 := Nat.le_trans hk6 E13.1
        have F_name_b13 : Fld Z h13 b13 "com/example/inexact_search/inexactsearch/engine/Attribute" "name" "Ljava/lang/String;" .null := D13 (Or.inr (hw _ (List.mem_of_getElem? (i := 62) rfl))) (ty := (.object "java/lang/String")) (by decide)
        have F_type_b13 : Fld Z h13 b13 "com/example/inexact_search/inexactsearch/engine/Attribute" "type" "Lcom/example/inexact_search/inexactsearch/engine/AttributeType;" .null := D13 (Or.inr (hw _ (List.mem_of_getElem? (i := 64) rfl))) (ty := (.object "com/example/inexact_search/inexactsearch/engine/AttributeType")) (by decide)
        have F_declaredMin_b13 : Fld Z h13 b13 "com/example/inexact_search/inexactsearch/engine/Attribute" "declaredMin" "Ljava/lang/Double;" .null := D13 (Or.inr (hw _ (List.mem_of_getElem? (i := 66) rfl))) (ty := (.object "java/lang/Double")) (by decide)
        have F_declaredMax_b13 : Fld Z h13 b13 "com/example/inexact_search/inexactsearch/engine/Attribute" "declaredMax" "Ljava/lang/Double;" .null := D13 (Or.inr (hw _ (List.mem_of_getElem? (i := 68) rfl))) (ty := (.object "java/lang/Double")) (by decide)
        refine own_st st13 ?_
        show own_Gl _ _ _ _ _ _ _ _ (T13.setTop (mkF m 74 #[.val (.int p0), .val (.int p1), .val (.int p2), .val (.int p3), .val (.int p4), .val (.int (0 : Int32)), .val (.ref a_INTEGER), .val (.ref b2), .val (.ref b5), .val (.int (0 : Int32)), .unset, .unset, .unset, .unset, .unset] [(.ref b13)]))
        refine own_st (A' := T13.setTop (mkF m 79 #[.val (.int p0), .val (.int p1), .val (.int p2), .val (.int p3), .val (.int p4), .val (.int (0 : Int32)), .val (.ref a_INTEGER), .val (.ref b2), .val (.ref b5), .val (.int (0 : Int32)), .unset, .unset, .unset, .unset, .unset] [(.ref a_INTEGER), (.ref b5), (.ref b13), (.ref b13)])) (fun tg kt => ?_) ?_
        · show Steps p.tables e below (T13.setTop (mkF m 74 #[.val (.int p0), .val (.int p1), .val (.int p2), .val (.int p3), .val (.int p4), .val (.int (0 : Int32)), .val (.ref a_INTEGER), .val (.ref b2), .val (.ref b5), .val (.int (0 : Int32)), .unset, .unset, .unset, .unset, .unset] [(.ref b13)])) _
          refine XS.dup X13.here hx rfl (hb hby at_74) rfl rfl ?_
          show Steps p.tables e below (T13.setTop (mkF m 75 #[.val (.int p0), .val (.int p1), .val (.int p2), .val (.int p3), .val (.int p4), .val (.int (0 : Int32)), .val (.ref a_INTEGER), .val (.ref b2), .val (.ref b5), .val (.int (0 : Int32)), .unset, .unset, .unset, .unset, .unset] [(.ref b13), (.ref b13)])) _
          refine XS.aload X13.here hx rfl (hb hby at_75) rfl rfl ?_
          show Steps p.tables e below (T13.setTop (mkF m 77 #[.val (.int p0), .val (.int p1), .val (.int p2), .val (.int p3), .val (.int p4), .val (.int (0 : Int32)), .val (.ref a_INTEGER), .val (.ref b2), .val (.ref b5), .val (.int (0 : Int32)), .unset, .unset, .unset, .unset, .unset] [(.ref b5), (.ref b13), (.ref b13)])) _
          refine XS.aload X13.here hx rfl (hb hby at_77) rfl rfl ?_
          exact kt
        obtain ⟨_, _, ⟨T14, L14, k14, n14⟩, -, X14, hSq14, hgq14, ⟨Lc14, hQ14, l14, y14, z14⟩, st14⟩ := X13.specialBackS hx (y := (⟨"com/example/inexact_search/inexactsearch/engine/Attribute", "<init>", "(Ljava/lang/String;Lcom/example/inexact_search/inexactsearch/engine/AttributeType;)V"⟩ : MethodName)) rfl hown (mvT hZ (hw _ (List.mem_of_getElem? (i := 41) rfl))) (mvT hZ (hw _ (List.mem_of_getElem? (i := 42) rfl))) (mvT hZ (hw _ (List.mem_of_getElem? (i := 43) rfl))) (by decide) (backOfS (W := 1) (rm8 l Z a0 hw [] b13 b5 a_INTEGER sv skb ([((nar .char ((p1 &&& (255 : Int32)).toUInt32.toUInt16.toUInt32.toInt32))).toInt8.toInt32].map Value.int) h13 n0 Z13 F_name_b13 F_type_b13 F_declaredMin_b13 F_declaredMax_b13 A13 g_b13 (Eq6.ext E13) (Vq6.ext E13) (Aq6.ext E13) ne_b5_b13 ne_sv_b13) hZ (hw _ (List.mem_of_getElem? (i := 43) rfl)) (hw _ (List.mem_of_getElem? (i := 40) rfl)) (by decide) (by decide)) (g := (mkF m 79 #[.val (.int p0), .val (.int p1), .val (.int p2), .val (.int p3), .val (.int p4), .val (.int (0 : Int32)), .val (.ref a_INTEGER), .val (.ref b2), .val (.ref b5), .val (.int (0 : Int32)), .unset, .unset, .unset, .unset, .unset] [(.ref a_INTEGER), (.ref b5), (.ref b13), (.ref b13)])) rfl (by rw [hml]; rfl) (Steps.refl _) (a := b13) (argsL := [(.ref b5), (.ref a_INTEGER)]) (rest := [(.ref b13)]) (lenOf own_pd17 rfl) rfl (by show 2 * 0 + _ ≤ _; exact Nat.le_of_eq rfl) (hb hby at_79) (fun _ _ => ⟨rfl, e13, (by decide : 4 + 4 ≤ _), (by decide : 10 + 40 ≤ _)⟩)
        dsimp only [Pt.U, Pt.locs, Pt.cells, Pt.slots] at X14 l14 y14 z14 st14 hQ14 hSq14 hgq14
        subst l14 y14 z14
        replace X14 : Stand p l e _ (s.setVm T14.vm) m _ below meth c T14 _ _ _ := X14
        have hS14 : s.Since T14.vm T14.heap.size := hS0.trans hSq14 (Nat.le_trans hk13 (by rw [← e13]; exact hgq14))
        have hZ14 : Z.Warmed39 (s.setVm T14.vm).vm := State.Warmed39.trans (t := (s.setVm s.vm)) hZ hSq14.1
        have hown14 : (s.setVm T14.vm).vm.findClass "com/example/inexact_search/inexactsearch/engine/AttributeHasDeclaredRangePinLaw" = some m.cls := by rw [show (s.setVm T14.vm).vm = T14.vm from rfl, hSq14.1.alike.findClass]; exact hown
        have hk14 : T14.heap.size ≤ T14.heap.size := Nat.le_refl _
        obtain ⟨rfl, Nq14, Kq14, Eq14, Fq14⟩ := hQ14
        have N14 := Fr.app N6 Nq14
        have Fa15 := ((((V4.ext E5).keep Kq6 (ninS ne_b2_b5 nin0)).ext E13).keep Kq14 (ninS ne_b2_b13 nin0))
        have K14 := (K13).trans Kq14 (allS (Or.inr kw_b13) all0)
        have Z14 : n0 ≤ T14.heap.size := Nat.le_trans Z13 Kq14.1
        refine own_tr st14 ?_
        show own_Gl _ _ _ _ _ _ _ _ (T14.setTop (mkF m 82 #[.val (.int p0), .val (.int p1), .val (.int p2), .val (.int p3), .val (.int p4), .val (.int (0 : Int32)), .val (.ref a_INTEGER), .val (.ref b2), .val (.ref b5), .val (.int (0 : Int32)), .unset, .unset, .unset, .unset, .unset] [(.ref b13)]))
        refine own_st (A' := T14.setTop (mkF m 109 #[.val (.int p0), .val (.int p1), .val (.int p2), .val (.int p3), .val (.int p4), .val (.int (0 : Int32)), .val (.ref a_INTEGER), .val (.ref b2), .val (.ref b5), .val (.int (0 : Int32)), .val (.ref b13), .unset, .unset, .unset, .unset] [(.ref b13)])) (fun tg kt => ?_) ?_
        · show Steps p.tables e below (T14.setTop (mkF m 82 #[.val (.int p0), .val (.int p1), .val (.int p2), .val (.int p3), .val (.int p4), .val (.int (0 : Int32)), .val (.ref a_INTEGER), .val (.ref b2), .val (.ref b5), .val (.int (0 : Int32)), .unset, .unset, .unset, .unset, .unset] [(.ref b13)])) _
          refine XS.astore X14.here hx rfl (hb hby at_82) rfl rfl (l' := #[.val (.int p0), .val (.int p1), .val (.int p2), .val (.int p3), .val (.int p4), .val (.int (0 : Int32)), .val (.ref a_INTEGER), .val (.ref b2), .val (.ref b5), .val (.int (0 : Int32)), .val (.ref b13), .unset, .unset, .unset, .unset]) rfl ?_
          show Steps p.tables e below (T14.setTop (mkF m 84 #[.val (.int p0), .val (.int p1), .val (.int p2), .val (.int p3), .val (.int p4), .val (.int (0 : Int32)), .val (.ref a_INTEGER), .val (.ref b2), .val (.ref b5), .val (.int (0 : Int32)), .val (.ref b13), .unset, .unset, .unset, .unset] [])) _
          refine XS.goto X14.here hx rfl (pc0 := 84) (pc' := 107) rfl (hb hby at_84) (by decide) (by decide) ?_
          show Steps p.tables e below (T14.setTop (mkF m 107 #[.val (.int p0), .val (.int p1), .val (.int p2), .val (.int p3), .val (.int p4), .val (.int (0 : Int32)), .val (.ref a_INTEGER), .val (.ref b2), .val (.ref b5), .val (.int (0 : Int32)), .val (.ref b13), .unset, .unset, .unset, .unset] [])) _
          refine XS.aload X14.here hx rfl (hb hby at_107) rfl rfl ?_
          exact kt
        obtain ⟨cq16, kq16, q16a, q16b, q16c⟩ := isOf hZ14 rfl Eq14
        obtain ⟨_, _, ⟨T16, L16, k16, n16⟩, -, X16, ⟨Lc16, hQ16, l16, y16, z16⟩, st16⟩ := X14.virtualBack hx (y := (⟨"com/example/inexact_search/inexactsearch/engine/Attribute", "hasDeclaredRange", "()Z"⟩ : MethodName)) (z := (⟨"com/example/inexact_search/inexactsearch/engine/Attribute", "hasDeclaredRange", "()Z"⟩ : MethodName)) hown14 (mvT hZ14 (hw _ (List.mem_of_getElem? (i := 69) rfl))) (mvT hZ14 (hw _ (List.mem_of_getElem? (i := 70) rfl))) (notFace_of_selects (args := #[]) (mvT hZ14 (hw _ (List.mem_of_getElem? (i := 72) rfl)))) (mvT hZ14 (hw _ (List.mem_of_getElem? (i := 72) rfl))) (mvT hZ14 (hw _ (List.mem_of_getElem? (i := 71) rfl))) (by decide) (backOf (W := 0) (rm12n l Z a0 hw [] b13 T14.heap n0 Z14 Fq14) hZ14 (hw _ (List.mem_of_getElem? (i := 73) rfl)) (hw _ (List.mem_of_getElem? (i := 40) rfl)) (by decide) (by decide)) q16a q16c (g := (mkF m 109 #[.val (.int p0), .val (.int p1), .val (.int p2), .val (.int p3), .val (.int p4), .val (.int (0 : Int32)), .val (.ref a_INTEGER), .val (.ref b2), .val (.ref b5), .val (.int (0 : Int32)), .val (.ref b13), .unset, .unset, .unset, .unset] [(.ref b13)])) rfl (by rw [hml]; rfl) (Steps.refl _) (argsL := []) (rest := []) (lenOf own_pd10 rfl) rfl (by show 2 * 0 + _ ≤ _; exact Nat.le_of_eq rfl) (hb hby at_109) (fun _ _ => ⟨rfl, rfl, (by decide : 8 + 0 ≤ _), (by decide : 50 + 0 ≤ _)⟩)
        dsimp only [Pt.U, Pt.locs, Pt.cells, Pt.slots] at X16 l16 y16 z16 st16 hQ16
        subst l16 y16 z16
        obtain ⟨rfl, Nq16, eq16⟩ := hQ16
        have N16 := Fr.app N14 Nq16
        refine own_tr st16 ?_
        show own_Gl _ _ _ _ _ _ _ _ (T16.setTop (mkF m 112 #[.val (.int p0), .val (.int p1), .val (.int p2), .val (.int p3), .val (.int p4), .val (.int (0 : Int32)), .val (.ref a_INTEGER), .val (.ref b2), .val (.ref b5), .val (.int (0 : Int32)), .val (.ref b13), .unset, .unset, .unset, .unset] [(.int (0 : Int32))]))
        refine own_st (A' := T16.setTop (mkF m 120 #[.val (.int p0), .val (.int p1), .val (.int p2), .val (.int p3), .val (.int p4), .val (.int (0 : Int32)), .val (.ref a_INTEGER), .val (.ref b2), .val (.ref b5), .val (.int (0 : Int32)), .val (.ref b13), .unset, .unset, .unset, .unset] [(.int (1 : Int32))])) (fun tg kt => ?_) ?_
        · show Steps p.tables e below (T16.setTop (mkF m 112 #[.val (.int p0), .val (.int p1), .val (.int p2), .val (.int p3), .val (.int p4), .val (.int (0 : Int32)), .val (.ref a_INTEGER), .val (.ref b2), .val (.ref b5), .val (.int (0 : Int32)), .val (.ref b13), .unset, .unset, .unset, .unset] [(.int (0 : Int32))])) _
          refine XS.ifNo X16.here hx rfl (hb hby at_112) rfl ((if0 _ _).trans (teq ((by decide) : (0 : Int32) = (0 : Int32))).2) ?_
          show Steps p.tables e below (T16.setTop (mkF m 115 #[.val (.int p0), .val (.int p1), .val (.int p2), .val (.int p3), .val (.int p4), .val (.int (0 : Int32)), .val (.ref a_INTEGER), .val (.ref b2), .val (.ref b5), .val (.int (0 : Int32)), .val (.ref b13), .unset, .unset, .unset, .unset] [])) _
          refine XS.iconst X16.here hx rfl (hb hby at_115) ?_
          show Steps p.tables e below (T16.setTop (mkF m 116 #[.val (.int p0), .val (.int p1), .val (.int p2), .val (.int p3), .val (.int p4), .val (.int (0 : Int32)), .val (.ref a_INTEGER), .val (.ref b2), .val (.ref b5), .val (.int (0 : Int32)), .val (.ref b13), .unset, .unset, .unset, .unset] [(.int (1 : Int32))])) _
          refine XS.goto X16.here hx rfl (pc0 := 116) (pc' := 120) rfl (hb hby at_116) (by decide) (by decide) ?_
          exact kt
        refine own_retW X16 hS14 (by rw [eq16]; exact hk14) (v := some (.int (1 : Int32))) (fun h => by rw [Bd.returns] at h; cases h) hlk (by decide) (by decide) ?_ (fun fs hr => ?_)
        · show Q0 Z p0 p1 p2 p3 p4 a_INTEGER a_DECIMAL a_STRING a_BOOLEAN a_STRINGS cs h0 n0 (some (.int (1 : Int32))) T16.heap _
          rw [eq16]
          exact ⟨rfl, N16⟩
        · show Steps p.tables e below (T16.setTop (mkF m 120 #[.val (.int p0), .val (.int p1), .val (.int p2), .val (.int p3), .val (.int p4), .val (.int (0 : Int32)), .val (.ref a_INTEGER), .val (.ref b2), .val (.ref b5), .val (.int (0 : Int32)), .val (.ref b13), .unset, .unset, .unset, .unset] [(.int (1 : Int32))])) _
          exact retN X16 hx (t := .boolean) Bd.returns (by simp) (hb hby at_120) hr
    · refine own_st (A' := T6.setTop (mkF m 124 #[.val (.int p0), .val (.int p1), .val (.int p2), .val (.int p3), .val (.int p4), .val (.int (0 : Int32)), .val (.ref a_INTEGER), .val (.ref b2), .val (.ref b5), .val (.int (1 : Int32)), .unset, .unset, .unset, .unset, .unset] [(.int p4), (.int p3)])) (fun tg kt => ?_) ?_
      · show Steps p.tables e below (T6.setTop (mkF m 44 #[.val (.int p0), .val (.int p1), .val (.int p2), .val (.int p3), .val (.int p4), .val (.int (0 : Int32)), .val (.ref a_INTEGER), .val (.ref b2), .val (.ref b5), .unset, .unset, .unset, .unset, .unset, .unset] [(.int (p2 &&& (1 : Int32)))])) _
        refine XS.ifNo X6.here hx rfl (hb hby at_44) rfl ((if0 _ _).trans (feq hc44_7).1) ?_
        show Steps p.tables e below (T6.setTop (mkF m 47 #[.val (.int p0), .val (.int p1), .val (.int p2), .val (.int p3), .val (.int p4), .val (.int (0 : Int32)), .val (.ref a_INTEGER), .val (.ref b2), .val (.ref b5), .unset, .unset, .unset, .unset, .unset, .unset] [])) _
        refine XS.iload X6.here hx rfl (hb hby at_47) rfl ?_
        show Steps p.tables e below (T6.setTop (mkF m 49 #[.val (.int p0), .val (.int p1), .val (.int p2), .val (.int p3), .val (.int p4), .val (.int (0 : Int32)), .val (.ref a_INTEGER), .val (.ref b2), .val (.ref b5), .unset, .unset, .unset, .unset, .unset, .unset] [(.int (0 : Int32))])) _
        refine XS.iconst X6.here hx rfl (hb hby at_49) ?_
        show Steps p.tables e below (T6.setTop (mkF m 50 #[.val (.int p0), .val (.int p1), .val (.int p2), .val (.int p3), .val (.int p4), .val (.int (0 : Int32)), .val (.ref a_INTEGER), .val (.ref b2), .val (.ref b5), .unset, .unset, .unset, .unset, .unset, .unset] [(.int (2 : Int32)), (.int (0 : Int32))])) _
        refine XS.icmpNo X6.here hx rfl (hb hby at_50) rfl (tlt ((by decide) : (0 : Int32) < (2 : Int32))).2.1 ?_
        show Steps p.tables e below (T6.setTop (mkF m 53 #[.val (.int p0), .val (.int p1), .val (.int p2), .val (.int p3), .val (.int p4), .val (.int (0 : Int32)), .val (.ref a_INTEGER), .val (.ref b2), .val (.ref b5), .unset, .unset, .unset, .unset, .unset, .unset] [])) _
        refine XS.iconst X6.here hx rfl (hb hby at_53) ?_
        show Steps p.tables e below (T6.setTop (mkF m 54 #[.val (.int p0), .val (.int p1), .val (.int p2), .val (.int p3), .val (.int p4), .val (.int (0 : Int32)), .val (.ref a_INTEGER), .val (.ref b2), .val (.ref b5), .unset, .unset, .unset, .unset, .unset, .unset] [(.int (1 : Int32))])) _
        refine XS.goto X6.here hx rfl (pc0 := 54) (pc' := 58) rfl (hb hby at_54) (by decide) (by decide) ?_
        show Steps p.tables e below (T6.setTop (mkF m 58 #[.val (.int p0), .val (.int p1), .val (.int p2), .val (.int p3), .val (.int p4), .val (.int (0 : Int32)), .val (.ref a_INTEGER), .val (.ref b2), .val (.ref b5), .unset, .unset, .unset, .unset, .unset, .unset] [(.int (1 : Int32))])) _
        refine XS.istore X6.here hx rfl (hb hby at_58) rfl (l' := #[.val (.int p0), .val (.int p1), .val (.int p2), .val (.int p3), .val (.int p4), .val (.int (0 : Int32)), .val (.ref a_INTEGER), .val (.ref b2), .val (.ref b5), .val (.int (1 : Int32)), .unset, .unset, .unset, .unset, .unset]) rfl ?_
        show Steps p.tables e below (T6.setTop (mkF m 60 #[.val (.int p0), .val (.int p1), .val (.int p2), .val (.int p3), .val (.int p4), .val (.int (0 : Int32)), .val (.ref a_INTEGER), .val (.ref b2), .val (.ref b5), .val (.int (1 : Int32)), .unset, .unset, .unset, .unset, .unset] [])) _
        refine XS.iload X6.here hx rfl (hb hby at_60) rfl ?_
        show Steps p.tables e below (T6.setTop (mkF m 62 #[.val (.int p0), .val (.int p1), .val (.int p2), .val (.int p3), .val (.int p4), .val (.int (0 : Int32)), .val (.ref a_INTEGER), .val (.ref b2), .val (.ref b5), .val (.int (1 : Int32)), .unset, .unset, .unset, .unset, .unset] [(.int (1 : Int32))])) _
        refine XS.ifYes X6.here hx rfl (pc0 := 62) (pc' := 121) rfl (hb hby at_62) rfl ((if0 _ _).trans (feq ((by decide) : ¬ ((1 : Int32) = (0 : Int32)))).2) (by decide) (by decide) ?_
        show Steps p.tables e below (T6.setTop (mkF m 121 #[.val (.int p0), .val (.int p1), .val (.int p2), .val (.int p3), .val (.int p4), .val (.int (0 : Int32)), .val (.ref a_INTEGER), .val (.ref b2), .val (.ref b5), .val (.int (1 : Int32)), .unset, .unset, .unset, .unset, .unset] [])) _
        refine XS.iloadN X6.here hx rfl (hb hby at_121) rfl ?_
        show Steps p.tables e below (T6.setTop (mkF m 122 #[.val (.int p0), .val (.int p1), .val (.int p2), .val (.int p3), .val (.int p4), .val (.int (0 : Int32)), .val (.ref a_INTEGER), .val (.ref b2), .val (.ref b5), .val (.int (1 : Int32)), .unset, .unset, .unset, .unset, .unset] [(.int p3)])) _
        refine XS.iload X6.here hx rfl (hb hby at_122) rfl ?_
        exact kt
      obtain ⟨_, _, ⟨T17, L17, k17, n17⟩, -, X17, ⟨Lc17, hQ17, l17, y17, z17⟩, st17⟩ := Jvm.LawKit.callS X6 hx (y := (⟨"java/lang/Math", "min", "(II)I"⟩ : MethodName)) hown (mvT hZ (hw _ (List.mem_of_getElem? (i := 79) rfl))) (mvT hZ (hw _ (List.mem_of_getElem? (i := 80) rfl))) (mvT hZ (hw _ (List.mem_of_getElem? (i := 81) rfl))) (mvT hZ (hw _ (List.mem_of_getElem? (i := 82) rfl))) (by decide) (backOf (W := 0) (rm13 l Z a0 hw [] p3 p4 T6.heap n0 Z6) hZ (hw _ (List.mem_of_getElem? (i := 82) rfl)) (hw _ (List.mem_of_getElem? (i := 81) rfl)) (by decide) (by decide)) (g := (mkF m 124 #[.val (.int p0), .val (.int p1), .val (.int p2), .val (.int p3), .val (.int p4), .val (.int (0 : Int32)), .val (.ref a_INTEGER), .val (.ref b2), .val (.ref b5), .val (.int (1 : Int32)), .unset, .unset, .unset, .unset, .unset] [(.int p4), (.int p3)])) rfl (by rw [hml]; rfl) (argsL := [(.int p3), (.int p4)]) (rest := []) (lenOf own_pd18 rfl) rfl (by show 2 * 0 + _ ≤ _; exact Nat.le_of_eq rfl) (hb hby at_124) (fun _ _ => ⟨rfl, rfl, (by decide : 3 + 0 ≤ _), (by decide : 6 + 0 ≤ _)⟩)
      dsimp only [Pt.U, Pt.locs, Pt.cells, Pt.slots] at X17 l17 y17 z17 st17 hQ17
      subst l17 y17 z17
      obtain ⟨rfl, Nq17, eq17⟩ := hQ17
      have N17 := Fr.app N6 Nq17
      refine own_st st17 ?_
      show own_Gl _ _ _ _ _ _ _ _ (T17.setTop (mkF m 127 #[.val (.int p0), .val (.int p1), .val (.int p2), .val (.int p3), .val (.int p4), .val (.int (0 : Int32)), .val (.ref a_INTEGER), .val (.ref b2), .val (.ref b5), .val (.int (1 : Int32)), .unset, .unset, .unset, .unset, .unset] [(.int (own_min p3 p4))]))
      refine own_st (A' := T17.setTop (mkF m 132 #[.val (.int p0), .val (.int p1), .val (.int p2), .val (.int p3), .val (.int p4), .val (.int (0 : Int32)), .val (.ref a_INTEGER), .val (.ref b2), .val (.ref b5), .val (.int (1 : Int32)), .val (.int (own_min p3 p4)), .unset, .unset, .unset, .unset] [(.int p4), (.int p3)])) (fun tg kt => ?_) ?_
      · show Steps p.tables e below (T17.setTop (mkF m 127 #[.val (.int p0), .val (.int p1), .val (.int p2), .val (.int p3), .val (.int p4), .val (.int (0 : Int32)), .val (.ref a_INTEGER), .val (.ref b2), .val (.ref b5), .val (.int (1 : Int32)), .unset, .unset, .unset, .unset, .unset] [(.int (own_min p3 p4))])) _
        refine XS.istore X17.here hx rfl (hb hby at_127) rfl (l' := #[.val (.int p0), .val (.int p1), .val (.int p2), .val (.int p3), .val (.int p4), .val (.int (0 : Int32)), .val (.ref a_INTEGER), .val (.ref b2), .val (.ref b5), .val (.int (1 : Int32)), .val (.int (own_min p3 p4)), .unset, .unset, .unset, .unset]) rfl ?_
        show Steps p.tables e below (T17.setTop (mkF m 129 #[.val (.int p0), .val (.int p1), .val (.int p2), .val (.int p3), .val (.int p4), .val (.int (0 : Int32)), .val (.ref a_INTEGER), .val (.ref b2), .val (.ref b5), .val (.int (1 : Int32)), .val (.int (own_min p3 p4)), .unset, .unset, .unset, .unset] [])) _
        refine XS.iloadN X17.here hx rfl (hb hby at_129) rfl ?_
        show Steps p.tables e below (T17.setTop (mkF m 130 #[.val (.int p0), .val (.int p1), .val (.int p2), .val (.int p3), .val (.int p4), .val (.int (0 : Int32)), .val (.ref a_INTEGER), .val (.ref b2), .val (.ref b5), .val (.int (1 : Int32)), .val (.int (own_min p3 p4)), .unset, .unset, .unset, .unset] [(.int p3)])) _
        refine XS.iload X17.here hx rfl (hb hby at_130) rfl ?_
        exact kt
      obtain ⟨_, _, ⟨T18, L18, k18, n18⟩, -, X18, ⟨Lc18, hQ18, l18, y18, z18⟩, st18⟩ := Jvm.LawKit.callS X17 hx (y := (⟨"java/lang/Math", "max", "(II)I"⟩ : MethodName)) hown (mvT hZ (hw _ (List.mem_of_getElem? (i := 83) rfl))) (mvT hZ (hw _ (List.mem_of_getElem? (i := 84) rfl))) (mvT hZ (hw _ (List.mem_of_getElem? (i := 81) rfl))) (mvT hZ (hw _ (List.mem_of_getElem? (i := 85) rfl))) (by decide) (backOf (W := 0) (rm14 l Z a0 hw [] p3 p4 T6.heap n0 Z6) hZ (hw _ (List.mem_of_getElem? (i := 85) rfl)) (hw _ (List.mem_of_getElem? (i := 81) rfl)) (by decide) (by decide)) (g := (mkF m 132 #[.val (.int p0), .val (.int p1), .val (.int p2), .val (.int p3), .val (.int p4), .val (.int (0 : Int32)), .val (.ref a_INTEGER), .val (.ref b2), .val (.ref b5), .val (.int (1 : Int32)), .val (.int (own_min p3 p4)), .unset, .unset, .unset, .unset] [(.int p4), (.int p3)])) rfl (by rw [hml]; rfl) (argsL := [(.int p3), (.int p4)]) (rest := []) (lenOf own_pd18 rfl) rfl (by show 2 * 0 + _ ≤ _; exact Nat.le_of_eq rfl) (hb hby at_132) (fun _ _ => ⟨rfl, eq17, (by decide : 3 + 0 ≤ _), (by decide : 6 + 0 ≤ _)⟩)
      dsimp only [Pt.U, Pt.locs, Pt.cells, Pt.slots] at X18 l18 y18 z18 st18 hQ18
      subst l18 y18 z18
      obtain ⟨rfl, Nq18, eq18⟩ := hQ18
      have N18 := Fr.app N17 Nq18
      refine own_st st18 ?_
      show own_Gl _ _ _ _ _ _ _ _ (T18.setTop (mkF m 135 #[.val (.int p0), .val (.int p1), .val (.int p2), .val (.int p3), .val (.int p4), .val (.int (0 : Int32)), .val (.ref a_INTEGER), .val (.ref b2), .val (.ref b5), .val (.int (1 : Int32)), .val (.int (own_min p3 p4)), .unset, .unset, .unset, .unset] [(.int (own_max p3 p4))]))
      refine own_st (A' := T18.setTop (mkF m 140 #[.val (.int p0), .val (.int p1), .val (.int p2), .val (.int p3), .val (.int p4), .val (.int (0 : Int32)), .val (.ref a_INTEGER), .val (.ref b2), .val (.ref b5), .val (.int (1 : Int32)), .val (.int (own_min p3 p4)), .val (.int (own_max p3 p4)), .unset, .unset, .unset] [(.double (FP.i2d (own_min p3 p4)))])) (fun tg kt => ?_) ?_
      · show Steps p.tables e below (T18.setTop (mkF m 135 #[.val (.int p0), .val (.int p1), .val (.int p2), .val (.int p3), .val (.int p4), .val (.int (0 : Int32)), .val (.ref a_INTEGER), .val (.ref b2), .val (.ref b5), .val (.int (1 : Int32)), .val (.int (own_min p3 p4)), .unset, .unset, .unset, .unset] [(.int (own_max p3 p4))])) _
        refine XS.istore X18.here hx rfl (hb hby at_135) rfl (l' := #[.val (.int p0), .val (.int p1), .val (.int p2), .val (.int p3), .val (.int p4), .val (.int (0 : Int32)), .val (.ref a_INTEGER), .val (.ref b2), .val (.ref b5), .val (.int (1 : Int32)), .val (.int (own_min p3 p4)), .val (.int (own_max p3 p4)), .unset, .unset, .unset]) rfl ?_
        show Steps p.tables e below (T18.setTop (mkF m 137 #[.val (.int p0), .val (.int p1), .val (.int p2), .val (.int p3), .val (.int p4), .val (.int (0 : Int32)), .val (.ref a_INTEGER), .val (.ref b2), .val (.ref b5), .val (.int (1 : Int32)), .val (.int (own_min p3 p4)), .val (.int (own_max p3 p4)), .unset, .unset, .unset] [])) _
        refine XS.iload X18.here hx rfl (hb hby at_137) rfl ?_
        show Steps p.tables e below (T18.setTop (mkF m 139 #[.val (.int p0), .val (.int p1), .val (.int p2), .val (.int p3), .val (.int p4), .val (.int (0 : Int32)), .val (.ref a_INTEGER), .val (.ref b2), .val (.ref b5), .val (.int (1 : Int32)), .val (.int (own_min p3 p4)), .val (.int (own_max p3 p4)), .unset, .unset, .unset] [(.int (own_min p3 p4))])) _
        refine XS.i2dS X18.here hx rfl (hb hby at_139) rfl rfl ?_
        exact kt
      obtain ⟨_, _, ⟨T19, L19, k19, n19⟩, -, X19, ⟨Lc19, hQ19, l19, y19, z19⟩, st19⟩ := Jvm.LawKit.callS X18 hx (y := (⟨"java/lang/Double", "valueOf", "(D)Ljava/lang/Double;"⟩ : MethodName)) hown (mvT hZ (hw _ (List.mem_of_getElem? (i := 86) rfl))) (mvT hZ (hw _ (List.mem_of_getElem? (i := 87) rfl))) (mvT hZ (hw _ (List.mem_of_getElem? (i := 88) rfl))) (mvT hZ (hw _ (List.mem_of_getElem? (i := 89) rfl))) (by decide) (backOf (W := 0) (rm15 l Z a0 hw [] (FP.i2d (own_min p3 p4)) T6.heap n0 Z6) hZ (hw _ (List.mem_of_getElem? (i := 89) rfl)) (hw _ (List.mem_of_getElem? (i := 88) rfl)) (by decide) (by decide)) (g := (mkF m 140 #[.val (.int p0), .val (.int p1), .val (.int p2), .val (.int p3), .val (.int p4), .val (.int (0 : Int32)), .val (.ref a_INTEGER), .val (.ref b2), .val (.ref b5), .val (.int (1 : Int32)), .val (.int (own_min p3 p4)), .val (.int (own_max p3 p4)), .unset, .unset, .unset] [(.double (FP.i2d (own_min p3 p4)))])) rfl (by rw [hml]; rfl) (argsL := [(.double (FP.i2d (own_min p3 p4)))]) (rest := []) (lenOf own_pd19 rfl) rfl (by show 2 * 0 + _ ≤ _; exact Nat.le_of_eq rfl) (hb hby at_140) (fun _ _ => ⟨rfl, eq18, (by decide : 3 + 1 ≤ _), (by decide : 6 + 1 ≤ _)⟩)
      dsimp only [Pt.U, Pt.locs, Pt.cells, Pt.slots] at X19 l19 y19 z19 st19 hQ19
      subst l19 y19 z19
      obtain ⟨dd19, rfl, Nq19, Kq19, Eq19, Fq19, ks19⟩ := hQ19
      have N19 := Fr.app N18 Nq19
      have K19 := (K6).trans Kq19 all0
      have Z19 : n0 ≤ T19.heap.size := Nat.le_trans Z6 Kq19.1
      have hk19 := Nat.le_trans hk6 Kq19.1
      refine own_st st19 ?_
      show own_Gl _ _ _ _ _ _ _ _ (T19.setTop (mkF m 143 #[.val (.int p0), .val (.int p1), .val (.int p2), .val (.int p3), .val (.int p4), .val (.int (0 : Int32)), .val (.ref a_INTEGER), .val (.ref b2), .val (.ref b5), .val (.int (1 : Int32)), .val (.int (own_min p3 p4)), .val (.int (own_max p3 p4)), .unset, .unset, .unset] [(.ref dd19)]))
      refine own_st (A' := T19.setTop (mkF m 148 #[.val (.int p0), .val (.int p1), .val (.int p2), .val (.int p3), .val (.int p4), .val (.int (0 : Int32)), .val (.ref a_INTEGER), .val (.ref b2), .val (.ref b5), .val (.int (1 : Int32)), .val (.int (own_min p3 p4)), .val (.int (own_max p3 p4)), .val (.ref dd19), .unset, .unset] [(.double (FP.i2d (own_max p3 p4)))])) (fun tg kt => ?_) ?_
      · show Steps p.tables e below (T19.setTop (mkF m 143 #[.val (.int p0), .val (.int p1), .val (.int p2), .val (.int p3), .val (.int p4), .val (.int (0 : Int32)), .val (.ref a_INTEGER), .val (.ref b2), .val (.ref b5), .val (.int (1 : Int32)), .val (.int (own_min p3 p4)), .val (.int (own_max p3 p4)), .unset, .unset, .unset] [(.ref dd19)])) _
        refine XS.astore X19.here hx rfl (hb hby at_143) rfl rfl (l' := #[.val (.int p0), .val (.int p1), .val (.int p2), .val (.int p3), .val (.int p4), .val (.int (0 : Int32)), .val (.ref a_INTEGER), .val (.ref b2), .val (.ref b5), .val (.int (1 : Int32)), .val (.int (own_min p3 p4)), .val (.int (own_max p3 p4)), .val (.ref dd19), .unset, .unset]) rfl ?_
        show Steps p.tables e below (T19.setTop (mkF m 145 #[.val (.int p0), .val (.int p1), .val (.int p2), .val (.int p3), .val (.int p4), .val (.int (0 : Int32)), .val (.ref a_INTEGER), .val (.ref b2), .val (.ref b5), .val (.int (1 : Int32)), .val (.int (own_min p3 p4)), .val (.int (own_max p3 p4)), .val (.ref dd19), .unset, .unset] [])) _
        refine XS.iload X19.here hx rfl (hb hby at_145) rfl ?_
        show Steps p.tables e below (T19.setTop (mkF m 147 #[.val (.int p0), .val (.int p1), .val (.int p2), .val (.int p3), .val (.int p4), .val (.int (0 : Int32)), .val (.ref a_INTEGER), .val (.ref b2), .val (.ref b5), .val (.int (1 : Int32)), .val (.int (own_min p3 p4)), .val (.int (own_max p3 p4)), .val (.ref dd19), .unset, .unset] [(.int (own_max p3 p4))])) _
        refine XS.i2dS X19.here hx rfl (hb hby at_147) rfl rfl ?_
        exact kt
      obtain ⟨_, _, ⟨T20, L20, k20, n20⟩, -, X20, ⟨Lc20, hQ20, l20, y20, z20⟩, st20⟩ := Jvm.LawKit.callS X19 hx (y := (⟨"java/lang/Double", "valueOf", "(D)Ljava/lang/Double;"⟩ : MethodName)) hown (mvT hZ (hw _ (List.mem_of_getElem? (i := 86) rfl))) (mvT hZ (hw _ (List.mem_of_getElem? (i := 87) rfl))) (mvT hZ (hw _ (List.mem_of_getElem? (i := 88) rfl))) (mvT hZ (hw _ (List.mem_of_getElem? (i := 89) rfl))) (by decide) (backOf (W := 0) (rm15 l Z a0 hw [] (FP.i2d (own_max p3 p4)) T19.heap n0 Z19) hZ (hw _ (List.mem_of_getElem? (i := 89) rfl)) (hw _ (List.mem_of_getElem? (i := 88) rfl)) (by decide) (by decide)) (g := (mkF m 148 #[.val (.int p0), .val (.int p1), .val (.int p2), .val (.int p3), .val (.int p4), .val (.int (0 : Int32)), .val (.ref a_INTEGER), .val (.ref b2), .val (.ref b5), .val (.int (1 : Int32)), .val (.int (own_min p3 p4)), .val (.int (own_max p3 p4)), .val (.ref dd19), .unset, .unset] [(.double (FP.i2d (own_max p3 p4)))])) rfl (by rw [hml]; rfl) (argsL := [(.double (FP.i2d (own_max p3 p4)))]) (rest := []) (lenOf own_pd19 rfl) rfl (by show 2 * 0 + _ ≤ _; exact Nat.le_of_eq rfl) (hb hby at_148) (fun _ _ => ⟨rfl, rfl, (by decide : 4 + 1 ≤ _), (by decide : 7 + 1 ≤ _)⟩)
      dsimp only [Pt.U, Pt.locs, Pt.cells, Pt.slots] at X20 l20 y20 z20 st20 hQ20
      subst l20 y20 z20
      obtain ⟨dd20, rfl, Nq20, Kq20, Eq20, Fq20, ks20⟩ := hQ20
      have N20 := Fr.app N19 Nq20
      have Fa21 := ((((V4.ext E5).keep Kq6 (ninS ne_b2_b5 nin0)).keep Kq19 nin0).keep Kq20 nin0)
      have K20 := (K19).trans Kq20 all0
      have Z20 : n0 ≤ T20.heap.size := Nat.le_trans Z19 Kq20.1
      have hk20 := Nat.le_trans hk19 Kq20.1
      refine own_st st20 ?_
      show own_Gl _ _ _ _ _ _ _ _ (T20.setTop (mkF m 151 #[.val (.int p0), .val (.int p1), .val (.int p2), .val (.int p3), .val (.int p4), .val (.int (0 : Int32)), .val (.ref a_INTEGER), .val (.ref b2), .val (.ref b5), .val (.int (1 : Int32)), .val (.int (own_min p3 p4)), .val (.int (own_max p3 p4)), .val (.ref dd19), .unset, .unset] [(.ref dd20)]))
      refine own_st (A' := T20.setTop (mkF m 153 #[.val (.int p0), .val (.int p1), .val (.int p2), .val (.int p3), .val (.int p4), .val (.int (0 : Int32)), .val (.ref a_INTEGER), .val (.ref b2), .val (.ref b5), .val (.int (1 : Int32)), .val (.int (own_min p3 p4)), .val (.int (own_max p3 p4)), .val (.ref dd19), .val (.ref dd20), .unset] [])) (fun tg kt => ?_) ?_
      · show Steps p.tables e below (T20.setTop (mkF m 151 #[.val (.int p0), .val (.int p1), .val (.int p2), .val (.int p3), .val (.int p4), .val (.int (0 : Int32)), .val (.ref a_INTEGER), .val (.ref b2), .val (.ref b5), .val (.int (1 : Int32)), .val (.int (own_min p3 p4)), .val (.int (own_max p3 p4)), .val (.ref dd19), .unset, .unset] [(.ref dd20)])) _
        refine XS.astore X20.here hx rfl (hb hby at_151) rfl rfl (l' := #[.val (.int p0), .val (.int p1), .val (.int p2), .val (.int p3), .val (.int p4), .val (.int (0 : Int32)), .val (.ref a_INTEGER), .val (.ref b2), .val (.ref b5), .val (.int (1 : Int32)), .val (.int (own_min p3 p4)), .val (.int (own_max p3 p4)), .val (.ref dd19), .val (.ref dd20), .unset]) rfl ?_
        exact kt
      obtain ⟨T22, h22, X22, e22, E22, A22, D22, -, st22⟩ := newO X20 hx hZ hown (hw _ (List.mem_of_getElem? (i := 38) rfl)) (hw _ (List.mem_of_getElem? (i := 39) rfl)) (hw _ (List.mem_of_getElem? (i := 40) rfl)) rfl (g := (mkF m 153 #[.val (.int p0), .val (.int p1), .val (.int p2), .val (.int p3), .val (.int p4), .val (.int (0 : Int32)), .val (.ref a_INTEGER), .val (.ref b2), .val (.ref b5), .val (.int (1 : Int32)), .val (.int (own_min p3 p4)), .val (.int (own_max p3 p4)), .val (.ref dd19), .val (.ref dd20), .unset] [])) rfl (hb hby at_153) (by decide) (by decide)
      obtain ⟨b22, g22⟩ : ∃ z, z = T20.heap.size := ⟨_, rfl⟩
      rw [← g22] at A22 D22 st22
      have g_b22 : n0 ≤ b22 := Nat.le_trans Z20 (Nat.le_of_eq g22.symm)
      have kw_b22 : h0.size ≤ b22 := Nat.le_trans (K20).1 (Nat.le_of_eq g22.symm)
      have ne_b2_b22 : b2 ≠ b22 := Nat.ne_of_lt (Nat.lt_of_lt_of_le Fa21.lt (Nat.le_of_eq g22.symm))
      have ne_b5_b22 : b5 ≠ b22 := Nat.ne_of_lt (Nat.lt_of_lt_of_le ((Eq6.keep Kq19).keep Kq20).lt (Nat.le_of_eq g22.symm))
      have ne_sv_b22 : sv ≠ b22 := Nat.ne_of_lt (Nat.lt_of_lt_of_le ((Aq6.keep Kq19 nin0).keep Kq20 nin0).lt (Nat.le_of_eq g22.symm))
      have ne_dd19_b22 : dd19 ≠ b22 := Nat.ne_of_lt (Nat.lt_of_lt_of_le (Eq19.keep Kq20).lt (Nat.le_of_eq g22.symm))
      have ne_dd20_b22 : dd20 ≠ b22 := Nat.ne_of_lt (Nat.lt_of_lt_of_le Eq20.lt (Nat.le_of_eq g22.symm))
      have K22 := (K20).ext E22
      have Z22 : n0 ≤ h22.size := Nat.le_trans Z20 E22.1
      have hk22 := Nat.le_trans hk20 E22.1
      have F_name_b22 : Fld Z h22 b22 "com/example/inexact_search/inexactsearch/engine/Attribute" "name" "Ljava/lang/String;" .null := D22 (Or.inr (hw _ (List.mem_of_getElem? (i := 62) rfl))) (ty := (.object "java/lang/String")) (by decide)
      have F_type_b22 : Fld Z h22 b22 "com/example/inexact_search/inexactsearch/engine/Attribute" "type" "Lcom/example/inexact_search/inexactsearch/engine/AttributeType;" .null := D22 (Or.inr (hw _ (List.mem_of_getElem? (i := 64) rfl))) (ty := (.object "com/example/inexact_search/inexactsearch/engine/AttributeType")) (by decide)
      have F_declaredMin_b22 : Fld Z h22 b22 "com/example/inexact_search/inexactsearch/engine/Attribute" "declaredMin" "Ljava/lang/Double;" .null := D22 (Or.inr (hw _ (List.mem_of_getElem? (i := 66) rfl))) (ty := (.object "java/lang/Double")) (by decide)
      have F_declaredMax_b22 : Fld Z h22 b22 "com/example/inexact_search/inexactsearch/engine/Attribute" "declaredMax" "Ljava/lang/Double;" .null := D22 (Or.inr (hw _ (List.mem_of_getElem? (i := 68) rfl))) (ty := (.object "java/lang/Double")) (by decide)
      refine own_st st22 ?_
      show own_Gl _ _ _ _ _ _ _ _ (T22.setTop (mkF m 156 #[.val (.int p0), .val (.int p1), .val (.int p2), .val (.int p3), .val (.int p4), .val (.int (0 : Int32)), .val (.ref a_INTEGER), .val (.ref b2), .val (.ref b5), .val (.int (1 : Int32)), .val (.int (own_min p3 p4)), .val (.int (own_max p3 p4)), .val (.ref dd19), .val (.ref dd20), .unset] [(.ref b22)]))
      refine own_st (A' := T22.setTop (mkF m 165 #[.val (.int p0), .val (.int p1), .val (.int p2), .val (.int p3), .val (.int p4), .val (.int (0 : Int32)), .val (.ref a_INTEGER), .val (.ref b2), .val (.ref b5), .val (.int (1 : Int32)), .val (.int (own_min p3 p4)), .val (.int (own_max p3 p4)), .val (.ref dd19), .val (.ref dd20), .unset] [(.ref dd20), (.ref dd19), (.ref a_INTEGER), (.ref b5), (.ref b22), (.ref b22)])) (fun tg kt => ?_) ?_
      · show Steps p.tables e below (T22.setTop (mkF m 156 #[.val (.int p0), .val (.int p1), .val (.int p2), .val (.int p3), .val (.int p4), .val (.int (0 : Int32)), .val (.ref a_INTEGER), .val (.ref b2), .val (.ref b5), .val (.int (1 : Int32)), .val (.int (own_min p3 p4)), .val (.int (own_max p3 p4)), .val (.ref dd19), .val (.ref dd20), .unset] [(.ref b22)])) _
        refine XS.dup X22.here hx rfl (hb hby at_156) rfl rfl ?_
        show Steps p.tables e below (T22.setTop (mkF m 157 #[.val (.int p0), .val (.int p1), .val (.int p2), .val (.int p3), .val (.int p4), .val (.int (0 : Int32)), .val (.ref a_INTEGER), .val (.ref b2), .val (.ref b5), .val (.int (1 : Int32)), .val (.int (own_min p3 p4)), .val (.int (own_max p3 p4)), .val (.ref dd19), .val (.ref dd20), .unset] [(.ref b22), (.ref b22)])) _
        refine XS.aload X22.here hx rfl (hb hby at_157) rfl rfl ?_
        show Steps p.tables e below (T22.setTop (mkF m 159 #[.val (.int p0), .val (.int p1), .val (.int p2), .val (.int p3), .val (.int p4), .val (.int (0 : Int32)), .val (.ref a_INTEGER), .val (.ref b2), .val (.ref b5), .val (.int (1 : Int32)), .val (.int (own_min p3 p4)), .val (.int (own_max p3 p4)), .val (.ref dd19), .val (.ref dd20), .unset] [(.ref b5), (.ref b22), (.ref b22)])) _
        refine XS.aload X22.here hx rfl (hb hby at_159) rfl rfl ?_
        show Steps p.tables e below (T22.setTop (mkF m 161 #[.val (.int p0), .val (.int p1), .val (.int p2), .val (.int p3), .val (.int p4), .val (.int (0 : Int32)), .val (.ref a_INTEGER), .val (.ref b2), .val (.ref b5), .val (.int (1 : Int32)), .val (.int (own_min p3 p4)), .val (.int (own_max p3 p4)), .val (.ref dd19), .val (.ref dd20), .unset] [(.ref a_INTEGER), (.ref b5), (.ref b22), (.ref b22)])) _
        refine XS.aload X22.here hx rfl (hb hby at_161) rfl rfl ?_
        show Steps p.tables e below (T22.setTop (mkF m 163 #[.val (.int p0), .val (.int p1), .val (.int p2), .val (.int p3), .val (.int p4), .val (.int (0 : Int32)), .val (.ref a_INTEGER), .val (.ref b2), .val (.ref b5), .val (.int (1 : Int32)), .val (.int (own_min p3 p4)), .val (.int (own_max p3 p4)), .val (.ref dd19), .val (.ref dd20), .unset] [(.ref dd19), (.ref a_INTEGER), (.ref b5), (.ref b22), (.ref b22)])) _
        refine XS.aload X22.here hx rfl (hb hby at_163) rfl rfl ?_
        exact kt
      obtain ⟨_, _, ⟨T23, L23, k23, n23⟩, -, X23, hSq23, hgq23, ⟨Lc23, hQ23, l23, y23, z23⟩, st23⟩ := X22.specialBackS hx (y := (⟨"com/example/inexact_search/inexactsearch/engine/Attribute", "<init>", "(Ljava/lang/String;Lcom/example/inexact_search/inexactsearch/engine/AttributeType;Ljava/lang/Double;Ljava/lang/Double;)V"⟩ : MethodName)) rfl hown (mvT hZ (hw _ (List.mem_of_getElem? (i := 78) rfl))) (mvT hZ (hw _ (List.mem_of_getElem? (i := 45) rfl))) (mvT hZ (hw _ (List.mem_of_getElem? (i := 46) rfl))) (by decide) (backOfS (W := 1) (rm9d l Z a0 hw [] b22 b5 a_INTEGER dd19 dd20 sv skb ([((nar .char ((p1 &&& (255 : Int32)).toUInt32.toUInt16.toUInt32.toInt32))).toInt8.toInt32].map Value.int) a_INTEGER a_DECIMAL (FP.i2d (own_min p3 p4)) (FP.i2d (own_max p3 p4)) h22 n0 Z22 F_name_b22 F_type_b22 F_declaredMin_b22 F_declaredMax_b22 A22 g_b22 (((Eq6.keep Kq19).keep Kq20).ext E22) (((Vq6.keep Kq19 nin0).keep Kq20 nin0).ext E22) (((Aq6.keep Kq19 nin0).keep Kq20 nin0).ext E22) ne_b5_b22 ne_sv_b22 (S_INTEGER.ext (own_kext K22)) (S_DECIMAL.ext (own_kext K22)) (E_INTEGER.ext (own_kext K22)) (if_pos rfl) ((Eq19.keep Kq20).ext E22) ((Fq19.keep Kq20 nin0).ext E22) (Eq20.ext E22) (Fq20.ext E22) ne_dd19_b22 ne_dd20_b22 (Nat.ne_of_lt (Nat.lt_of_lt_of_le E_INTEGER.lt kw_b22)) (own_fin _) (own_fin _) (own_le _ _)) hZ (hw _ (List.mem_of_getElem? (i := 46) rfl)) (hw _ (List.mem_of_getElem? (i := 40) rfl)) (by decide) (by decide)) (g := (mkF m 165 #[.val (.int p0), .val (.int p1), .val (.int p2), .val (.int p3), .val (.int p4), .val (.int (0 : Int32)), .val (.ref a_INTEGER), .val (.ref b2), .val (.ref b5), .val (.int (1 : Int32)), .val (.int (own_min p3 p4)), .val (.int (own_max p3 p4)), .val (.ref dd19), .val (.ref dd20), .unset] [(.ref dd20), (.ref dd19), (.ref a_INTEGER), (.ref b5), (.ref b22), (.ref b22)])) rfl (by rw [hml]; rfl) (Steps.refl _) (a := b22) (argsL := [(.ref b5), (.ref a_INTEGER), (.ref dd19), (.ref dd20)]) (rest := [(.ref b22)]) (lenOf own_pd14 rfl) rfl (by show 2 * 0 + _ ≤ _; exact Nat.le_of_eq rfl) (hb hby at_165) (fun _ _ => ⟨rfl, e22, (by decide : 6 + 4 ≤ _), (by decide : 12 + 40 ≤ _)⟩)
      dsimp only [Pt.U, Pt.locs, Pt.cells, Pt.slots] at X23 l23 y23 z23 st23 hQ23 hSq23 hgq23
      subst l23 y23 z23
      replace X23 : Stand p l e _ (s.setVm T23.vm) m _ below meth c T23 _ _ _ := X23
      have hS23 : s.Since T23.vm T23.heap.size := hS0.trans hSq23 (Nat.le_trans hk22 (by rw [← e22]; exact hgq23))
      have hZ23 : Z.Warmed39 (s.setVm T23.vm).vm := State.Warmed39.trans (t := (s.setVm s.vm)) hZ hSq23.1
      have hown23 : (s.setVm T23.vm).vm.findClass "com/example/inexact_search/inexactsearch/engine/AttributeHasDeclaredRangePinLaw" = some m.cls := by rw [show (s.setVm T23.vm).vm = T23.vm from rfl, hSq23.1.alike.findClass]; exact hown
      have hk23 : T23.heap.size ≤ T23.heap.size := Nat.le_refl _
      obtain ⟨rfl, Nq23, Kq23, Eq23, Fq23, Gq23⟩ := hQ23
      have N23 := Fr.app N20 Nq23
      have Fa24 := ((((Vq6.keep Kq19 nin0).keep Kq20 nin0).ext E22).keep Kq23 (ninS ne_b5_b22 nin0))
      have Fa25 := ((((Aq6.keep Kq19 nin0).keep Kq20 nin0).ext E22).keep Kq23 (ninS ne_sv_b22 nin0))
      have Fa26 := (((Fq19.keep Kq20 nin0).ext E22).keep Kq23 (ninS ne_dd19_b22 nin0))
      have K23 := (K22).trans Kq23 (allS (Or.inr kw_b22) all0)
      have Z23 : n0 ≤ T23.heap.size := Nat.le_trans Z22 Kq23.1
      refine own_tr st23 ?_
      show own_Gl _ _ _ _ _ _ _ _ (T23.setTop (mkF m 168 #[.val (.int p0), .val (.int p1), .val (.int p2), .val (.int p3), .val (.int p4), .val (.int (0 : Int32)), .val (.ref a_INTEGER), .val (.ref b2), .val (.ref b5), .val (.int (1 : Int32)), .val (.int (own_min p3 p4)), .val (.int (own_max p3 p4)), .val (.ref dd19), .val (.ref dd20), .unset] [(.ref b22)]))
      refine own_st (A' := T23.setTop (mkF m 172 #[.val (.int p0), .val (.int p1), .val (.int p2), .val (.int p3), .val (.int p4), .val (.int (0 : Int32)), .val (.ref a_INTEGER), .val (.ref b2), .val (.ref b5), .val (.int (1 : Int32)), .val (.int (own_min p3 p4)), .val (.int (own_max p3 p4)), .val (.ref dd19), .val (.ref dd20), .val (.ref b22)] [(.ref b22)])) (fun tg kt => ?_) ?_
      · show Steps p.tables e below (T23.setTop (mkF m 168 #[.val (.int p0), .val (.int p1), .val (.int p2), .val (.int p3), .val (.int p4), .val (.int (0 : Int32)), .val (.ref a_INTEGER), .val (.ref b2), .val (.ref b5), .val (.int (1 : Int32)), .val (.int (own_min p3 p4)), .val (.int (own_max p3 p4)), .val (.ref dd19), .val (.ref dd20), .unset] [(.ref b22)])) _
        refine XS.astore X23.here hx rfl (hb hby at_168) rfl rfl (l' := #[.val (.int p0), .val (.int p1), .val (.int p2), .val (.int p3), .val (.int p4), .val (.int (0 : Int32)), .val (.ref a_INTEGER), .val (.ref b2), .val (.ref b5), .val (.int (1 : Int32)), .val (.int (own_min p3 p4)), .val (.int (own_max p3 p4)), .val (.ref dd19), .val (.ref dd20), .val (.ref b22)]) rfl ?_
        show Steps p.tables e below (T23.setTop (mkF m 170 #[.val (.int p0), .val (.int p1), .val (.int p2), .val (.int p3), .val (.int p4), .val (.int (0 : Int32)), .val (.ref a_INTEGER), .val (.ref b2), .val (.ref b5), .val (.int (1 : Int32)), .val (.int (own_min p3 p4)), .val (.int (own_max p3 p4)), .val (.ref dd19), .val (.ref dd20), .val (.ref b22)] [])) _
        refine XS.aload X23.here hx rfl (hb hby at_170) rfl rfl ?_
        exact kt
      obtain ⟨cq27, kq27, q27a, q27b, q27c⟩ := isOf hZ23 rfl Eq23
      obtain ⟨_, _, ⟨T27, L27, k27, n27⟩, -, X27, ⟨Lc27, hQ27, l27, y27, z27⟩, st27⟩ := X23.virtualBack hx (y := (⟨"com/example/inexact_search/inexactsearch/engine/Attribute", "hasDeclaredRange", "()Z"⟩ : MethodName)) (z := (⟨"com/example/inexact_search/inexactsearch/engine/Attribute", "hasDeclaredRange", "()Z"⟩ : MethodName)) hown23 (mvT hZ23 (hw _ (List.mem_of_getElem? (i := 69) rfl))) (mvT hZ23 (hw _ (List.mem_of_getElem? (i := 70) rfl))) (notFace_of_selects (args := #[]) (mvT hZ23 (hw _ (List.mem_of_getElem? (i := 72) rfl)))) (mvT hZ23 (hw _ (List.mem_of_getElem? (i := 72) rfl))) (mvT hZ23 (hw _ (List.mem_of_getElem? (i := 71) rfl))) (by decide) (backOf (W := 0) (rm12d l Z a0 hw [] b22 dd19 T23.heap n0 Z23 Fq23) hZ23 (hw _ (List.mem_of_getElem? (i := 73) rfl)) (hw _ (List.mem_of_getElem? (i := 40) rfl)) (by decide) (by decide)) q27a q27c (g := (mkF m 172 #[.val (.int p0), .val (.int p1), .val (.int p2), .val (.int p3), .val (.int p4), .val (.int (0 : Int32)), .val (.ref a_INTEGER), .val (.ref b2), .val (.ref b5), .val (.int (1 : Int32)), .val (.int (own_min p3 p4)), .val (.int (own_max p3 p4)), .val (.ref dd19), .val (.ref dd20), .val (.ref b22)] [(.ref b22)])) rfl (by rw [hml]; rfl) (Steps.refl _) (argsL := []) (rest := []) (lenOf own_pd10 rfl) rfl (by show 2 * 0 + _ ≤ _; exact Nat.le_of_eq rfl) (hb hby at_172) (fun _ _ => ⟨rfl, rfl, (by decide : 10 + 0 ≤ _), (by decide : 52 + 0 ≤ _)⟩)
      dsimp only [Pt.U, Pt.locs, Pt.cells, Pt.slots] at X27 l27 y27 z27 st27 hQ27
      subst l27 y27 z27
      obtain ⟨rfl, Nq27, eq27⟩ := hQ27
      have N27 := Fr.app N23 Nq27
      refine own_tr st27 ?_
      show own_Gl _ _ _ _ _ _ _ _ (T27.setTop (mkF m 175 #[.val (.int p0), .val (.int p1), .val (.int p2), .val (.int p3), .val (.int p4), .val (.int (0 : Int32)), .val (.ref a_INTEGER), .val (.ref b2), .val (.ref b5), .val (.int (1 : Int32)), .val (.int (own_min p3 p4)), .val (.int (own_max p3 p4)), .val (.ref dd19), .val (.ref dd20), .val (.ref b22)] [(.int (1 : Int32))]))
      refine own_st (A' := T27.setTop (mkF m 180 #[.val (.int p0), .val (.int p1), .val (.int p2), .val (.int p3), .val (.int p4), .val (.int (0 : Int32)), .val (.ref a_INTEGER), .val (.ref b2), .val (.ref b5), .val (.int (1 : Int32)), .val (.int (own_min p3 p4)), .val (.int (own_max p3 p4)), .val (.ref dd19), .val (.ref dd20), .val (.ref b22)] [(.ref b22)])) (fun tg kt => ?_) ?_
      · show Steps p.tables e below (T27.setTop (mkF m 175 #[.val (.int p0), .val (.int p1), .val (.int p2), .val (.int p3), .val (.int p4), .val (.int (0 : Int32)), .val (.ref a_INTEGER), .val (.ref b2), .val (.ref b5), .val (.int (1 : Int32)), .val (.int (own_min p3 p4)), .val (.int (own_max p3 p4)), .val (.ref dd19), .val (.ref dd20), .val (.ref b22)] [(.int (1 : Int32))])) _
        refine XS.ifNo X27.here hx rfl (hb hby at_175) rfl ((if0 _ _).trans (feq ((by decide) : ¬ ((1 : Int32) = (0 : Int32)))).1) ?_
        show Steps p.tables e below (T27.setTop (mkF m 178 #[.val (.int p0), .val (.int p1), .val (.int p2), .val (.int p3), .val (.int p4), .val (.int (0 : Int32)), .val (.ref a_INTEGER), .val (.ref b2), .val (.ref b5), .val (.int (1 : Int32)), .val (.int (own_min p3 p4)), .val (.int (own_max p3 p4)), .val (.ref dd19), .val (.ref dd20), .val (.ref b22)] [])) _
        refine XS.aload X27.here hx rfl (hb hby at_178) rfl rfl ?_
        exact kt
      obtain ⟨cq28, kq28, q28a, q28b, q28c⟩ := isOf hZ23 eq27 Eq23
      obtain ⟨_, _, ⟨T28, L28, k28, n28⟩, -, X28, ⟨Lc28, hQ28, l28, y28, z28⟩, st28⟩ := X27.virtualBack hx (y := (⟨"com/example/inexact_search/inexactsearch/engine/Attribute", "declaredMin", "()D"⟩ : MethodName)) (z := (⟨"com/example/inexact_search/inexactsearch/engine/Attribute", "declaredMin", "()D"⟩ : MethodName)) hown23 (mvT hZ23 (hw _ (List.mem_of_getElem? (i := 123) rfl))) (mvT hZ23 (hw _ (List.mem_of_getElem? (i := 124) rfl))) (notFace_of_selects (args := #[]) (mvT hZ23 (hw _ (List.mem_of_getElem? (i := 126) rfl)))) (mvT hZ23 (hw _ (List.mem_of_getElem? (i := 126) rfl))) (mvT hZ23 (hw _ (List.mem_of_getElem? (i := 125) rfl))) (by decide) (backOf (W := 0) (rm22 l Z a0 hw [] b22 dd19 dd20 (FP.i2d (own_min p3 p4)) T23.heap n0 Z23 Fq23 Gq23 Eq23 (((Eq19.keep Kq20).ext E22).keep Kq23) Fa26) hZ23 (hw _ (List.mem_of_getElem? (i := 127) rfl)) (hw _ (List.mem_of_getElem? (i := 40) rfl)) (by decide) (by decide)) q28a q28c (g := (mkF m 180 #[.val (.int p0), .val (.int p1), .val (.int p2), .val (.int p3), .val (.int p4), .val (.int (0 : Int32)), .val (.ref a_INTEGER), .val (.ref b2), .val (.ref b5), .val (.int (1 : Int32)), .val (.int (own_min p3 p4)), .val (.int (own_max p3 p4)), .val (.ref dd19), .val (.ref dd20), .val (.ref b22)] [(.ref b22)])) rfl (by rw [hml]; rfl) (Steps.refl _) (argsL := []) (rest := []) (lenOf own_pd12 rfl) rfl (by show 2 * 0 + _ ≤ _; exact Nat.le_of_eq rfl) (hb hby at_180) (fun _ _ => ⟨rfl, eq27, (by decide : 10 + 0 ≤ _), (by decide : 52 + 0 ≤ _)⟩)
      dsimp only [Pt.U, Pt.locs, Pt.cells, Pt.slots] at X28 l28 y28 z28 st28 hQ28
      subst l28 y28 z28
      obtain ⟨rfl, Nq28, eq28⟩ := hQ28
      have N28 := Fr.app N27 Nq28
      refine own_tr st28 ?_
      show own_Gl _ _ _ _ _ _ _ _ (T28.setTop (mkF m 183 #[.val (.int p0), .val (.int p1), .val (.int p2), .val (.int p3), .val (.int p4), .val (.int (0 : Int32)), .val (.ref a_INTEGER), .val (.ref b2), .val (.ref b5), .val (.int (1 : Int32)), .val (.int (own_min p3 p4)), .val (.int (own_max p3 p4)), .val (.ref dd19), .val (.ref dd20), .val (.ref b22)] [(.double (FP.i2d (own_min p3 p4)))]))
      refine own_st (A' := T28.setTop (mkF m 192 #[.val (.int p0), .val (.int p1), .val (.int p2), .val (.int p3), .val (.int p4), .val (.int (0 : Int32)), .val (.ref a_INTEGER), .val (.ref b2), .val (.ref b5), .val (.int (1 : Int32)), .val (.int (own_min p3 p4)), .val (.int (own_max p3 p4)), .val (.ref dd19), .val (.ref dd20), .val (.ref b22)] [(.ref b22)])) (fun tg kt => ?_) ?_
      · show Steps p.tables e below (T28.setTop (mkF m 183 #[.val (.int p0), .val (.int p1), .val (.int p2), .val (.int p3), .val (.int p4), .val (.int (0 : Int32)), .val (.ref a_INTEGER), .val (.ref b2), .val (.ref b5), .val (.int (1 : Int32)), .val (.int (own_min p3 p4)), .val (.int (own_max p3 p4)), .val (.ref dd19), .val (.ref dd20), .val (.ref b22)] [(.double (FP.i2d (own_min p3 p4)))])) _
        refine XS.iload X28.here hx rfl (hb hby at_183) rfl ?_
        show Steps p.tables e below (T28.setTop (mkF m 185 #[.val (.int p0), .val (.int p1), .val (.int p2), .val (.int p3), .val (.int p4), .val (.int (0 : Int32)), .val (.ref a_INTEGER), .val (.ref b2), .val (.ref b5), .val (.int (1 : Int32)), .val (.int (own_min p3 p4)), .val (.int (own_max p3 p4)), .val (.ref dd19), .val (.ref dd20), .val (.ref b22)] [(.int (own_min p3 p4)), (.double (FP.i2d (own_min p3 p4)))])) _
        refine XS.i2dS X28.here hx rfl (hb hby at_185) rfl rfl ?_
        show Steps p.tables e below (T28.setTop (mkF m 186 #[.val (.int p0), .val (.int p1), .val (.int p2), .val (.int p3), .val (.int p4), .val (.int (0 : Int32)), .val (.ref a_INTEGER), .val (.ref b2), .val (.ref b5), .val (.int (1 : Int32)), .val (.int (own_min p3 p4)), .val (.int (own_max p3 p4)), .val (.ref dd19), .val (.ref dd20), .val (.ref b22)] [(.double (FP.i2d (own_min p3 p4))), (.double (FP.i2d (own_min p3 p4)))])) _
        refine XS.dcmpS X28.here hx rfl (hb hby at_186) rfl rfl ?_
        show Steps p.tables e below (T28.setTop (mkF m 187 #[.val (.int p0), .val (.int p1), .val (.int p2), .val (.int p3), .val (.int p4), .val (.int (0 : Int32)), .val (.ref a_INTEGER), .val (.ref b2), .val (.ref b5), .val (.int (1 : Int32)), .val (.int (own_min p3 p4)), .val (.int (own_max p3 p4)), .val (.ref dd19), .val (.ref dd20), .val (.ref b22)] [(.int (cmpValue (FP.dcmp (FP.i2d (own_min p3 p4)) (FP.i2d (own_min p3 p4))) .l))])) _
        refine XS.ifNo X28.here hx rfl (hb hby at_187) rfl ((if0 _ _).trans (teq (dcmpV_self (own_fin _).noNaN .l : (cmpValue (FP.dcmp (FP.i2d (own_min p3 p4)) (FP.i2d (own_min p3 p4))) .l) = (0 : Int32))).2) ?_
        show Steps p.tables e below (T28.setTop (mkF m 190 #[.val (.int p0), .val (.int p1), .val (.int p2), .val (.int p3), .val (.int p4), .val (.int (0 : Int32)), .val (.ref a_INTEGER), .val (.ref b2), .val (.ref b5), .val (.int (1 : Int32)), .val (.int (own_min p3 p4)), .val (.int (own_max p3 p4)), .val (.ref dd19), .val (.ref dd20), .val (.ref b22)] [])) _
        refine XS.aload X28.here hx rfl (hb hby at_190) rfl rfl ?_
        exact kt
      obtain ⟨cq29, kq29, q29a, q29b, q29c⟩ := isOf hZ23 eq28 Eq23
      obtain ⟨_, _, ⟨T29, L29, k29, n29⟩, -, X29, ⟨Lc29, hQ29, l29, y29, z29⟩, st29⟩ := X28.virtualBack hx (y := (⟨"com/example/inexact_search/inexactsearch/engine/Attribute", "declaredMax", "()D"⟩ : MethodName)) (z := (⟨"com/example/inexact_search/inexactsearch/engine/Attribute", "declaredMax", "()D"⟩ : MethodName)) hown23 (mvT hZ23 (hw _ (List.mem_of_getElem? (i := 133) rfl))) (mvT hZ23 (hw _ (List.mem_of_getElem? (i := 134) rfl))) (notFace_of_selects (args := #[]) (mvT hZ23 (hw _ (List.mem_of_getElem? (i := 136) rfl)))) (mvT hZ23 (hw _ (List.mem_of_getElem? (i := 136) rfl))) (mvT hZ23 (hw _ (List.mem_of_getElem? (i := 135) rfl))) (by decide) (backOf (W := 0) (rm24 l Z a0 hw [] b22 dd19 dd20 (FP.i2d (own_max p3 p4)) T23.heap n0 Z23 Fq23 Gq23 Eq23 ((Eq20.ext E22).keep Kq23) ((Fq20.ext E22).keep Kq23 (ninS ne_dd20_b22 nin0))) hZ23 (hw _ (List.mem_of_getElem? (i := 137) rfl)) (hw _ (List.mem_of_getElem? (i := 40) rfl)) (by decide) (by decide)) q29a q29c (g := (mkF m 192 #[.val (.int p0), .val (.int p1), .val (.int p2), .val (.int p3), .val (.int p4), .val (.int (0 : Int32)), .val (.ref a_INTEGER), .val (.ref b2), .val (.ref b5), .val (.int (1 : Int32)), .val (.int (own_min p3 p4)), .val (.int (own_max p3 p4)), .val (.ref dd19), .val (.ref dd20), .val (.ref b22)] [(.ref b22)])) rfl (by rw [hml]; rfl) (Steps.refl _) (argsL := []) (rest := []) (lenOf own_pd12 rfl) rfl (by show 2 * 0 + _ ≤ _; exact Nat.le_of_eq rfl) (hb hby at_192) (fun _ _ => ⟨rfl, eq28, (by decide : 10 + 0 ≤ _), (by decide : 52 + 0 ≤ _)⟩)
      dsimp only [Pt.U, Pt.locs, Pt.cells, Pt.slots] at X29 l29 y29 z29 st29 hQ29
      subst l29 y29 z29
      obtain ⟨rfl, Nq29, eq29⟩ := hQ29
      have N29 := Fr.app N28 Nq29
      refine own_tr st29 ?_
      show own_Gl _ _ _ _ _ _ _ _ (T29.setTop (mkF m 195 #[.val (.int p0), .val (.int p1), .val (.int p2), .val (.int p3), .val (.int p4), .val (.int (0 : Int32)), .val (.ref a_INTEGER), .val (.ref b2), .val (.ref b5), .val (.int (1 : Int32)), .val (.int (own_min p3 p4)), .val (.int (own_max p3 p4)), .val (.ref dd19), .val (.ref dd20), .val (.ref b22)] [(.double (FP.i2d (own_max p3 p4)))]))
      refine own_st (A' := T29.setTop (mkF m 207 #[.val (.int p0), .val (.int p1), .val (.int p2), .val (.int p3), .val (.int p4), .val (.int (0 : Int32)), .val (.ref a_INTEGER), .val (.ref b2), .val (.ref b5), .val (.int (1 : Int32)), .val (.int (own_min p3 p4)), .val (.int (own_max p3 p4)), .val (.ref dd19), .val (.ref dd20), .val (.ref b22)] [(.int (1 : Int32))])) (fun tg kt => ?_) ?_
      · show Steps p.tables e below (T29.setTop (mkF m 195 #[.val (.int p0), .val (.int p1), .val (.int p2), .val (.int p3), .val (.int p4), .val (.int (0 : Int32)), .val (.ref a_INTEGER), .val (.ref b2), .val (.ref b5), .val (.int (1 : Int32)), .val (.int (own_min p3 p4)), .val (.int (own_max p3 p4)), .val (.ref dd19), .val (.ref dd20), .val (.ref b22)] [(.double (FP.i2d (own_max p3 p4)))])) _
        refine XS.iload X29.here hx rfl (hb hby at_195) rfl ?_
        show Steps p.tables e below (T29.setTop (mkF m 197 #[.val (.int p0), .val (.int p1), .val (.int p2), .val (.int p3), .val (.int p4), .val (.int (0 : Int32)), .val (.ref a_INTEGER), .val (.ref b2), .val (.ref b5), .val (.int (1 : Int32)), .val (.int (own_min p3 p4)), .val (.int (own_max p3 p4)), .val (.ref dd19), .val (.ref dd20), .val (.ref b22)] [(.int (own_max p3 p4)), (.double (FP.i2d (own_max p3 p4)))])) _
        refine XS.i2dS X29.here hx rfl (hb hby at_197) rfl rfl ?_
        show Steps p.tables e below (T29.setTop (mkF m 198 #[.val (.int p0), .val (.int p1), .val (.int p2), .val (.int p3), .val (.int p4), .val (.int (0 : Int32)), .val (.ref a_INTEGER), .val (.ref b2), .val (.ref b5), .val (.int (1 : Int32)), .val (.int (own_min p3 p4)), .val (.int (own_max p3 p4)), .val (.ref dd19), .val (.ref dd20), .val (.ref b22)] [(.double (FP.i2d (own_max p3 p4))), (.double (FP.i2d (own_max p3 p4)))])) _
        refine XS.dcmpS X29.here hx rfl (hb hby at_198) rfl rfl ?_
        show Steps p.tables e below (T29.setTop (mkF m 199 #[.val (.int p0), .val (.int p1), .val (.int p2), .val (.int p3), .val (.int p4), .val (.int (0 : Int32)), .val (.ref a_INTEGER), .val (.ref b2), .val (.ref b5), .val (.int (1 : Int32)), .val (.int (own_min p3 p4)), .val (.int (own_max p3 p4)), .val (.ref dd19), .val (.ref dd20), .val (.ref b22)] [(.int (cmpValue (FP.dcmp (FP.i2d (own_max p3 p4)) (FP.i2d (own_max p3 p4))) .l))])) _
        refine XS.ifNo X29.here hx rfl (hb hby at_199) rfl ((if0 _ _).trans (teq (dcmpV_self (own_fin _).noNaN .l : (cmpValue (FP.dcmp (FP.i2d (own_max p3 p4)) (FP.i2d (own_max p3 p4))) .l) = (0 : Int32))).2) ?_
        show Steps p.tables e below (T29.setTop (mkF m 202 #[.val (.int p0), .val (.int p1), .val (.int p2), .val (.int p3), .val (.int p4), .val (.int (0 : Int32)), .val (.ref a_INTEGER), .val (.ref b2), .val (.ref b5), .val (.int (1 : Int32)), .val (.int (own_min p3 p4)), .val (.int (own_max p3 p4)), .val (.ref dd19), .val (.ref dd20), .val (.ref b22)] [])) _
        refine XS.iconst X29.here hx rfl (hb hby at_202) ?_
        show Steps p.tables e below (T29.setTop (mkF m 203 #[.val (.int p0), .val (.int p1), .val (.int p2), .val (.int p3), .val (.int p4), .val (.int (0 : Int32)), .val (.ref a_INTEGER), .val (.ref b2), .val (.ref b5), .val (.int (1 : Int32)), .val (.int (own_min p3 p4)), .val (.int (own_max p3 p4)), .val (.ref dd19), .val (.ref dd20), .val (.ref b22)] [(.int (1 : Int32))])) _
        refine XS.goto X29.here hx rfl (pc0 := 203) (pc' := 207) rfl (hb hby at_203) (by decide) (by decide) ?_
        exact kt
      refine own_retW X29 hS23 (by rw [eq29]; exact hk23) (v := some (.int (1 : Int32))) (fun h => by rw [Bd.returns] at h; cases h) hlk (by decide) (by decide) ?_ (fun fs hr => ?_)
      · show Q0 Z p0 p1 p2 p3 p4 a_INTEGER a_DECIMAL a_STRING a_BOOLEAN a_STRINGS cs h0 n0 (some (.int (1 : Int32))) T29.heap _
        rw [eq29]
        exact ⟨rfl, N29⟩
      · show Steps p.tables e below (T29.setTop (mkF m 207 #[.val (.int p0), .val (.int p1), .val (.int p2), .val (.int p3), .val (.int p4), .val (.int (0 : Int32)), .val (.ref a_INTEGER), .val (.ref b2), .val (.ref b5), .val (.int (1 : Int32)), .val (.int (own_min p3 p4)), .val (.int (own_max p3 p4)), .val (.ref dd19), .val (.ref dd20), .val (.ref b22)] [(.int (1 : Int32))])) _
        exact retN X29 hx (t := .boolean) Bd.returns (by simp) (hb hby at_207) hr
  · show own_Gl _ _ _ _ _ _ _ _ (s₁.setTop (mkF m 6 #[.val (.int p0), .val (.int p1), .val (.int p2), .val (.int p3), .val (.int p4), .unset, .unset, .unset, .unset, .unset, .unset, .unset, .unset, .unset, .unset] [(.int (1 : Int32))]))
    refine own_st (A' := s₁.setTop (mkF m 10 #[.val (.int p0), .val (.int p1), .val (.int p2), .val (.int p3), .val (.int p4), .val (.int (1 : Int32)), .unset, .unset, .unset, .unset, .unset, .unset, .unset, .unset, .unset] [(.int (1 : Int32))])) (fun tg kt => ?_) ?_
    · show Steps p.tables e below (s₁.setTop (mkF m 6 #[.val (.int p0), .val (.int p1), .val (.int p2), .val (.int p3), .val (.int p4), .unset, .unset, .unset, .unset, .unset, .unset, .unset, .unset, .unset, .unset] [(.int (1 : Int32))])) _
      refine XS.istore X0.here hx rfl (hb hby at_6) rfl (l' := #[.val (.int p0), .val (.int p1), .val (.int p2), .val (.int p3), .val (.int p4), .val (.int (1 : Int32)), .unset, .unset, .unset, .unset, .unset, .unset, .unset, .unset, .unset]) rfl ?_
      show Steps p.tables e below (s₁.setTop (mkF m 8 #[.val (.int p0), .val (.int p1), .val (.int p2), .val (.int p3), .val (.int p4), .val (.int (1 : Int32)), .unset, .unset, .unset, .unset, .unset, .unset, .unset, .unset, .unset] [])) _
      refine XS.iload X0.here hx rfl (hb hby at_8) rfl ?_
      exact kt
    obtain ⟨_, _, ⟨T30, L30, k30, n30⟩, -, X30, ⟨Lc30, hQ30, l30, y30, z30⟩, st30⟩ := Jvm.LawKit.callS X0 hx (y := (⟨"com/example/inexact_search/inexactsearch/engine/AttributeHasDeclaredRangePinLaw", "typeOf", "(I)Lcom/example/inexact_search/inexactsearch/engine/AttributeType;"⟩ : MethodName)) hown (mvT hZ (hw _ (List.mem_of_getElem? (i := 1) rfl))) (mvT hZ (hw _ (List.mem_of_getElem? (i := 2) rfl))) (mvT hZ (hw _ (List.mem_of_getElem? (i := 3) rfl))) (mvT hZ (hw _ (List.mem_of_getElem? (i := 4) rfl))) (by decide) (backOf (W := 0) (rm1 l Z a0 hw [] (1 : Int32) a_INTEGER a_DECIMAL a_STRING a_BOOLEAN a_STRINGS h0 n0 Z0 S_INTEGER S_DECIMAL S_STRING S_BOOLEAN S_STRINGS) hZ (hw _ (List.mem_of_getElem? (i := 4) rfl)) (hw _ (List.mem_of_getElem? (i := 3) rfl)) (by decide) (by decide)) (g := (mkF m 10 #[.val (.int p0), .val (.int p1), .val (.int p2), .val (.int p3), .val (.int p4), .val (.int (1 : Int32)), .unset, .unset, .unset, .unset, .unset, .unset, .unset, .unset, .unset] [(.int (1 : Int32))])) rfl (by rw [hml]; rfl) (argsL := [(.int (1 : Int32))]) (rest := []) (lenOf own_pd15 rfl) rfl (by show 2 * 0 + _ ≤ _; exact Nat.le_of_eq rfl) (hb hby at_10) (fun _ _ => ⟨rfl, e0, (by decide : 0 + 0 ≤ _), (by decide : 0 + 0 ≤ _)⟩)
    dsimp only [Pt.U, Pt.locs, Pt.cells, Pt.slots] at X30 l30 y30 z30 st30 hQ30
    subst l30 y30 z30
    obtain ⟨hv30, hr30⟩ := hQ30
    rw [show own_pick1 (1 : Int32) a_INTEGER a_DECIMAL a_STRING a_BOOLEAN a_STRINGS = a_DECIMAL from rfl] at hv30
    have hQ30 := And.intro hv30 hr30
    obtain ⟨rfl, Nq30, eq30⟩ := hQ30
    have N30 := Fr.app N0 Nq30
    refine own_st st30 ?_
    show own_Gl _ _ _ _ _ _ _ _ (T30.setTop (mkF m 13 #[.val (.int p0), .val (.int p1), .val (.int p2), .val (.int p3), .val (.int p4), .val (.int (1 : Int32)), .unset, .unset, .unset, .unset, .unset, .unset, .unset, .unset, .unset] [(.ref a_DECIMAL)]))
    refine own_st (A' := T30.setTop (mkF m 16 #[.val (.int p0), .val (.int p1), .val (.int p2), .val (.int p3), .val (.int p4), .val (.int (1 : Int32)), .val (.ref a_DECIMAL), .unset, .unset, .unset, .unset, .unset, .unset, .unset, .unset] [(.int (1 : Int32))])) (fun tg kt => ?_) ?_
    · show Steps p.tables e below (T30.setTop (mkF m 13 #[.val (.int p0), .val (.int p1), .val (.int p2), .val (.int p3), .val (.int p4), .val (.int (1 : Int32)), .unset, .unset, .unset, .unset, .unset, .unset, .unset, .unset, .unset] [(.ref a_DECIMAL)])) _
      refine XS.astore X30.here hx rfl (hb hby at_13) rfl rfl (l' := #[.val (.int p0), .val (.int p1), .val (.int p2), .val (.int p3), .val (.int p4), .val (.int (1 : Int32)), .val (.ref a_DECIMAL), .unset, .unset, .unset, .unset, .unset, .unset, .unset, .unset]) rfl ?_
      show Steps p.tables e below (T30.setTop (mkF m 15 #[.val (.int p0), .val (.int p1), .val (.int p2), .val (.int p3), .val (.int p4), .val (.int (1 : Int32)), .val (.ref a_DECIMAL), .unset, .unset, .unset, .unset, .unset, .unset, .unset, .unset] [])) _
      refine XS.iconst X30.here hx rfl (hb hby at_15) ?_
      exact kt
    obtain ⟨T31, h31, k31, X31, e31, E31, A31, st31⟩ := newP X30 hx hZ (hw _ (List.mem_of_getElem? (i := 8) rfl)) eq30 (g := (mkF m 16 #[.val (.int p0), .val (.int p1), .val (.int p2), .val (.int p3), .val (.int p4), .val (.int (1 : Int32)), .val (.ref a_DECIMAL), .unset, .unset, .unset, .unset, .unset, .unset, .unset, .unset] [(.int (1 : Int32))])) rfl (hb hby at_16) rfl (by decide) (cap := 1) (by decide) (by decide) (by decide) (by decide)
    obtain ⟨b31, g31⟩ : ∃ z, z = h0.size := ⟨_, rfl⟩
    rw [← g31] at A31 st31
    have g_b31 : n0 ≤ b31 := Nat.le_trans Z0 (Nat.le_of_eq g31.symm)
    have kw_b31 : h0.size ≤ b31 := Nat.le_trans ((Keep.refl h0 ([] : List Addr))).1 (Nat.le_of_eq g31.symm)
    have K31 := ((Keep.refl h0 ([] : List Addr))).ext E31
    have Z31 : n0 ≤ h31.size := Nat.le_trans Z0 E31.1
    have hk31 := Nat.le_trans hk0 E31.1
    have V_b31 : Arv Z h31 b31 k31 .char (1 : Int32) [(.int (0 : Int32))] (.int (0 : Int32)) := (Arv.new A31 (by decide)).pad (pad_rep [] (.int (0 : Int32)) 1)
    refine own_st st31 ?_
    show own_Gl _ _ _ _ _ _ _ _ (T31.setTop (mkF m 18 #[.val (.int p0), .val (.int p1), .val (.int p2), .val (.int p3), .val (.int p4), .val (.int (1 : Int32)), .val (.ref a_DECIMAL), .unset, .unset, .unset, .unset, .unset, .unset, .unset, .unset] [(.ref b31)]))
    refine own_st (A' := T31.setTop (mkF m 29 #[.val (.int p0), .val (.int p1), .val (.int p2), .val (.int p3), .val (.int p4), .val (.int (1 : Int32)), .val (.ref a_DECIMAL), .val (.ref b31), .unset, .unset, .unset, .unset, .unset, .unset, .unset] [(.int ((p1 &&& (255 : Int32)).toUInt32.toUInt16.toUInt32.toInt32)), (.int (0 : Int32)), (.ref b31)])) (fun tg kt => ?_) ?_
    · show Steps p.tables e below (T31.setTop (mkF m 18 #[.val (.int p0), .val (.int p1), .val (.int p2), .val (.int p3), .val (.int p4), .val (.int (1 : Int32)), .val (.ref a_DECIMAL), .unset, .unset, .unset, .unset, .unset, .unset, .unset, .unset] [(.ref b31)])) _
      refine XS.astore X31.here hx rfl (hb hby at_18) rfl rfl (l' := #[.val (.int p0), .val (.int p1), .val (.int p2), .val (.int p3), .val (.int p4), .val (.int (1 : Int32)), .val (.ref a_DECIMAL), .val (.ref b31), .unset, .unset, .unset, .unset, .unset, .unset, .unset]) rfl ?_
      show Steps p.tables e below (T31.setTop (mkF m 20 #[.val (.int p0), .val (.int p1), .val (.int p2), .val (.int p3), .val (.int p4), .val (.int (1 : Int32)), .val (.ref a_DECIMAL), .val (.ref b31), .unset, .unset, .unset, .unset, .unset, .unset, .unset] [])) _
      refine XS.aload X31.here hx rfl (hb hby at_20) rfl rfl ?_
      show Steps p.tables e below (T31.setTop (mkF m 22 #[.val (.int p0), .val (.int p1), .val (.int p2), .val (.int p3), .val (.int p4), .val (.int (1 : Int32)), .val (.ref a_DECIMAL), .val (.ref b31), .unset, .unset, .unset, .unset, .unset, .unset, .unset] [(.ref b31)])) _
      refine XS.iconst X31.here hx rfl (hb hby at_22) ?_
      show Steps p.tables e below (T31.setTop (mkF m 23 #[.val (.int p0), .val (.int p1), .val (.int p2), .val (.int p3), .val (.int p4), .val (.int (1 : Int32)), .val (.ref a_DECIMAL), .val (.ref b31), .unset, .unset, .unset, .unset, .unset, .unset, .unset] [(.int (0 : Int32)), (.ref b31)])) _
      refine XS.iloadN X31.here hx rfl (hb hby at_23) rfl ?_
      show Steps p.tables e below (T31.setTop (mkF m 24 #[.val (.int p0), .val (.int p1), .val (.int p2), .val (.int p3), .val (.int p4), .val (.int (1 : Int32)), .val (.ref a_DECIMAL), .val (.ref b31), .unset, .unset, .unset, .unset, .unset, .unset, .unset] [(.int p1), (.int (0 : Int32)), (.ref b31)])) _
      refine XS.sipush X31.here hx rfl (hb hby at_24) ?_
      show Steps p.tables e below (T31.setTop (mkF m 27 #[.val (.int p0), .val (.int p1), .val (.int p2), .val (.int p3), .val (.int p4), .val (.int (1 : Int32)), .val (.ref a_DECIMAL), .val (.ref b31), .unset, .unset, .unset, .unset, .unset, .unset, .unset] [(.int (255 : Int32)), (.int p1), (.int (0 : Int32)), (.ref b31)])) _
      refine XS.iand X31.here hx rfl (hb hby at_27) rfl ?_
      show Steps p.tables e below (T31.setTop (mkF m 28 #[.val (.int p0), .val (.int p1), .val (.int p2), .val (.int p3), .val (.int p4), .val (.int (1 : Int32)), .val (.ref a_DECIMAL), .val (.ref b31), .unset, .unset, .unset, .unset, .unset, .unset, .unset] [(.int (p1 &&& (255 : Int32))), (.int (0 : Int32)), (.ref b31)])) _
      refine XS.i2c X31.here hx rfl (hb hby at_28) rfl ?_
      exact kt
    have Vt32 := V_b31
    obtain ⟨cl32, Ar32, qk32, Sz32, Nn32, Hs32, Gs32⟩ := Vt32
    have hin32 := inb_of (j := (0 : Int32)) Sz32 ⟨by decide, by decide⟩
    obtain ⟨T33, h33, X33, e33, W33, st33⟩ := stC X31 hx hZ e31 Ar32 (j := (0 : Int32)) hin32 (g := (mkF m 29 #[.val (.int p0), .val (.int p1), .val (.int p2), .val (.int p3), .val (.int p4), .val (.int (1 : Int32)), .val (.ref a_DECIMAL), .val (.ref b31), .unset, .unset, .unset, .unset, .unset, .unset, .unset] [(.int ((p1 &&& (255 : Int32)).toUInt32.toUInt16.toUInt32.toInt32)), (.int (0 : Int32)), (.ref b31)])) rfl rfl (hb hby at_29)
    have N33 := Fr.snoc X33 N30 g_b31
    have K33 := (K31).wr W33 (Or.inr kw_b31)
    have Z33 : n0 ≤ h33.size := Nat.le_trans Z31 (Keep.of_wr W33).1
    have hk33 := Nat.le_trans hk31 (Keep.of_wr W33).1
    have V33 : Arv Z h33 b31 k31 .char (1 : Int32) [(.int (nar .char ((p1 &&& (255 : Int32)).toUInt32.toUInt16.toUInt32.toInt32)))] (.int (0 : Int32)) := Arv.set Ar32 qk32 Sz32 Nn32 Hs32 Gs32 (fits_nar_char _) W33 0 rfl (Nat.le_of_ble_eq_true rfl)
    refine own_st st33 ?_
    show own_Gl _ _ _ _ _ _ _ _ (T33.setTop (mkF m 30 #[.val (.int p0), .val (.int p1), .val (.int p2), .val (.int p3), .val (.int p4), .val (.int (1 : Int32)), .val (.ref a_DECIMAL), .val (.ref b31), .unset, .unset, .unset, .unset, .unset, .unset, .unset] []))
    obtain ⟨T34, h34, X34, e34, E34, A34, D34, -, st34⟩ := newO X33 hx hZ hown (hw _ (List.mem_of_getElem? (i := 9) rfl)) (hw _ (List.mem_of_getElem? (i := 10) rfl)) (hw _ (List.mem_of_getElem? (i := 11) rfl)) e33 (g := (mkF m 30 #[.val (.int p0), .val (.int p1), .val (.int p2), .val (.int p3), .val (.int p4), .val (.int (1 : Int32)), .val (.ref a_DECIMAL), .val (.ref b31), .unset, .unset, .unset, .unset, .unset, .unset, .unset] [])) rfl (hb hby at_30) (by decide) (by decide)
    obtain ⟨b34, g34⟩ : ∃ z, z = h33.size := ⟨_, rfl⟩
    rw [← g34] at A34 D34 st34
    have g_b34 : n0 ≤ b34 := Nat.le_trans Z33 (Nat.le_of_eq g34.symm)
    have kw_b34 : h0.size ≤ b34 := Nat.le_trans (K33).1 (Nat.le_of_eq g34.symm)
    have ne_b31_b34 : b31 ≠ b34 := Nat.ne_of_lt (Nat.lt_of_lt_of_le V33.lt (Nat.le_of_eq g34.symm))
    have K34 := (K33).ext E34
    have Z34 : n0 ≤ h34.size := Nat.le_trans Z33 E34.1
    have hk34 := Nat.le_trans hk33 E34.1
    have F_coder_b34 : Fld Z h34 b34 "java/lang/String" "coder" "B" (.int (0 : Int32)) := D34 (Or.inr (hw _ (List.mem_of_getElem? (i := 35) rfl))) (ty := .byte) (by decide)
    have F_value_b34 : Fld Z h34 b34 "java/lang/String" "value" "[B" .null := D34 (Or.inr (hw _ (List.mem_of_getElem? (i := 37) rfl))) (ty := (.array .byte)) (by decide)
    refine own_st st34 ?_
    show own_Gl _ _ _ _ _ _ _ _ (T34.setTop (mkF m 33 #[.val (.int p0), .val (.int p1), .val (.int p2), .val (.int p3), .val (.int p4), .val (.int (1 : Int32)), .val (.ref a_DECIMAL), .val (.ref b31), .unset, .unset, .unset, .unset, .unset, .unset, .unset] [(.ref b34)]))
    refine own_st (A' := T34.setTop (mkF m 36 #[.val (.int p0), .val (.int p1), .val (.int p2), .val (.int p3), .val (.int p4), .val (.int (1 : Int32)), .val (.ref a_DECIMAL), .val (.ref b31), .unset, .unset, .unset, .unset, .unset, .unset, .unset] [(.ref b31), (.ref b34), (.ref b34)])) (fun tg kt => ?_) ?_
    · show Steps p.tables e below (T34.setTop (mkF m 33 #[.val (.int p0), .val (.int p1), .val (.int p2), .val (.int p3), .val (.int p4), .val (.int (1 : Int32)), .val (.ref a_DECIMAL), .val (.ref b31), .unset, .unset, .unset, .unset, .unset, .unset, .unset] [(.ref b34)])) _
      refine XS.dup X34.here hx rfl (hb hby at_33) rfl rfl ?_
      show Steps p.tables e below (T34.setTop (mkF m 34 #[.val (.int p0), .val (.int p1), .val (.int p2), .val (.int p3), .val (.int p4), .val (.int (1 : Int32)), .val (.ref a_DECIMAL), .val (.ref b31), .unset, .unset, .unset, .unset, .unset, .unset, .unset] [(.ref b34), (.ref b34)])) _
      refine XS.aload X34.here hx rfl (hb hby at_34) rfl rfl ?_
      exact kt
    have hlat : ∀ c ∈ [(nar .char ((p1 &&& (255 : Int32)).toUInt32.toUInt16.toUInt32.toInt32))], ¬ c < 0 ∧ ¬ (255 : Int32) < c := own_lat p1
    obtain ⟨_, _, ⟨T35, L35, k35, n35⟩, -, X35, ⟨Lc35, hQ35, l35, y35, z35⟩, st35⟩ := X34.specialBack hx (y := (⟨"java/lang/String", "<init>", "([C)V"⟩ : MethodName)) rfl hown (mvT hZ (hw _ (List.mem_of_getElem? (i := 12) rfl))) (mvT hZ (hw _ (List.mem_of_getElem? (i := 13) rfl))) (mvT hZ (hw _ (List.mem_of_getElem? (i := 14) rfl))) (by decide) (StrChars.Road.backV (W := 1) hZ (own_sw hw) (kI := 4) (hw _ (List.mem_of_getElem? (i := 10) rfl)) (cs := [(nar .char ((p1 &&& (255 : Int32)).toUInt32.toUInt16.toUInt32.toInt32))]) (bs := [((nar .char ((p1 &&& (255 : Int32)).toUInt32.toUInt16.toUInt32.toInt32))).toInt8.toInt32]) (n := 1) g_b34 Z34 A34 F_value_b34 F_coder_b34 (V33.ext E34) (S_cs.ext (own_kext K34)) hcs rfl rfl (by decide) (by decide) hlat rfl (by decide) (by decide)) (g := (mkF m 36 #[.val (.int p0), .val (.int p1), .val (.int p2), .val (.int p3), .val (.int p4), .val (.int (1 : Int32)), .val (.ref a_DECIMAL), .val (.ref b31), .unset, .unset, .unset, .unset, .unset, .unset, .unset] [(.ref b31), (.ref b34), (.ref b34)])) rfl (by rw [hml]; rfl) (Steps.refl _) (a := b34) (argsL := [(.ref b31)]) (rest := [(.ref b34)]) (lenOf own_pd16 rfl) rfl (by show 2 * 0 + _ ≤ _; exact Nat.le_of_eq rfl) (hb hby at_36) (fun _ _ => ⟨rfl, e34, (by decide : 2 + 1 ≤ _), (by decide : 5 + 1 ≤ _)⟩)
    dsimp only [Pt.U, Pt.locs, Pt.cells, Pt.slots] at X35 l35 y35 z35 st35 hQ35
    subst l35 y35 z35
    obtain ⟨rfl, Nq35, Kq35, Eq35, Cq35, sv, skb, hn35, hs35, hne35, Vq35, Aq35⟩ := hQ35
    have N35 := Fr.app N33 Nq35
    have K35 := (K34).trans Kq35 (allS (Or.inr kw_b34) all0)
    have Z35 : n0 ≤ T35.heap.size := Nat.le_trans Z34 Kq35.1
    have hk35 := Nat.le_trans hk34 Kq35.1
    refine own_tr st35 ?_
    show own_Gl _ _ _ _ _ _ _ _ (T35.setTop (mkF m 39 #[.val (.int p0), .val (.int p1), .val (.int p2), .val (.int p3), .val (.int p4), .val (.int (1 : Int32)), .val (.ref a_DECIMAL), .val (.ref b31), .unset, .unset, .unset, .unset, .unset, .unset, .unset] [(.ref b34)]))
    refine own_st (A' := T35.setTop (mkF m 44 #[.val (.int p0), .val (.int p1), .val (.int p2), .val (.int p3), .val (.int p4), .val (.int (1 : Int32)), .val (.ref a_DECIMAL), .val (.ref b31), .val (.ref b34), .unset, .unset, .unset, .unset, .unset, .unset] [(.int (p2 &&& (1 : Int32)))])) (fun tg kt => ?_) ?_
    · show Steps p.tables e below (T35.setTop (mkF m 39 #[.val (.int p0), .val (.int p1), .val (.int p2), .val (.int p3), .val (.int p4), .val (.int (1 : Int32)), .val (.ref a_DECIMAL), .val (.ref b31), .unset, .unset, .unset, .unset, .unset, .unset, .unset] [(.ref b34)])) _
      refine XS.astore X35.here hx rfl (hb hby at_39) rfl rfl (l' := #[.val (.int p0), .val (.int p1), .val (.int p2), .val (.int p3), .val (.int p4), .val (.int (1 : Int32)), .val (.ref a_DECIMAL), .val (.ref b31), .val (.ref b34), .unset, .unset, .unset, .unset, .unset, .unset]) rfl ?_
      show Steps p.tables e below (T35.setTop (mkF m 41 #[.val (.int p0), .val (.int p1), .val (.int p2), .val (.int p3), .val (.int p4), .val (.int (1 : Int32)), .val (.ref a_DECIMAL), .val (.ref b31), .val (.ref b34), .unset, .unset, .unset, .unset, .unset, .unset] [])) _
      refine XS.iloadN X35.here hx rfl (hb hby at_41) rfl ?_
      show Steps p.tables e below (T35.setTop (mkF m 42 #[.val (.int p0), .val (.int p1), .val (.int p2), .val (.int p3), .val (.int p4), .val (.int (1 : Int32)), .val (.ref a_DECIMAL), .val (.ref b31), .val (.ref b34), .unset, .unset, .unset, .unset, .unset, .unset] [(.int p2)])) _
      refine XS.iconst X35.here hx rfl (hb hby at_42) ?_
      show Steps p.tables e below (T35.setTop (mkF m 43 #[.val (.int p0), .val (.int p1), .val (.int p2), .val (.int p3), .val (.int p4), .val (.int (1 : Int32)), .val (.ref a_DECIMAL), .val (.ref b31), .val (.ref b34), .unset, .unset, .unset, .unset, .unset, .unset] [(.int (1 : Int32)), (.int p2)])) _
      refine XS.iand X35.here hx rfl (hb hby at_43) rfl ?_
      exact kt
    by_cases hc44_36 : (p2 &&& (1 : Int32)) = (0 : Int32)
    · refine own_st (A' := T35.setTop (mkF m 68 #[.val (.int p0), .val (.int p1), .val (.int p2), .val (.int p3), .val (.int p4), .val (.int (1 : Int32)), .val (.ref a_DECIMAL), .val (.ref b31), .val (.ref b34), .val (.int (0 : Int32)), .unset, .unset, .unset, .unset, .unset] [(.int (p2 &&& (2 : Int32)))])) (fun tg kt => ?_) ?_
      · show Steps p.tables e below (T35.setTop (mkF m 44 #[.val (.int p0), .val (.int p1), .val (.int p2), .val (.int p3), .val (.int p4), .val (.int (1 : Int32)), .val (.ref a_DECIMAL), .val (.ref b31), .val (.ref b34), .unset, .unset, .unset, .unset, .unset, .unset] [(.int (p2 &&& (1 : Int32)))])) _
        refine XS.ifYes X35.here hx rfl (pc0 := 44) (pc' := 57) rfl (hb hby at_44) rfl ((if0 _ _).trans (teq hc44_36).1) (by decide) (by decide) ?_
        show Steps p.tables e below (T35.setTop (mkF m 57 #[.val (.int p0), .val (.int p1), .val (.int p2), .val (.int p3), .val (.int p4), .val (.int (1 : Int32)), .val (.ref a_DECIMAL), .val (.ref b31), .val (.ref b34), .unset, .unset, .unset, .unset, .unset, .unset] [])) _
        refine XS.iconst X35.here hx rfl (hb hby at_57) ?_
        show Steps p.tables e below (T35.setTop (mkF m 58 #[.val (.int p0), .val (.int p1), .val (.int p2), .val (.int p3), .val (.int p4), .val (.int (1 : Int32)), .val (.ref a_DECIMAL), .val (.ref b31), .val (.ref b34), .unset, .unset, .unset, .unset, .unset, .unset] [(.int (0 : Int32))])) _
        refine XS.istore X35.here hx rfl (hb hby at_58) rfl (l' := #[.val (.int p0), .val (.int p1), .val (.int p2), .val (.int p3), .val (.int p4), .val (.int (1 : Int32)), .val (.ref a_DECIMAL), .val (.ref b31), .val (.ref b34), .val (.int (0 : Int32)), .unset, .unset, .unset, .unset, .unset]) rfl ?_
        show Steps p.tables e below (T35.setTop (mkF m 60 #[.val (.int p0), .val (.int p1), .val (.int p2), .val (.int p3), .val (.int p4), .val (.int (1 : Int32)), .val (.ref a_DECIMAL), .val (.ref b31), .val (.ref b34), .val (.int (0 : Int32)), .unset, .unset, .unset, .unset, .unset] [])) _
        refine XS.iload X35.here hx rfl (hb hby at_60) rfl ?_
        show Steps p.tables e below (T35.setTop (mkF m 62 #[.val (.int p0), .val (.int p1), .val (.int p2), .val (.int p3), .val (.int p4), .val (.int (1 : Int32)), .val (.ref a_DECIMAL), .val (.ref b31), .val (.ref b34), .val (.int (0 : Int32)), .unset, .unset, .unset, .unset, .unset] [(.int (0 : Int32))])) _
        refine XS.ifNo X35.here hx rfl (hb hby at_62) rfl ((if0 _ _).trans (teq ((by decide) : (0 : Int32) = (0 : Int32))).2) ?_
        show Steps p.tables e below (T35.setTop (mkF m 65 #[.val (.int p0), .val (.int p1), .val (.int p2), .val (.int p3), .val (.int p4), .val (.int (1 : Int32)), .val (.ref a_DECIMAL), .val (.ref b31), .val (.ref b34), .val (.int (0 : Int32)), .unset, .unset, .unset, .unset, .unset] [])) _
        refine XS.iloadN X35.here hx rfl (hb hby at_65) rfl ?_
        show Steps p.tables e below (T35.setTop (mkF m 66 #[.val (.int p0), .val (.int p1), .val (.int p2), .val (.int p3), .val (.int p4), .val (.int (1 : Int32)), .val (.ref a_DECIMAL), .val (.ref b31), .val (.ref b34), .val (.int (0 : Int32)), .unset, .unset, .unset, .unset, .unset] [(.int p2)])) _
        refine XS.iconst X35.here hx rfl (hb hby at_66) ?_
        show Steps p.tables e below (T35.setTop (mkF m 67 #[.val (.int p0), .val (.int p1), .val (.int p2), .val (.int p3), .val (.int p4), .val (.int (1 : Int32)), .val (.ref a_DECIMAL), .val (.ref b31), .val (.ref b34), .val (.int (0 : Int32)), .unset, .unset, .unset, .unset, .unset] [(.int (2 : Int32)), (.int p2)])) _
        refine XS.iand X35.here hx rfl (hb hby at_67) rfl ?_
        exact kt
      by_cases hc68_37 : (p2 &&& (2 : Int32)) = (0 : Int32)
      · refine own_st (A' := T35.setTop (mkF m 90 #[.val (.int p0), .val (.int p1), .val (.int p2), .val (.int p3), .val (.int p4), .val (.int (1 : Int32)), .val (.ref a_DECIMAL), .val (.ref b31), .val (.ref b34), .val (.int (0 : Int32)), .unset, .val .null, .unset, .unset, .unset] [])) (fun tg kt => ?_) ?_
        · show Steps p.tables e below (T35.setTop (mkF m 68 #[.val (.int p0), .val (.int p1), .val (.int p2), .val (.int p3), .val (.int p4), .val (.int (1 : Int32)), .val (.ref a_DECIMAL), .val (.ref b31), .val (.ref b34), .val (.int (0 : Int32)), .unset, .unset, .unset, .unset, .unset] [(.int (p2 &&& (2 : Int32)))])) _
          refine XS.ifYes X35.here hx rfl (pc0 := 68) (pc' := 87) rfl (hb hby at_68) rfl ((if0 _ _).trans (teq hc68_37).1) (by decide) (by decide) ?_
          show Steps p.tables e below (T35.setTop (mkF m 87 #[.val (.int p0), .val (.int p1), .val (.int p2), .val (.int p3), .val (.int p4), .val (.int (1 : Int32)), .val (.ref a_DECIMAL), .val (.ref b31), .val (.ref b34), .val (.int (0 : Int32)), .unset, .unset, .unset, .unset, .unset] [])) _
          refine XS.aconstNull X35.here hx rfl (hb hby at_87) ?_
          show Steps p.tables e below (T35.setTop (mkF m 88 #[.val (.int p0), .val (.int p1), .val (.int p2), .val (.int p3), .val (.int p4), .val (.int (1 : Int32)), .val (.ref a_DECIMAL), .val (.ref b31), .val (.ref b34), .val (.int (0 : Int32)), .unset, .unset, .unset, .unset, .unset] [.null])) _
          refine XS.astore X35.here hx rfl (hb hby at_88) rfl rfl (l' := #[.val (.int p0), .val (.int p1), .val (.int p2), .val (.int p3), .val (.int p4), .val (.int (1 : Int32)), .val (.ref a_DECIMAL), .val (.ref b31), .val (.ref b34), .val (.int (0 : Int32)), .unset, .val .null, .unset, .unset, .unset]) rfl ?_
          exact kt
        obtain ⟨T38, h38, X38, e38, E38, A38, D38, -, st38⟩ := newO X35 hx hZ hown (hw _ (List.mem_of_getElem? (i := 38) rfl)) (hw _ (List.mem_of_getElem? (i := 39) rfl)) (hw _ (List.mem_of_getElem? (i := 40) rfl)) rfl (g := (mkF m 90 #[.val (.int p0), .val (.int p1), .val (.int p2), .val (.int p3), .val (.int p4), .val (.int (1 : Int32)), .val (.ref a_DECIMAL), .val (.ref b31), .val (.ref b34), .val (.int (0 : Int32)), .unset, .val .null, .unset, .unset, .unset] [])) rfl (hb hby at_90) (by decide) (by decide)
        obtain ⟨b38, g38⟩ : ∃ z, z = T35.heap.size := ⟨_, rfl⟩
        rw [← g38] at A38 D38 st38
        have g_b38 : n0 ≤ b38 := Nat.le_trans Z35 (Nat.le_of_eq g38.symm)
        have kw_b38 : h0.size ≤ b38 := Nat.le_trans (K35).1 (Nat.le_of_eq g38.symm)
        have ne_b31_b38 : b31 ≠ b38 := Nat.ne_of_lt (Nat.lt_of_lt_of_le ((V33.ext E34).keep Kq35 (ninS ne_b31_b34 nin0)).lt (Nat.le_of_eq g38.symm))
        have ne_b34_b38 : b34 ≠ b38 := Nat.ne_of_lt (Nat.lt_of_lt_of_le Eq35.lt (Nat.le_of_eq g38.symm))
        have ne_sv_b38 : sv ≠ b38 := Nat.ne_of_lt (Nat.lt_of_lt_of_le Aq35.lt (Nat.le_of_eq g38.symm))
        have K38 := (K35).ext E38
        have Z38 : n0 ≤ h38.size := Nat.le_trans Z35 E38.1
        have hk38 := Nat.le_trans hk35 E38.1
        have F_name_b38 : Fld Z h38 b38 "com/example/inexact_search/inexactsearch/engine/Attribute" "name" "Ljava/lang/String;" .null := D38 (Or.inr (hw _ (List.mem_of_getElem? (i := 62) rfl))) (ty := (.object "java/lang/String")) (by decide)
        have F_type_b38 : Fld Z h38 b38 "com/example/inexact_search/inexactsearch/engine/Attribute" "type" "Lcom/example/inexact_search/inexactsearch/engine/AttributeType;" .null := D38 (Or.inr (hw _ (List.mem_of_getElem? (i := 64) rfl))) (ty := (.object "com/example/inexact_search/inexactsearch/engine/AttributeType")) (by decide)
        have F_declaredMin_b38 : Fld Z h38 b38 "com/example/inexact_search/inexactsearch/engine/Attribute" "declaredMin" "Ljava/lang/Double;" .null := D38 (Or.inr (hw _ (List.mem_of_getElem? (i := 66) rfl))) (ty := (.object "java/lang/Double")) (by decide)
        have F_declaredMax_b38 : Fld Z h38 b38 "com/example/inexact_search/inexactsearch/engine/Attribute" "declaredMax" "Ljava/lang/Double;" .null := D38 (Or.inr (hw _ (List.mem_of_getElem? (i := 68) rfl))) (ty := (.object "java/lang/Double")) (by decide)
        refine own_st st38 ?_
        show own_Gl _ _ _ _ _ _ _ _ (T38.setTop (mkF m 93 #[.val (.int p0), .val (.int p1), .val (.int p2), .val (.int p3), .val (.int p4), .val (.int (1 : Int32)), .val (.ref a_DECIMAL), .val (.ref b31), .val (.ref b34), .val (.int (0 : Int32)), .unset, .val .null, .unset, .unset, .unset] [(.ref b38)]))
        refine own_st (A' := T38.setTop (mkF m 102 #[.val (.int p0), .val (.int p1), .val (.int p2), .val (.int p3), .val (.int p4), .val (.int (1 : Int32)), .val (.ref a_DECIMAL), .val (.ref b31), .val (.ref b34), .val (.int (0 : Int32)), .unset, .val .null, .unset, .unset, .unset] [.null, .null, (.ref a_DECIMAL), (.ref b34), (.ref b38), (.ref b38)])) (fun tg kt => ?_) ?_
        · show Steps p.tables e below (T38.setTop (mkF m 93 #[.val (.int p0), .val (.int p1), .val (.int p2), .val (.int p3), .val (.int p4), .val (.int (1 : Int32)), .val (.ref a_DECIMAL), .val (.ref b31), .val (.ref b34), .val (.int (0 : Int32)), .unset, .val .null, .unset, .unset, .unset] [(.ref b38)])) _
          refine XS.dup X38.here hx rfl (hb hby at_93) rfl rfl ?_
          show Steps p.tables e below (T38.setTop (mkF m 94 #[.val (.int p0), .val (.int p1), .val (.int p2), .val (.int p3), .val (.int p4), .val (.int (1 : Int32)), .val (.ref a_DECIMAL), .val (.ref b31), .val (.ref b34), .val (.int (0 : Int32)), .unset, .val .null, .unset, .unset, .unset] [(.ref b38), (.ref b38)])) _
          refine XS.aload X38.here hx rfl (hb hby at_94) rfl rfl ?_
          show Steps p.tables e below (T38.setTop (mkF m 96 #[.val (.int p0), .val (.int p1), .val (.int p2), .val (.int p3), .val (.int p4), .val (.int (1 : Int32)), .val (.ref a_DECIMAL), .val (.ref b31), .val (.ref b34), .val (.int (0 : Int32)), .unset, .val .null, .unset, .unset, .unset] [(.ref b34), (.ref b38), (.ref b38)])) _
          refine XS.aload X38.here hx rfl (hb hby at_96) rfl rfl ?_
          show Steps p.tables e below (T38.setTop (mkF m 98 #[.val (.int p0), .val (.int p1), .val (.int p2), .val (.int p3), .val (.int p4), .val (.int (1 : Int32)), .val (.ref a_DECIMAL), .val (.ref b31), .val (.ref b34), .val (.int (0 : Int32)), .unset, .val .null, .unset, .unset, .unset] [(.ref a_DECIMAL), (.ref b34), (.ref b38), (.ref b38)])) _
          refine XS.aload X38.here hx rfl (hb hby at_98) rfl rfl ?_
          show Steps p.tables e below (T38.setTop (mkF m 100 #[.val (.int p0), .val (.int p1), .val (.int p2), .val (.int p3), .val (.int p4), .val (.int (1 : Int32)), .val (.ref a_DECIMAL), .val (.ref b31), .val (.ref b34), .val (.int (0 : Int32)), .unset, .val .null, .unset, .unset, .unset] [.null, (.ref a_DECIMAL), (.ref b34), (.ref b38), (.ref b38)])) _
          refine XS.aload X38.here hx rfl (hb hby at_100) rfl rfl ?_
          exact kt
        obtain ⟨_, _, ⟨T39, L39, k39, n39⟩, -, X39, hSq39, hgq39, ⟨Lc39, hQ39, l39, y39, z39⟩, st39⟩ := X38.specialBackS hx (y := (⟨"com/example/inexact_search/inexactsearch/engine/Attribute", "<init>", "(Ljava/lang/String;Lcom/example/inexact_search/inexactsearch/engine/AttributeType;Ljava/lang/Double;Ljava/lang/Double;)V"⟩ : MethodName)) rfl hown (mvT hZ (hw _ (List.mem_of_getElem? (i := 78) rfl))) (mvT hZ (hw _ (List.mem_of_getElem? (i := 45) rfl))) (mvT hZ (hw _ (List.mem_of_getElem? (i := 46) rfl))) (by decide) (backOfS (W := 1) (rm9n l Z a0 hw [] b38 b34 a_DECIMAL sv skb ([((nar .char ((p1 &&& (255 : Int32)).toUInt32.toUInt16.toUInt32.toInt32))).toInt8.toInt32].map Value.int) h38 n0 Z38 F_name_b38 F_type_b38 F_declaredMin_b38 F_declaredMax_b38 A38 g_b38 (Eq35.ext E38) (Vq35.ext E38) (Aq35.ext E38) ne_b34_b38 ne_sv_b38) hZ (hw _ (List.mem_of_getElem? (i := 46) rfl)) (hw _ (List.mem_of_getElem? (i := 40) rfl)) (by decide) (by decide)) (g := (mkF m 102 #[.val (.int p0), .val (.int p1), .val (.int p2), .val (.int p3), .val (.int p4), .val (.int (1 : Int32)), .val (.ref a_DECIMAL), .val (.ref b31), .val (.ref b34), .val (.int (0 : Int32)), .unset, .val .null, .unset, .unset, .unset] [.null, .null, (.ref a_DECIMAL), (.ref b34), (.ref b38), (.ref b38)])) rfl (by rw [hml]; rfl) (Steps.refl _) (a := b38) (argsL := [(.ref b34), (.ref a_DECIMAL), .null, .null]) (rest := [(.ref b38)]) (lenOf own_pd14 rfl) rfl (by show 2 * 0 + _ ≤ _; exact Nat.le_of_eq rfl) (hb hby at_102) (fun _ _ => ⟨rfl, e38, (by decide : 4 + 4 ≤ _), (by decide : 10 + 40 ≤ _)⟩)
        dsimp only [Pt.U, Pt.locs, Pt.cells, Pt.slots] at X39 l39 y39 z39 st39 hQ39 hSq39 hgq39
        subst l39 y39 z39
        replace X39 : Stand p l e _ (s.setVm T39.vm) m _ below meth c T39 _ _ _ := X39
        have hS39 : s.Since T39.vm T39.heap.size := hS0.trans hSq39 (Nat.le_trans hk38 (by rw [← e38]; exact hgq39))
        have hZ39 : Z.Warmed39 (s.setVm T39.vm).vm := State.Warmed39.trans (t := (s.setVm s.vm)) hZ hSq39.1
        have hown39 : (s.setVm T39.vm).vm.findClass "com/example/inexact_search/inexactsearch/engine/AttributeHasDeclaredRangePinLaw" = some m.cls := by rw [show (s.setVm T39.vm).vm = T39.vm from rfl, hSq39.1.alike.findClass]; exact hown
        have hk39 : T39.heap.size ≤ T39.heap.size := Nat.le_refl _
        obtain ⟨rfl, Nq39, Kq39, Eq39, Fq39⟩ := hQ39
        have N39 := Fr.app N35 Nq39
        have Fa40 := ((((V33.ext E34).keep Kq35 (ninS ne_b31_b34 nin0)).ext E38).keep Kq39 (ninS ne_b31_b38 nin0))
        have K39 := (K38).trans Kq39 (allS (Or.inr kw_b38) all0)
        have Z39 : n0 ≤ T39.heap.size := Nat.le_trans Z38 Kq39.1
        refine own_tr st39 ?_
        show own_Gl _ _ _ _ _ _ _ _ (T39.setTop (mkF m 105 #[.val (.int p0), .val (.int p1), .val (.int p2), .val (.int p3), .val (.int p4), .val (.int (1 : Int32)), .val (.ref a_DECIMAL), .val (.ref b31), .val (.ref b34), .val (.int (0 : Int32)), .unset, .val .null, .unset, .unset, .unset] [(.ref b38)]))
        refine own_st (A' := T39.setTop (mkF m 109 #[.val (.int p0), .val (.int p1), .val (.int p2), .val (.int p3), .val (.int p4), .val (.int (1 : Int32)), .val (.ref a_DECIMAL), .val (.ref b31), .val (.ref b34), .val (.int (0 : Int32)), .val (.ref b38), .val .null, .unset, .unset, .unset] [(.ref b38)])) (fun tg kt => ?_) ?_
        · show Steps p.tables e below (T39.setTop (mkF m 105 #[.val (.int p0), .val (.int p1), .val (.int p2), .val (.int p3), .val (.int p4), .val (.int (1 : Int32)), .val (.ref a_DECIMAL), .val (.ref b31), .val (.ref b34), .val (.int (0 : Int32)), .unset, .val .null, .unset, .unset, .unset] [(.ref b38)])) _
          refine XS.astore X39.here hx rfl (hb hby at_105) rfl rfl (l' := #[.val (.int p0), .val (.int p1), .val (.int p2), .val (.int p3), .val (.int p4), .val (.int (1 : Int32)), .val (.ref a_DECIMAL), .val (.ref b31), .val (.ref b34), .val (.int (0 : Int32)), .val (.ref b38), .val .null, .unset, .unset, .unset]) rfl ?_
          show Steps p.tables e below (T39.setTop (mkF m 107 #[.val (.int p0), .val (.int p1), .val (.int p2), .val (.int p3), .val (.int p4), .val (.int (1 : Int32)), .val (.ref a_DECIMAL), .val (.ref b31), .val (.ref b34), .val (.int (0 : Int32)), .val (.ref b38), .val .null, .unset, .unset, .unset] [])) _
          refine XS.aload X39.here hx rfl (hb hby at_107) rfl rfl ?_
          exact kt
        obtain ⟨cq41, kq41, q41a, q41b, q41c⟩ := isOf hZ39 rfl Eq39
        obtain ⟨_, _, ⟨T41, L41, k41, n41⟩, -, X41, ⟨Lc41, hQ41, l41, y41, z41⟩, st41⟩ := X39.virtualBack hx (y := (⟨"com/example/inexact_search/inexactsearch/engine/Attribute", "hasDeclaredRange", "()Z"⟩ : MethodName)) (z := (⟨"com/example/inexact_search/inexactsearch/engine/Attribute", "hasDeclaredRange", "()Z"⟩ : MethodName)) hown39 (mvT hZ39 (hw _ (List.mem_of_getElem? (i := 69) rfl))) (mvT hZ39 (hw _ (List.mem_of_getElem? (i := 70) rfl))) (notFace_of_selects (args := #[]) (mvT hZ39 (hw _ (List.mem_of_getElem? (i := 72) rfl)))) (mvT hZ39 (hw _ (List.mem_of_getElem? (i := 72) rfl))) (mvT hZ39 (hw _ (List.mem_of_getElem? (i := 71) rfl))) (by decide) (backOf (W := 0) (rm12n l Z a0 hw [] b38 T39.heap n0 Z39 Fq39) hZ39 (hw _ (List.mem_of_getElem? (i := 73) rfl)) (hw _ (List.mem_of_getElem? (i := 40) rfl)) (by decide) (by decide)) q41a q41c (g := (mkF m 109 #[.val (.int p0), .val (.int p1), .val (.int p2), .val (.int p3), .val (.int p4), .val (.int (1 : Int32)), .val (.ref a_DECIMAL), .val (.ref b31), .val (.ref b34), .val (.int (0 : Int32)), .val (.ref b38), .val .null, .unset, .unset, .unset] [(.ref b38)])) rfl (by rw [hml]; rfl) (Steps.refl _) (argsL := []) (rest := []) (lenOf own_pd10 rfl) rfl (by show 2 * 0 + _ ≤ _; exact Nat.le_of_eq rfl) (hb hby at_109) (fun _ _ => ⟨rfl, rfl, (by decide : 8 + 0 ≤ _), (by decide : 50 + 0 ≤ _)⟩)
        dsimp only [Pt.U, Pt.locs, Pt.cells, Pt.slots] at X41 l41 y41 z41 st41 hQ41
        subst l41 y41 z41
        obtain ⟨rfl, Nq41, eq41⟩ := hQ41
        have N41 := Fr.app N39 Nq41
        refine own_tr st41 ?_
        show own_Gl _ _ _ _ _ _ _ _ (T41.setTop (mkF m 112 #[.val (.int p0), .val (.int p1), .val (.int p2), .val (.int p3), .val (.int p4), .val (.int (1 : Int32)), .val (.ref a_DECIMAL), .val (.ref b31), .val (.ref b34), .val (.int (0 : Int32)), .val (.ref b38), .val .null, .unset, .unset, .unset] [(.int (0 : Int32))]))
        refine own_st (A' := T41.setTop (mkF m 120 #[.val (.int p0), .val (.int p1), .val (.int p2), .val (.int p3), .val (.int p4), .val (.int (1 : Int32)), .val (.ref a_DECIMAL), .val (.ref b31), .val (.ref b34), .val (.int (0 : Int32)), .val (.ref b38), .val .null, .unset, .unset, .unset] [(.int (1 : Int32))])) (fun tg kt => ?_) ?_
        · show Steps p.tables e below (T41.setTop (mkF m 112 #[.val (.int p0), .val (.int p1), .val (.int p2), .val (.int p3), .val (.int p4), .val (.int (1 : Int32)), .val (.ref a_DECIMAL), .val (.ref b31), .val (.ref b34), .val (.int (0 : Int32)), .val (.ref b38), .val .null, .unset, .unset, .unset] [(.int (0 : Int32))])) _
          refine XS.ifNo X41.here hx rfl (hb hby at_112) rfl ((if0 _ _).trans (teq ((by decide) : (0 : Int32) = (0 : Int32))).2) ?_
          show Steps p.tables e below (T41.setTop (mkF m 115 #[.val (.int p0), .val (.int p1), .val (.int p2), .val (.int p3), .val (.int p4), .val (.int (1 : Int32)), .val (.ref a_DECIMAL), .val (.ref b31), .val (.ref b34), .val (.int (0 : Int32)), .val (.ref b38), .val .null, .unset, .unset, .unset] [])) _
          refine XS.iconst X41.here hx rfl (hb hby at_115) ?_
          show Steps p.tables e below (T41.setTop (mkF m 116 #[.val (.int p0), .val (.int p1), .val (.int p2), .val (.int p3), .val (.int p4), .val (.int (1 : Int32)), .val (.ref a_DECIMAL), .val (.ref b31), .val (.ref b34), .val (.int (0 : Int32)), .val (.ref b38), .val .null, .unset, .unset, .unset] [(.int (1 : Int32))])) _
          refine XS.goto X41.here hx rfl (pc0 := 116) (pc' := 120) rfl (hb hby at_116) (by decide) (by decide) ?_
          exact kt
        refine own_retW X41 hS39 (by rw [eq41]; exact hk39) (v := some (.int (1 : Int32))) (fun h => by rw [Bd.returns] at h; cases h) hlk (by decide) (by decide) ?_ (fun fs hr => ?_)
        · show Q0 Z p0 p1 p2 p3 p4 a_INTEGER a_DECIMAL a_STRING a_BOOLEAN a_STRINGS cs h0 n0 (some (.int (1 : Int32))) T41.heap _
          rw [eq41]
          exact ⟨rfl, N41⟩
        · show Steps p.tables e below (T41.setTop (mkF m 120 #[.val (.int p0), .val (.int p1), .val (.int p2), .val (.int p3), .val (.int p4), .val (.int (1 : Int32)), .val (.ref a_DECIMAL), .val (.ref b31), .val (.ref b34), .val (.int (0 : Int32)), .val (.ref b38), .val .null, .unset, .unset, .unset] [(.int (1 : Int32))])) _
          exact retN X41 hx (t := .boolean) Bd.returns (by simp) (hb hby at_120) hr
      · refine own_st (A' := T35.setTop (mkF m 71 #[.val (.int p0), .val (.int p1), .val (.int p2), .val (.int p3), .val (.int p4), .val (.int (1 : Int32)), .val (.ref a_DECIMAL), .val (.ref b31), .val (.ref b34), .val (.int (0 : Int32)), .unset, .unset, .unset, .unset, .unset] [])) (fun tg kt => ?_) ?_
        · show Steps p.tables e below (T35.setTop (mkF m 68 #[.val (.int p0), .val (.int p1), .val (.int p2), .val (.int p3), .val (.int p4), .val (.int (1 : Int32)), .val (.ref a_DECIMAL), .val (.ref b31), .val (.ref b34), .val (.int (0 : Int32)), .unset, .unset, .unset, .unset, .unset] [(.int (p2 &&& (2 : Int32)))])) _
          refine XS.ifNo X35.here hx rfl (hb hby at_68) rfl ((if0 _ _).trans (feq hc68_37).1) ?_
          exact kt
        obtain ⟨T42, h42, X42, e42, E42, A42, D42, -, st42⟩ := newO X35 hx hZ hown (hw _ (List.mem_of_getElem? (i := 38) rfl)) (hw _ (List.mem_of_getElem? (i := 39) rfl)) (hw _ (List.mem_of_getElem? (i := 40) rfl)) rfl (g := (mkF m 71 #[.val (.int p0), .val (.int p1), .val (.int p2), .val (.int p3), .val (.int p4), .val (.int (1 : Int32)), .val (.ref a_DECIMAL), .val (.ref b31), .val (.ref b34), .val (.int (0 : Int32)), .unset, .unset, .unset, .unset, .unset] [])) rfl (hb hby at_71) (by decide) (by decide)
        obtain ⟨b42, g42⟩ : ∃ z, z = T35.heap.size := ⟨_, rfl⟩
        rw [← g42] at A42 D42 st42
        have g_b42 : n0 ≤ b42 := Nat.le_trans Z35 (Nat.le_of_eq g42.symm)
        have kw_b42 : h0.size ≤ b42 := Nat.le_trans (K35).1 (Nat.le_of_eq g42.symm)
        have ne_b31_b42 : b31 ≠ b42 := Nat.ne_of_lt (Nat.lt_of_lt_of_le ((V33.ext E34).keep Kq35 (ninS ne_b31_b34 nin0)).lt (Nat.le_of_eq g42.symm))
        have ne_b34_b42 : b34 ≠ b42 := Nat.ne_of_lt (Nat.lt_of_lt_of_le Eq35.lt (Nat.le_of_eq g42.symm))
        have ne_sv_b42 : sv ≠ b42 := Nat.ne_of_lt (Nat.lt_of_lt_of_le Aq35.lt (Nat.le_of_eq g42.symm))
        have K42 := (K35).ext E42
        have Z42 : n0 ≤ h42.size := Nat.le_trans Z35 E42.1
        have hk42 := Nat.le_trans hk35 E42.1
        have F_name_b42 : Fld Z h42 b42 "com/example/inexact_search/inexactsearch/engine/Attribute" "name" "Ljava/lang/String;" .null := D42 (Or.inr (hw _ (List.mem_of_getElem? (i := 62) rfl))) (ty := (.object "java/lang/String")) (by decide)
        have F_type_b42 : Fld Z h42 b42 "com/example/inexact_search/inexactsearch/engine/Attribute" "type" "Lcom/example/inexact_search/inexactsearch/engine/AttributeType;" .null := D42 (Or.inr (hw _ (List.mem_of_getElem? (i := 64) rfl))) (ty := (.object "com/example/inexact_search/inexactsearch/engine/AttributeType")) (by decide)
        have F_declaredMin_b42 : Fld Z h42 b42 "com/example/inexact_search/inexactsearch/engine/Attribute" "declaredMin" "Ljava/lang/Double;" .null := D42 (Or.inr (hw _ (List.mem_of_getElem? (i := 66) rfl))) (ty := (.object "java/lang/Double")) (by decide)
        have F_declaredMax_b42 : Fld Z h42 b42 "com/example/inexact_search/inexactsearch/engine/Attribute" "declaredMax" "Ljava/lang/Double;" .null := D42 (Or.inr (hw _ (List.mem_of_getElem? (i := 68) rfl))) (ty := (.object "java/lang/Double")) (by decide)
        refine own_st st42 ?_
        show own_Gl _ _ _ _ _ _ _ _ (T42.setTop (mkF m 74 #[.val (.int p0), .val (.int p1), .val (.int p2), .val (.int p3), .val (.int p4), .val (.int (1 : Int32)), .val (.ref a_DECIMAL), .val (.ref b31), .val (.ref b34), .val (.int (0 : Int32)), .unset, .unset, .unset, .unset, .unset] [(.ref b42)]))
        refine own_st (A' := T42.setTop (mkF m 79 #[.val (.int p0), .val (.int p1), .val (.int p2), .val (.int p3), .val (.int p4), .val (.int (1 : Int32)), .val (.ref a_DECIMAL), .val (.ref b31), .val (.ref b34), .val (.int (0 : Int32)), .unset, .unset, .unset, .unset, .unset] [(.ref a_DECIMAL), (.ref b34), (.ref b42), (.ref b42)])) (fun tg kt => ?_) ?_
        · show Steps p.tables e below (T42.setTop (mkF m 74 #[.val (.int p0), .val (.int p1), .val (.int p2), .val (.int p3), .val (.int p4), .val (.int (1 : Int32)), .val (.ref a_DECIMAL), .val (.ref b31), .val (.ref b34), .val (.int (0 : Int32)), .unset, .unset, .unset, .unset, .unset] [(.ref b42)])) _
          refine XS.dup X42.here hx rfl (hb hby at_74) rfl rfl ?_
          show Steps p.tables e below (T42.setTop (mkF m 75 #[.val (.int p0), .val (.int p1), .val (.int p2), .val (.int p3), .val (.int p4), .val (.int (1 : Int32)), .val (.ref a_DECIMAL), .val (.ref b31), .val (.ref b34), .val (.int (0 : Int32)), .unset, .unset, .unset, .unset, .unset] [(.ref b42), (.ref b42)])) _
          refine XS.aload X42.here hx rfl (hb hby at_75) rfl rfl ?_
          show Steps p.tables e below (T42.setTop (mkF m 77 #[.val (.int p0), .val (.int p1), .val (.int p2), .val (.int p3), .val (.int p4), .val (.int (1 : Int32)), .val (.ref a_DECIMAL), .val (.ref b31), .val (.ref b34), .val (.int (0 : Int32)), .unset, .unset, .unset, .unset, .unset] [(.ref b34), (.ref b42), (.ref b42)])) _
          refine XS.aload X42.here hx rfl (hb hby at_77) rfl rfl ?_
          exact kt
        obtain ⟨_, _, ⟨T43, L43, k43, n43⟩, -, X43, hSq43, hgq43, ⟨Lc43, hQ43, l43, y43, z43⟩, st43⟩ := X42.specialBackS hx (y := (⟨"com/example/inexact_search/inexactsearch/engine/Attribute", "<init>", "(Ljava/lang/String;Lcom/example/inexact_search/inexactsearch/engine/AttributeType;)V"⟩ : MethodName)) rfl hown (mvT hZ (hw _ (List.mem_of_getElem? (i := 41) rfl))) (mvT hZ (hw _ (List.mem_of_getElem? (i := 42) rfl))) (mvT hZ (hw _ (List.mem_of_getElem? (i := 43) rfl))) (by decide) (backOfS (W := 1) (rm8 l Z a0 hw [] b42 b34 a_DECIMAL sv skb ([((nar .char ((p1 &&& (255 : Int32)).toUInt32.toUInt16.toUInt32.toInt32))).toInt8.toInt32].map Value.int) h42 n0 Z42 F_name_b42 F_type_b42 F_declaredMin_b42 F_declaredMax_b42 A42 g_b42 (Eq35.ext E42) (Vq35.ext E42) (Aq35.ext E42) ne_b34_b42 ne_sv_b42) hZ (hw _ (List.mem_of_getElem? (i := 43) rfl)) (hw _ (List.mem_of_getElem? (i := 40) rfl)) (by decide) (by decide)) (g := (mkF m 79 #[.val (.int p0), .val (.int p1), .val (.int p2), .val (.int p3), .val (.int p4), .val (.int (1 : Int32)), .val (.ref a_DECIMAL), .val (.ref b31), .val (.ref b34), .val (.int (0 : Int32)), .unset, .unset, .unset, .unset, .unset] [(.ref a_DECIMAL), (.ref b34), (.ref b42), (.ref b42)])) rfl (by rw [hml]; rfl) (Steps.refl _) (a := b42) (argsL := [(.ref b34), (.ref a_DECIMAL)]) (rest := [(.ref b42)]) (lenOf own_pd17 rfl) rfl (by show 2 * 0 + _ ≤ _; exact Nat.le_of_eq rfl) (hb hby at_79) (fun _ _ => ⟨rfl, e42, (by decide : 4 + 4 ≤ _), (by decide : 10 + 40 ≤ _)⟩)
        dsimp only [Pt.U, Pt.locs, Pt.cells, Pt.slots] at X43 l43 y43 z43 st43 hQ43 hSq43 hgq43
        subst l43 y43 z43
        replace X43 : Stand p l e _ (s.setVm T43.vm) m _ below meth c T43 _ _ _ := X43
        have hS43 : s.Since T43.vm T43.heap.size := hS0.trans hSq43 (Nat.le_trans hk42 (by rw [← e42]; exact hgq43))
        have hZ43 : Z.Warmed39 (s.setVm T43.vm).vm := State.Warmed39.trans (t := (s.setVm s.vm)) hZ hSq43.1
        have hown43 : (s.setVm T43.vm).vm.findClass "com/example/inexact_search/inexactsearch/engine/AttributeHasDeclaredRangePinLaw" = some m.cls := by rw [show (s.setVm T43.vm).vm = T43.vm from rfl, hSq43.1.alike.findClass]; exact hown
        have hk43 : T43.heap.size ≤ T43.heap.size := Nat.le_refl _
        obtain ⟨rfl, Nq43, Kq43, Eq43, Fq43⟩ := hQ43
        have N43 := Fr.app N35 Nq43
        have Fa44 := ((((V33.ext E34).keep Kq35 (ninS ne_b31_b34 nin0)).ext E42).keep Kq43 (ninS ne_b31_b42 nin0))
        have K43 := (K42).trans Kq43 (allS (Or.inr kw_b42) all0)
        have Z43 : n0 ≤ T43.heap.size := Nat.le_trans Z42 Kq43.1
        refine own_tr st43 ?_
        show own_Gl _ _ _ _ _ _ _ _ (T43.setTop (mkF m 82 #[.val (.int p0), .val (.int p1), .val (.int p2), .val (.int p3), .val (.int p4), .val (.int (1 : Int32)), .val (.ref a_DECIMAL), .val (.ref b31), .val (.ref b34), .val (.int (0 : Int32)), .unset, .unset, .unset, .unset, .unset] [(.ref b42)]))
        refine own_st (A' := T43.setTop (mkF m 109 #[.val (.int p0), .val (.int p1), .val (.int p2), .val (.int p3), .val (.int p4), .val (.int (1 : Int32)), .val (.ref a_DECIMAL), .val (.ref b31), .val (.ref b34), .val (.int (0 : Int32)), .val (.ref b42), .unset, .unset, .unset, .unset] [(.ref b42)])) (fun tg kt => ?_) ?_
        · show Steps p.tables e below (T43.setTop (mkF m 82 #[.val (.int p0), .val (.int p1), .val (.int p2), .val (.int p3), .val (.int p4), .val (.int (1 : Int32)), .val (.ref a_DECIMAL), .val (.ref b31), .val (.ref b34), .val (.int (0 : Int32)), .unset, .unset, .unset, .unset, .unset] [(.ref b42)])) _
          refine XS.astore X43.here hx rfl (hb hby at_82) rfl rfl (l' := #[.val (.int p0), .val (.int p1), .val (.int p2), .val (.int p3), .val (.int p4), .val (.int (1 : Int32)), .val (.ref a_DECIMAL), .val (.ref b31), .val (.ref b34), .val (.int (0 : Int32)), .val (.ref b42), .unset, .unset, .unset, .unset]) rfl ?_
          show Steps p.tables e below (T43.setTop (mkF m 84 #[.val (.int p0), .val (.int p1), .val (.int p2), .val (.int p3), .val (.int p4), .val (.int (1 : Int32)), .val (.ref a_DECIMAL), .val (.ref b31), .val (.ref b34), .val (.int (0 : Int32)), .val (.ref b42), .unset, .unset, .unset, .unset] [])) _
          refine XS.goto X43.here hx rfl (pc0 := 84) (pc' := 107) rfl (hb hby at_84) (by decide) (by decide) ?_
          show Steps p.tables e below (T43.setTop (mkF m 107 #[.val (.int p0), .val (.int p1), .val (.int p2), .val (.int p3), .val (.int p4), .val (.int (1 : Int32)), .val (.ref a_DECIMAL), .val (.ref b31), .val (.ref b34), .val (.int (0 : Int32)), .val (.ref b42), .unset, .unset, .unset, .unset] [])) _
          refine XS.aload X43.here hx rfl (hb hby at_107) rfl rfl ?_
          exact kt
        obtain ⟨cq45, kq45, q45a, q45b, q45c⟩ := isOf hZ43 rfl Eq43
        obtain ⟨_, _, ⟨T45, L45, k45, n45⟩, -, X45, ⟨Lc45, hQ45, l45, y45, z45⟩, st45⟩ := X43.virtualBack hx (y := (⟨"com/example/inexact_search/inexactsearch/engine/Attribute", "hasDeclaredRange", "()Z"⟩ : MethodName)) (z := (⟨"com/example/inexact_search/inexactsearch/engine/Attribute", "hasDeclaredRange", "()Z"⟩ : MethodName)) hown43 (mvT hZ43 (hw _ (List.mem_of_getElem? (i := 69) rfl))) (mvT hZ43 (hw _ (List.mem_of_getElem? (i := 70) rfl))) (notFace_of_selects (args := #[]) (mvT hZ43 (hw _ (List.mem_of_getElem? (i := 72) rfl)))) (mvT hZ43 (hw _ (List.mem_of_getElem? (i := 72) rfl))) (mvT hZ43 (hw _ (List.mem_of_getElem? (i := 71) rfl))) (by decide) (backOf (W := 0) (rm12n l Z a0 hw [] b42 T43.heap n0 Z43 Fq43) hZ43 (hw _ (List.mem_of_getElem? (i := 73) rfl)) (hw _ (List.mem_of_getElem? (i := 40) rfl)) (by decide) (by decide)) q45a q45c (g := (mkF m 109 #[.val (.int p0), .val (.int p1), .val (.int p2), .val (.int p3), .val (.int p4), .val (.int (1 : Int32)), .val (.ref a_DECIMAL), .val (.ref b31), .val (.ref b34), .val (.int (0 : Int32)), .val (.ref b42), .unset, .unset, .unset, .unset] [(.ref b42)])) rfl (by rw [hml]; rfl) (Steps.refl _) (argsL := []) (rest := []) (lenOf own_pd10 rfl) rfl (by show 2 * 0 + _ ≤ _; exact Nat.le_of_eq rfl) (hb hby at_109) (fun _ _ => ⟨rfl, rfl, (by decide : 8 + 0 ≤ _), (by decide : 50 + 0 ≤ _)⟩)
        dsimp only [Pt.U, Pt.locs, Pt.cells, Pt.slots] at X45 l45 y45 z45 st45 hQ45
        subst l45 y45 z45
        obtain ⟨rfl, Nq45, eq45⟩ := hQ45
        have N45 := Fr.app N43 Nq45
        refine own_tr st45 ?_
        show own_Gl _ _ _ _ _ _ _ _ (T45.setTop (mkF m 112 #[.val (.int p0), .val (.int p1), .val (.int p2), .val (.int p3), .val (.int p4), .val (.int (1 : Int32)), .val (.ref a_DECIMAL), .val (.ref b31), .val (.ref b34), .val (.int (0 : Int32)), .val (.ref b42), .unset, .unset, .unset, .unset] [(.int (0 : Int32))]))
        refine own_st (A' := T45.setTop (mkF m 120 #[.val (.int p0), .val (.int p1), .val (.int p2), .val (.int p3), .val (.int p4), .val (.int (1 : Int32)), .val (.ref a_DECIMAL), .val (.ref b31), .val (.ref b34), .val (.int (0 : Int32)), .val (.ref b42), .unset, .unset, .unset, .unset] [(.int (1 : Int32))])) (fun tg kt => ?_) ?_
        · show Steps p.tables e below (T45.setTop (mkF m 112 #[.val (.int p0), .val (.int p1), .val (.int p2), .val (.int p3), .val (.int p4), .val (.int (1 : Int32)), .val (.ref a_DECIMAL), .val (.ref b31), .val (.ref b34), .val (.int (0 : Int32)), .val (.ref b42), .unset, .unset, .unset, .unset] [(.int (0 : Int32))])) _
          refine XS.ifNo X45.here hx rfl (hb hby at_112) rfl ((if0 _ _).trans (teq ((by decide) : (0 : Int32) = (0 : Int32))).2) ?_
          show Steps p.tables e below (T45.setTop (mkF m 115 #[.val (.int p0), .val (.int p1), .val (.int p2), .val (.int p3), .val (.int p4), .val (.int (1 : Int32)), .val (.ref a_DECIMAL), .val (.ref b31), .val (.ref b34), .val (.int (0 : Int32)), .val (.ref b42), .unset, .unset, .unset, .unset] [])) _
          refine XS.iconst X45.here hx rfl (hb hby at_115) ?_
          show Steps p.tables e below (T45.setTop (mkF m 116 #[.val (.int p0), .val (.int p1), .val (.int p2), .val (.int p3), .val (.int p4), .val (.int (1 : Int32)), .val (.ref a_DECIMAL), .val (.ref b31), .val (.ref b34), .val (.int (0 : Int32)), .val (.ref b42), .unset, .unset, .unset, .unset] [(.int (1 : Int32))])) _
          refine XS.goto X45.here hx rfl (pc0 := 116) (pc' := 120) rfl (hb hby at_116) (by decide) (by decide) ?_
          exact kt
        refine own_retW X45 hS43 (by rw [eq45]; exact hk43) (v := some (.int (1 : Int32))) (fun h => by rw [Bd.returns] at h; cases h) hlk (by decide) (by decide) ?_ (fun fs hr => ?_)
        · show Q0 Z p0 p1 p2 p3 p4 a_INTEGER a_DECIMAL a_STRING a_BOOLEAN a_STRINGS cs h0 n0 (some (.int (1 : Int32))) T45.heap _
          rw [eq45]
          exact ⟨rfl, N45⟩
        · show Steps p.tables e below (T45.setTop (mkF m 120 #[.val (.int p0), .val (.int p1), .val (.int p2), .val (.int p3), .val (.int p4), .val (.int (1 : Int32)), .val (.ref a_DECIMAL), .val (.ref b31), .val (.ref b34), .val (.int (0 : Int32)), .val (.ref b42), .unset, .unset, .unset, .unset] [(.int (1 : Int32))])) _
          exact retN X45 hx (t := .boolean) Bd.returns (by simp) (hb hby at_120) hr
    · refine own_st (A' := T35.setTop (mkF m 124 #[.val (.int p0), .val (.int p1), .val (.int p2), .val (.int p3), .val (.int p4), .val (.int (1 : Int32)), .val (.ref a_DECIMAL), .val (.ref b31), .val (.ref b34), .val (.int (1 : Int32)), .unset, .unset, .unset, .unset, .unset] [(.int p4), (.int p3)])) (fun tg kt => ?_) ?_
      · show Steps p.tables e below (T35.setTop (mkF m 44 #[.val (.int p0), .val (.int p1), .val (.int p2), .val (.int p3), .val (.int p4), .val (.int (1 : Int32)), .val (.ref a_DECIMAL), .val (.ref b31), .val (.ref b34), .unset, .unset, .unset, .unset, .unset, .unset] [(.int (p2 &&& (1 : Int32)))])) _
        refine XS.ifNo X35.here hx rfl (hb hby at_44) rfl ((if0 _ _).trans (feq hc44_36).1) ?_
        show Steps p.tables e below (T35.setTop (mkF m 47 #[.val (.int p0), .val (.int p1), .val (.int p2), .val (.int p3), .val (.int p4), .val (.int (1 : Int32)), .val (.ref a_DECIMAL), .val (.ref b31), .val (.ref b34), .unset, .unset, .unset, .unset, .unset, .unset] [])) _
        refine XS.iload X35.here hx rfl (hb hby at_47) rfl ?_
        show Steps p.tables e below (T35.setTop (mkF m 49 #[.val (.int p0), .val (.int p1), .val (.int p2), .val (.int p3), .val (.int p4), .val (.int (1 : Int32)), .val (.ref a_DECIMAL), .val (.ref b31), .val (.ref b34), .unset, .unset, .unset, .unset, .unset, .unset] [(.int (1 : Int32))])) _
        refine XS.iconst X35.here hx rfl (hb hby at_49) ?_
        show Steps p.tables e below (T35.setTop (mkF m 50 #[.val (.int p0), .val (.int p1), .val (.int p2), .val (.int p3), .val (.int p4), .val (.int (1 : Int32)), .val (.ref a_DECIMAL), .val (.ref b31), .val (.ref b34), .unset, .unset, .unset, .unset, .unset, .unset] [(.int (2 : Int32)), (.int (1 : Int32))])) _
        refine XS.icmpNo X35.here hx rfl (hb hby at_50) rfl (tlt ((by decide) : (1 : Int32) < (2 : Int32))).2.1 ?_
        show Steps p.tables e below (T35.setTop (mkF m 53 #[.val (.int p0), .val (.int p1), .val (.int p2), .val (.int p3), .val (.int p4), .val (.int (1 : Int32)), .val (.ref a_DECIMAL), .val (.ref b31), .val (.ref b34), .unset, .unset, .unset, .unset, .unset, .unset] [])) _
        refine XS.iconst X35.here hx rfl (hb hby at_53) ?_
        show Steps p.tables e below (T35.setTop (mkF m 54 #[.val (.int p0), .val (.int p1), .val (.int p2), .val (.int p3), .val (.int p4), .val (.int (1 : Int32)), .val (.ref a_DECIMAL), .val (.ref b31), .val (.ref b34), .unset, .unset, .unset, .unset, .unset, .unset] [(.int (1 : Int32))])) _
        refine XS.goto X35.here hx rfl (pc0 := 54) (pc' := 58) rfl (hb hby at_54) (by decide) (by decide) ?_
        show Steps p.tables e below (T35.setTop (mkF m 58 #[.val (.int p0), .val (.int p1), .val (.int p2), .val (.int p3), .val (.int p4), .val (.int (1 : Int32)), .val (.ref a_DECIMAL), .val (.ref b31), .val (.ref b34), .unset, .unset, .unset, .unset, .unset, .unset] [(.int (1 : Int32))])) _
        refine XS.istore X35.here hx rfl (hb hby at_58) rfl (l' := #[.val (.int p0), .val (.int p1), .val (.int p2), .val (.int p3), .val (.int p4), .val (.int (1 : Int32)), .val (.ref a_DECIMAL), .val (.ref b31), .val (.ref b34), .val (.int (1 : Int32)), .unset, .unset, .unset, .unset, .unset]) rfl ?_
        show Steps p.tables e below (T35.setTop (mkF m 60 #[.val (.int p0), .val (.int p1), .val (.int p2), .val (.int p3), .val (.int p4), .val (.int (1 : Int32)), .val (.ref a_DECIMAL), .val (.ref b31), .val (.ref b34), .val (.int (1 : Int32)), .unset, .unset, .unset, .unset, .unset] [])) _
        refine XS.iload X35.here hx rfl (hb hby at_60) rfl ?_
        show Steps p.tables e below (T35.setTop (mkF m 62 #[.val (.int p0), .val (.int p1), .val (.int p2), .val (.int p3), .val (.int p4), .val (.int (1 : Int32)), .val (.ref a_DECIMAL), .val (.ref b31), .val (.ref b34), .val (.int (1 : Int32)), .unset, .unset, .unset, .unset, .unset] [(.int (1 : Int32))])) _
        refine XS.ifYes X35.here hx rfl (pc0 := 62) (pc' := 121) rfl (hb hby at_62) rfl ((if0 _ _).trans (feq ((by decide) : ¬ ((1 : Int32) = (0 : Int32)))).2) (by decide) (by decide) ?_
        show Steps p.tables e below (T35.setTop (mkF m 121 #[.val (.int p0), .val (.int p1), .val (.int p2), .val (.int p3), .val (.int p4), .val (.int (1 : Int32)), .val (.ref a_DECIMAL), .val (.ref b31), .val (.ref b34), .val (.int (1 : Int32)), .unset, .unset, .unset, .unset, .unset] [])) _
        refine XS.iloadN X35.here hx rfl (hb hby at_121) rfl ?_
        show Steps p.tables e below (T35.setTop (mkF m 122 #[.val (.int p0), .val (.int p1), .val (.int p2), .val (.int p3), .val (.int p4), .val (.int (1 : Int32)), .val (.ref a_DECIMAL), .val (.ref b31), .val (.ref b34), .val (.int (1 : Int32)), .unset, .unset, .unset, .unset, .unset] [(.int p3)])) _
        refine XS.iload X35.here hx rfl (hb hby at_122) rfl ?_
        exact kt
      obtain ⟨_, _, ⟨T46, L46, k46, n46⟩, -, X46, ⟨Lc46, hQ46, l46, y46, z46⟩, st46⟩ := Jvm.LawKit.callS X35 hx (y := (⟨"java/lang/Math", "min", "(II)I"⟩ : MethodName)) hown (mvT hZ (hw _ (List.mem_of_getElem? (i := 79) rfl))) (mvT hZ (hw _ (List.mem_of_getElem? (i := 80) rfl))) (mvT hZ (hw _ (List.mem_of_getElem? (i := 81) rfl))) (mvT hZ (hw _ (List.mem_of_getElem? (i := 82) rfl))) (by decide) (backOf (W := 0) (rm13 l Z a0 hw [] p3 p4 T35.heap n0 Z35) hZ (hw _ (List.mem_of_getElem? (i := 82) rfl)) (hw _ (List.mem_of_getElem? (i := 81) rfl)) (by decide) (by decide)) (g := (mkF m 124 #[.val (.int p0), .val (.int p1), .val (.int p2), .val (.int p3), .val (.int p4), .val (.int (1 : Int32)), .val (.ref a_DECIMAL), .val (.ref b31), .val (.ref b34), .val (.int (1 : Int32)), .unset, .unset, .unset, .unset, .unset] [(.int p4), (.int p3)])) rfl (by rw [hml]; rfl) (argsL := [(.int p3), (.int p4)]) (rest := []) (lenOf own_pd18 rfl) rfl (by show 2 * 0 + _ ≤ _; exact Nat.le_of_eq rfl) (hb hby at_124) (fun _ _ => ⟨rfl, rfl, (by decide : 3 + 0 ≤ _), (by decide : 6 + 0 ≤ _)⟩)
      dsimp only [Pt.U, Pt.locs, Pt.cells, Pt.slots] at X46 l46 y46 z46 st46 hQ46
      subst l46 y46 z46
      obtain ⟨rfl, Nq46, eq46⟩ := hQ46
      have N46 := Fr.app N35 Nq46
      refine own_st st46 ?_
      show own_Gl _ _ _ _ _ _ _ _ (T46.setTop (mkF m 127 #[.val (.int p0), .val (.int p1), .val (.int p2), .val (.int p3), .val (.int p4), .val (.int (1 : Int32)), .val (.ref a_DECIMAL), .val (.ref b31), .val (.ref b34), .val (.int (1 : Int32)), .unset, .unset, .unset, .unset, .unset] [(.int (own_min p3 p4))]))
      refine own_st (A' := T46.setTop (mkF m 132 #[.val (.int p0), .val (.int p1), .val (.int p2), .val (.int p3), .val (.int p4), .val (.int (1 : Int32)), .val (.ref a_DECIMAL), .val (.ref b31), .val (.ref b34), .val (.int (1 : Int32)), .val (.int (own_min p3 p4)), .unset, .unset, .unset, .unset] [(.int p4), (.int p3)])) (fun tg kt => ?_) ?_
      · show Steps p.tables e below (T46.setTop (mkF m 127 #[.val (.int p0), .val (.int p1), .val (.int p2), .val (.int p3), .val (.int p4), .val (.int (1 : Int32)), .val (.ref a_DECIMAL), .val (.ref b31), .val (.ref b34), .val (.int (1 : Int32)), .unset, .unset, .unset, .unset, .unset] [(.int (own_min p3 p4))])) _
        refine XS.istore X46.here hx rfl (hb hby at_127) rfl (l' := #[.val (.int p0), .val (.int p1), .val (.int p2), .val (.int p3), .val (.int p4), .val (.int (1 : Int32)), .val (.ref a_DECIMAL), .val (.ref b31), .val (.ref b34), .val (.int (1 : Int32)), .val (.int (own_min p3 p4)), .unset, .unset, .unset, .unset]) rfl ?_
        show Steps p.tables e below (T46.setTop (mkF m 129 #[.val (.int p0), .val (.int p1), .val (.int p2), .val (.int p3), .val (.int p4), .val (.int (1 : Int32)), .val (.ref a_DECIMAL), .val (.ref b31), .val (.ref b34), .val (.int (1 : Int32)), .val (.int (own_min p3 p4)), .unset, .unset, .unset, .unset] [])) _
        refine XS.iloadN X46.here hx rfl (hb hby at_129) rfl ?_
        show Steps p.tables e below (T46.setTop (mkF m 130 #[.val (.int p0), .val (.int p1), .val (.int p2), .val (.int p3), .val (.int p4), .val (.int (1 : Int32)), .val (.ref a_DECIMAL), .val (.ref b31), .val (.ref b34), .val (.int (1 : Int32)), .val (.int (own_min p3 p4)), .unset, .unset, .unset, .unset] [(.int p3)])) _
        refine XS.iload X46.here hx rfl (hb hby at_130) rfl ?_
        exact kt
      obtain ⟨_, _, ⟨T47, L47, k47, n47⟩, -, X47, ⟨Lc47, hQ47, l47, y47, z47⟩, st47⟩ := Jvm.LawKit.callS X46 hx (y := (⟨"java/lang/Math", "max", "(II)I"⟩ : MethodName)) hown (mvT hZ (hw _ (List.mem_of_getElem? (i := 83) rfl))) (mvT hZ (hw _ (List.mem_of_getElem? (i := 84) rfl))) (mvT hZ (hw _ (List.mem_of_getElem? (i := 81) rfl))) (mvT hZ (hw _ (List.mem_of_getElem? (i := 85) rfl))) (by decide) (backOf (W := 0) (rm14 l Z a0 hw [] p3 p4 T35.heap n0 Z35) hZ (hw _ (List.mem_of_getElem? (i := 85) rfl)) (hw _ (List.mem_of_getElem? (i := 81) rfl)) (by decide) (by decide)) (g := (mkF m 132 #[.val (.int p0), .val (.int p1), .val (.int p2), .val (.int p3), .val (.int p4), .val (.int (1 : Int32)), .val (.ref a_DECIMAL), .val (.ref b31), .val (.ref b34), .val (.int (1 : Int32)), .val (.int (own_min p3 p4)), .unset, .unset, .unset, .unset] [(.int p4), (.int p3)])) rfl (by rw [hml]; rfl) (argsL := [(.int p3), (.int p4)]) (rest := []) (lenOf own_pd18 rfl) rfl (by show 2 * 0 + _ ≤ _; exact Nat.le_of_eq rfl) (hb hby at_132) (fun _ _ => ⟨rfl, eq46, (by decide : 3 + 0 ≤ _), (by decide : 6 + 0 ≤ _)⟩)
      dsimp only [Pt.U, Pt.locs, Pt.cells, Pt.slots] at X47 l47 y47 z47 st47 hQ47
      subst l47 y47 z47
      obtain ⟨rfl, Nq47, eq47⟩ := hQ47
      have N47 := Fr.app N46 Nq47
      refine own_st st47 ?_
      show own_Gl _ _ _ _ _ _ _ _ (T47.setTop (mkF m 135 #[.val (.int p0), .val (.int p1), .val (.int p2), .val (.int p3), .val (.int p4), .val (.int (1 : Int32)), .val (.ref a_DECIMAL), .val (.ref b31), .val (.ref b34), .val (.int (1 : Int32)), .val (.int (own_min p3 p4)), .unset, .unset, .unset, .unset] [(.int (own_max p3 p4))]))
      refine own_st (A' := T47.setTop (mkF m 140 #[.val (.int p0), .val (.int p1), .val (.int p2), .val (.int p3), .val (.int p4), .val (.int (1 : Int32)), .val (.ref a_DECIMAL), .val (.ref b31), .val (.ref b34), .val (.int (1 : Int32)), .val (.int (own_min p3 p4)), .val (.int (own_max p3 p4)), .unset, .unset, .unset] [(.double (FP.i2d (own_min p3 p4)))])) (fun tg kt => ?_) ?_
      · show Steps p.tables e below (T47.setTop (mkF m 135 #[.val (.int p0), .val (.int p1), .val (.int p2), .val (.int p3), .val (.int p4), .val (.int (1 : Int32)), .val (.ref a_DECIMAL), .val (.ref b31), .val (.ref b34), .val (.int (1 : Int32)), .val (.int (own_min p3 p4)), .unset, .unset, .unset, .unset] [(.int (own_max p3 p4))])) _
        refine XS.istore X47.here hx rfl (hb hby at_135) rfl (l' := #[.val (.int p0), .val (.int p1), .val (.int p2), .val (.int p3), .val (.int p4), .val (.int (1 : Int32)), .val (.ref a_DECIMAL), .val (.ref b31), .val (.ref b34), .val (.int (1 : Int32)), .val (.int (own_min p3 p4)), .val (.int (own_max p3 p4)), .unset, .unset, .unset]) rfl ?_
        show Steps p.tables e below (T47.setTop (mkF m 137 #[.val (.int p0), .val (.int p1), .val (.int p2), .val (.int p3), .val (.int p4), .val (.int (1 : Int32)), .val (.ref a_DECIMAL), .val (.ref b31), .val (.ref b34), .val (.int (1 : Int32)), .val (.int (own_min p3 p4)), .val (.int (own_max p3 p4)), .unset, .unset, .unset] [])) _
        refine XS.iload X47.here hx rfl (hb hby at_137) rfl ?_
        show Steps p.tables e below (T47.setTop (mkF m 139 #[.val (.int p0), .val (.int p1), .val (.int p2), .val (.int p3), .val (.int p4), .val (.int (1 : Int32)), .val (.ref a_DECIMAL), .val (.ref b31), .val (.ref b34), .val (.int (1 : Int32)), .val (.int (own_min p3 p4)), .val (.int (own_max p3 p4)), .unset, .unset, .unset] [(.int (own_min p3 p4))])) _
        refine XS.i2dS X47.here hx rfl (hb hby at_139) rfl rfl ?_
        exact kt
      obtain ⟨_, _, ⟨T48, L48, k48, n48⟩, -, X48, ⟨Lc48, hQ48, l48, y48, z48⟩, st48⟩ := Jvm.LawKit.callS X47 hx (y := (⟨"java/lang/Double", "valueOf", "(D)Ljava/lang/Double;"⟩ : MethodName)) hown (mvT hZ (hw _ (List.mem_of_getElem? (i := 86) rfl))) (mvT hZ (hw _ (List.mem_of_getElem? (i := 87) rfl))) (mvT hZ (hw _ (List.mem_of_getElem? (i := 88) rfl))) (mvT hZ (hw _ (List.mem_of_getElem? (i := 89) rfl))) (by decide) (backOf (W := 0) (rm15 l Z a0 hw [] (FP.i2d (own_min p3 p4)) T35.heap n0 Z35) hZ (hw _ (List.mem_of_getElem? (i := 89) rfl)) (hw _ (List.mem_of_getElem? (i := 88) rfl)) (by decide) (by decide)) (g := (mkF m 140 #[.val (.int p0), .val (.int p1), .val (.int p2), .val (.int p3), .val (.int p4), .val (.int (1 : Int32)), .val (.ref a_DECIMAL), .val (.ref b31), .val (.ref b34), .val (.int (1 : Int32)), .val (.int (own_min p3 p4)), .val (.int (own_max p3 p4)), .unset, .unset, .unset] [(.double (FP.i2d (own_min p3 p4)))])) rfl (by rw [hml]; rfl) (argsL := [(.double (FP.i2d (own_min p3 p4)))]) (rest := []) (lenOf own_pd19 rfl) rfl (by show 2 * 0 + _ ≤ _; exact Nat.le_of_eq rfl) (hb hby at_140) (fun _ _ => ⟨rfl, eq47, (by decide : 3 + 1 ≤ _), (by decide : 6 + 1 ≤ _)⟩)
      dsimp only [Pt.U, Pt.locs, Pt.cells, Pt.slots] at X48 l48 y48 z48 st48 hQ48
      subst l48 y48 z48
      obtain ⟨dd48, rfl, Nq48, Kq48, Eq48, Fq48, ks48⟩ := hQ48
      have N48 := Fr.app N47 Nq48
      have Fa49 := (((V33.ext E34).keep Kq35 (ninS ne_b31_b34 nin0)).keep Kq48 nin0)
      have K48 := (K35).trans Kq48 all0
      have Z48 : n0 ≤ T48.heap.size := Nat.le_trans Z35 Kq48.1
      have hk48 := Nat.le_trans hk35 Kq48.1
      refine own_st st48 ?_
      show own_Gl _ _ _ _ _ _ _ _ (T48.setTop (mkF m 143 #[.val (.int p0), .val (.int p1), .val (.int p2), .val (.int p3), .val (.int p4), .val (.int (1 : Int32)), .val (.ref a_DECIMAL), .val (.ref b31), .val (.ref b34), .val (.int (1 : Int32)), .val (.int (own_min p3 p4)), .val (.int (own_max p3 p4)), .unset, .unset, .unset] [(.ref dd48)]))
      refine own_st (A' := T48.setTop (mkF m 148 #[.val (.int p0), .val (.int p1), .val (.int p2), .val (.int p3), .val (.int p4), .val (.int (1 : Int32)), .val (.ref a_DECIMAL), .val (.ref b31), .val (.ref b34), .val (.int (1 : Int32)), .val (.int (own_min p3 p4)), .val (.int (own_max p3 p4)), .val (.ref dd48), .unset, .unset] [(.double (FP.i2d (own_max p3 p4)))])) (fun tg kt => ?_) ?_
      · show Steps p.tables e below (T48.setTop (mkF m 143 #[.val (.int p0), .val (.int p1), .val (.int p2), .val (.int p3), .val (.int p4), .val (.int (1 : Int32)), .val (.ref a_DECIMAL), .val (.ref b31), .val (.ref b34), .val (.int (1 : Int32)), .val (.int (own_min p3 p4)), .val (.int (own_max p3 p4)), .unset, .unset, .unset] [(.ref dd48)])) _
        refine XS.astore X48.here hx rfl (hb hby at_143) rfl rfl (l' := #[.val (.int p0), .val (.int p1), .val (.int p2), .val (.int p3), .val (.int p4), .val (.int (1 : Int32)), .val (.ref a_DECIMAL), .val (.ref b31), .val (.ref b34), .val (.int (1 : Int32)), .val (.int (own_min p3 p4)), .val (.int (own_max p3 p4)), .val (.ref dd48), .unset, .unset]) rfl ?_
        show Steps p.tables e below (T48.setTop (mkF m 145 #[.val (.int p0), .val (.int p1), .val (.int p2), .val (.int p3), .val (.int p4), .val (.int (1 : Int32)), .val (.ref a_DECIMAL), .val (.ref b31), .val (.ref b34), .val (.int (1 : Int32)), .val (.int (own_min p3 p4)), .val (.int (own_max p3 p4)), .val (.ref dd48), .unset, .unset] [])) _
        refine XS.iload X48.here hx rfl (hb hby at_145) rfl ?_
        show Steps p.tables e below (T48.setTop (mkF m 147 #[.val (.int p0), .val (.int p1), .val (.int p2), .val (.int p3), .val (.int p4), .val (.int (1 : Int32)), .val (.ref a_DECIMAL), .val (.ref b31), .val (.ref b34), .val (.int (1 : Int32)), .val (.int (own_min p3 p4)), .val (.int (own_max p3 p4)), .val (.ref dd48), .unset, .unset] [(.int (own_max p3 p4))])) _
        refine XS.i2dS X48.here hx rfl (hb hby at_147) rfl rfl ?_
        exact kt
      obtain ⟨_, _, ⟨T50, L50, k50, n50⟩, -, X50, ⟨Lc50, hQ50, l50, y50, z50⟩, st50⟩ := Jvm.LawKit.callS X48 hx (y := (⟨"java/lang/Double", "valueOf", "(D)Ljava/lang/Double;"⟩ : MethodName)) hown (mvT hZ (hw _ (List.mem_of_getElem? (i := 86) rfl))) (mvT hZ (hw _ (List.mem_of_getElem? (i := 87) rfl))) (mvT hZ (hw _ (List.mem_of_getElem? (i := 88) rfl))) (mvT hZ (hw _ (List.mem_of_getElem? (i := 89) rfl))) (by decide) (backOf (W := 0) (rm15 l Z a0 hw [] (FP.i2d (own_max p3 p4)) T48.heap n0 Z48) hZ (hw _ (List.mem_of_getElem? (i := 89) rfl)) (hw _ (List.mem_of_getElem? (i := 88) rfl)) (by decide) (by decide)) (g := (mkF m 148 #[.val (.int p0), .val (.int p1), .val (.int p2), .val (.int p3), .val (.int p4), .val (.int (1 : Int32)), .val (.ref a_DECIMAL), .val (.ref b31), .val (.ref b34), .val (.int (1 : Int32)), .val (.int (own_min p3 p4)), .val (.int (own_max p3 p4)), .val (.ref dd48), .unset, .unset] [(.double (FP.i2d (own_max p3 p4)))])) rfl (by rw [hml]; rfl) (argsL := [(.double (FP.i2d (own_max p3 p4)))]) (rest := []) (lenOf own_pd19 rfl) rfl (by show 2 * 0 + _ ≤ _; exact Nat.le_of_eq rfl) (hb hby at_148) (fun _ _ => ⟨rfl, rfl, (by decide : 4 + 1 ≤ _), (by decide : 7 + 1 ≤ _)⟩)
      dsimp only [Pt.U, Pt.locs, Pt.cells, Pt.slots] at X50 l50 y50 z50 st50 hQ50
      subst l50 y50 z50
      obtain ⟨dd50, rfl, Nq50, Kq50, Eq50, Fq50, ks50⟩ := hQ50
      have N50 := Fr.app N48 Nq50
      have K50 := (K48).trans Kq50 all0
      have Z50 : n0 ≤ T50.heap.size := Nat.le_trans Z48 Kq50.1
      have hk50 := Nat.le_trans hk48 Kq50.1
      refine own_st st50 ?_
      show own_Gl _ _ _ _ _ _ _ _ (T50.setTop (mkF m 151 #[.val (.int p0), .val (.int p1), .val (.int p2), .val (.int p3), .val (.int p4), .val (.int (1 : Int32)), .val (.ref a_DECIMAL), .val (.ref b31), .val (.ref b34), .val (.int (1 : Int32)), .val (.int (own_min p3 p4)), .val (.int (own_max p3 p4)), .val (.ref dd48), .unset, .unset] [(.ref dd50)]))
      refine own_st (A' := T50.setTop (mkF m 153 #[.val (.int p0), .val (.int p1), .val (.int p2), .val (.int p3), .val (.int p4), .val (.int (1 : Int32)), .val (.ref a_DECIMAL), .val (.ref b31), .val (.ref b34), .val (.int (1 : Int32)), .val (.int (own_min p3 p4)), .val (.int (own_max p3 p4)), .val (.ref dd48), .val (.ref dd50), .unset] [])) (fun tg kt => ?_) ?_
      · show Steps p.tables e below (T50.setTop (mkF m 151 #[.val (.int p0), .val (.int p1), .val (.int p2), .val (.int p3), .val (.int p4), .val (.int (1 : Int32)), .val (.ref a_DECIMAL), .val (.ref b31), .val (.ref b34), .val (.int (1 : Int32)), .val (.int (own_min p3 p4)), .val (.int (own_max p3 p4)), .val (.ref dd48), .unset, .unset] [(.ref dd50)])) _
        refine XS.astore X50.here hx rfl (hb hby at_151) rfl rfl (l' := #[.val (.int p0), .val (.int p1), .val (.int p2), .val (.int p3), .val (.int p4), .val (.int (1 : Int32)), .val (.ref a_DECIMAL), .val (.ref b31), .val (.ref b34), .val (.int (1 : Int32)), .val (.int (own_min p3 p4)), .val (.int (own_max p3 p4)), .val (.ref dd48), .val (.ref dd50), .unset]) rfl ?_
        exact kt
      obtain ⟨T51, h51, X51, e51, E51, A51, D51, -, st51⟩ := newO X50 hx hZ hown (hw _ (List.mem_of_getElem? (i := 38) rfl)) (hw _ (List.mem_of_getElem? (i := 39) rfl)) (hw _ (List.mem_of_getElem? (i := 40) rfl)) rfl (g := (mkF m 153 #[.val (.int p0), .val (.int p1), .val (.int p2), .val (.int p3), .val (.int p4), .val (.int (1 : Int32)), .val (.ref a_DECIMAL), .val (.ref b31), .val (.ref b34), .val (.int (1 : Int32)), .val (.int (own_min p3 p4)), .val (.int (own_max p3 p4)), .val (.ref dd48), .val (.ref dd50), .unset] [])) rfl (hb hby at_153) (by decide) (by decide)
      obtain ⟨b51, g51⟩ : ∃ z, z = T50.heap.size := ⟨_, rfl⟩
      rw [← g51] at A51 D51 st51
      have g_b51 : n0 ≤ b51 := Nat.le_trans Z50 (Nat.le_of_eq g51.symm)
      have kw_b51 : h0.size ≤ b51 := Nat.le_trans (K50).1 (Nat.le_of_eq g51.symm)
      have ne_b31_b51 : b31 ≠ b51 := Nat.ne_of_lt (Nat.lt_of_lt_of_le (Fa49.keep Kq50 nin0).lt (Nat.le_of_eq g51.symm))
      have ne_b34_b51 : b34 ≠ b51 := Nat.ne_of_lt (Nat.lt_of_lt_of_le ((Eq35.keep Kq48).keep Kq50).lt (Nat.le_of_eq g51.symm))
      have ne_sv_b51 : sv ≠ b51 := Nat.ne_of_lt (Nat.lt_of_lt_of_le ((Aq35.keep Kq48 nin0).keep Kq50 nin0).lt (Nat.le_of_eq g51.symm))
      have ne_dd48_b51 : dd48 ≠ b51 := Nat.ne_of_lt (Nat.lt_of_lt_of_le (Eq48.keep Kq50).lt (Nat.le_of_eq g51.symm))
      have ne_dd50_b51 : dd50 ≠ b51 := Nat.ne_of_lt (Nat.lt_of_lt_of_le Eq50.lt (Nat.le_of_eq g51.symm))
      have K51 := (K50).ext E51
      have Z51 : n0 ≤ h51.size := Nat.le_trans Z50 E51.1
      have hk51 := Nat.le_trans hk50 E51.1
      have F_name_b51 : Fld Z h51 b51 "com/example/inexact_search/inexactsearch/engine/Attribute" "name" "Ljava/lang/String;" .null := D51 (Or.inr (hw _ (List.mem_of_getElem? (i := 62) rfl))) (ty := (.object "java/lang/String")) (by decide)
      have F_type_b51 : Fld Z h51 b51 "com/example/inexact_search/inexactsearch/engine/Attribute" "type" "Lcom/example/inexact_search/inexactsearch/engine/AttributeType;" .null := D51 (Or.inr (hw _ (List.mem_of_getElem? (i := 64) rfl))) (ty := (.object "com/example/inexact_search/inexactsearch/engine/AttributeType")) (by decide)
      have F_declaredMin_b51 : Fld Z h51 b51 "com/example/inexact_search/inexactsearch/engine/Attribute" "declaredMin" "Ljava/lang/Double;" .null := D51 (Or.inr (hw _ (List.mem_of_getElem? (i := 66) rfl))) (ty := (.object "java/lang/Double")) (by decide)
      have F_declaredMax_b51 : Fld Z h51 b51 "com/example/inexact_search/inexactsearch/engine/Attribute" "declaredMax" "Ljava/lang/Double;" .null := D51 (Or.inr (hw _ (List.mem_of_getElem? (i := 68) rfl))) (ty := (.object "java/lang/Double")) (by decide)
      refine own_st st51 ?_
      show own_Gl _ _ _ _ _ _ _ _ (T51.setTop (mkF m 156 #[.val (.int p0), .val (.int p1), .val (.int p2), .val (.int p3), .val (.int p4), .val (.int (1 : Int32)), .val (.ref a_DECIMAL), .val (.ref b31), .val (.ref b34), .val (.int (1 : Int32)), .val (.int (own_min p3 p4)), .val (.int (own_max p3 p4)), .val (.ref dd48), .val (.ref dd50), .unset] [(.ref b51)]))
      refine own_st (A' := T51.setTop (mkF m 165 #[.val (.int p0), .val (.int p1), .val (.int p2), .val (.int p3), .val (.int p4), .val (.int (1 : Int32)), .val (.ref a_DECIMAL), .val (.ref b31), .val (.ref b34), .val (.int (1 : Int32)), .val (.int (own_min p3 p4)), .val (.int (own_max p3 p4)), .val (.ref dd48), .val (.ref dd50), .unset] [(.ref dd50), (.ref dd48), (.ref a_DECIMAL), (.ref b34), (.ref b51), (.ref b51)])) (fun tg kt => ?_) ?_
      · show Steps p.tables e below (T51.setTop (mkF m 156 #[.val (.int p0), .val (.int p1), .val (.int p2), .val (.int p3), .val (.int p4), .val (.int (1 : Int32)), .val (.ref a_DECIMAL), .val (.ref b31), .val (.ref b34), .val (.int (1 : Int32)), .val (.int (own_min p3 p4)), .val (.int (own_max p3 p4)), .val (.ref dd48), .val (.ref dd50), .unset] [(.ref b51)])) _
        refine XS.dup X51.here hx rfl (hb hby at_156) rfl rfl ?_
        show Steps p.tables e below (T51.setTop (mkF m 157 #[.val (.int p0), .val (.int p1), .val (.int p2), .val (.int p3), .val (.int p4), .val (.int (1 : Int32)), .val (.ref a_DECIMAL), .val (.ref b31), .val (.ref b34), .val (.int (1 : Int32)), .val (.int (own_min p3 p4)), .val (.int (own_max p3 p4)), .val (.ref dd48), .val (.ref dd50), .unset] [(.ref b51), (.ref b51)])) _
        refine XS.aload X51.here hx rfl (hb hby at_157) rfl rfl ?_
        show Steps p.tables e below (T51.setTop (mkF m 159 #[.val (.int p0), .val (.int p1), .val (.int p2), .val (.int p3), .val (.int p4), .val (.int (1 : Int32)), .val (.ref a_DECIMAL), .val (.ref b31), .val (.ref b34), .val (.int (1 : Int32)), .val (.int (own_min p3 p4)), .val (.int (own_max p3 p4)), .val (.ref dd48), .val (.ref dd50), .unset] [(.ref b34), (.ref b51), (.ref b51)])) _
        refine XS.aload X51.here hx rfl (hb hby at_159) rfl rfl ?_
        show Steps p.tables e below (T51.setTop (mkF m 161 #[.val (.int p0), .val (.int p1), .val (.int p2), .val (.int p3), .val (.int p4), .val (.int (1 : Int32)), .val (.ref a_DECIMAL), .val (.ref b31), .val (.ref b34), .val (.int (1 : Int32)), .val (.int (own_min p3 p4)), .val (.int (own_max p3 p4)), .val (.ref dd48), .val (.ref dd50), .unset] [(.ref a_DECIMAL), (.ref b34), (.ref b51), (.ref b51)])) _
        refine XS.aload X51.here hx rfl (hb hby at_161) rfl rfl ?_
        show Steps p.tables e below (T51.setTop (mkF m 163 #[.val (.int p0), .val (.int p1), .val (.int p2), .val (.int p3), .val (.int p4), .val (.int (1 : Int32)), .val (.ref a_DECIMAL), .val (.ref b31), .val (.ref b34), .val (.int (1 : Int32)), .val (.int (own_min p3 p4)), .val (.int (own_max p3 p4)), .val (.ref dd48), .val (.ref dd50), .unset] [(.ref dd48), (.ref a_DECIMAL), (.ref b34), (.ref b51), (.ref b51)])) _
        refine XS.aload X51.here hx rfl (hb hby at_163) rfl rfl ?_
        exact kt
      obtain ⟨_, _, ⟨T52, L52, k52, n52⟩, -, X52, hSq52, hgq52, ⟨Lc52, hQ52, l52, y52, z52⟩, st52⟩ := X51.specialBackS hx (y := (⟨"com/example/inexact_search/inexactsearch/engine/Attribute", "<init>", "(Ljava/lang/String;Lcom/example/inexact_search/inexactsearch/engine/AttributeType;Ljava/lang/Double;Ljava/lang/Double;)V"⟩ : MethodName)) rfl hown (mvT hZ (hw _ (List.mem_of_getElem? (i := 78) rfl))) (mvT hZ (hw _ (List.mem_of_getElem? (i := 45) rfl))) (mvT hZ (hw _ (List.mem_of_getElem? (i := 46) rfl))) (by decide) (backOfS (W := 1) (rm9d l Z a0 hw [] b51 b34 a_DECIMAL dd48 dd50 sv skb ([((nar .char ((p1 &&& (255 : Int32)).toUInt32.toUInt16.toUInt32.toInt32))).toInt8.toInt32].map Value.int) a_INTEGER a_DECIMAL (FP.i2d (own_min p3 p4)) (FP.i2d (own_max p3 p4)) h51 n0 Z51 F_name_b51 F_type_b51 F_declaredMin_b51 F_declaredMax_b51 A51 g_b51 (((Eq35.keep Kq48).keep Kq50).ext E51) (((Vq35.keep Kq48 nin0).keep Kq50 nin0).ext E51) (((Aq35.keep Kq48 nin0).keep Kq50 nin0).ext E51) ne_b34_b51 ne_sv_b51 (S_INTEGER.ext (own_kext K51)) (S_DECIMAL.ext (own_kext K51)) (E_DECIMAL.ext (own_kext K51)) ((if_neg (Fld.ne F_DECIMAL_ordinal F_INTEGER_ordinal (by decide))).trans (if_pos rfl)) ((Eq48.keep Kq50).ext E51) ((Fq48.keep Kq50 nin0).ext E51) (Eq50.ext E51) (Fq50.ext E51) ne_dd48_b51 ne_dd50_b51 (Nat.ne_of_lt (Nat.lt_of_lt_of_le E_DECIMAL.lt kw_b51)) (own_fin _) (own_fin _) (own_le _ _)) hZ (hw _ (List.mem_of_getElem? (i := 46) rfl)) (hw _ (List.mem_of_getElem? (i := 40) rfl)) (by decide) (by decide)) (g := (mkF m 165 #[.val (.int p0), .val (.int p1), .val (.int p2), .val (.int p3), .val (.int p4), .val (.int (1 : Int32)), .val (.ref a_DECIMAL), .val (.ref b31), .val (.ref b34), .val (.int (1 : Int32)), .val (.int (own_min p3 p4)), .val (.int (own_max p3 p4)), .val (.ref dd48), .val (.ref dd50), .unset] [(.ref dd50), (.ref dd48), (.ref a_DECIMAL), (.ref b34), (.ref b51), (.ref b51)])) rfl (by rw [hml]; rfl) (Steps.refl _) (a := b51) (argsL := [(.ref b34), (.ref a_DECIMAL), (.ref dd48), (.ref dd50)]) (rest := [(.ref b51)]) (lenOf own_pd14 rfl) rfl (by show 2 * 0 + _ ≤ _; exact Nat.le_of_eq rfl) (hb hby at_165) (fun _ _ => ⟨rfl, e51, (by decide : 6 + 4 ≤ _), (by decide : 12 + 40 ≤ _)⟩)
      dsimp only [Pt.U, Pt.locs, Pt.cells, Pt.slots] at X52 l52 y52 z52 st52 hQ52 hSq52 hgq52
      subst l52 y52 z52
      replace X52 : Stand p l e _ (s.setVm T52.vm) m _ below meth c T52 _ _ _ := X52
      have hS52 : s.Since T52.vm T52.heap.size := hS0.trans hSq52 (Nat.le_trans hk51 (by rw [← e51]; exact hgq52))
      have hZ52 : Z.Warmed39 (s.setVm T52.vm).vm := State.Warmed39.trans (t := (s.setVm s.vm)) hZ hSq52.1
      have hown52 : (s.setVm T52.vm).vm.findClass "com/example/inexact_search/inexactsearch/engine/AttributeHasDeclaredRangePinLaw" = some m.cls := by rw [show (s.setVm T52.vm).vm = T52.vm from rfl, hSq52.1.alike.findClass]; exact hown
      have hk52 : T52.heap.size ≤ T52.heap.size := Nat.le_refl _
      obtain ⟨rfl, Nq52, Kq52, Eq52, Fq52, Gq52⟩ := hQ52
      have N52 := Fr.app N50 Nq52
      have Fa53 := (((Fa49.keep Kq50 nin0).ext E51).keep Kq52 (ninS ne_b31_b51 nin0))
      have Fa54 := ((((Vq35.keep Kq48 nin0).keep Kq50 nin0).ext E51).keep Kq52 (ninS ne_b34_b51 nin0))
      have Fa55 := ((((Aq35.keep Kq48 nin0).keep Kq50 nin0).ext E51).keep Kq52 (ninS ne_sv_b51 nin0))
      have Fa56 := (((Fq48.keep Kq50 nin0).ext E51).keep Kq52 (ninS ne_dd48_b51 nin0))
      have K52 := (K51).trans Kq52 (allS (Or.inr kw_b51) all0)
      have Z52 : n0 ≤ T52.heap.size := Nat.le_trans Z51 Kq52.1
      refine own_tr st52 ?_
      show own_Gl _ _ _ _ _ _ _ _ (T52.setTop (mkF m 168 #[.val (.int p0), .val (.int p1), .val (.int p2), .val (.int p3), .val (.int p4), .val (.int (1 : Int32)), .val (.ref a_DECIMAL), .val (.ref b31), .val (.ref b34), .val (.int (1 : Int32)), .val (.int (own_min p3 p4)), .val (.int (own_max p3 p4)), .val (.ref dd48), .val (.ref dd50), .unset] [(.ref b51)]))
      refine own_st (A' := T52.setTop (mkF m 172 #[.val (.int p0), .val (.int p1), .val (.int p2), .val (.int p3), .val (.int p4), .val (.int (1 : Int32)), .val (.ref a_DECIMAL), .val (.ref b31), .val (.ref b34), .val (.int (1 : Int32)), .val (.int (own_min p3 p4)), .val (.int (own_max p3 p4)), .val (.ref dd48), .val (.ref dd50), .val (.ref b51)] [(.ref b51)])) (fun tg kt => ?_) ?_
      · show Steps p.tables e below (T52.setTop (mkF m 168 #[.val (.int p0), .val (.int p1), .val (.int p2), .val (.int p3), .val (.int p4), .val (.int (1 : Int32)), .val (.ref a_DECIMAL), .val (.ref b31), .val (.ref b34), .val (.int (1 : Int32)), .val (.int (own_min p3 p4)), .val (.int (own_max p3 p4)), .val (.ref dd48), .val (.ref dd50), .unset] [(.ref b51)])) _
        refine XS.astore X52.here hx rfl (hb hby at_168) rfl rfl (l' := #[.val (.int p0), .val (.int p1), .val (.int p2), .val (.int p3), .val (.int p4), .val (.int (1 : Int32)), .val (.ref a_DECIMAL), .val (.ref b31), .val (.ref b34), .val (.int (1 : Int32)), .val (.int (own_min p3 p4)), .val (.int (own_max p3 p4)), .val (.ref dd48), .val (.ref dd50), .val (.ref b51)]) rfl ?_
        show Steps p.tables e below (T52.setTop (mkF m 170 #[.val (.int p0), .val (.int p1), .val (.int p2), .val (.int p3), .val (.int p4), .val (.int (1 : Int32)), .val (.ref a_DECIMAL), .val (.ref b31), .val (.ref b34), .val (.int (1 : Int32)), .val (.int (own_min p3 p4)), .val (.int (own_max p3 p4)), .val (.ref dd48), .val (.ref dd50), .val (.ref b51)] [])) _
        refine XS.aload X52.here hx rfl (hb hby at_170) rfl rfl ?_
        exact kt
      obtain ⟨cq57, kq57, q57a, q57b, q57c⟩ := isOf hZ52 rfl Eq52
      obtain ⟨_, _, ⟨T57, L57, k57, n57⟩, -, X57, ⟨Lc57, hQ57, l57, y57, z57⟩, st57⟩ := X52.virtualBack hx (y := (⟨"com/example/inexact_search/inexactsearch/engine/Attribute", "hasDeclaredRange", "()Z"⟩ : MethodName)) (z := (⟨"com/example/inexact_search/inexactsearch/engine/Attribute", "hasDeclaredRange", "()Z"⟩ : MethodName)) hown52 (mvT hZ52 (hw _ (List.mem_of_getElem? (i := 69) rfl))) (mvT hZ52 (hw _ (List.mem_of_getElem? (i := 70) rfl))) (notFace_of_selects (args := #[]) (mvT hZ52 (hw _ (List.mem_of_getElem? (i := 72) rfl)))) (mvT hZ52 (hw _ (List.mem_of_getElem? (i := 72) rfl))) (mvT hZ52 (hw _ (List.mem_of_getElem? (i := 71) rfl))) (by decide) (backOf (W := 0) (rm12d l Z a0 hw [] b51 dd48 T52.heap n0 Z52 Fq52) hZ52 (hw _ (List.mem_of_getElem? (i := 73) rfl)) (hw _ (List.mem_of_getElem? (i := 40) rfl)) (by decide) (by decide)) q57a q57c (g := (mkF m 172 #[.val (.int p0), .val (.int p1), .val (.int p2), .val (.int p3), .val (.int p4), .val (.int (1 : Int32)), .val (.ref a_DECIMAL), .val (.ref b31), .val (.ref b34), .val (.int (1 : Int32)), .val (.int (own_min p3 p4)), .val (.int (own_max p3 p4)), .val (.ref dd48), .val (.ref dd50), .val (.ref b51)] [(.ref b51)])) rfl (by rw [hml]; rfl) (Steps.refl _) (argsL := []) (rest := []) (lenOf own_pd10 rfl) rfl (by show 2 * 0 + _ ≤ _; exact Nat.le_of_eq rfl) (hb hby at_172) (fun _ _ => ⟨rfl, rfl, (by decide : 10 + 0 ≤ _), (by decide : 52 + 0 ≤ _)⟩)
      dsimp only [Pt.U, Pt.locs, Pt.cells, Pt.slots] at X57 l57 y57 z57 st57 hQ57
      subst l57 y57 z57
      obtain ⟨rfl, Nq57, eq57⟩ := hQ57
      have N57 := Fr.app N52 Nq57
      refine own_tr st57 ?_
      show own_Gl _ _ _ _ _ _ _ _ (T57.setTop (mkF m 175 #[.val (.int p0), .val (.int p1), .val (.int p2), .val (.int p3), .val (.int p4), .val (.int (1 : Int32)), .val (.ref a_DECIMAL), .val (.ref b31), .val (.ref b34), .val (.int (1 : Int32)), .val (.int (own_min p3 p4)), .val (.int (own_max p3 p4)), .val (.ref dd48), .val (.ref dd50), .val (.ref b51)] [(.int (1 : Int32))]))
      refine own_st (A' := T57.setTop (mkF m 180 #[.val (.int p0), .val (.int p1), .val (.int p2), .val (.int p3), .val (.int p4), .val (.int (1 : Int32)), .val (.ref a_DECIMAL), .val (.ref b31), .val (.ref b34), .val (.int (1 : Int32)), .val (.int (own_min p3 p4)), .val (.int (own_max p3 p4)), .val (.ref dd48), .val (.ref dd50), .val (.ref b51)] [(.ref b51)])) (fun tg kt => ?_) ?_
      · show Steps p.tables e below (T57.setTop (mkF m 175 #[.val (.int p0), .val (.int p1), .val (.int p2), .val (.int p3), .val (.int p4), .val (.int (1 : Int32)), .val (.ref a_DECIMAL), .val (.ref b31), .val (.ref b34), .val (.int (1 : Int32)), .val (.int (own_min p3 p4)), .val (.int (own_max p3 p4)), .val (.ref dd48), .val (.ref dd50), .val (.ref b51)] [(.int (1 : Int32))])) _
        refine XS.ifNo X57.here hx rfl (hb hby at_175) rfl ((if0 _ _).trans (feq ((by decide) : ¬ ((1 : Int32) = (0 : Int32)))).1) ?_
        show Steps p.tables e below (T57.setTop (mkF m 178 #[.val (.int p0), .val (.int p1), .val (.int p2), .val (.int p3), .val (.int p4), .val (.int (1 : Int32)), .val (.ref a_DECIMAL), .val (.ref b31), .val (.ref b34), .val (.int (1 : Int32)), .val (.int (own_min p3 p4)), .val (.int (own_max p3 p4)), .val (.ref dd48), .val (.ref dd50), .val (.ref b51)] [])) _
        refine XS.aload X57.here hx rfl (hb hby at_178) rfl rfl ?_
        exact kt
      obtain ⟨cq58, kq58, q58a, q58b, q58c⟩ := isOf hZ52 eq57 Eq52
      obtain ⟨_, _, ⟨T58, L58, k58, n58⟩, -, X58, ⟨Lc58, hQ58, l58, y58, z58⟩, st58⟩ := X57.virtualBack hx (y := (⟨"com/example/inexact_search/inexactsearch/engine/Attribute", "declaredMin", "()D"⟩ : MethodName)) (z := (⟨"com/example/inexact_search/inexactsearch/engine/Attribute", "declaredMin", "()D"⟩ : MethodName)) hown52 (mvT hZ52 (hw _ (List.mem_of_getElem? (i := 123) rfl))) (mvT hZ52 (hw _ (List.mem_of_getElem? (i := 124) rfl))) (notFace_of_selects (args := #[]) (mvT hZ52 (hw _ (List.mem_of_getElem? (i := 126) rfl)))) (mvT hZ52 (hw _ (List.mem_of_getElem? (i := 126) rfl))) (mvT hZ52 (hw _ (List.mem_of_getElem? (i := 125) rfl))) (by decide) (backOf (W := 0) (rm22 l Z a0 hw [] b51 dd48 dd50 (FP.i2d (own_min p3 p4)) T52.heap n0 Z52 Fq52 Gq52 Eq52 (((Eq48.keep Kq50).ext E51).keep Kq52) Fa56) hZ52 (hw _ (List.mem_of_getElem? (i := 127) rfl)) (hw _ (List.mem_of_getElem? (i := 40) rfl)) (by decide) (by decide)) q58a q58c (g := (mkF m 180 #[.val (.int p0), .val (.int p1), .val (.int p2), .val (.int p3), .val (.int p4), .val (.int (1 : Int32)), .val (.ref a_DECIMAL), .val (.ref b31), .val (.ref b34), .val (.int (1 : Int32)), .val (.int (own_min p3 p4)), .val (.int (own_max p3 p4)), .val (.ref dd48), .val (.ref dd50), .val (.ref b51)] [(.ref b51)])) rfl (by rw [hml]; rfl) (Steps.refl _) (argsL := []) (rest := []) (lenOf own_pd12 rfl) rfl (by show 2 * 0 + _ ≤ _; exact Nat.le_of_eq rfl) (hb hby at_180) (fun _ _ => ⟨rfl, eq57, (by decide : 10 + 0 ≤ _), (by decide : 52 + 0 ≤ _)⟩)
      dsimp only [Pt.U, Pt.locs, Pt.cells, Pt.slots] at X58 l58 y58 z58 st58 hQ58
      subst l58 y58 z58
      obtain ⟨rfl, Nq58, eq58⟩ := hQ58
      have N58 := Fr.app N57 Nq58
      refine own_tr st58 ?_
      show own_Gl _ _ _ _ _ _ _ _ (T58.setTop (mkF m 183 #[.val (.int p0), .val (.int p1), .val (.int p2), .val (.int p3), .val (.int p4), .val (.int (1 : Int32)), .val (.ref a_DECIMAL), .val (.ref b31), .val (.ref b34), .val (.int (1 : Int32)), .val (.int (own_min p3 p4)), .val (.int (own_max p3 p4)), .val (.ref dd48), .val (.ref dd50), .val (.ref b51)] [(.double (FP.i2d (own_min p3 p4)))]))
      refine own_st (A' := T58.setTop (mkF m 192 #[.val (.int p0), .val (.int p1), .val (.int p2), .val (.int p3), .val (.int p4), .val (.int (1 : Int32)), .val (.ref a_DECIMAL), .val (.ref b31), .val (.ref b34), .val (.int (1 : Int32)), .val (.int (own_min p3 p4)), .val (.int (own_max p3 p4)), .val (.ref dd48), .val (.ref dd50), .val (.ref b51)] [(.ref b51)])) (fun tg kt => ?_) ?_
      · show Steps p.tables e below (T58.setTop (mkF m 183 #[.val (.int p0), .val (.int p1), .val (.int p2), .val (.int p3), .val (.int p4), .val (.int (1 : Int32)), .val (.ref a_DECIMAL), .val (.ref b31), .val (.ref b34), .val (.int (1 : Int32)), .val (.int (own_min p3 p4)), .val (.int (own_max p3 p4)), .val (.ref dd48), .val (.ref dd50), .val (.ref b51)] [(.double (FP.i2d (own_min p3 p4)))])) _
        refine XS.iload X58.here hx rfl (hb hby at_183) rfl ?_
        show Steps p.tables e below (T58.setTop (mkF m 185 #[.val (.int p0), .val (.int p1), .val (.int p2), .val (.int p3), .val (.int p4), .val (.int (1 : Int32)), .val (.ref a_DECIMAL), .val (.ref b31), .val (.ref b34), .val (.int (1 : Int32)), .val (.int (own_min p3 p4)), .val (.int (own_max p3 p4)), .val (.ref dd48), .val (.ref dd50), .val (.ref b51)] [(.int (own_min p3 p4)), (.double (FP.i2d (own_min p3 p4)))])) _
        refine XS.i2dS X58.here hx rfl (hb hby at_185) rfl rfl ?_
        show Steps p.tables e below (T58.setTop (mkF m 186 #[.val (.int p0), .val (.int p1), .val (.int p2), .val (.int p3), .val (.int p4), .val (.int (1 : Int32)), .val (.ref a_DECIMAL), .val (.ref b31), .val (.ref b34), .val (.int (1 : Int32)), .val (.int (own_min p3 p4)), .val (.int (own_max p3 p4)), .val (.ref dd48), .val (.ref dd50), .val (.ref b51)] [(.double (FP.i2d (own_min p3 p4))), (.double (FP.i2d (own_min p3 p4)))])) _
        refine XS.dcmpS X58.here hx rfl (hb hby at_186) rfl rfl ?_
        show Steps p.tables e below (T58.setTop (mkF m 187 #[.val (.int p0), .val (.int p1), .val (.int p2), .val (.int p3), .val (.int p4), .val (.int (1 : Int32)), .val (.ref a_DECIMAL), .val (.ref b31), .val (.ref b34), .val (.int (1 : Int32)), .val (.int (own_min p3 p4)), .val (.int (own_max p3 p4)), .val (.ref dd48), .val (.ref dd50), .val (.ref b51)] [(.int (cmpValue (FP.dcmp (FP.i2d (own_min p3 p4)) (FP.i2d (own_min p3 p4))) .l))])) _
        refine XS.ifNo X58.here hx rfl (hb hby at_187) rfl ((if0 _ _).trans (teq (dcmpV_self (own_fin _).noNaN .l : (cmpValue (FP.dcmp (FP.i2d (own_min p3 p4)) (FP.i2d (own_min p3 p4))) .l) = (0 : Int32))).2) ?_
        show Steps p.tables e below (T58.setTop (mkF m 190 #[.val (.int p0), .val (.int p1), .val (.int p2), .val (.int p3), .val (.int p4), .val (.int (1 : Int32)), .val (.ref a_DECIMAL), .val (.ref b31), .val (.ref b34), .val (.int (1 : Int32)), .val (.int (own_min p3 p4)), .val (.int (own_max p3 p4)), .val (.ref dd48), .val (.ref dd50), .val (.ref b51)] [])) _
        refine XS.aload X58.here hx rfl (hb hby at_190) rfl rfl ?_
        exact kt
      obtain ⟨cq59, kq59, q59a, q59b, q59c⟩ := isOf hZ52 eq58 Eq52
      obtain ⟨_, _, ⟨T59, L59, k59, n59⟩, -, X59, ⟨Lc59, hQ59, l59, y59, z59⟩, st59⟩ := X58.virtualBack hx (y := (⟨"com/example/inexact_search/inexactsearch/engine/Attribute", "declaredMax", "()D"⟩ : MethodName)) (z := (⟨"com/example/inexact_search/inexactsearch/engine/Attribute", "declaredMax", "()D"⟩ : MethodName)) hown52 (mvT hZ52 (hw _ (List.mem_of_getElem? (i := 133) rfl))) (mvT hZ52 (hw _ (List.mem_of_getElem? (i := 134) rfl))) (notFace_of_selects (args := #[]) (mvT hZ52 (hw _ (List.mem_of_getElem? (i := 136) rfl)))) (mvT hZ52 (hw _ (List.mem_of_getElem? (i := 136) rfl))) (mvT hZ52 (hw _ (List.mem_of_getElem? (i := 135) rfl))) (by decide) (backOf (W := 0) (rm24 l Z a0 hw [] b51 dd48 dd50 (FP.i2d (own_max p3 p4)) T52.heap n0 Z52 Fq52 Gq52 Eq52 ((Eq50.ext E51).keep Kq52) ((Fq50.ext E51).keep Kq52 (ninS ne_dd50_b51 nin0))) hZ52 (hw _ (List.mem_of_getElem? (i := 137) rfl)) (hw _ (List.mem_of_getElem? (i := 40) rfl)) (by decide) (by decide)) q59a q59c (g := (mkF m 192 #[.val (.int p0), .val (.int p1), .val (.int p2), .val (.int p3), .val (.int p4), .val (.int (1 : Int32)), .val (.ref a_DECIMAL), .val (.ref b31), .val (.ref b34), .val (.int (1 : Int32)), .val (.int (own_min p3 p4)), .val (.int (own_max p3 p4)), .val (.ref dd48), .val (.ref dd50), .val (.ref b51)] [(.ref b51)])) rfl (by rw [hml]; rfl) (Steps.refl _) (argsL := []) (rest := []) (lenOf own_pd12 rfl) rfl (by show 2 * 0 + _ ≤ _; exact Nat.le_of_eq rfl) (hb hby at_192) (fun _ _ => ⟨rfl, eq58, (by decide : 10 + 0 ≤ _), (by decide : 52 + 0 ≤ _)⟩)
      dsimp only [Pt.U, Pt.locs, Pt.cells, Pt.slots] at X59 l59 y59 z59 st59 hQ59
      subst l59 y59 z59
      obtain ⟨rfl, Nq59, eq59⟩ := hQ59
      have N59 := Fr.app N58 Nq59
      refine own_tr st59 ?_
      show own_Gl _ _ _ _ _ _ _ _ (T59.setTop (mkF m 195 #[.val (.int p0), .val (.int p1), .val (.int p2), .val (.int p3), .val (.int p4), .val (.int (1 : Int32)), .val (.ref a_DECIMAL), .val (.ref b31), .val (.ref b34), .val (.int (1 : Int32)), .val (.int (own_min p3 p4)), .val (.int (own_max p3 p4)), .val (.ref dd48), .val (.ref dd50), .val (.ref b51)] [(.double (FP.i2d (own_max p3 p4)))]))
      refine own_st (A' := T59.setTop (mkF m 207 #[.val (.int p0), .val (.int p1), .val (.int p2), .val (.int p3), .val (.int p4), .val (.int (1 : Int32)), .val (.ref a_DECIMAL), .val (.ref b31), .val (.ref b34), .val (.int (1 : Int32)), .val (.int (own_min p3 p4)), .val (.int (own_max p3 p4)), .val (.ref dd48), .val (.ref dd50), .val (.ref b51)] [(.int (1 : Int32))])) (fun tg kt => ?_) ?_
      · show Steps p.tables e below (T59.setTop (mkF m 195 #[.val (.int p0), .val (.int p1), .val (.int p2), .val (.int p3), .val (.int p4), .val (.int (1 : Int32)), .val (.ref a_DECIMAL), .val (.ref b31), .val (.ref b34), .val (.int (1 : Int32)), .val (.int (own_min p3 p4)), .val (.int (own_max p3 p4)), .val (.ref dd48), .val (.ref dd50), .val (.ref b51)] [(.double (FP.i2d (own_max p3 p4)))])) _
        refine XS.iload X59.here hx rfl (hb hby at_195) rfl ?_
        show Steps p.tables e below (T59.setTop (mkF m 197 #[.val (.int p0), .val (.int p1), .val (.int p2), .val (.int p3), .val (.int p4), .val (.int (1 : Int32)), .val (.ref a_DECIMAL), .val (.ref b31), .val (.ref b34), .val (.int (1 : Int32)), .val (.int (own_min p3 p4)), .val (.int (own_max p3 p4)), .val (.ref dd48), .val (.ref dd50), .val (.ref b51)] [(.int (own_max p3 p4)), (.double (FP.i2d (own_max p3 p4)))])) _
        refine XS.i2dS X59.here hx rfl (hb hby at_197) rfl rfl ?_
        show Steps p.tables e below (T59.setTop (mkF m 198 #[.val (.int p0), .val (.int p1), .val (.int p2), .val (.int p3), .val (.int p4), .val (.int (1 : Int32)), .val (.ref a_DECIMAL), .val (.ref b31), .val (.ref b34), .val (.int (1 : Int32)), .val (.int (own_min p3 p4)), .val (.int (own_max p3 p4)), .val (.ref dd48), .val (.ref dd50), .val (.ref b51)] [(.double (FP.i2d (own_max p3 p4))), (.double (FP.i2d (own_max p3 p4)))])) _
        refine XS.dcmpS X59.here hx rfl (hb hby at_198) rfl rfl ?_
        show Steps p.tables e below (T59.setTop (mkF m 199 #[.val (.int p0), .val (.int p1), .val (.int p2), .val (.int p3), .val (.int p4), .val (.int (1 : Int32)), .val (.ref a_DECIMAL), .val (.ref b31), .val (.ref b34), .val (.int (1 : Int32)), .val (.int (own_min p3 p4)), .val (.int (own_max p3 p4)), .val (.ref dd48), .val (.ref dd50), .val (.ref b51)] [(.int (cmpValue (FP.dcmp (FP.i2d (own_max p3 p4)) (FP.i2d (own_max p3 p4))) .l))])) _
        refine XS.ifNo X59.here hx rfl (hb hby at_199) rfl ((if0 _ _).trans (teq (dcmpV_self (own_fin _).noNaN .l : (cmpValue (FP.dcmp (FP.i2d (own_max p3 p4)) (FP.i2d (own_max p3 p4))) .l) = (0 : Int32))).2) ?_
        show Steps p.tables e below (T59.setTop (mkF m 202 #[.val (.int p0), .val (.int p1), .val (.int p2), .val (.int p3), .val (.int p4), .val (.int (1 : Int32)), .val (.ref a_DECIMAL), .val (.ref b31), .val (.ref b34), .val (.int (1 : Int32)), .val (.int (own_min p3 p4)), .val (.int (own_max p3 p4)), .val (.ref dd48), .val (.ref dd50), .val (.ref b51)] [])) _
        refine XS.iconst X59.here hx rfl (hb hby at_202) ?_
        show Steps p.tables e below (T59.setTop (mkF m 203 #[.val (.int p0), .val (.int p1), .val (.int p2), .val (.int p3), .val (.int p4), .val (.int (1 : Int32)), .val (.ref a_DECIMAL), .val (.ref b31), .val (.ref b34), .val (.int (1 : Int32)), .val (.int (own_min p3 p4)), .val (.int (own_max p3 p4)), .val (.ref dd48), .val (.ref dd50), .val (.ref b51)] [(.int (1 : Int32))])) _
        refine XS.goto X59.here hx rfl (pc0 := 203) (pc' := 207) rfl (hb hby at_203) (by decide) (by decide) ?_
        exact kt
      refine own_retW X59 hS52 (by rw [eq59]; exact hk52) (v := some (.int (1 : Int32))) (fun h => by rw [Bd.returns] at h; cases h) hlk (by decide) (by decide) ?_ (fun fs hr => ?_)
      · show Q0 Z p0 p1 p2 p3 p4 a_INTEGER a_DECIMAL a_STRING a_BOOLEAN a_STRINGS cs h0 n0 (some (.int (1 : Int32))) T59.heap _
        rw [eq59]
        exact ⟨rfl, N59⟩
      · show Steps p.tables e below (T59.setTop (mkF m 207 #[.val (.int p0), .val (.int p1), .val (.int p2), .val (.int p3), .val (.int p4), .val (.int (1 : Int32)), .val (.ref a_DECIMAL), .val (.ref b31), .val (.ref b34), .val (.int (1 : Int32)), .val (.int (own_min p3 p4)), .val (.int (own_max p3 p4)), .val (.ref dd48), .val (.ref dd50), .val (.ref b51)] [(.int (1 : Int32))])) _
        exact retN X59 hx (t := .boolean) Bd.returns (by simp) (hb hby at_207) hr
  · show own_Gl _ _ _ _ _ _ _ _ (s₁.setTop (mkF m 6 #[.val (.int p0), .val (.int p1), .val (.int p2), .val (.int p3), .val (.int p4), .unset, .unset, .unset, .unset, .unset, .unset, .unset, .unset, .unset, .unset] [(.int (2 : Int32))]))
    refine own_st (A' := s₁.setTop (mkF m 10 #[.val (.int p0), .val (.int p1), .val (.int p2), .val (.int p3), .val (.int p4), .val (.int (2 : Int32)), .unset, .unset, .unset, .unset, .unset, .unset, .unset, .unset, .unset] [(.int (2 : Int32))])) (fun tg kt => ?_) ?_
    · show Steps p.tables e below (s₁.setTop (mkF m 6 #[.val (.int p0), .val (.int p1), .val (.int p2), .val (.int p3), .val (.int p4), .unset, .unset, .unset, .unset, .unset, .unset, .unset, .unset, .unset, .unset] [(.int (2 : Int32))])) _
      refine XS.istore X0.here hx rfl (hb hby at_6) rfl (l' := #[.val (.int p0), .val (.int p1), .val (.int p2), .val (.int p3), .val (.int p4), .val (.int (2 : Int32)), .unset, .unset, .unset, .unset, .unset, .unset, .unset, .unset, .unset]) rfl ?_
      show Steps p.tables e below (s₁.setTop (mkF m 8 #[.val (.int p0), .val (.int p1), .val (.int p2), .val (.int p3), .val (.int p4), .val (.int (2 : Int32)), .unset, .unset, .unset, .unset, .unset, .unset, .unset, .unset, .unset] [])) _
      refine XS.iload X0.here hx rfl (hb hby at_8) rfl ?_
      exact kt
    obtain ⟨_, _, ⟨T60, L60, k60, n60⟩, -, X60, ⟨Lc60, hQ60, l60, y60, z60⟩, st60⟩ := Jvm.LawKit.callS X0 hx (y := (⟨"com/example/inexact_search/inexactsearch/engine/AttributeHasDeclaredRangePinLaw", "typeOf", "(I)Lcom/example/inexact_search/inexactsearch/engine/AttributeType;"⟩ : MethodName)) hown (mvT hZ (hw _ (List.mem_of_getElem? (i := 1) rfl))) (mvT hZ (hw _ (List.mem_of_getElem? (i := 2) rfl))) (mvT hZ (hw _ (List.mem_of_getElem? (i := 3) rfl))) (mvT hZ (hw _ (List.mem_of_getElem? (i := 4) rfl))) (by decide) (backOf (W := 0) (rm1 l Z a0 hw [] (2 : Int32) a_INTEGER a_DECIMAL a_STRING a_BOOLEAN a_STRINGS h0 n0 Z0 S_INTEGER S_DECIMAL S_STRING S_BOOLEAN S_STRINGS) hZ (hw _ (List.mem_of_getElem? (i := 4) rfl)) (hw _ (List.mem_of_getElem? (i := 3) rfl)) (by decide) (by decide)) (g := (mkF m 10 #[.val (.int p0), .val (.int p1), .val (.int p2), .val (.int p3), .val (.int p4), .val (.int (2 : Int32)), .unset, .unset, .unset, .unset, .unset, .unset, .unset, .unset, .unset] [(.int (2 : Int32))])) rfl (by rw [hml]; rfl) (argsL := [(.int (2 : Int32))]) (rest := []) (lenOf own_pd15 rfl) rfl (by show 2 * 0 + _ ≤ _; exact Nat.le_of_eq rfl) (hb hby at_10) (fun _ _ => ⟨rfl, e0, (by decide : 0 + 0 ≤ _), (by decide : 0 + 0 ≤ _)⟩)
    dsimp only [Pt.U, Pt.locs, Pt.cells, Pt.slots] at X60 l60 y60 z60 st60 hQ60
    subst l60 y60 z60
    obtain ⟨hv60, hr60⟩ := hQ60
    rw [show own_pick1 (2 : Int32) a_INTEGER a_DECIMAL a_STRING a_BOOLEAN a_STRINGS = a_STRING from rfl] at hv60
    have hQ60 := And.intro hv60 hr60
    obtain ⟨rfl, Nq60, eq60⟩ := hQ60
    have N60 := Fr.app N0 Nq60
    refine own_st st60 ?_
    show own_Gl _ _ _ _ _ _ _ _ (T60.setTop (mkF m 13 #[.val (.int p0), .val (.int p1), .val (.int p2), .val (.int p3), .val (.int p4), .val (.int (2 : Int32)), .unset, .unset, .unset, .unset, .unset, .unset, .unset, .unset, .unset] [(.ref a_STRING)]))
    refine own_st (A' := T60.setTop (mkF m 16 #[.val (.int p0), .val (.int p1), .val (.int p2), .val (.int p3), .val (.int p4), .val (.int (2 : Int32)), .val (.ref a_STRING), .unset, .unset, .unset, .unset, .unset, .unset, .unset, .unset] [(.int (1 : Int32))])) (fun tg kt => ?_) ?_
    · show Steps p.tables e below (T60.setTop (mkF m 13 #[.val (.int p0), .val (.int p1), .val (.int p2), .val (.int p3), .val (.int p4), .val (.int (2 : Int32)), .unset, .unset, .unset, .unset, .unset, .unset, .unset, .unset, .unset] [(.ref a_STRING)])) _
      refine XS.astore X60.here hx rfl (hb hby at_13) rfl rfl (l' := #[.val (.int p0), .val (.int p1), .val (.int p2), .val (.int p3), .val (.int p4), .val (.int (2 : Int32)), .val (.ref a_STRING), .unset, .unset, .unset, .unset, .unset, .unset, .unset, .unset]) rfl ?_
      show Steps p.tables e below (T60.setTop (mkF m 15 #[.val (.int p0), .val (.int p1), .val (.int p2), .val (.int p3), .val (.int p4), .val (.int (2 : Int32)), .val (.ref a_STRING), .unset, .unset, .unset, .unset, .unset, .unset, .unset, .unset] [])) _
      refine XS.iconst X60.here hx rfl (hb hby at_15) ?_
      exact kt
    obtain ⟨T61, h61, k61, X61, e61, E61, A61, st61⟩ := newP X60 hx hZ (hw _ (List.mem_of_getElem? (i := 8) rfl)) eq60 (g := (mkF m 16 #[.val (.int p0), .val (.int p1), .val (.int p2), .val (.int p3), .val (.int p4), .val (.int (2 : Int32)), .val (.ref a_STRING), .unset, .unset, .unset, .unset, .unset, .unset, .unset, .unset] [(.int (1 : Int32))])) rfl (hb hby at_16) rfl (by decide) (cap := 1) (by decide) (by decide) (by decide) (by decide)
    obtain ⟨b61, g61⟩ : ∃ z, z = h0.size := ⟨_, rfl⟩
    rw [← g61] at A61 st61
    have g_b61 : n0 ≤ b61 := Nat.le_trans Z0 (Nat.le_of_eq g61.symm)
    have kw_b61 : h0.size ≤ b61 := Nat.le_trans ((Keep.refl h0 ([] : List Addr))).1 (Nat.le_of_eq g61.symm)
    have K61 := ((Keep.refl h0 ([] : List Addr))).ext E61
    have Z61 : n0 ≤ h61.size := Nat.le_trans Z0 E61.1
    have hk61 := Nat.le_trans hk0 E61.1
    have V_b61 : Arv Z h61 b61 k61 .char (1 : Int32) [(.int (0 : Int32))] (.int (0 : Int32)) := (Arv.new A61 (by decide)).pad (pad_rep [] (.int (0 : Int32)) 1)
    refine own_st st61 ?_
    show own_Gl _ _ _ _ _ _ _ _ (T61.setTop (mkF m 18 #[.val (.int p0), .val (.int p1), .val (.int p2), .val (.int p3), .val (.int p4), .val (.int (2 : Int32)), .val (.ref a_STRING), .unset, .unset, .unset, .unset, .unset, .unset, .unset, .unset] [(.ref b61)]))
    refine own_st (A' := T61.setTop (mkF m 29 #[.val (.int p0), .val (.int p1), .val (.int p2), .val (.int p3), .val (.int p4), .val (.int (2 : Int32)), .val (.ref a_STRING), .val (.ref b61), .unset, .unset, .unset, .unset, .unset, .unset, .unset] [(.int ((p1 &&& (255 : Int32)).toUInt32.toUInt16.toUInt32.toInt32)), (.int (0 : Int32)), (.ref b61)])) (fun tg kt => ?_) ?_
    · show Steps p.tables e below (T61.setTop (mkF m 18 #[.val (.int p0), .val (.int p1), .val (.int p2), .val (.int p3), .val (.int p4), .val (.int (2 : Int32)), .val (.ref a_STRING), .unset, .unset, .unset, .unset, .unset, .unset, .unset, .unset] [(.ref b61)])) _
      refine XS.astore X61.here hx rfl (hb hby at_18) rfl rfl (l' := #[.val (.int p0), .val (.int p1), .val (.int p2), .val (.int p3), .val (.int p4), .val (.int (2 : Int32)), .val (.ref a_STRING), .val (.ref b61), .unset, .unset, .unset, .unset, .unset, .unset, .unset]) rfl ?_
      show Steps p.tables e below (T61.setTop (mkF m 20 #[.val (.int p0), .val (.int p1), .val (.int p2), .val (.int p3), .val (.int p4), .val (.int (2 : Int32)), .val (.ref a_STRING), .val (.ref b61), .unset, .unset, .unset, .unset, .unset, .unset, .unset] [])) _
      refine XS.aload X61.here hx rfl (hb hby at_20) rfl rfl ?_
      show Steps p.tables e below (T61.setTop (mkF m 22 #[.val (.int p0), .val (.int p1), .val (.int p2), .val (.int p3), .val (.int p4), .val (.int (2 : Int32)), .val (.ref a_STRING), .val (.ref b61), .unset, .unset, .unset, .unset, .unset, .unset, .unset] [(.ref b61)])) _
      refine XS.iconst X61.here hx rfl (hb hby at_22) ?_
      show Steps p.tables e below (T61.setTop (mkF m 23 #[.val (.int p0), .val (.int p1), .val (.int p2), .val (.int p3), .val (.int p4), .val (.int (2 : Int32)), .val (.ref a_STRING), .val (.ref b61), .unset, .unset, .unset, .unset, .unset, .unset, .unset] [(.int (0 : Int32)), (.ref b61)])) _
      refine XS.iloadN X61.here hx rfl (hb hby at_23) rfl ?_
      show Steps p.tables e below (T61.setTop (mkF m 24 #[.val (.int p0), .val (.int p1), .val (.int p2), .val (.int p3), .val (.int p4), .val (.int (2 : Int32)), .val (.ref a_STRING), .val (.ref b61), .unset, .unset, .unset, .unset, .unset, .unset, .unset] [(.int p1), (.int (0 : Int32)), (.ref b61)])) _
      refine XS.sipush X61.here hx rfl (hb hby at_24) ?_
      show Steps p.tables e below (T61.setTop (mkF m 27 #[.val (.int p0), .val (.int p1), .val (.int p2), .val (.int p3), .val (.int p4), .val (.int (2 : Int32)), .val (.ref a_STRING), .val (.ref b61), .unset, .unset, .unset, .unset, .unset, .unset, .unset] [(.int (255 : Int32)), (.int p1), (.int (0 : Int32)), (.ref b61)])) _
      refine XS.iand X61.here hx rfl (hb hby at_27) rfl ?_
      show Steps p.tables e below (T61.setTop (mkF m 28 #[.val (.int p0), .val (.int p1), .val (.int p2), .val (.int p3), .val (.int p4), .val (.int (2 : Int32)), .val (.ref a_STRING), .val (.ref b61), .unset, .unset, .unset, .unset, .unset, .unset, .unset] [(.int (p1 &&& (255 : Int32))), (.int (0 : Int32)), (.ref b61)])) _
      refine XS.i2c X61.here hx rfl (hb hby at_28) rfl ?_
      exact kt
    have Vt62 := V_b61
    obtain ⟨cl62, Ar62, qk62, Sz62, Nn62, Hs62, Gs62⟩ := Vt62
    have hin62 := inb_of (j := (0 : Int32)) Sz62 ⟨by decide, by decide⟩
    obtain ⟨T63, h63, X63, e63, W63, st63⟩ := stC X61 hx hZ e61 Ar62 (j := (0 : Int32)) hin62 (g := (mkF m 29 #[.val (.int p0), .val (.int p1), .val (.int p2), .val (.int p3), .val (.int p4), .val (.int (2 : Int32)), .val (.ref a_STRING), .val (.ref b61), .unset, .unset, .unset, .unset, .unset, .unset, .unset] [(.int ((p1 &&& (255 : Int32)).toUInt32.toUInt16.toUInt32.toInt32)), (.int (0 : Int32)), (.ref b61)])) rfl rfl (hb hby at_29)
    have N63 := Fr.snoc X63 N60 g_b61
    have K63 := (K61).wr W63 (Or.inr kw_b61)
    have Z63 : n0 ≤ h63.size := Nat.le_trans Z61 (Keep.of_wr W63).1
    have hk63 := Nat.le_trans hk61 (Keep.of_wr W63).1
    have V63 : Arv Z h63 b61 k61 .char (1 : Int32) [(.int (nar .char ((p1 &&& (255 : Int32)).toUInt32.toUInt16.toUInt32.toInt32)))] (.int (0 : Int32)) := Arv.set Ar62 qk62 Sz62 Nn62 Hs62 Gs62 (fits_nar_char _) W63 0 rfl (Nat.le_of_ble_eq_true rfl)
    refine own_st st63 ?_
    show own_Gl _ _ _ _ _ _ _ _ (T63.setTop (mkF m 30 #[.val (.int p0), .val (.int p1), .val (.int p2), .val (.int p3), .val (.int p4), .val (.int (2 : Int32)), .val (.ref a_STRING), .val (.ref b61), .unset, .unset, .unset, .unset, .unset, .unset, .unset] []))
    obtain ⟨T64, h64, X64, e64, E64, A64, D64, -, st64⟩ := newO X63 hx hZ hown (hw _ (List.mem_of_getElem? (i := 9) rfl)) (hw _ (List.mem_of_getElem? (i := 10) rfl)) (hw _ (List.mem_of_getElem? (i := 11) rfl)) e63 (g := (mkF m 30 #[.val (.int p0), .val (.int p1), .val (.int p2), .val (.int p3), .val (.int p4), .val (.int (2 : Int32)), .val (.ref a_STRING), .val (.ref b61), .unset, .unset, .unset, .unset, .unset, .unset, .unset] [])) rfl (hb hby at_30) (by decide) (by decide)
    obtain ⟨b64, g64⟩ : ∃ z, z = h63.size := ⟨_, rfl⟩
    rw [← g64] at A64 D64 st64
    have g_b64 : n0 ≤ b64 := Nat.le_trans Z63 (Nat.le_of_eq g64.symm)
    have kw_b64 : h0.size ≤ b64 := Nat.le_trans (K63).1 (Nat.le_of_eq g64.symm)
    have ne_b61_b64 : b61 ≠ b64 := Nat.ne_of_lt (Nat.lt_of_lt_of_le V63.lt (Nat.le_of_eq g64.symm))
    have K64 := (K63).ext E64
    have Z64 : n0 ≤ h64.size := Nat.le_trans Z63 E64.1
    have hk64 := Nat.le_trans hk63 E64.1
    have F_coder_b64 : Fld Z h64 b64 "java/lang/String" "coder" "B" (.int (0 : Int32)) := D64 (Or.inr (hw _ (List.mem_of_getElem? (i := 35) rfl))) (ty := .byte) (by decide)
    have F_value_b64 : Fld Z h64 b64 "java/lang/String" "value" "[B" .null := D64 (Or.inr (hw _ (List.mem_of_getElem? (i := 37) rfl))) (ty := (.array .byte)) (by decide)
    refine own_st st64 ?_
    show own_Gl _ _ _ _ _ _ _ _ (T64.setTop (mkF m 33 #[.val (.int p0), .val (.int p1), .val (.int p2), .val (.int p3), .val (.int p4), .val (.int (2 : Int32)), .val (.ref a_STRING), .val (.ref b61), .unset, .unset, .unset, .unset, .unset, .unset, .unset] [(.ref b64)]))
    refine own_st (A' := T64.setTop (mkF m 36 #[.val (.int p0), .val (.int p1), .val (.int p2), .val (.int p3), .val (.int p4), .val (.int (2 : Int32)), .val (.ref a_STRING), .val (.ref b61), .unset, .unset, .unset, .unset, .unset, .unset, .unset] [(.ref b61), (.ref b64), (.ref b64)])) (fun tg kt => ?_) ?_
    · show Steps p.tables e below (T64.setTop (mkF m 33 #[.val (.int p0), .val (.int p1), .val (.int p2), .val (.int p3), .val (.int p4), .val (.int (2 : Int32)), .val (.ref a_STRING), .val (.ref b61), .unset, .unset, .unset, .unset, .unset, .unset, .unset] [(.ref b64)])) _
      refine XS.dup X64.here hx rfl (hb hby at_33) rfl rfl ?_
      show Steps p.tables e below (T64.setTop (mkF m 34 #[.val (.int p0), .val (.int p1), .val (.int p2), .val (.int p3), .val (.int p4), .val (.int (2 : Int32)), .val (.ref a_STRING), .val (.ref b61), .unset, .unset, .unset, .unset, .unset, .unset, .unset] [(.ref b64), (.ref b64)])) _
      refine XS.aload X64.here hx rfl (hb hby at_34) rfl rfl ?_
      exact kt
    have hlat : ∀ c ∈ [(nar .char ((p1 &&& (255 : Int32)).toUInt32.toUInt16.toUInt32.toInt32))], ¬ c < 0 ∧ ¬ (255 : Int32) < c := own_lat p1
    obtain ⟨_, _, ⟨T65, L65, k65, n65⟩, -, X65, ⟨Lc65, hQ65, l65, y65, z65⟩, st65⟩ := X64.specialBack hx (y := (⟨"java/lang/String", "<init>", "([C)V"⟩ : MethodName)) rfl hown (mvT hZ (hw _ (List.mem_of_getElem? (i := 12) rfl))) (mvT hZ (hw _ (List.mem_of_getElem? (i := 13) rfl))) (mvT hZ (hw _ (List.mem_of_getElem? (i := 14) rfl))) (by decide) (StrChars.Road.backV (W := 1) hZ (own_sw hw) (kI := 4) (hw _ (List.mem_of_getElem? (i := 10) rfl)) (cs := [(nar .char ((p1 &&& (255 : Int32)).toUInt32.toUInt16.toUInt32.toInt32))]) (bs := [((nar .char ((p1 &&& (255 : Int32)).toUInt32.toUInt16.toUInt32.toInt32))).toInt8.toInt32]) (n := 1) g_b64 Z64 A64 F_value_b64 F_coder_b64 (V63.ext E64) (S_cs.ext (own_kext K64)) hcs rfl rfl (by decide) (by decide) hlat rfl (by decide) (by decide)) (g := (mkF m 36 #[.val (.int p0), .val (.int p1), .val (.int p2), .val (.int p3), .val (.int p4), .val (.int (2 : Int32)), .val (.ref a_STRING), .val (.ref b61), .unset, .unset, .unset, .unset, .unset, .unset, .unset] [(.ref b61), (.ref b64), (.ref b64)])) rfl (by rw [hml]; rfl) (Steps.refl _) (a := b64) (argsL := [(.ref b61)]) (rest := [(.ref b64)]) (lenOf own_pd16 rfl) rfl (by show 2 * 0 + _ ≤ _; exact Nat.le_of_eq rfl) (hb hby at_36) (fun _ _ => ⟨rfl, e64, (by decide : 2 + 1 ≤ _), (by decide : 5 + 1 ≤ _)⟩)
    dsimp only [Pt.U, Pt.locs, Pt.cells, Pt.slots] at X65 l65 y65 z65 st65 hQ65
    subst l65 y65 z65
    obtain ⟨rfl, Nq65, Kq65, Eq65, Cq65, sv, skb, hn65, hs65, hne65, Vq65, Aq65⟩ := hQ65
    have N65 := Fr.app N63 Nq65
    have K65 := (K64).trans Kq65 (allS (Or.inr kw_b64) all0)
    have Z65 : n0 ≤ T65.heap.size := Nat.le_trans Z64 Kq65.1
    have hk65 := Nat.le_trans hk64 Kq65.1
    refine own_tr st65 ?_
    show own_Gl _ _ _ _ _ _ _ _ (T65.setTop (mkF m 39 #[.val (.int p0), .val (.int p1), .val (.int p2), .val (.int p3), .val (.int p4), .val (.int (2 : Int32)), .val (.ref a_STRING), .val (.ref b61), .unset, .unset, .unset, .unset, .unset, .unset, .unset] [(.ref b64)]))
    refine own_st (A' := T65.setTop (mkF m 44 #[.val (.int p0), .val (.int p1), .val (.int p2), .val (.int p3), .val (.int p4), .val (.int (2 : Int32)), .val (.ref a_STRING), .val (.ref b61), .val (.ref b64), .unset, .unset, .unset, .unset, .unset, .unset] [(.int (p2 &&& (1 : Int32)))])) (fun tg kt => ?_) ?_
    · show Steps p.tables e below (T65.setTop (mkF m 39 #[.val (.int p0), .val (.int p1), .val (.int p2), .val (.int p3), .val (.int p4), .val (.int (2 : Int32)), .val (.ref a_STRING), .val (.ref b61), .unset, .unset, .unset, .unset, .unset, .unset, .unset] [(.ref b64)])) _
      refine XS.astore X65.here hx rfl (hb hby at_39) rfl rfl (l' := #[.val (.int p0), .val (.int p1), .val (.int p2), .val (.int p3), .val (.int p4), .val (.int (2 : Int32)), .val (.ref a_STRING), .val (.ref b61), .val (.ref b64), .unset, .unset, .unset, .unset, .unset, .unset]) rfl ?_
      show Steps p.tables e below (T65.setTop (mkF m 41 #[.val (.int p0), .val (.int p1), .val (.int p2), .val (.int p3), .val (.int p4), .val (.int (2 : Int32)), .val (.ref a_STRING), .val (.ref b61), .val (.ref b64), .unset, .unset, .unset, .unset, .unset, .unset] [])) _
      refine XS.iloadN X65.here hx rfl (hb hby at_41) rfl ?_
      show Steps p.tables e below (T65.setTop (mkF m 42 #[.val (.int p0), .val (.int p1), .val (.int p2), .val (.int p3), .val (.int p4), .val (.int (2 : Int32)), .val (.ref a_STRING), .val (.ref b61), .val (.ref b64), .unset, .unset, .unset, .unset, .unset, .unset] [(.int p2)])) _
      refine XS.iconst X65.here hx rfl (hb hby at_42) ?_
      show Steps p.tables e below (T65.setTop (mkF m 43 #[.val (.int p0), .val (.int p1), .val (.int p2), .val (.int p3), .val (.int p4), .val (.int (2 : Int32)), .val (.ref a_STRING), .val (.ref b61), .val (.ref b64), .unset, .unset, .unset, .unset, .unset, .unset] [(.int (1 : Int32)), (.int p2)])) _
      refine XS.iand X65.here hx rfl (hb hby at_43) rfl ?_
      exact kt
    by_cases hc44_66 : (p2 &&& (1 : Int32)) = (0 : Int32)
    · refine own_st (A' := T65.setTop (mkF m 68 #[.val (.int p0), .val (.int p1), .val (.int p2), .val (.int p3), .val (.int p4), .val (.int (2 : Int32)), .val (.ref a_STRING), .val (.ref b61), .val (.ref b64), .val (.int (0 : Int32)), .unset, .unset, .unset, .unset, .unset] [(.int (p2 &&& (2 : Int32)))])) (fun tg kt => ?_) ?_
      · show Steps p.tables e below (T65.setTop (mkF m 44 #[.val (.int p0), .val (.int p1), .val (.int p2), .val (.int p3), .val (.int p4), .val (.int (2 : Int32)), .val (.ref a_STRING), .val (.ref b61), .val (.ref b64), .unset, .unset, .unset, .unset, .unset, .unset] [(.int (p2 &&& (1 : Int32)))])) _
        refine XS.ifYes X65.here hx rfl (pc0 := 44) (pc' := 57) rfl (hb hby at_44) rfl ((if0 _ _).trans (teq hc44_66).1) (by decide) (by decide) ?_
        show Steps p.tables e below (T65.setTop (mkF m 57 #[.val (.int p0), .val (.int p1), .val (.int p2), .val (.int p3), .val (.int p4), .val (.int (2 : Int32)), .val (.ref a_STRING), .val (.ref b61), .val (.ref b64), .unset, .unset, .unset, .unset, .unset, .unset] [])) _
        refine XS.iconst X65.here hx rfl (hb hby at_57) ?_
        show Steps p.tables e below (T65.setTop (mkF m 58 #[.val (.int p0), .val (.int p1), .val (.int p2), .val (.int p3), .val (.int p4), .val (.int (2 : Int32)), .val (.ref a_STRING), .val (.ref b61), .val (.ref b64), .unset, .unset, .unset, .unset, .unset, .unset] [(.int (0 : Int32))])) _
        refine XS.istore X65.here hx rfl (hb hby at_58) rfl (l' := #[.val (.int p0), .val (.int p1), .val (.int p2), .val (.int p3), .val (.int p4), .val (.int (2 : Int32)), .val (.ref a_STRING), .val (.ref b61), .val (.ref b64), .val (.int (0 : Int32)), .unset, .unset, .unset, .unset, .unset]) rfl ?_
        show Steps p.tables e below (T65.setTop (mkF m 60 #[.val (.int p0), .val (.int p1), .val (.int p2), .val (.int p3), .val (.int p4), .val (.int (2 : Int32)), .val (.ref a_STRING), .val (.ref b61), .val (.ref b64), .val (.int (0 : Int32)), .unset, .unset, .unset, .unset, .unset] [])) _
        refine XS.iload X65.here hx rfl (hb hby at_60) rfl ?_
        show Steps p.tables e below (T65.setTop (mkF m 62 #[.val (.int p0), .val (.int p1), .val (.int p2), .val (.int p3), .val (.int p4), .val (.int (2 : Int32)), .val (.ref a_STRING), .val (.ref b61), .val (.ref b64), .val (.int (0 : Int32)), .unset, .unset, .unset, .unset, .unset] [(.int (0 : Int32))])) _
        refine XS.ifNo X65.here hx rfl (hb hby at_62) rfl ((if0 _ _).trans (teq ((by decide) : (0 : Int32) = (0 : Int32))).2) ?_
        show Steps p.tables e below (T65.setTop (mkF m 65 #[.val (.int p0), .val (.int p1), .val (.int p2), .val (.int p3), .val (.int p4), .val (.int (2 : Int32)), .val (.ref a_STRING), .val (.ref b61), .val (.ref b64), .val (.int (0 : Int32)), .unset, .unset, .unset, .unset, .unset] [])) _
        refine XS.iloadN X65.here hx rfl (hb hby at_65) rfl ?_
        show Steps p.tables e below (T65.setTop (mkF m 66 #[.val (.int p0), .val (.int p1), .val (.int p2), .val (.int p3), .val (.int p4), .val (.int (2 : Int32)), .val (.ref a_STRING), .val (.ref b61), .val (.ref b64), .val (.int (0 : Int32)), .unset, .unset, .unset, .unset, .unset] [(.int p2)])) _
        refine XS.iconst X65.here hx rfl (hb hby at_66) ?_
        show Steps p.tables e below (T65.setTop (mkF m 67 #[.val (.int p0), .val (.int p1), .val (.int p2), .val (.int p3), .val (.int p4), .val (.int (2 : Int32)), .val (.ref a_STRING), .val (.ref b61), .val (.ref b64), .val (.int (0 : Int32)), .unset, .unset, .unset, .unset, .unset] [(.int (2 : Int32)), (.int p2)])) _
        refine XS.iand X65.here hx rfl (hb hby at_67) rfl ?_
        exact kt
      by_cases hc68_67 : (p2 &&& (2 : Int32)) = (0 : Int32)
      · refine own_st (A' := T65.setTop (mkF m 90 #[.val (.int p0), .val (.int p1), .val (.int p2), .val (.int p3), .val (.int p4), .val (.int (2 : Int32)), .val (.ref a_STRING), .val (.ref b61), .val (.ref b64), .val (.int (0 : Int32)), .unset, .val .null, .unset, .unset, .unset] [])) (fun tg kt => ?_) ?_
        · show Steps p.tables e below (T65.setTop (mkF m 68 #[.val (.int p0), .val (.int p1), .val (.int p2), .val (.int p3), .val (.int p4), .val (.int (2 : Int32)), .val (.ref a_STRING), .val (.ref b61), .val (.ref b64), .val (.int (0 : Int32)), .unset, .unset, .unset, .unset, .unset] [(.int (p2 &&& (2 : Int32)))])) _
          refine XS.ifYes X65.here hx rfl (pc0 := 68) (pc' := 87) rfl (hb hby at_68) rfl ((if0 _ _).trans (teq hc68_67).1) (by decide) (by decide) ?_
          show Steps p.tables e below (T65.setTop (mkF m 87 #[.val (.int p0), .val (.int p1), .val (.int p2), .val (.int p3), .val (.int p4), .val (.int (2 : Int32)), .val (.ref a_STRING), .val (.ref b61), .val (.ref b64), .val (.int (0 : Int32)), .unset, .unset, .unset, .unset, .unset] [])) _
          refine XS.aconstNull X65.here hx rfl (hb hby at_87) ?_
          show Steps p.tables e below (T65.setTop (mkF m 88 #[.val (.int p0), .val (.int p1), .val (.int p2), .val (.int p3), .val (.int p4), .val (.int (2 : Int32)), .val (.ref a_STRING), .val (.ref b61), .val (.ref b64), .val (.int (0 : Int32)), .unset, .unset, .unset, .unset, .unset] [.null])) _
          refine XS.astore X65.here hx rfl (hb hby at_88) rfl rfl (l' := #[.val (.int p0), .val (.int p1), .val (.int p2), .val (.int p3), .val (.int p4), .val (.int (2 : Int32)), .val (.ref a_STRING), .val (.ref b61), .val (.ref b64), .val (.int (0 : Int32)), .unset, .val .null, .unset, .unset, .unset]) rfl ?_
          exact kt
        obtain ⟨T68, h68, X68, e68, E68, A68, D68, -, st68⟩ := newO X65 hx hZ hown (hw _ (List.mem_of_getElem? (i := 38) rfl)) (hw _ (List.mem_of_getElem? (i := 39) rfl)) (hw _ (List.mem_of_getElem? (i := 40) rfl)) rfl (g := (mkF m 90 #[.val (.int p0), .val (.int p1), .val (.int p2), .val (.int p3), .val (.int p4), .val (.int (2 : Int32)), .val (.ref a_STRING), .val (.ref b61), .val (.ref b64), .val (.int (0 : Int32)), .unset, .val .null, .unset, .unset, .unset] [])) rfl (hb hby at_90) (by decide) (by decide)
        obtain ⟨b68, g68⟩ : ∃ z, z = T65.heap.size := ⟨_, rfl⟩
        rw [← g68] at A68 D68 st68
        have g_b68 : n0 ≤ b68 := Nat.le_trans Z65 (Nat.le_of_eq g68.symm)
        have kw_b68 : h0.size ≤ b68 := Nat.le_trans (K65).1 (Nat.le_of_eq g68.symm)
        have ne_b61_b68 : b61 ≠ b68 := Nat.ne_of_lt (Nat.lt_of_lt_of_le ((V63.ext E64).keep Kq65 (ninS ne_b61_b64 nin0)).lt (Nat.le_of_eq g68.symm))
        have ne_b64_b68 : b64 ≠ b68 := Nat.ne_of_lt (Nat.lt_of_lt_of_le Eq65.lt (Nat.le_of_eq g68.symm))
        have ne_sv_b68 : sv ≠ b68 := Nat.ne_of_lt (Nat.lt_of_lt_of_le Aq65.lt (Nat.le_of_eq g68.symm))
        have K68 := (K65).ext E68
        have Z68 : n0 ≤ h68.size := Nat.le_trans Z65 E68.1
        have hk68 := Nat.le_trans hk65 E68.1
        have F_name_b68 : Fld Z h68 b68 "com/example/inexact_search/inexactsearch/engine/Attribute" "name" "Ljava/lang/String;" .null := D68 (Or.inr (hw _ (List.mem_of_getElem? (i := 62) rfl))) (ty := (.object "java/lang/String")) (by decide)
        have F_type_b68 : Fld Z h68 b68 "com/example/inexact_search/inexactsearch/engine/Attribute" "type" "Lcom/example/inexact_search/inexactsearch/engine/AttributeType;" .null := D68 (Or.inr (hw _ (List.mem_of_getElem? (i := 64) rfl))) (ty := (.object "com/example/inexact_search/inexactsearch/engine/AttributeType")) (by decide)
        have F_declaredMin_b68 : Fld Z h68 b68 "com/example/inexact_search/inexactsearch/engine/Attribute" "declaredMin" "Ljava/lang/Double;" .null := D68 (Or.inr (hw _ (List.mem_of_getElem? (i := 66) rfl))) (ty := (.object "java/lang/Double")) (by decide)
        have F_declaredMax_b68 : Fld Z h68 b68 "com/example/inexact_search/inexactsearch/engine/Attribute" "declaredMax" "Ljava/lang/Double;" .null := D68 (Or.inr (hw _ (List.mem_of_getElem? (i := 68) rfl))) (ty := (.object "java/lang/Double")) (by decide)
        refine own_st st68 ?_
        show own_Gl _ _ _ _ _ _ _ _ (T68.setTop (mkF m 93 #[.val (.int p0), .val (.int p1), .val (.int p2), .val (.int p3), .val (.int p4), .val (.int (2 : Int32)), .val (.ref a_STRING), .val (.ref b61), .val (.ref b64), .val (.int (0 : Int32)), .unset, .val .null, .unset, .unset, .unset] [(.ref b68)]))
        refine own_st (A' := T68.setTop (mkF m 102 #[.val (.int p0), .val (.int p1), .val (.int p2), .val (.int p3), .val (.int p4), .val (.int (2 : Int32)), .val (.ref a_STRING), .val (.ref b61), .val (.ref b64), .val (.int (0 : Int32)), .unset, .val .null, .unset, .unset, .unset] [.null, .null, (.ref a_STRING), (.ref b64), (.ref b68), (.ref b68)])) (fun tg kt => ?_) ?_
        · show Steps p.tables e below (T68.setTop (mkF m 93 #[.val (.int p0), .val (.int p1), .val (.int p2), .val (.int p3), .val (.int p4), .val (.int (2 : Int32)), .val (.ref a_STRING), .val (.ref b61), .val (.ref b64), .val (.int (0 : Int32)), .unset, .val .null, .unset, .unset, .unset] [(.ref b68)])) _
          refine XS.dup X68.here hx rfl (hb hby at_93) rfl rfl ?_
          show Steps p.tables e below (T68.setTop (mkF m 94 #[.val (.int p0), .val (.int p1), .val (.int p2), .val (.int p3), .val (.int p4), .val (.int (2 : Int32)), .val (.ref a_STRING), .val (.ref b61), .val (.ref b64), .val (.int (0 : Int32)), .unset, .val .null, .unset, .unset, .unset] [(.ref b68), (.ref b68)])) _
          refine XS.aload X68.here hx rfl (hb hby at_94) rfl rfl ?_
          show Steps p.tables e below (T68.setTop (mkF m 96 #[.val (.int p0), .val (.int p1), .val (.int p2), .val (.int p3), .val (.int p4), .val (.int (2 : Int32)), .val (.ref a_STRING), .val (.ref b61), .val (.ref b64), .val (.int (0 : Int32)), .unset, .val .null, .unset, .unset, .unset] [(.ref b64), (.ref b68), (.ref b68)])) _
          refine XS.aload X68.here hx rfl (hb hby at_96) rfl rfl ?_
          show Steps p.tables e below (T68.setTop (mkF m 98 #[.val (.int p0), .val (.int p1), .val (.int p2), .val (.int p3), .val (.int p4), .val (.int (2 : Int32)), .val (.ref a_STRING), .val (.ref b61), .val (.ref b64), .val (.int (0 : Int32)), .unset, .val .null, .unset, .unset, .unset] [(.ref a_STRING), (.ref b64), (.ref b68), (.ref b68)])) _
          refine XS.aload X68.here hx rfl (hb hby at_98) rfl rfl ?_
          show Steps p.tables e below (T68.setTop (mkF m 100 #[.val (.int p0), .val (.int p1), .val (.int p2), .val (.int p3), .val (.int p4), .val (.int (2 : Int32)), .val (.ref a_STRING), .val (.ref b61), .val (.ref b64), .val (.int (0 : Int32)), .unset, .val .null, .unset, .unset, .unset] [.null, (.ref a_STRING), (.ref b64), (.ref b68), (.ref b68)])) _
          refine XS.aload X68.here hx rfl (hb hby at_100) rfl rfl ?_
          exact kt
        obtain ⟨_, _, ⟨T69, L69, k69, n69⟩, -, X69, hSq69, hgq69, ⟨Lc69, hQ69, l69, y69, z69⟩, st69⟩ := X68.specialBackS hx (y := (⟨"com/example/inexact_search/inexactsearch/engine/Attribute", "<init>", "(Ljava/lang/String;Lcom/example/inexact_search/inexactsearch/engine/AttributeType;Ljava/lang/Double;Ljava/lang/Double;)V"⟩ : MethodName)) rfl hown (mvT hZ (hw _ (List.mem_of_getElem? (i := 78) rfl))) (mvT hZ (hw _ (List.mem_of_getElem? (i := 45) rfl))) (mvT hZ (hw _ (List.mem_of_getElem? (i := 46) rfl))) (by decide) (backOfS (W := 1) (rm9n l Z a0 hw [] b68 b64 a_STRING sv skb ([((nar .char ((p1 &&& (255 : Int32)).toUInt32.toUInt16.toUInt32.toInt32))).toInt8.toInt32].map Value.int) h68 n0 Z68 F_name_b68 F_type_b68 F_declaredMin_b68 F_declaredMax_b68 A68 g_b68 (Eq65.ext E68) (Vq65.ext E68) (Aq65.ext E68) ne_b64_b68 ne_sv_b68) hZ (hw _ (List.mem_of_getElem? (i := 46) rfl)) (hw _ (List.mem_of_getElem? (i := 40) rfl)) (by decide) (by decide)) (g := (mkF m 102 #[.val (.int p0), .val (.int p1), .val (.int p2), .val (.int p3), .val (.int p4), .val (.int (2 : Int32)), .val (.ref a_STRING), .val (.ref b61), .val (.ref b64), .val (.int (0 : Int32)), .unset, .val .null, .unset, .unset, .unset] [.null, .null, (.ref a_STRING), (.ref b64), (.ref b68), (.ref b68)])) rfl (by rw [hml]; rfl) (Steps.refl _) (a := b68) (argsL := [(.ref b64), (.ref a_STRING), .null, .null]) (rest := [(.ref b68)]) (lenOf own_pd14 rfl) rfl (by show 2 * 0 + _ ≤ _; exact Nat.le_of_eq rfl) (hb hby at_102) (fun _ _ => ⟨rfl, e68, (by decide : 4 + 4 ≤ _), (by decide : 10 + 40 ≤ _)⟩)
        dsimp only [Pt.U, Pt.locs, Pt.cells, Pt.slots] at X69 l69 y69 z69 st69 hQ69 hSq69 hgq69
        subst l69 y69 z69
        replace X69 : Stand p l e _ (s.setVm T69.vm) m _ below meth c T69 _ _ _ := X69
        have hS69 : s.Since T69.vm T69.heap.size := hS0.trans hSq69 (Nat.le_trans hk68 (by rw [← e68]; exact hgq69))
        have hZ69 : Z.Warmed39 (s.setVm T69.vm).vm := State.Warmed39.trans (t := (s.setVm s.vm)) hZ hSq69.1
        have hown69 : (s.setVm T69.vm).vm.findClass "com/example/inexact_search/inexactsearch/engine/AttributeHasDeclaredRangePinLaw" = some m.cls := by rw [show (s.setVm T69.vm).vm = T69.vm from rfl, hSq69.1.alike.findClass]; exact hown
        have hk69 : T69.heap.size ≤ T69.heap.size := Nat.le_refl _
        obtain ⟨rfl, Nq69, Kq69, Eq69, Fq69⟩ := hQ69
        have N69 := Fr.app N65 Nq69
        have Fa70 := ((((V63.ext E64).keep Kq65 (ninS ne_b61_b64 nin0)).ext E68).keep Kq69 (ninS ne_b61_b68 nin0))
        have K69 := (K68).trans Kq69 (allS (Or.inr kw_b68) all0)
        have Z69 : n0 ≤ T69.heap.size := Nat.le_trans Z68 Kq69.1
        refine own_tr st69 ?_
        show own_Gl _ _ _ _ _ _ _ _ (T69.setTop (mkF m 105 #[.val (.int p0), .val (.int p1), .val (.int p2), .val (.int p3), .val (.int p4), .val (.int (2 : Int32)), .val (.ref a_STRING), .val (.ref b61), .val (.ref b64), .val (.int (0 : Int32)), .unset, .val .null, .unset, .unset, .unset] [(.ref b68)]))
        refine own_st (A' := T69.setTop (mkF m 109 #[.val (.int p0), .val (.int p1), .val (.int p2), .val (.int p3), .val (.int p4), .val (.int (2 : Int32)), .val (.ref a_STRING), .val (.ref b61), .val (.ref b64), .val (.int (0 : Int32)), .val (.ref b68), .val .null, .unset, .unset, .unset] [(.ref b68)])) (fun tg kt => ?_) ?_
        · show Steps p.tables e below (T69.setTop (mkF m 105 #[.val (.int p0), .val (.int p1), .val (.int p2), .val (.int p3), .val (.int p4), .val (.int (2 : Int32)), .val (.ref a_STRING), .val (.ref b61), .val (.ref b64), .val (.int (0 : Int32)), .unset, .val .null, .unset, .unset, .unset] [(.ref b68)])) _
          refine XS.astore X69.here hx rfl (hb hby at_105) rfl rfl (l' := #[.val (.int p0), .val (.int p1), .val (.int p2), .val (.int p3), .val (.int p4), .val (.int (2 : Int32)), .val (.ref a_STRING), .val (.ref b61), .val (.ref b64), .val (.int (0 : Int32)), .val (.ref b68), .val .null, .unset, .unset, .unset]) rfl ?_
          show Steps p.tables e below (T69.setTop (mkF m 107 #[.val (.int p0), .val (.int p1), .val (.int p2), .val (.int p3), .val (.int p4), .val (.int (2 : Int32)), .val (.ref a_STRING), .val (.ref b61), .val (.ref b64), .val (.int (0 : Int32)), .val (.ref b68), .val .null, .unset, .unset, .unset] [])) _
          refine XS.aload X69.here hx rfl (hb hby at_107) rfl rfl ?_
          exact kt
        obtain ⟨cq71, kq71, q71a, q71b, q71c⟩ := isOf hZ69 rfl Eq69
        obtain ⟨_, _, ⟨T71, L71, k71, n71⟩, -, X71, ⟨Lc71, hQ71, l71, y71, z71⟩, st71⟩ := X69.virtualBack hx (y := (⟨"com/example/inexact_search/inexactsearch/engine/Attribute", "hasDeclaredRange", "()Z"⟩ : MethodName)) (z := (⟨"com/example/inexact_search/inexactsearch/engine/Attribute", "hasDeclaredRange", "()Z"⟩ : MethodName)) hown69 (mvT hZ69 (hw _ (List.mem_of_getElem? (i := 69) rfl))) (mvT hZ69 (hw _ (List.mem_of_getElem? (i := 70) rfl))) (notFace_of_selects (args := #[]) (mvT hZ69 (hw _ (List.mem_of_getElem? (i := 72) rfl)))) (mvT hZ69 (hw _ (List.mem_of_getElem? (i := 72) rfl))) (mvT hZ69 (hw _ (List.mem_of_getElem? (i := 71) rfl))) (by decide) (backOf (W := 0) (rm12n l Z a0 hw [] b68 T69.heap n0 Z69 Fq69) hZ69 (hw _ (List.mem_of_getElem? (i := 73) rfl)) (hw _ (List.mem_of_getElem? (i := 40) rfl)) (by decide) (by decide)) q71a q71c (g := (mkF m 109 #[.val (.int p0), .val (.int p1), .val (.int p2), .val (.int p3), .val (.int p4), .val (.int (2 : Int32)), .val (.ref a_STRING), .val (.ref b61), .val (.ref b64), .val (.int (0 : Int32)), .val (.ref b68), .val .null, .unset, .unset, .unset] [(.ref b68)])) rfl (by rw [hml]; rfl) (Steps.refl _) (argsL := []) (rest := []) (lenOf own_pd10 rfl) rfl (by show 2 * 0 + _ ≤ _; exact Nat.le_of_eq rfl) (hb hby at_109) (fun _ _ => ⟨rfl, rfl, (by decide : 8 + 0 ≤ _), (by decide : 50 + 0 ≤ _)⟩)
        dsimp only [Pt.U, Pt.locs, Pt.cells, Pt.slots] at X71 l71 y71 z71 st71 hQ71
        subst l71 y71 z71
        obtain ⟨rfl, Nq71, eq71⟩ := hQ71
        have N71 := Fr.app N69 Nq71
        refine own_tr st71 ?_
        show own_Gl _ _ _ _ _ _ _ _ (T71.setTop (mkF m 112 #[.val (.int p0), .val (.int p1), .val (.int p2), .val (.int p3), .val (.int p4), .val (.int (2 : Int32)), .val (.ref a_STRING), .val (.ref b61), .val (.ref b64), .val (.int (0 : Int32)), .val (.ref b68), .val .null, .unset, .unset, .unset] [(.int (0 : Int32))]))
        refine own_st (A' := T71.setTop (mkF m 120 #[.val (.int p0), .val (.int p1), .val (.int p2), .val (.int p3), .val (.int p4), .val (.int (2 : Int32)), .val (.ref a_STRING), .val (.ref b61), .val (.ref b64), .val (.int (0 : Int32)), .val (.ref b68), .val .null, .unset, .unset, .unset] [(.int (1 : Int32))])) (fun tg kt => ?_) ?_
        · show Steps p.tables e below (T71.setTop (mkF m 112 #[.val (.int p0), .val (.int p1), .val (.int p2), .val (.int p3), .val (.int p4), .val (.int (2 : Int32)), .val (.ref a_STRING), .val (.ref b61), .val (.ref b64), .val (.int (0 : Int32)), .val (.ref b68), .val .null, .unset, .unset, .unset] [(.int (0 : Int32))])) _
          refine XS.ifNo X71.here hx rfl (hb hby at_112) rfl ((if0 _ _).trans (teq ((by decide) : (0 : Int32) = (0 : Int32))).2) ?_
          show Steps p.tables e below (T71.setTop (mkF m 115 #[.val (.int p0), .val (.int p1), .val (.int p2), .val (.int p3), .val (.int p4), .val (.int (2 : Int32)), .val (.ref a_STRING), .val (.ref b61), .val (.ref b64), .val (.int (0 : Int32)), .val (.ref b68), .val .null, .unset, .unset, .unset] [])) _
          refine XS.iconst X71.here hx rfl (hb hby at_115) ?_
          show Steps p.tables e below (T71.setTop (mkF m 116 #[.val (.int p0), .val (.int p1), .val (.int p2), .val (.int p3), .val (.int p4), .val (.int (2 : Int32)), .val (.ref a_STRING), .val (.ref b61), .val (.ref b64), .val (.int (0 : Int32)), .val (.ref b68), .val .null, .unset, .unset, .unset] [(.int (1 : Int32))])) _
          refine XS.goto X71.here hx rfl (pc0 := 116) (pc' := 120) rfl (hb hby at_116) (by decide) (by decide) ?_
          exact kt
        refine own_retW X71 hS69 (by rw [eq71]; exact hk69) (v := some (.int (1 : Int32))) (fun h => by rw [Bd.returns] at h; cases h) hlk (by decide) (by decide) ?_ (fun fs hr => ?_)
        · show Q0 Z p0 p1 p2 p3 p4 a_INTEGER a_DECIMAL a_STRING a_BOOLEAN a_STRINGS cs h0 n0 (some (.int (1 : Int32))) T71.heap _
          rw [eq71]
          exact ⟨rfl, N71⟩
        · show Steps p.tables e below (T71.setTop (mkF m 120 #[.val (.int p0), .val (.int p1), .val (.int p2), .val (.int p3), .val (.int p4), .val (.int (2 : Int32)), .val (.ref a_STRING), .val (.ref b61), .val (.ref b64), .val (.int (0 : Int32)), .val (.ref b68), .val .null, .unset, .unset, .unset] [(.int (1 : Int32))])) _
          exact retN X71 hx (t := .boolean) Bd.returns (by simp) (hb hby at_120) hr
      · refine own_st (A' := T65.setTop (mkF m 71 #[.val (.int p0), .val (.int p1), .val (.int p2), .val (.int p3), .val (.int p4), .val (.int (2 : Int32)), .val (.ref a_STRING), .val (.ref b61), .val (.ref b64), .val (.int (0 : Int32)), .unset, .unset, .unset, .unset, .unset] [])) (fun tg kt => ?_) ?_
        · show Steps p.tables e below (T65.setTop (mkF m 68 #[.val (.int p0), .val (.int p1), .val (.int p2), .val (.int p3), .val (.int p4), .val (.int (2 : Int32)), .val (.ref a_STRING), .val (.ref b61), .val (.ref b64), .val (.int (0 : Int32)), .unset, .unset, .unset, .unset, .unset] [(.int (p2 &&& (2 : Int32)))])) _
          refine XS.ifNo X65.here hx rfl (hb hby at_68) rfl ((if0 _ _).trans (feq hc68_67).1) ?_
          exact kt
        obtain ⟨T72, h72, X72, e72, E72, A72, D72, -, st72⟩ := newO X65 hx hZ hown (hw _ (List.mem_of_getElem? (i := 38) rfl)) (hw _ (List.mem_of_getElem? (i := 39) rfl)) (hw _ (List.mem_of_getElem? (i := 40) rfl)) rfl (g := (mkF m 71 #[.val (.int p0), .val (.int p1), .val (.int p2), .val (.int p3), .val (.int p4), .val (.int (2 : Int32)), .val (.ref a_STRING), .val (.ref b61), .val (.ref b64), .val (.int (0 : Int32)), .unset, .unset, .unset, .unset, .unset] [])) rfl (hb hby at_71) (by decide) (by decide)
        obtain ⟨b72, g72⟩ : ∃ z, z = T65.heap.size := ⟨_, rfl⟩
        rw [← g72] at A72 D72 st72
        have g_b72 : n0 ≤ b72 := Nat.le_trans Z65 (Nat.le_of_eq g72.symm)
        have kw_b72 : h0.size ≤ b72 := Nat.le_trans (K65).1 (Nat.le_of_eq g72.symm)
        have ne_b61_b72 : b61 ≠ b72 := Nat.ne_of_lt (Nat.lt_of_lt_of_le ((V63.ext E64).keep Kq65 (ninS ne_b61_b64 nin0)).lt (Nat.le_of_eq g72.symm))
        have ne_b64_b72 : b64 ≠ b72 := Nat.ne_of_lt (Nat.lt_of_lt_of_le Eq65.lt (Nat.le_of_eq g72.symm))
        have ne_sv_b72 : sv ≠ b72 := Nat.ne_of_lt (Nat.lt_of_lt_of_le Aq65.lt (Nat.le_of_eq g72.symm))
        have K72 := (K65).ext E72
        have Z72 : n0 ≤ h72.size := Nat.le_trans Z65 E72.1
        have hk72 := Nat.le_trans hk65 E72.1
        have F_name_b72 : Fld Z h72 b72 "com/example/inexact_search/inexactsearch/engine/Attribute" "name" "Ljava/lang/String;" .null := D72 (Or.inr (hw _ (List.mem_of_getElem? (i := 62) rfl))) (ty := (.object "java/lang/String")) (by decide)
        have F_type_b72 : Fld Z h72 b72 "com/example/inexact_search/inexactsearch/engine/Attribute" "type" "Lcom/example/inexact_search/inexactsearch/engine/AttributeType;" .null := D72 (Or.inr (hw _ (List.mem_of_getElem? (i := 64) rfl))) (ty := (.object "com/example/inexact_search/inexactsearch/engine/AttributeType")) (by decide)
        have F_declaredMin_b72 : Fld Z h72 b72 "com/example/inexact_search/inexactsearch/engine/Attribute" "declaredMin" "Ljava/lang/Double;" .null := D72 (Or.inr (hw _ (List.mem_of_getElem? (i := 66) rfl))) (ty := (.object "java/lang/Double")) (by decide)
        have F_declaredMax_b72 : Fld Z h72 b72 "com/example/inexact_search/inexactsearch/engine/Attribute" "declaredMax" "Ljava/lang/Double;" .null := D72 (Or.inr (hw _ (List.mem_of_getElem? (i := 68) rfl))) (ty := (.object "java/lang/Double")) (by decide)
        refine own_st st72 ?_
        show own_Gl _ _ _ _ _ _ _ _ (T72.setTop (mkF m 74 #[.val (.int p0), .val (.int p1), .val (.int p2), .val (.int p3), .val (.int p4), .val (.int (2 : Int32)), .val (.ref a_STRING), .val (.ref b61), .val (.ref b64), .val (.int (0 : Int32)), .unset, .unset, .unset, .unset, .unset] [(.ref b72)]))
        refine own_st (A' := T72.setTop (mkF m 79 #[.val (.int p0), .val (.int p1), .val (.int p2), .val (.int p3), .val (.int p4), .val (.int (2 : Int32)), .val (.ref a_STRING), .val (.ref b61), .val (.ref b64), .val (.int (0 : Int32)), .unset, .unset, .unset, .unset, .unset] [(.ref a_STRING), (.ref b64), (.ref b72), (.ref b72)])) (fun tg kt => ?_) ?_
        · show Steps p.tables e below (T72.setTop (mkF m 74 #[.val (.int p0), .val (.int p1), .val (.int p2), .val (.int p3), .val (.int p4), .val (.int (2 : Int32)), .val (.ref a_STRING), .val (.ref b61), .val (.ref b64), .val (.int (0 : Int32)), .unset, .unset, .unset, .unset, .unset] [(.ref b72)])) _
          refine XS.dup X72.here hx rfl (hb hby at_74) rfl rfl ?_
          show Steps p.tables e below (T72.setTop (mkF m 75 #[.val (.int p0), .val (.int p1), .val (.int p2), .val (.int p3), .val (.int p4), .val (.int (2 : Int32)), .val (.ref a_STRING), .val (.ref b61), .val (.ref b64), .val (.int (0 : Int32)), .unset, .unset, .unset, .unset, .unset] [(.ref b72), (.ref b72)])) _
          refine XS.aload X72.here hx rfl (hb hby at_75) rfl rfl ?_
          show Steps p.tables e below (T72.setTop (mkF m 77 #[.val (.int p0), .val (.int p1), .val (.int p2), .val (.int p3), .val (.int p4), .val (.int (2 : Int32)), .val (.ref a_STRING), .val (.ref b61), .val (.ref b64), .val (.int (0 : Int32)), .unset, .unset, .unset, .unset, .unset] [(.ref b64), (.ref b72), (.ref b72)])) _
          refine XS.aload X72.here hx rfl (hb hby at_77) rfl rfl ?_
          exact kt
        obtain ⟨_, _, ⟨T73, L73, k73, n73⟩, -, X73, hSq73, hgq73, ⟨Lc73, hQ73, l73, y73, z73⟩, st73⟩ := X72.specialBackS hx (y := (⟨"com/example/inexact_search/inexactsearch/engine/Attribute", "<init>", "(Ljava/lang/String;Lcom/example/inexact_search/inexactsearch/engine/AttributeType;)V"⟩ : MethodName)) rfl hown (mvT hZ (hw _ (List.mem_of_getElem? (i := 41) rfl))) (mvT hZ (hw _ (List.mem_of_getElem? (i := 42) rfl))) (mvT hZ (hw _ (List.mem_of_getElem? (i := 43) rfl))) (by decide) (backOfS (W := 1) (rm8 l Z a0 hw [] b72 b64 a_STRING sv skb ([((nar .char ((p1 &&& (255 : Int32)).toUInt32.toUInt16.toUInt32.toInt32))).toInt8.toInt32].map Value.int) h72 n0 Z72 F_name_b72 F_type_b72 F_declaredMin_b72 F_declaredMax_b72 A72 g_b72 (Eq65.ext E72) (Vq65.ext E72) (Aq65.ext E72) ne_b64_b72 ne_sv_b72) hZ (hw _ (List.mem_of_getElem? (i := 43) rfl)) (hw _ (List.mem_of_getElem? (i := 40) rfl)) (by decide) (by decide)) (g := (mkF m 79 #[.val (.int p0), .val (.int p1), .val (.int p2), .val (.int p3), .val (.int p4), .val (.int (2 : Int32)), .val (.ref a_STRING), .val (.ref b61), .val (.ref b64), .val (.int (0 : Int32)), .unset, .unset, .unset, .unset, .unset] [(.ref a_STRING), (.ref b64), (.ref b72), (.ref b72)])) rfl (by rw [hml]; rfl) (Steps.refl _) (a := b72) (argsL := [(.ref b64), (.ref a_STRING)]) (rest := [(.ref b72)]) (lenOf own_pd17 rfl) rfl (by show 2 * 0 + _ ≤ _; exact Nat.le_of_eq rfl) (hb hby at_79) (fun _ _ => ⟨rfl, e72, (by decide : 4 + 4 ≤ _), (by decide : 10 + 40 ≤ _)⟩)
        dsimp only [Pt.U, Pt.locs, Pt.cells, Pt.slots] at X73 l73 y73 z73 st73 hQ73 hSq73 hgq73
        subst l73 y73 z73
        replace X73 : Stand p l e _ (s.setVm T73.vm) m _ below meth c T73 _ _ _ := X73
        have hS73 : s.Since T73.vm T73.heap.size := hS0.trans hSq73 (Nat.le_trans hk72 (by rw [← e72]; exact hgq73))
        have hZ73 : Z.Warmed39 (s.setVm T73.vm).vm := State.Warmed39.trans (t := (s.setVm s.vm)) hZ hSq73.1
        have hown73 : (s.setVm T73.vm).vm.findClass "com/example/inexact_search/inexactsearch/engine/AttributeHasDeclaredRangePinLaw" = some m.cls := by rw [show (s.setVm T73.vm).vm = T73.vm from rfl, hSq73.1.alike.findClass]; exact hown
        have hk73 : T73.heap.size ≤ T73.heap.size := Nat.le_refl _
        obtain ⟨rfl, Nq73, Kq73, Eq73, Fq73⟩ := hQ73
        have N73 := Fr.app N65 Nq73
        have Fa74 := ((((V63.ext E64).keep Kq65 (ninS ne_b61_b64 nin0)).ext E72).keep Kq73 (ninS ne_b61_b72 nin0))
        have K73 := (K72).trans Kq73 (allS (Or.inr kw_b72) all0)
        have Z73 : n0 ≤ T73.heap.size := Nat.le_trans Z72 Kq73.1
        refine own_tr st73 ?_
        show own_Gl _ _ _ _ _ _ _ _ (T73.setTop (mkF m 82 #[.val (.int p0), .val (.int p1), .val (.int p2), .val (.int p3), .val (.int p4), .val (.int (2 : Int32)), .val (.ref a_STRING), .val (.ref b61), .val (.ref b64), .val (.int (0 : Int32)), .unset, .unset, .unset, .unset, .unset] [(.ref b72)]))
        refine own_st (A' := T73.setTop (mkF m 109 #[.val (.int p0), .val (.int p1), .val (.int p2), .val (.int p3), .val (.int p4), .val (.int (2 : Int32)), .val (.ref a_STRING), .val (.ref b61), .val (.ref b64), .val (.int (0 : Int32)), .val (.ref b72), .unset, .unset, .unset, .unset] [(.ref b72)])) (fun tg kt => ?_) ?_
        · show Steps p.tables e below (T73.setTop (mkF m 82 #[.val (.int p0), .val (.int p1), .val (.int p2), .val (.int p3), .val (.int p4), .val (.int (2 : Int32)), .val (.ref a_STRING), .val (.ref b61), .val (.ref b64), .val (.int (0 : Int32)), .unset, .unset, .unset, .unset, .unset] [(.ref b72)])) _
          refine XS.astore X73.here hx rfl (hb hby at_82) rfl rfl (l' := #[.val (.int p0), .val (.int p1), .val (.int p2), .val (.int p3), .val (.int p4), .val (.int (2 : Int32)), .val (.ref a_STRING), .val (.ref b61), .val (.ref b64), .val (.int (0 : Int32)), .val (.ref b72), .unset, .unset, .unset, .unset]) rfl ?_
          show Steps p.tables e below (T73.setTop (mkF m 84 #[.val (.int p0), .val (.int p1), .val (.int p2), .val (.int p3), .val (.int p4), .val (.int (2 : Int32)), .val (.ref a_STRING), .val (.ref b61), .val (.ref b64), .val (.int (0 : Int32)), .val (.ref b72), .unset, .unset, .unset, .unset] [])) _
          refine XS.goto X73.here hx rfl (pc0 := 84) (pc' := 107) rfl (hb hby at_84) (by decide) (by decide) ?_
          show Steps p.tables e below (T73.setTop (mkF m 107 #[.val (.int p0), .val (.int p1), .val (.int p2), .val (.int p3), .val (.int p4), .val (.int (2 : Int32)), .val (.ref a_STRING), .val (.ref b61), .val (.ref b64), .val (.int (0 : Int32)), .val (.ref b72), .unset, .unset, .unset, .unset] [])) _
          refine XS.aload X73.here hx rfl (hb hby at_107) rfl rfl ?_
          exact kt
        obtain ⟨cq75, kq75, q75a, q75b, q75c⟩ := isOf hZ73 rfl Eq73
        obtain ⟨_, _, ⟨T75, L75, k75, n75⟩, -, X75, ⟨Lc75, hQ75, l75, y75, z75⟩, st75⟩ := X73.virtualBack hx (y := (⟨"com/example/inexact_search/inexactsearch/engine/Attribute", "hasDeclaredRange", "()Z"⟩ : MethodName)) (z := (⟨"com/example/inexact_search/inexactsearch/engine/Attribute", "hasDeclaredRange", "()Z"⟩ : MethodName)) hown73 (mvT hZ73 (hw _ (List.mem_of_getElem? (i := 69) rfl))) (mvT hZ73 (hw _ (List.mem_of_getElem? (i := 70) rfl))) (notFace_of_selects (args := #[]) (mvT hZ73 (hw _ (List.mem_of_getElem? (i := 72) rfl)))) (mvT hZ73 (hw _ (List.mem_of_getElem? (i := 72) rfl))) (mvT hZ73 (hw _ (List.mem_of_getElem? (i := 71) rfl))) (by decide) (backOf (W := 0) (rm12n l Z a0 hw [] b72 T73.heap n0 Z73 Fq73) hZ73 (hw _ (List.mem_of_getElem? (i := 73) rfl)) (hw _ (List.mem_of_getElem? (i := 40) rfl)) (by decide) (by decide)) q75a q75c (g := (mkF m 109 #[.val (.int p0), .val (.int p1), .val (.int p2), .val (.int p3), .val (.int p4), .val (.int (2 : Int32)), .val (.ref a_STRING), .val (.ref b61), .val (.ref b64), .val (.int (0 : Int32)), .val (.ref b72), .unset, .unset, .unset, .unset] [(.ref b72)])) rfl (by rw [hml]; rfl) (Steps.refl _) (argsL := []) (rest := []) (lenOf own_pd10 rfl) rfl (by show 2 * 0 + _ ≤ _; exact Nat.le_of_eq rfl) (hb hby at_109) (fun _ _ => ⟨rfl, rfl, (by decide : 8 + 0 ≤ _), (by decide : 50 + 0 ≤ _)⟩)
        dsimp only [Pt.U, Pt.locs, Pt.cells, Pt.slots] at X75 l75 y75 z75 st75 hQ75
        subst l75 y75 z75
        obtain ⟨rfl, Nq75, eq75⟩ := hQ75
        have N75 := Fr.app N73 Nq75
        refine own_tr st75 ?_
        show own_Gl _ _ _ _ _ _ _ _ (T75.setTop (mkF m 112 #[.val (.int p0), .val (.int p1), .val (.int p2), .val (.int p3), .val (.int p4), .val (.int (2 : Int32)), .val (.ref a_STRING), .val (.ref b61), .val (.ref b64), .val (.int (0 : Int32)), .val (.ref b72), .unset, .unset, .unset, .unset] [(.int (0 : Int32))]))
        refine own_st (A' := T75.setTop (mkF m 120 #[.val (.int p0), .val (.int p1), .val (.int p2), .val (.int p3), .val (.int p4), .val (.int (2 : Int32)), .val (.ref a_STRING), .val (.ref b61), .val (.ref b64), .val (.int (0 : Int32)), .val (.ref b72), .unset, .unset, .unset, .unset] [(.int (1 : Int32))])) (fun tg kt => ?_) ?_
        · show Steps p.tables e below (T75.setTop (mkF m 112 #[.val (.int p0), .val (.int p1), .val (.int p2), .val (.int p3), .val (.int p4), .val (.int (2 : Int32)), .val (.ref a_STRING), .val (.ref b61), .val (.ref b64), .val (.int (0 : Int32)), .val (.ref b72), .unset, .unset, .unset, .unset] [(.int (0 : Int32))])) _
          refine XS.ifNo X75.here hx rfl (hb hby at_112) rfl ((if0 _ _).trans (teq ((by decide) : (0 : Int32) = (0 : Int32))).2) ?_
          show Steps p.tables e below (T75.setTop (mkF m 115 #[.val (.int p0), .val (.int p1), .val (.int p2), .val (.int p3), .val (.int p4), .val (.int (2 : Int32)), .val (.ref a_STRING), .val (.ref b61), .val (.ref b64), .val (.int (0 : Int32)), .val (.ref b72), .unset, .unset, .unset, .unset] [])) _
          refine XS.iconst X75.here hx rfl (hb hby at_115) ?_
          show Steps p.tables e below (T75.setTop (mkF m 116 #[.val (.int p0), .val (.int p1), .val (.int p2), .val (.int p3), .val (.int p4), .val (.int (2 : Int32)), .val (.ref a_STRING), .val (.ref b61), .val (.ref b64), .val (.int (0 : Int32)), .val (.ref b72), .unset, .unset, .unset, .unset] [(.int (1 : Int32))])) _
          refine XS.goto X75.here hx rfl (pc0 := 116) (pc' := 120) rfl (hb hby at_116) (by decide) (by decide) ?_
          exact kt
        refine own_retW X75 hS73 (by rw [eq75]; exact hk73) (v := some (.int (1 : Int32))) (fun h => by rw [Bd.returns] at h; cases h) hlk (by decide) (by decide) ?_ (fun fs hr => ?_)
        · show Q0 Z p0 p1 p2 p3 p4 a_INTEGER a_DECIMAL a_STRING a_BOOLEAN a_STRINGS cs h0 n0 (some (.int (1 : Int32))) T75.heap _
          rw [eq75]
          exact ⟨rfl, N75⟩
        · show Steps p.tables e below (T75.setTop (mkF m 120 #[.val (.int p0), .val (.int p1), .val (.int p2), .val (.int p3), .val (.int p4), .val (.int (2 : Int32)), .val (.ref a_STRING), .val (.ref b61), .val (.ref b64), .val (.int (0 : Int32)), .val (.ref b72), .unset, .unset, .unset, .unset] [(.int (1 : Int32))])) _
          exact retN X75 hx (t := .boolean) Bd.returns (by simp) (hb hby at_120) hr
    · refine own_st (A' := T65.setTop (mkF m 68 #[.val (.int p0), .val (.int p1), .val (.int p2), .val (.int p3), .val (.int p4), .val (.int (2 : Int32)), .val (.ref a_STRING), .val (.ref b61), .val (.ref b64), .val (.int (0 : Int32)), .unset, .unset, .unset, .unset, .unset] [(.int (p2 &&& (2 : Int32)))])) (fun tg kt => ?_) ?_
      · show Steps p.tables e below (T65.setTop (mkF m 44 #[.val (.int p0), .val (.int p1), .val (.int p2), .val (.int p3), .val (.int p4), .val (.int (2 : Int32)), .val (.ref a_STRING), .val (.ref b61), .val (.ref b64), .unset, .unset, .unset, .unset, .unset, .unset] [(.int (p2 &&& (1 : Int32)))])) _
        refine XS.ifNo X65.here hx rfl (hb hby at_44) rfl ((if0 _ _).trans (feq hc44_66).1) ?_
        show Steps p.tables e below (T65.setTop (mkF m 47 #[.val (.int p0), .val (.int p1), .val (.int p2), .val (.int p3), .val (.int p4), .val (.int (2 : Int32)), .val (.ref a_STRING), .val (.ref b61), .val (.ref b64), .unset, .unset, .unset, .unset, .unset, .unset] [])) _
        refine XS.iload X65.here hx rfl (hb hby at_47) rfl ?_
        show Steps p.tables e below (T65.setTop (mkF m 49 #[.val (.int p0), .val (.int p1), .val (.int p2), .val (.int p3), .val (.int p4), .val (.int (2 : Int32)), .val (.ref a_STRING), .val (.ref b61), .val (.ref b64), .unset, .unset, .unset, .unset, .unset, .unset] [(.int (2 : Int32))])) _
        refine XS.iconst X65.here hx rfl (hb hby at_49) ?_
        show Steps p.tables e below (T65.setTop (mkF m 50 #[.val (.int p0), .val (.int p1), .val (.int p2), .val (.int p3), .val (.int p4), .val (.int (2 : Int32)), .val (.ref a_STRING), .val (.ref b61), .val (.ref b64), .unset, .unset, .unset, .unset, .unset, .unset] [(.int (2 : Int32)), (.int (2 : Int32))])) _
        refine XS.icmpYes X65.here hx rfl (pc0 := 50) (pc' := 57) rfl (hb hby at_50) rfl (flt ((by decide) : ¬ ((2 : Int32) < (2 : Int32)))).2.1 (by decide) (by decide) ?_
        show Steps p.tables e below (T65.setTop (mkF m 57 #[.val (.int p0), .val (.int p1), .val (.int p2), .val (.int p3), .val (.int p4), .val (.int (2 : Int32)), .val (.ref a_STRING), .val (.ref b61), .val (.ref b64), .unset, .unset, .unset, .unset, .unset, .unset] [])) _
        refine XS.iconst X65.here hx rfl (hb hby at_57) ?_
        show Steps p.tables e below (T65.setTop (mkF m 58 #[.val (.int p0), .val (.int p1), .val (.int p2), .val (.int p3), .val (.int p4), .val (.int (2 : Int32)), .val (.ref a_STRING), .val (.ref b61), .val (.ref b64), .unset, .unset, .unset, .unset, .unset, .unset] [(.int (0 : Int32))])) _
        refine XS.istore X65.here hx rfl (hb hby at_58) rfl (l' := #[.val (.int p0), .val (.int p1), .val (.int p2), .val (.int p3), .val (.int p4), .val (.int (2 : Int32)), .val (.ref a_STRING), .val (.ref b61), .val (.ref b64), .val (.int (0 : Int32)), .unset, .unset, .unset, .unset, .unset]) rfl ?_
        show Steps p.tables e below (T65.setTop (mkF m 60 #[.val (.int p0), .val (.int p1), .val (.int p2), .val (.int p3), .val (.int p4), .val (.int (2 : Int32)), .val (.ref a_STRING), .val (.ref b61), .val (.ref b64), .val (.int (0 : Int32)), .unset, .unset, .unset, .unset, .unset] [])) _
        refine XS.iload X65.here hx rfl (hb hby at_60) rfl ?_
        show Steps p.tables e below (T65.setTop (mkF m 62 #[.val (.int p0), .val (.int p1), .val (.int p2), .val (.int p3), .val (.int p4), .val (.int (2 : Int32)), .val (.ref a_STRING), .val (.ref b61), .val (.ref b64), .val (.int (0 : Int32)), .unset, .unset, .unset, .unset, .unset] [(.int (0 : Int32))])) _
        refine XS.ifNo X65.here hx rfl (hb hby at_62) rfl ((if0 _ _).trans (teq ((by decide) : (0 : Int32) = (0 : Int32))).2) ?_
        show Steps p.tables e below (T65.setTop (mkF m 65 #[.val (.int p0), .val (.int p1), .val (.int p2), .val (.int p3), .val (.int p4), .val (.int (2 : Int32)), .val (.ref a_STRING), .val (.ref b61), .val (.ref b64), .val (.int (0 : Int32)), .unset, .unset, .unset, .unset, .unset] [])) _
        refine XS.iloadN X65.here hx rfl (hb hby at_65) rfl ?_
        show Steps p.tables e below (T65.setTop (mkF m 66 #[.val (.int p0), .val (.int p1), .val (.int p2), .val (.int p3), .val (.int p4), .val (.int (2 : Int32)), .val (.ref a_STRING), .val (.ref b61), .val (.ref b64), .val (.int (0 : Int32)), .unset, .unset, .unset, .unset, .unset] [(.int p2)])) _
        refine XS.iconst X65.here hx rfl (hb hby at_66) ?_
        show Steps p.tables e below (T65.setTop (mkF m 67 #[.val (.int p0), .val (.int p1), .val (.int p2), .val (.int p3), .val (.int p4), .val (.int (2 : Int32)), .val (.ref a_STRING), .val (.ref b61), .val (.ref b64), .val (.int (0 : Int32)), .unset, .unset, .unset, .unset, .unset] [(.int (2 : Int32)), (.int p2)])) _
        refine XS.iand X65.here hx rfl (hb hby at_67) rfl ?_
        exact kt
      by_cases hc68_76 : (p2 &&& (2 : Int32)) = (0 : Int32)
      · refine own_st (A' := T65.setTop (mkF m 90 #[.val (.int p0), .val (.int p1), .val (.int p2), .val (.int p3), .val (.int p4), .val (.int (2 : Int32)), .val (.ref a_STRING), .val (.ref b61), .val (.ref b64), .val (.int (0 : Int32)), .unset, .val .null, .unset, .unset, .unset] [])) (fun tg kt => ?_) ?_
        · show Steps p.tables e below (T65.setTop (mkF m 68 #[.val (.int p0), .val (.int p1), .val (.int p2), .val (.int p3), .val (.int p4), .val (.int (2 : Int32)), .val (.ref a_STRING), .val (.ref b61), .val (.ref b64), .val (.int (0 : Int32)), .unset, .unset, .unset, .unset, .unset] [(.int (p2 &&& (2 : Int32)))])) _
          refine XS.ifYes X65.here hx rfl (pc0 := 68) (pc' := 87) rfl (hb hby at_68) rfl ((if0 _ _).trans (teq hc68_76).1) (by decide) (by decide) ?_
          show Steps p.tables e below (T65.setTop (mkF m 87 #[.val (.int p0), .val (.int p1), .val (.int p2), .val (.int p3), .val (.int p4), .val (.int (2 : Int32)), .val (.ref a_STRING), .val (.ref b61), .val (.ref b64), .val (.int (0 : Int32)), .unset, .unset, .unset, .unset, .unset] [])) _
          refine XS.aconstNull X65.here hx rfl (hb hby at_87) ?_
          show Steps p.tables e below (T65.setTop (mkF m 88 #[.val (.int p0), .val (.int p1), .val (.int p2), .val (.int p3), .val (.int p4), .val (.int (2 : Int32)), .val (.ref a_STRING), .val (.ref b61), .val (.ref b64), .val (.int (0 : Int32)), .unset, .unset, .unset, .unset, .unset] [.null])) _
          refine XS.astore X65.here hx rfl (hb hby at_88) rfl rfl (l' := #[.val (.int p0), .val (.int p1), .val (.int p2), .val (.int p3), .val (.int p4), .val (.int (2 : Int32)), .val (.ref a_STRING), .val (.ref b61), .val (.ref b64), .val (.int (0 : Int32)), .unset, .val .null, .unset, .unset, .unset]) rfl ?_
          exact kt
        obtain ⟨T77, h77, X77, e77, E77, A77, D77, -, st77⟩ := newO X65 hx hZ hown (hw _ (List.mem_of_getElem? (i := 38) rfl)) (hw _ (List.mem_of_getElem? (i := 39) rfl)) (hw _ (List.mem_of_getElem? (i := 40) rfl)) rfl (g := (mkF m 90 #[.val (.int p0), .val (.int p1), .val (.int p2), .val (.int p3), .val (.int p4), .val (.int (2 : Int32)), .val (.ref a_STRING), .val (.ref b61), .val (.ref b64), .val (.int (0 : Int32)), .unset, .val .null, .unset, .unset, .unset] [])) rfl (hb hby at_90) (by decide) (by decide)
        obtain ⟨b77, g77⟩ : ∃ z, z = T65.heap.size := ⟨_, rfl⟩
        rw [← g77] at A77 D77 st77
        have g_b77 : n0 ≤ b77 := Nat.le_trans Z65 (Nat.le_of_eq g77.symm)
        have kw_b77 : h0.size ≤ b77 := Nat.le_trans (K65).1 (Nat.le_of_eq g77.symm)
        have ne_b61_b77 : b61 ≠ b77 := Nat.ne_of_lt (Nat.lt_of_lt_of_le ((V63.ext E64).keep Kq65 (ninS ne_b61_b64 nin0)).lt (Nat.le_of_eq g77.symm))
        have ne_b64_b77 : b64 ≠ b77 := Nat.ne_of_lt (Nat.lt_of_lt_of_le Eq65.lt (Nat.le_of_eq g77.symm))
        have ne_sv_b77 : sv ≠ b77 := Nat.ne_of_lt (Nat.lt_of_lt_of_le Aq65.lt (Nat.le_of_eq g77.symm))
        have K77 := (K65).ext E77
        have Z77 : n0 ≤ h77.size := Nat.le_trans Z65 E77.1
        have hk77 := Nat.le_trans hk65 E77.1
        have F_name_b77 : Fld Z h77 b77 "com/example/inexact_search/inexactsearch/engine/Attribute" "name" "Ljava/lang/String;" .null := D77 (Or.inr (hw _ (List.mem_of_getElem? (i := 62) rfl))) (ty := (.object "java/lang/String")) (by decide)
        have F_type_b77 : Fld Z h77 b77 "com/example/inexact_search/inexactsearch/engine/Attribute" "type" "Lcom/example/inexact_search/inexactsearch/engine/AttributeType;" .null := D77 (Or.inr (hw _ (List.mem_of_getElem? (i := 64) rfl))) (ty := (.object "com/example/inexact_search/inexactsearch/engine/AttributeType")) (by decide)
        have F_declaredMin_b77 : Fld Z h77 b77 "com/example/inexact_search/inexactsearch/engine/Attribute" "declaredMin" "Ljava/lang/Double;" .null := D77 (Or.inr (hw _ (List.mem_of_getElem? (i := 66) rfl))) (ty := (.object "java/lang/Double")) (by decide)
        have F_declaredMax_b77 : Fld Z h77 b77 "com/example/inexact_search/inexactsearch/engine/Attribute" "declaredMax" "Ljava/lang/Double;" .null := D77 (Or.inr (hw _ (List.mem_of_getElem? (i := 68) rfl))) (ty := (.object "java/lang/Double")) (by decide)
        refine own_st st77 ?_
        show own_Gl _ _ _ _ _ _ _ _ (T77.setTop (mkF m 93 #[.val (.int p0), .val (.int p1), .val (.int p2), .val (.int p3), .val (.int p4), .val (.int (2 : Int32)), .val (.ref a_STRING), .val (.ref b61), .val (.ref b64), .val (.int (0 : Int32)), .unset, .val .null, .unset, .unset, .unset] [(.ref b77)]))
        refine own_st (A' := T77.setTop (mkF m 102 #[.val (.int p0), .val (.int p1), .val (.int p2), .val (.int p3), .val (.int p4), .val (.int (2 : Int32)), .val (.ref a_STRING), .val (.ref b61), .val (.ref b64), .val (.int (0 : Int32)), .unset, .val .null, .unset, .unset, .unset] [.null, .null, (.ref a_STRING), (.ref b64), (.ref b77), (.ref b77)])) (fun tg kt => ?_) ?_
        · show Steps p.tables e below (T77.setTop (mkF m 93 #[.val (.int p0), .val (.int p1), .val (.int p2), .val (.int p3), .val (.int p4), .val (.int (2 : Int32)), .val (.ref a_STRING), .val (.ref b61), .val (.ref b64), .val (.int (0 : Int32)), .unset, .val .null, .unset, .unset, .unset] [(.ref b77)])) _
          refine XS.dup X77.here hx rfl (hb hby at_93) rfl rfl ?_
          show Steps p.tables e below (T77.setTop (mkF m 94 #[.val (.int p0), .val (.int p1), .val (.int p2), .val (.int p3), .val (.int p4), .val (.int (2 : Int32)), .val (.ref a_STRING), .val (.ref b61), .val (.ref b64), .val (.int (0 : Int32)), .unset, .val .null, .unset, .unset, .unset] [(.ref b77), (.ref b77)])) _
          refine XS.aload X77.here hx rfl (hb hby at_94) rfl rfl ?_
          show Steps p.tables e below (T77.setTop (mkF m 96 #[.val (.int p0), .val (.int p1), .val (.int p2), .val (.int p3), .val (.int p4), .val (.int (2 : Int32)), .val (.ref a_STRING), .val (.ref b61), .val (.ref b64), .val (.int (0 : Int32)), .unset, .val .null, .unset, .unset, .unset] [(.ref b64), (.ref b77), (.ref b77)])) _
          refine XS.aload X77.here hx rfl (hb hby at_96) rfl rfl ?_
          show Steps p.tables e below (T77.setTop (mkF m 98 #[.val (.int p0), .val (.int p1), .val (.int p2), .val (.int p3), .val (.int p4), .val (.int (2 : Int32)), .val (.ref a_STRING), .val (.ref b61), .val (.ref b64), .val (.int (0 : Int32)), .unset, .val .null, .unset, .unset, .unset] [(.ref a_STRING), (.ref b64), (.ref b77), (.ref b77)])) _
          refine XS.aload X77.here hx rfl (hb hby at_98) rfl rfl ?_
          show Steps p.tables e below (T77.setTop (mkF m 100 #[.val (.int p0), .val (.int p1), .val (.int p2), .val (.int p3), .val (.int p4), .val (.int (2 : Int32)), .val (.ref a_STRING), .val (.ref b61), .val (.ref b64), .val (.int (0 : Int32)), .unset, .val .null, .unset, .unset, .unset] [.null, (.ref a_STRING), (.ref b64), (.ref b77), (.ref b77)])) _
          refine XS.aload X77.here hx rfl (hb hby at_100) rfl rfl ?_
          exact kt
        obtain ⟨_, _, ⟨T78, L78, k78, n78⟩, -, X78, hSq78, hgq78, ⟨Lc78, hQ78, l78, y78, z78⟩, st78⟩ := X77.specialBackS hx (y := (⟨"com/example/inexact_search/inexactsearch/engine/Attribute", "<init>", "(Ljava/lang/String;Lcom/example/inexact_search/inexactsearch/engine/AttributeType;Ljava/lang/Double;Ljava/lang/Double;)V"⟩ : MethodName)) rfl hown (mvT hZ (hw _ (List.mem_of_getElem? (i := 78) rfl))) (mvT hZ (hw _ (List.mem_of_getElem? (i := 45) rfl))) (mvT hZ (hw _ (List.mem_of_getElem? (i := 46) rfl))) (by decide) (backOfS (W := 1) (rm9n l Z a0 hw [] b77 b64 a_STRING sv skb ([((nar .char ((p1 &&& (255 : Int32)).toUInt32.toUInt16.toUInt32.toInt32))).toInt8.toInt32].map Value.int) h77 n0 Z77 F_name_b77 F_type_b77 F_declaredMin_b77 F_declaredMax_b77 A77 g_b77 (Eq65.ext E77) (Vq65.ext E77) (Aq65.ext E77) ne_b64_b77 ne_sv_b77) hZ (hw _ (List.mem_of_getElem? (i := 46) rfl)) (hw _ (List.mem_of_getElem? (i := 40) rfl)) (by decide) (by decide)) (g := (mkF m 102 #[.val (.int p0), .val (.int p1), .val (.int p2), .val (.int p3), .val (.int p4), .val (.int (2 : Int32)), .val (.ref a_STRING), .val (.ref b61), .val (.ref b64), .val (.int (0 : Int32)), .unset, .val .null, .unset, .unset, .unset] [.null, .null, (.ref a_STRING), (.ref b64), (.ref b77), (.ref b77)])) rfl (by rw [hml]; rfl) (Steps.refl _) (a := b77) (argsL := [(.ref b64), (.ref a_STRING), .null, .null]) (rest := [(.ref b77)]) (lenOf own_pd14 rfl) rfl (by show 2 * 0 + _ ≤ _; exact Nat.le_of_eq rfl) (hb hby at_102) (fun _ _ => ⟨rfl, e77, (by decide : 4 + 4 ≤ _), (by decide : 10 + 40 ≤ _)⟩)
        dsimp only [Pt.U, Pt.locs, Pt.cells, Pt.slots] at X78 l78 y78 z78 st78 hQ78 hSq78 hgq78
        subst l78 y78 z78
        replace X78 : Stand p l e _ (s.setVm T78.vm) m _ below meth c T78 _ _ _ := X78
        have hS78 : s.Since T78.vm T78.heap.size := hS0.trans hSq78 (Nat.le_trans hk77 (by rw [← e77]; exact hgq78))
        have hZ78 : Z.Warmed39 (s.setVm T78.vm).vm := State.Warmed39.trans (t := (s.setVm s.vm)) hZ hSq78.1
        have hown78 : (s.setVm T78.vm).vm.findClass "com/example/inexact_search/inexactsearch/engine/AttributeHasDeclaredRangePinLaw" = some m.cls := by rw [show (s.setVm T78.vm).vm = T78.vm from rfl, hSq78.1.alike.findClass]; exact hown
        have hk78 : T78.heap.size ≤ T78.heap.size := Nat.le_refl _
        obtain ⟨rfl, Nq78, Kq78, Eq78, Fq78⟩ := hQ78
        have N78 := Fr.app N65 Nq78
        have Fa79 := ((((V63.ext E64).keep Kq65 (ninS ne_b61_b64 nin0)).ext E77).keep Kq78 (ninS ne_b61_b77 nin0))
        have K78 := (K77).trans Kq78 (allS (Or.inr kw_b77) all0)
        have Z78 : n0 ≤ T78.heap.size := Nat.le_trans Z77 Kq78.1
        refine own_tr st78 ?_
        show own_Gl _ _ _ _ _ _ _ _ (T78.setTop (mkF m 105 #[.val (.int p0), .val (.int p1), .val (.int p2), .val (.int p3), .val (.int p4), .val (.int (2 : Int32)), .val (.ref a_STRING), .val (.ref b61), .val (.ref b64), .val (.int (0 : Int32)), .unset, .val .null, .unset, .unset, .unset] [(.ref b77)]))
        refine own_st (A' := T78.setTop (mkF m 109 #[.val (.int p0), .val (.int p1), .val (.int p2), .val (.int p3), .val (.int p4), .val (.int (2 : Int32)), .val (.ref a_STRING), .val (.ref b61), .val (.ref b64), .val (.int (0 : Int32)), .val (.ref b77), .val .null, .unset, .unset, .unset] [(.ref b77)])) (fun tg kt => ?_) ?_
        · show Steps p.tables e below (T78.setTop (mkF m 105 #[.val (.int p0), .val (.int p1), .val (.int p2), .val (.int p3), .val (.int p4), .val (.int (2 : Int32)), .val (.ref a_STRING), .val (.ref b61), .val (.ref b64), .val (.int (0 : Int32)), .unset, .val .null, .unset, .unset, .unset] [(.ref b77)])) _
          refine XS.astore X78.here hx rfl (hb hby at_105) rfl rfl (l' := #[.val (.int p0), .val (.int p1), .val (.int p2), .val (.int p3), .val (.int p4), .val (.int (2 : Int32)), .val (.ref a_STRING), .val (.ref b61), .val (.ref b64), .val (.int (0 : Int32)), .val (.ref b77), .val .null, .unset, .unset, .unset]) rfl ?_
          show Steps p.tables e below (T78.setTop (mkF m 107 #[.val (.int p0), .val (.int p1), .val (.int p2), .val (.int p3), .val (.int p4), .val (.int (2 : Int32)), .val (.ref a_STRING), .val (.ref b61), .val (.ref b64), .val (.int (0 : Int32)), .val (.ref b77), .val .null, .unset, .unset, .unset] [])) _
          refine XS.aload X78.here hx rfl (hb hby at_107) rfl rfl ?_
          exact kt
        obtain ⟨cq80, kq80, q80a, q80b, q80c⟩ := isOf hZ78 rfl Eq78
        obtain ⟨_, _, ⟨T80, L80, k80, n80⟩, -, X80, ⟨Lc80, hQ80, l80, y80, z80⟩, st80⟩ := X78.virtualBack hx (y := (⟨"com/example/inexact_search/inexactsearch/engine/Attribute", "hasDeclaredRange", "()Z"⟩ : MethodName)) (z := (⟨"com/example/inexact_search/inexactsearch/engine/Attribute", "hasDeclaredRange", "()Z"⟩ : MethodName)) hown78 (mvT hZ78 (hw _ (List.mem_of_getElem? (i := 69) rfl))) (mvT hZ78 (hw _ (List.mem_of_getElem? (i := 70) rfl))) (notFace_of_selects (args := #[]) (mvT hZ78 (hw _ (List.mem_of_getElem? (i := 72) rfl)))) (mvT hZ78 (hw _ (List.mem_of_getElem? (i := 72) rfl))) (mvT hZ78 (hw _ (List.mem_of_getElem? (i := 71) rfl))) (by decide) (backOf (W := 0) (rm12n l Z a0 hw [] b77 T78.heap n0 Z78 Fq78) hZ78 (hw _ (List.mem_of_getElem? (i := 73) rfl)) (hw _ (List.mem_of_getElem? (i := 40) rfl)) (by decide) (by decide)) q80a q80c (g := (mkF m 109 #[.val (.int p0), .val (.int p1), .val (.int p2), .val (.int p3), .val (.int p4), .val (.int (2 : Int32)), .val (.ref a_STRING), .val (.ref b61), .val (.ref b64), .val (.int (0 : Int32)), .val (.ref b77), .val .null, .unset, .unset, .unset] [(.ref b77)])) rfl (by rw [hml]; rfl) (Steps.refl _) (argsL := []) (rest := []) (lenOf own_pd10 rfl) rfl (by show 2 * 0 + _ ≤ _; exact Nat.le_of_eq rfl) (hb hby at_109) (fun _ _ => ⟨rfl, rfl, (by decide : 8 + 0 ≤ _), (by decide : 50 + 0 ≤ _)⟩)
        dsimp only [Pt.U, Pt.locs, Pt.cells, Pt.slots] at X80 l80 y80 z80 st80 hQ80
        subst l80 y80 z80
        obtain ⟨rfl, Nq80, eq80⟩ := hQ80
        have N80 := Fr.app N78 Nq80
        refine own_tr st80 ?_
        show own_Gl _ _ _ _ _ _ _ _ (T80.setTop (mkF m 112 #[.val (.int p0), .val (.int p1), .val (.int p2), .val (.int p3), .val (.int p4), .val (.int (2 : Int32)), .val (.ref a_STRING), .val (.ref b61), .val (.ref b64), .val (.int (0 : Int32)), .val (.ref b77), .val .null, .unset, .unset, .unset] [(.int (0 : Int32))]))
        refine own_st (A' := T80.setTop (mkF m 120 #[.val (.int p0), .val (.int p1), .val (.int p2), .val (.int p3), .val (.int p4), .val (.int (2 : Int32)), .val (.ref a_STRING), .val (.ref b61), .val (.ref b64), .val (.int (0 : Int32)), .val (.ref b77), .val .null, .unset, .unset, .unset] [(.int (1 : Int32))])) (fun tg kt => ?_) ?_
        · show Steps p.tables e below (T80.setTop (mkF m 112 #[.val (.int p0), .val (.int p1), .val (.int p2), .val (.int p3), .val (.int p4), .val (.int (2 : Int32)), .val (.ref a_STRING), .val (.ref b61), .val (.ref b64), .val (.int (0 : Int32)), .val (.ref b77), .val .null, .unset, .unset, .unset] [(.int (0 : Int32))])) _
          refine XS.ifNo X80.here hx rfl (hb hby at_112) rfl ((if0 _ _).trans (teq ((by decide) : (0 : Int32) = (0 : Int32))).2) ?_
          show Steps p.tables e below (T80.setTop (mkF m 115 #[.val (.int p0), .val (.int p1), .val (.int p2), .val (.int p3), .val (.int p4), .val (.int (2 : Int32)), .val (.ref a_STRING), .val (.ref b61), .val (.ref b64), .val (.int (0 : Int32)), .val (.ref b77), .val .null, .unset, .unset, .unset] [])) _
          refine XS.iconst X80.here hx rfl (hb hby at_115) ?_
          show Steps p.tables e below (T80.setTop (mkF m 116 #[.val (.int p0), .val (.int p1), .val (.int p2), .val (.int p3), .val (.int p4), .val (.int (2 : Int32)), .val (.ref a_STRING), .val (.ref b61), .val (.ref b64), .val (.int (0 : Int32)), .val (.ref b77), .val .null, .unset, .unset, .unset] [(.int (1 : Int32))])) _
          refine XS.goto X80.here hx rfl (pc0 := 116) (pc' := 120) rfl (hb hby at_116) (by decide) (by decide) ?_
          exact kt
        refine own_retW X80 hS78 (by rw [eq80]; exact hk78) (v := some (.int (1 : Int32))) (fun h => by rw [Bd.returns] at h; cases h) hlk (by decide) (by decide) ?_ (fun fs hr => ?_)
        · show Q0 Z p0 p1 p2 p3 p4 a_INTEGER a_DECIMAL a_STRING a_BOOLEAN a_STRINGS cs h0 n0 (some (.int (1 : Int32))) T80.heap _
          rw [eq80]
          exact ⟨rfl, N80⟩
        · show Steps p.tables e below (T80.setTop (mkF m 120 #[.val (.int p0), .val (.int p1), .val (.int p2), .val (.int p3), .val (.int p4), .val (.int (2 : Int32)), .val (.ref a_STRING), .val (.ref b61), .val (.ref b64), .val (.int (0 : Int32)), .val (.ref b77), .val .null, .unset, .unset, .unset] [(.int (1 : Int32))])) _
          exact retN X80 hx (t := .boolean) Bd.returns (by simp) (hb hby at_120) hr
      · refine own_st (A' := T65.setTop (mkF m 71 #[.val (.int p0), .val (.int p1), .val (.int p2), .val (.int p3), .val (.int p4), .val (.int (2 : Int32)), .val (.ref a_STRING), .val (.ref b61), .val (.ref b64), .val (.int (0 : Int32)), .unset, .unset, .unset, .unset, .unset] [])) (fun tg kt => ?_) ?_
        · show Steps p.tables e below (T65.setTop (mkF m 68 #[.val (.int p0), .val (.int p1), .val (.int p2), .val (.int p3), .val (.int p4), .val (.int (2 : Int32)), .val (.ref a_STRING), .val (.ref b61), .val (.ref b64), .val (.int (0 : Int32)), .unset, .unset, .unset, .unset, .unset] [(.int (p2 &&& (2 : Int32)))])) _
          refine XS.ifNo X65.here hx rfl (hb hby at_68) rfl ((if0 _ _).trans (feq hc68_76).1) ?_
          exact kt
        obtain ⟨T81, h81, X81, e81, E81, A81, D81, -, st81⟩ := newO X65 hx hZ hown (hw _ (List.mem_of_getElem? (i := 38) rfl)) (hw _ (List.mem_of_getElem? (i := 39) rfl)) (hw _ (List.mem_of_getElem? (i := 40) rfl)) rfl (g := (mkF m 71 #[.val (.int p0), .val (.int p1), .val (.int p2), .val (.int p3), .val (.int p4), .val (.int (2 : Int32)), .val (.ref a_STRING), .val (.ref b61), .val (.ref b64), .val (.int (0 : Int32)), .unset, .unset, .unset, .unset, .unset] [])) rfl (hb hby at_71) (by decide) (by decide)
        obtain ⟨b81, g81⟩ : ∃ z, z = T65.heap.size := ⟨_, rfl⟩
        rw [← g81] at A81 D81 st81
        have g_b81 : n0 ≤ b81 := Nat.le_trans Z65 (Nat.le_of_eq g81.symm)
        have kw_b81 : h0.size ≤ b81 := Nat.le_trans (K65).1 (Nat.le_of_eq g81.symm)
        have ne_b61_b81 : b61 ≠ b81 := Nat.ne_of_lt (Nat.lt_of_lt_of_le ((V63.ext E64).keep Kq65 (ninS ne_b61_b64 nin0)).lt (Nat.le_of_eq g81.symm))
        have ne_b64_b81 : b64 ≠ b81 := Nat.ne_of_lt (Nat.lt_of_lt_of_le Eq65.lt (Nat.le_of_eq g81.symm))
        have ne_sv_b81 : sv ≠ b81 := Nat.ne_of_lt (Nat.lt_of_lt_of_le Aq65.lt (Nat.le_of_eq g81.symm))
        have K81 := (K65).ext E81
        have Z81 : n0 ≤ h81.size := Nat.le_trans Z65 E81.1
        have hk81 := Nat.le_trans hk65 E81.1
        have F_name_b81 : Fld Z h81 b81 "com/example/inexact_search/inexactsearch/engine/Attribute" "name" "Ljava/lang/String;" .null := D81 (Or.inr (hw _ (List.mem_of_getElem? (i := 62) rfl))) (ty := (.object "java/lang/String")) (by decide)
        have F_type_b81 : Fld Z h81 b81 "com/example/inexact_search/inexactsearch/engine/Attribute" "type" "Lcom/example/inexact_search/inexactsearch/engine/AttributeType;" .null := D81 (Or.inr (hw _ (List.mem_of_getElem? (i := 64) rfl))) (ty := (.object "com/example/inexact_search/inexactsearch/engine/AttributeType")) (by decide)
        have F_declaredMin_b81 : Fld Z h81 b81 "com/example/inexact_search/inexactsearch/engine/Attribute" "declaredMin" "Ljava/lang/Double;" .null := D81 (Or.inr (hw _ (List.mem_of_getElem? (i := 66) rfl))) (ty := (.object "java/lang/Double")) (by decide)
        have F_declaredMax_b81 : Fld Z h81 b81 "com/example/inexact_search/inexactsearch/engine/Attribute" "declaredMax" "Ljava/lang/Double;" .null := D81 (Or.inr (hw _ (List.mem_of_getElem? (i := 68) rfl))) (ty := (.object "java/lang/Double")) (by decide)
        refine own_st st81 ?_
        show own_Gl _ _ _ _ _ _ _ _ (T81.setTop (mkF m 74 #[.val (.int p0), .val (.int p1), .val (.int p2), .val (.int p3), .val (.int p4), .val (.int (2 : Int32)), .val (.ref a_STRING), .val (.ref b61), .val (.ref b64), .val (.int (0 : Int32)), .unset, .unset, .unset, .unset, .unset] [(.ref b81)]))
        refine own_st (A' := T81.setTop (mkF m 79 #[.val (.int p0), .val (.int p1), .val (.int p2), .val (.int p3), .val (.int p4), .val (.int (2 : Int32)), .val (.ref a_STRING), .val (.ref b61), .val (.ref b64), .val (.int (0 : Int32)), .unset, .unset, .unset, .unset, .unset] [(.ref a_STRING), (.ref b64), (.ref b81), (.ref b81)])) (fun tg kt => ?_) ?_
        · show Steps p.tables e below (T81.setTop (mkF m 74 #[.val (.int p0), .val (.int p1), .val (.int p2), .val (.int p3), .val (.int p4), .val (.int (2 : Int32)), .val (.ref a_STRING), .val (.ref b61), .val (.ref b64), .val (.int (0 : Int32)), .unset, .unset, .unset, .unset, .unset] [(.ref b81)])) _
          refine XS.dup X81.here hx rfl (hb hby at_74) rfl rfl ?_
          show Steps p.tables e below (T81.setTop (mkF m 75 #[.val (.int p0), .val (.int p1), .val (.int p2), .val (.int p3), .val (.int p4), .val (.int (2 : Int32)), .val (.ref a_STRING), .val (.ref b61), .val (.ref b64), .val (.int (0 : Int32)), .unset, .unset, .unset, .unset, .unset] [(.ref b81), (.ref b81)])) _
          refine XS.aload X81.here hx rfl (hb hby at_75) rfl rfl ?_
          show Steps p.tables e below (T81.setTop (mkF m 77 #[.val (.int p0), .val (.int p1), .val (.int p2), .val (.int p3), .val (.int p4), .val (.int (2 : Int32)), .val (.ref a_STRING), .val (.ref b61), .val (.ref b64), .val (.int (0 : Int32)), .unset, .unset, .unset, .unset, .unset] [(.ref b64), (.ref b81), (.ref b81)])) _
          refine XS.aload X81.here hx rfl (hb hby at_77) rfl rfl ?_
          exact kt
        obtain ⟨_, _, ⟨T82, L82, k82, n82⟩, -, X82, hSq82, hgq82, ⟨Lc82, hQ82, l82, y82, z82⟩, st82⟩ := X81.specialBackS hx (y := (⟨"com/example/inexact_search/inexactsearch/engine/Attribute", "<init>", "(Ljava/lang/String;Lcom/example/inexact_search/inexactsearch/engine/AttributeType;)V"⟩ : MethodName)) rfl hown (mvT hZ (hw _ (List.mem_of_getElem? (i := 41) rfl))) (mvT hZ (hw _ (List.mem_of_getElem? (i := 42) rfl))) (mvT hZ (hw _ (List.mem_of_getElem? (i := 43) rfl))) (by decide) (backOfS (W := 1) (rm8 l Z a0 hw [] b81 b64 a_STRING sv skb ([((nar .char ((p1 &&& (255 : Int32)).toUInt32.toUInt16.toUInt32.toInt32))).toInt8.toInt32].map Value.int) h81 n0 Z81 F_name_b81 F_type_b81 F_declaredMin_b81 F_declaredMax_b81 A81 g_b81 (Eq65.ext E81) (Vq65.ext E81) (Aq65.ext E81) ne_b64_b81 ne_sv_b81) hZ (hw _ (List.mem_of_getElem? (i := 43) rfl)) (hw _ (List.mem_of_getElem? (i := 40) rfl)) (by decide) (by decide)) (g := (mkF m 79 #[.val (.int p0), .val (.int p1), .val (.int p2), .val (.int p3), .val (.int p4), .val (.int (2 : Int32)), .val (.ref a_STRING), .val (.ref b61), .val (.ref b64), .val (.int (0 : Int32)), .unset, .unset, .unset, .unset, .unset] [(.ref a_STRING), (.ref b64), (.ref b81), (.ref b81)])) rfl (by rw [hml]; rfl) (Steps.refl _) (a := b81) (argsL := [(.ref b64), (.ref a_STRING)]) (rest := [(.ref b81)]) (lenOf own_pd17 rfl) rfl (by show 2 * 0 + _ ≤ _; exact Nat.le_of_eq rfl) (hb hby at_79) (fun _ _ => ⟨rfl, e81, (by decide : 4 + 4 ≤ _), (by decide : 10 + 40 ≤ _)⟩)
        dsimp only [Pt.U, Pt.locs, Pt.cells, Pt.slots] at X82 l82 y82 z82 st82 hQ82 hSq82 hgq82
        subst l82 y82 z82
        replace X82 : Stand p l e _ (s.setVm T82.vm) m _ below meth c T82 _ _ _ := X82
        have hS82 : s.Since T82.vm T82.heap.size := hS0.trans hSq82 (Nat.le_trans hk81 (by rw [← e81]; exact hgq82))
        have hZ82 : Z.Warmed39 (s.setVm T82.vm).vm := State.Warmed39.trans (t := (s.setVm s.vm)) hZ hSq82.1
        have hown82 : (s.setVm T82.vm).vm.findClass "com/example/inexact_search/inexactsearch/engine/AttributeHasDeclaredRangePinLaw" = some m.cls := by rw [show (s.setVm T82.vm).vm = T82.vm from rfl, hSq82.1.alike.findClass]; exact hown
        have hk82 : T82.heap.size ≤ T82.heap.size := Nat.le_refl _
        obtain ⟨rfl, Nq82, Kq82, Eq82, Fq82⟩ := hQ82
        have N82 := Fr.app N65 Nq82
        have Fa83 := ((((V63.ext E64).keep Kq65 (ninS ne_b61_b64 nin0)).ext E81).keep Kq82 (ninS ne_b61_b81 nin0))
        have K82 := (K81).trans Kq82 (allS (Or.inr kw_b81) all0)
        have Z82 : n0 ≤ T82.heap.size := Nat.le_trans Z81 Kq82.1
        refine own_tr st82 ?_
        show own_Gl _ _ _ _ _ _ _ _ (T82.setTop (mkF m 82 #[.val (.int p0), .val (.int p1), .val (.int p2), .val (.int p3), .val (.int p4), .val (.int (2 : Int32)), .val (.ref a_STRING), .val (.ref b61), .val (.ref b64), .val (.int (0 : Int32)), .unset, .unset, .unset, .unset, .unset] [(.ref b81)]))
        refine own_st (A' := T82.setTop (mkF m 109 #[.val (.int p0), .val (.int p1), .val (.int p2), .val (.int p3), .val (.int p4), .val (.int (2 : Int32)), .val (.ref a_STRING), .val (.ref b61), .val (.ref b64), .val (.int (0 : Int32)), .val (.ref b81), .unset, .unset, .unset, .unset] [(.ref b81)])) (fun tg kt => ?_) ?_
        · show Steps p.tables e below (T82.setTop (mkF m 82 #[.val (.int p0), .val (.int p1), .val (.int p2), .val (.int p3), .val (.int p4), .val (.int (2 : Int32)), .val (.ref a_STRING), .val (.ref b61), .val (.ref b64), .val (.int (0 : Int32)), .unset, .unset, .unset, .unset, .unset] [(.ref b81)])) _
          refine XS.astore X82.here hx rfl (hb hby at_82) rfl rfl (l' := #[.val (.int p0), .val (.int p1), .val (.int p2), .val (.int p3), .val (.int p4), .val (.int (2 : Int32)), .val (.ref a_STRING), .val (.ref b61), .val (.ref b64), .val (.int (0 : Int32)), .val (.ref b81), .unset, .unset, .unset, .unset]) rfl ?_
          show Steps p.tables e below (T82.setTop (mkF m 84 #[.val (.int p0), .val (.int p1), .val (.int p2), .val (.int p3), .val (.int p4), .val (.int (2 : Int32)), .val (.ref a_STRING), .val (.ref b61), .val (.ref b64), .val (.int (0 : Int32)), .val (.ref b81), .unset, .unset, .unset, .unset] [])) _
          refine XS.goto X82.here hx rfl (pc0 := 84) (pc' := 107) rfl (hb hby at_84) (by decide) (by decide) ?_
          show Steps p.tables e below (T82.setTop (mkF m 107 #[.val (.int p0), .val (.int p1), .val (.int p2), .val (.int p3), .val (.int p4), .val (.int (2 : Int32)), .val (.ref a_STRING), .val (.ref b61), .val (.ref b64), .val (.int (0 : Int32)), .val (.ref b81), .unset, .unset, .unset, .unset] [])) _
          refine XS.aload X82.here hx rfl (hb hby at_107) rfl rfl ?_
          exact kt
        obtain ⟨cq84, kq84, q84a, q84b, q84c⟩ := isOf hZ82 rfl Eq82
        obtain ⟨_, _, ⟨T84, L84, k84, n84⟩, -, X84, ⟨Lc84, hQ84, l84, y84, z84⟩, st84⟩ := X82.virtualBack hx (y := (⟨"com/example/inexact_search/inexactsearch/engine/Attribute", "hasDeclaredRange", "()Z"⟩ : MethodName)) (z := (⟨"com/example/inexact_search/inexactsearch/engine/Attribute", "hasDeclaredRange", "()Z"⟩ : MethodName)) hown82 (mvT hZ82 (hw _ (List.mem_of_getElem? (i := 69) rfl))) (mvT hZ82 (hw _ (List.mem_of_getElem? (i := 70) rfl))) (notFace_of_selects (args := #[]) (mvT hZ82 (hw _ (List.mem_of_getElem? (i := 72) rfl)))) (mvT hZ82 (hw _ (List.mem_of_getElem? (i := 72) rfl))) (mvT hZ82 (hw _ (List.mem_of_getElem? (i := 71) rfl))) (by decide) (backOf (W := 0) (rm12n l Z a0 hw [] b81 T82.heap n0 Z82 Fq82) hZ82 (hw _ (List.mem_of_getElem? (i := 73) rfl)) (hw _ (List.mem_of_getElem? (i := 40) rfl)) (by decide) (by decide)) q84a q84c (g := (mkF m 109 #[.val (.int p0), .val (.int p1), .val (.int p2), .val (.int p3), .val (.int p4), .val (.int (2 : Int32)), .val (.ref a_STRING), .val (.ref b61), .val (.ref b64), .val (.int (0 : Int32)), .val (.ref b81), .unset, .unset, .unset, .unset] [(.ref b81)])) rfl (by rw [hml]; rfl) (Steps.refl _) (argsL := []) (rest := []) (lenOf own_pd10 rfl) rfl (by show 2 * 0 + _ ≤ _; exact Nat.le_of_eq rfl) (hb hby at_109) (fun _ _ => ⟨rfl, rfl, (by decide : 8 + 0 ≤ _), (by decide : 50 + 0 ≤ _)⟩)
        dsimp only [Pt.U, Pt.locs, Pt.cells, Pt.slots] at X84 l84 y84 z84 st84 hQ84
        subst l84 y84 z84
        obtain ⟨rfl, Nq84, eq84⟩ := hQ84
        have N84 := Fr.app N82 Nq84
        refine own_tr st84 ?_
        show own_Gl _ _ _ _ _ _ _ _ (T84.setTop (mkF m 112 #[.val (.int p0), .val (.int p1), .val (.int p2), .val (.int p3), .val (.int p4), .val (.int (2 : Int32)), .val (.ref a_STRING), .val (.ref b61), .val (.ref b64), .val (.int (0 : Int32)), .val (.ref b81), .unset, .unset, .unset, .unset] [(.int (0 : Int32))]))
        refine own_st (A' := T84.setTop (mkF m 120 #[.val (.int p0), .val (.int p1), .val (.int p2), .val (.int p3), .val (.int p4), .val (.int (2 : Int32)), .val (.ref a_STRING), .val (.ref b61), .val (.ref b64), .val (.int (0 : Int32)), .val (.ref b81), .unset, .unset, .unset, .unset] [(.int (1 : Int32))])) (fun tg kt => ?_) ?_
        · show Steps p.tables e below (T84.setTop (mkF m 112 #[.val (.int p0), .val (.int p1), .val (.int p2), .val (.int p3), .val (.int p4), .val (.int (2 : Int32)), .val (.ref a_STRING), .val (.ref b61), .val (.ref b64), .val (.int (0 : Int32)), .val (.ref b81), .unset, .unset, .unset, .unset] [(.int (0 : Int32))])) _
          refine XS.ifNo X84.here hx rfl (hb hby at_112) rfl ((if0 _ _).trans (teq ((by decide) : (0 : Int32) = (0 : Int32))).2) ?_
          show Steps p.tables e below (T84.setTop (mkF m 115 #[.val (.int p0), .val (.int p1), .val (.int p2), .val (.int p3), .val (.int p4), .val (.int (2 : Int32)), .val (.ref a_STRING), .val (.ref b61), .val (.ref b64), .val (.int (0 : Int32)), .val (.ref b81), .unset, .unset, .unset, .unset] [])) _
          refine XS.iconst X84.here hx rfl (hb hby at_115) ?_
          show Steps p.tables e below (T84.setTop (mkF m 116 #[.val (.int p0), .val (.int p1), .val (.int p2), .val (.int p3), .val (.int p4), .val (.int (2 : Int32)), .val (.ref a_STRING), .val (.ref b61), .val (.ref b64), .val (.int (0 : Int32)), .val (.ref b81), .unset, .unset, .unset, .unset] [(.int (1 : Int32))])) _
          refine XS.goto X84.here hx rfl (pc0 := 116) (pc' := 120) rfl (hb hby at_116) (by decide) (by decide) ?_
          exact kt
        refine own_retW X84 hS82 (by rw [eq84]; exact hk82) (v := some (.int (1 : Int32))) (fun h => by rw [Bd.returns] at h; cases h) hlk (by decide) (by decide) ?_ (fun fs hr => ?_)
        · show Q0 Z p0 p1 p2 p3 p4 a_INTEGER a_DECIMAL a_STRING a_BOOLEAN a_STRINGS cs h0 n0 (some (.int (1 : Int32))) T84.heap _
          rw [eq84]
          exact ⟨rfl, N84⟩
        · show Steps p.tables e below (T84.setTop (mkF m 120 #[.val (.int p0), .val (.int p1), .val (.int p2), .val (.int p3), .val (.int p4), .val (.int (2 : Int32)), .val (.ref a_STRING), .val (.ref b61), .val (.ref b64), .val (.int (0 : Int32)), .val (.ref b81), .unset, .unset, .unset, .unset] [(.int (1 : Int32))])) _
          exact retN X84 hx (t := .boolean) Bd.returns (by simp) (hb hby at_120) hr
  · show own_Gl _ _ _ _ _ _ _ _ (s₁.setTop (mkF m 6 #[.val (.int p0), .val (.int p1), .val (.int p2), .val (.int p3), .val (.int p4), .unset, .unset, .unset, .unset, .unset, .unset, .unset, .unset, .unset, .unset] [(.int (3 : Int32))]))
    refine own_st (A' := s₁.setTop (mkF m 10 #[.val (.int p0), .val (.int p1), .val (.int p2), .val (.int p3), .val (.int p4), .val (.int (3 : Int32)), .unset, .unset, .unset, .unset, .unset, .unset, .unset, .unset, .unset] [(.int (3 : Int32))])) (fun tg kt => ?_) ?_
    · show Steps p.tables e below (s₁.setTop (mkF m 6 #[.val (.int p0), .val (.int p1), .val (.int p2), .val (.int p3), .val (.int p4), .unset, .unset, .unset, .unset, .unset, .unset, .unset, .unset, .unset, .unset] [(.int (3 : Int32))])) _
      refine XS.istore X0.here hx rfl (hb hby at_6) rfl (l' := #[.val (.int p0), .val (.int p1), .val (.int p2), .val (.int p3), .val (.int p4), .val (.int (3 : Int32)), .unset, .unset, .unset, .unset, .unset, .unset, .unset, .unset, .unset]) rfl ?_
      show Steps p.tables e below (s₁.setTop (mkF m 8 #[.val (.int p0), .val (.int p1), .val (.int p2), .val (.int p3), .val (.int p4), .val (.int (3 : Int32)), .unset, .unset, .unset, .unset, .unset, .unset, .unset, .unset, .unset] [])) _
      refine XS.iload X0.here hx rfl (hb hby at_8) rfl ?_
      exact kt
    obtain ⟨_, _, ⟨T85, L85, k85, n85⟩, -, X85, ⟨Lc85, hQ85, l85, y85, z85⟩, st85⟩ := Jvm.LawKit.callS X0 hx (y := (⟨"com/example/inexact_search/inexactsearch/engine/AttributeHasDeclaredRangePinLaw", "typeOf", "(I)Lcom/example/inexact_search/inexactsearch/engine/AttributeType;"⟩ : MethodName)) hown (mvT hZ (hw _ (List.mem_of_getElem? (i := 1) rfl))) (mvT hZ (hw _ (List.mem_of_getElem? (i := 2) rfl))) (mvT hZ (hw _ (List.mem_of_getElem? (i := 3) rfl))) (mvT hZ (hw _ (List.mem_of_getElem? (i := 4) rfl))) (by decide) (backOf (W := 0) (rm1 l Z a0 hw [] (3 : Int32) a_INTEGER a_DECIMAL a_STRING a_BOOLEAN a_STRINGS h0 n0 Z0 S_INTEGER S_DECIMAL S_STRING S_BOOLEAN S_STRINGS) hZ (hw _ (List.mem_of_getElem? (i := 4) rfl)) (hw _ (List.mem_of_getElem? (i := 3) rfl)) (by decide) (by decide)) (g := (mkF m 10 #[.val (.int p0), .val (.int p1), .val (.int p2), .val (.int p3), .val (.int p4), .val (.int (3 : Int32)), .unset, .unset, .unset, .unset, .unset, .unset, .unset, .unset, .unset] [(.int (3 : Int32))])) rfl (by rw [hml]; rfl) (argsL := [(.int (3 : Int32))]) (rest := []) (lenOf own_pd15 rfl) rfl (by show 2 * 0 + _ ≤ _; exact Nat.le_of_eq rfl) (hb hby at_10) (fun _ _ => ⟨rfl, e0, (by decide : 0 + 0 ≤ _), (by decide : 0 + 0 ≤ _)⟩)
    dsimp only [Pt.U, Pt.locs, Pt.cells, Pt.slots] at X85 l85 y85 z85 st85 hQ85
    subst l85 y85 z85
    obtain ⟨hv85, hr85⟩ := hQ85
    rw [show own_pick1 (3 : Int32) a_INTEGER a_DECIMAL a_STRING a_BOOLEAN a_STRINGS = a_BOOLEAN from rfl] at hv85
    have hQ85 := And.intro hv85 hr85
    obtain ⟨rfl, Nq85, eq85⟩ := hQ85
    have N85 := Fr.app N0 Nq85
    refine own_st st85 ?_
    show own_Gl _ _ _ _ _ _ _ _ (T85.setTop (mkF m 13 #[.val (.int p0), .val (.int p1), .val (.int p2), .val (.int p3), .val (.int p4), .val (.int (3 : Int32)), .unset, .unset, .unset, .unset, .unset, .unset, .unset, .unset, .unset] [(.ref a_BOOLEAN)]))
    refine own_st (A' := T85.setTop (mkF m 16 #[.val (.int p0), .val (.int p1), .val (.int p2), .val (.int p3), .val (.int p4), .val (.int (3 : Int32)), .val (.ref a_BOOLEAN), .unset, .unset, .unset, .unset, .unset, .unset, .unset, .unset] [(.int (1 : Int32))])) (fun tg kt => ?_) ?_
    · show Steps p.tables e below (T85.setTop (mkF m 13 #[.val (.int p0), .val (.int p1), .val (.int p2), .val (.int p3), .val (.int p4), .val (.int (3 : Int32)), .unset, .unset, .unset, .unset, .unset, .unset, .unset, .unset, .unset] [(.ref a_BOOLEAN)])) _
      refine XS.astore X85.here hx rfl (hb hby at_13) rfl rfl (l' := #[.val (.int p0), .val (.int p1), .val (.int p2), .val (.int p3), .val (.int p4), .val (.int (3 : Int32)), .val (.ref a_BOOLEAN), .unset, .unset, .unset, .unset, .unset, .unset, .unset, .unset]) rfl ?_
      show Steps p.tables e below (T85.setTop (mkF m 15 #[.val (.int p0), .val (.int p1), .val (.int p2), .val (.int p3), .val (.int p4), .val (.int (3 : Int32)), .val (.ref a_BOOLEAN), .unset, .unset, .unset, .unset, .unset, .unset, .unset, .unset] [])) _
      refine XS.iconst X85.here hx rfl (hb hby at_15) ?_
      exact kt
    obtain ⟨T86, h86, k86, X86, e86, E86, A86, st86⟩ := newP X85 hx hZ (hw _ (List.mem_of_getElem? (i := 8) rfl)) eq85 (g := (mkF m 16 #[.val (.int p0), .val (.int p1), .val (.int p2), .val (.int p3), .val (.int p4), .val (.int (3 : Int32)), .val (.ref a_BOOLEAN), .unset, .unset, .unset, .unset, .unset, .unset, .unset, .unset] [(.int (1 : Int32))])) rfl (hb hby at_16) rfl (by decide) (cap := 1) (by decide) (by decide) (by decide) (by decide)
    obtain ⟨b86, g86⟩ : ∃ z, z = h0.size := ⟨_, rfl⟩
    rw [← g86] at A86 st86
    have g_b86 : n0 ≤ b86 := Nat.le_trans Z0 (Nat.le_of_eq g86.symm)
    have kw_b86 : h0.size ≤ b86 := Nat.le_trans ((Keep.refl h0 ([] : List Addr))).1 (Nat.le_of_eq g86.symm)
    have K86 := ((Keep.refl h0 ([] : List Addr))).ext E86
    have Z86 : n0 ≤ h86.size := Nat.le_trans Z0 E86.1
    have hk86 := Nat.le_trans hk0 E86.1
    have V_b86 : Arv Z h86 b86 k86 .char (1 : Int32) [(.int (0 : Int32))] (.int (0 : Int32)) := (Arv.new A86 (by decide)).pad (pad_rep [] (.int (0 : Int32)) 1)
    refine own_st st86 ?_
    show own_Gl _ _ _ _ _ _ _ _ (T86.setTop (mkF m 18 #[.val (.int p0), .val (.int p1), .val (.int p2), .val (.int p3), .val (.int p4), .val (.int (3 : Int32)), .val (.ref a_BOOLEAN), .unset, .unset, .unset, .unset, .unset, .unset, .unset, .unset] [(.ref b86)]))
    refine own_st (A' := T86.setTop (mkF m 29 #[.val (.int p0), .val (.int p1), .val (.int p2), .val (.int p3), .val (.int p4), .val (.int (3 : Int32)), .val (.ref a_BOOLEAN), .val (.ref b86), .unset, .unset, .unset, .unset, .unset, .unset, .unset] [(.int ((p1 &&& (255 : Int32)).toUInt32.toUInt16.toUInt32.toInt32)), (.int (0 : Int32)), (.ref b86)])) (fun tg kt => ?_) ?_
    · show Steps p.tables e below (T86.setTop (mkF m 18 #[.val (.int p0), .val (.int p1), .val (.int p2), .val (.int p3), .val (.int p4), .val (.int (3 : Int32)), .val (.ref a_BOOLEAN), .unset, .unset, .unset, .unset, .unset, .unset, .unset, .unset] [(.ref b86)])) _
      refine XS.astore X86.here hx rfl (hb hby at_18) rfl rfl (l' := #[.val (.int p0), .val (.int p1), .val (.int p2), .val (.int p3), .val (.int p4), .val (.int (3 : Int32)), .val (.ref a_BOOLEAN), .val (.ref b86), .unset, .unset, .unset, .unset, .unset, .unset, .unset]) rfl ?_
      show Steps p.tables e below (T86.setTop (mkF m 20 #[.val (.int p0), .val (.int p1), .val (.int p2), .val (.int p3), .val (.int p4), .val (.int (3 : Int32)), .val (.ref a_BOOLEAN), .val (.ref b86), .unset, .unset, .unset, .unset, .unset, .unset, .unset] [])) _
      refine XS.aload X86.here hx rfl (hb hby at_20) rfl rfl ?_
      show Steps p.tables e below (T86.setTop (mkF m 22 #[.val (.int p0), .val (.int p1), .val (.int p2), .val (.int p3), .val (.int p4), .val (.int (3 : Int32)), .val (.ref a_BOOLEAN), .val (.ref b86), .unset, .unset, .unset, .unset, .unset, .unset, .unset] [(.ref b86)])) _
      refine XS.iconst X86.here hx rfl (hb hby at_22) ?_
      show Steps p.tables e below (T86.setTop (mkF m 23 #[.val (.int p0), .val (.int p1), .val (.int p2), .val (.int p3), .val (.int p4), .val (.int (3 : Int32)), .val (.ref a_BOOLEAN), .val (.ref b86), .unset, .unset, .unset, .unset, .unset, .unset, .unset] [(.int (0 : Int32)), (.ref b86)])) _
      refine XS.iloadN X86.here hx rfl (hb hby at_23) rfl ?_
      show Steps p.tables e below (T86.setTop (mkF m 24 #[.val (.int p0), .val (.int p1), .val (.int p2), .val (.int p3), .val (.int p4), .val (.int (3 : Int32)), .val (.ref a_BOOLEAN), .val (.ref b86), .unset, .unset, .unset, .unset, .unset, .unset, .unset] [(.int p1), (.int (0 : Int32)), (.ref b86)])) _
      refine XS.sipush X86.here hx rfl (hb hby at_24) ?_
      show Steps p.tables e below (T86.setTop (mkF m 27 #[.val (.int p0), .val (.int p1), .val (.int p2), .val (.int p3), .val (.int p4), .val (.int (3 : Int32)), .val (.ref a_BOOLEAN), .val (.ref b86), .unset, .unset, .unset, .unset, .unset, .unset, .unset] [(.int (255 : Int32)), (.int p1), (.int (0 : Int32)), (.ref b86)])) _
      refine XS.iand X86.here hx rfl (hb hby at_27) rfl ?_
      show Steps p.tables e below (T86.setTop (mkF m 28 #[.val (.int p0), .val (.int p1), .val (.int p2), .val (.int p3), .val (.int p4), .val (.int (3 : Int32)), .val (.ref a_BOOLEAN), .val (.ref b86), .unset, .unset, .unset, .unset, .unset, .unset, .unset] [(.int (p1 &&& (255 : Int32))), (.int (0 : Int32)), (.ref b86)])) _
      refine XS.i2c X86.here hx rfl (hb hby at_28) rfl ?_
      exact kt
    have Vt87 := V_b86
    obtain ⟨cl87, Ar87, qk87, Sz87, Nn87, Hs87, Gs87⟩ := Vt87
    have hin87 := inb_of (j := (0 : Int32)) Sz87 ⟨by decide, by decide⟩
    obtain ⟨T88, h88, X88, e88, W88, st88⟩ := stC X86 hx hZ e86 Ar87 (j := (0 : Int32)) hin87 (g := (mkF m 29 #[.val (.int p0), .val (.int p1), .val (.int p2), .val (.int p3), .val (.int p4), .val (.int (3 : Int32)), .val (.ref a_BOOLEAN), .val (.ref b86), .unset, .unset, .unset, .unset, .unset, .unset, .unset] [(.int ((p1 &&& (255 : Int32)).toUInt32.toUInt16.toUInt32.toInt32)), (.int (0 : Int32)), (.ref b86)])) rfl rfl (hb hby at_29)
    have N88 := Fr.snoc X88 N85 g_b86
    have K88 := (K86).wr W88 (Or.inr kw_b86)
    have Z88 : n0 ≤ h88.size := Nat.le_trans Z86 (Keep.of_wr W88).1
    have hk88 := Nat.le_trans hk86 (Keep.of_wr W88).1
    have V88 : Arv Z h88 b86 k86 .char (1 : Int32) [(.int (nar .char ((p1 &&& (255 : Int32)).toUInt32.toUInt16.toUInt32.toInt32)))] (.int (0 : Int32)) := Arv.set Ar87 qk87 Sz87 Nn87 Hs87 Gs87 (fits_nar_char _) W88 0 rfl (Nat.le_of_ble_eq_true rfl)
    refine own_st st88 ?_
    show own_Gl _ _ _ _ _ _ _ _ (T88.setTop (mkF m 30 #[.val (.int p0), .val (.int p1), .val (.int p2), .val (.int p3), .val (.int p4), .val (.int (3 : Int32)), .val (.ref a_BOOLEAN), .val (.ref b86), .unset, .unset, .unset, .unset, .unset, .unset, .unset] []))
    obtain ⟨T89, h89, X89, e89, E89, A89, D89, -, st89⟩ := newO X88 hx hZ hown (hw _ (List.mem_of_getElem? (i := 9) rfl)) (hw _ (List.mem_of_getElem? (i := 10) rfl)) (hw _ (List.mem_of_getElem? (i := 11) rfl)) e88 (g := (mkF m 30 #[.val (.int p0), .val (.int p1), .val (.int p2), .val (.int p3), .val (.int p4), .val (.int (3 : Int32)), .val (.ref a_BOOLEAN), .val (.ref b86), .unset, .unset, .unset, .unset, .unset, .unset, .unset] [])) rfl (hb hby at_30) (by decide) (by decide)
    obtain ⟨b89, g89⟩ : ∃ z, z = h88.size := ⟨_, rfl⟩
    rw [← g89] at A89 D89 st89
    have g_b89 : n0 ≤ b89 := Nat.le_trans Z88 (Nat.le_of_eq g89.symm)
    have kw_b89 : h0.size ≤ b89 := Nat.le_trans (K88).1 (Nat.le_of_eq g89.symm)
    have ne_b86_b89 : b86 ≠ b89 := Nat.ne_of_lt (Nat.lt_of_lt_of_le V88.lt (Nat.le_of_eq g89.symm))
    have K89 := (K88).ext E89
    have Z89 : n0 ≤ h89.size := Nat.le_trans Z88 E89.1
    have hk89 := Nat.le_trans hk88 E89.1
    have F_coder_b89 : Fld Z h89 b89 "java/lang/String" "coder" "B" (.int (0 : Int32)) := D89 (Or.inr (hw _ (List.mem_of_getElem? (i := 35) rfl))) (ty := .byte) (by decide)
    have F_value_b89 : Fld Z h89 b89 "java/lang/String" "value" "[B" .null := D89 (Or.inr (hw _ (List.mem_of_getElem? (i := 37) rfl))) (ty := (.array .byte)) (by decide)
    refine own_st st89 ?_
    show own_Gl _ _ _ _ _ _ _ _ (T89.setTop (mkF m 33 #[.val (.int p0), .val (.int p1), .val (.int p2), .val (.int p3), .val (.int p4), .val (.int (3 : Int32)), .val (.ref a_BOOLEAN), .val (.ref b86), .unset, .unset, .unset, .unset, .unset, .unset, .unset] [(.ref b89)]))
    refine own_st (A' := T89.setTop (mkF m 36 #[.val (.int p0), .val (.int p1), .val (.int p2), .val (.int p3), .val (.int p4), .val (.int (3 : Int32)), .val (.ref a_BOOLEAN), .val (.ref b86), .unset, .unset, .unset, .unset, .unset, .unset, .unset] [(.ref b86), (.ref b89), (.ref b89)])) (fun tg kt => ?_) ?_
    · show Steps p.tables e below (T89.setTop (mkF m 33 #[.val (.int p0), .val (.int p1), .val (.int p2), .val (.int p3), .val (.int p4), .val (.int (3 : Int32)), .val (.ref a_BOOLEAN), .val (.ref b86), .unset, .unset, .unset, .unset, .unset, .unset, .unset] [(.ref b89)])) _
      refine XS.dup X89.here hx rfl (hb hby at_33) rfl rfl ?_
      show Steps p.tables e below (T89.setTop (mkF m 34 #[.val (.int p0), .val (.int p1), .val (.int p2), .val (.int p3), .val (.int p4), .val (.int (3 : Int32)), .val (.ref a_BOOLEAN), .val (.ref b86), .unset, .unset, .unset, .unset, .unset, .unset, .unset] [(.ref b89), (.ref b89)])) _
      refine XS.aload X89.here hx rfl (hb hby at_34) rfl rfl ?_
      exact kt
    have hlat : ∀ c ∈ [(nar .char ((p1 &&& (255 : Int32)).toUInt32.toUInt16.toUInt32.toInt32))], ¬ c < 0 ∧ ¬ (255 : Int32) < c := own_lat p1
    obtain ⟨_, _, ⟨T90, L90, k90, n90⟩, -, X90, ⟨Lc90, hQ90, l90, y90, z90⟩, st90⟩ := X89.specialBack hx (y := (⟨"java/lang/String", "<init>", "([C)V"⟩ : MethodName)) rfl hown (mvT hZ (hw _ (List.mem_of_getElem? (i := 12) rfl))) (mvT hZ (hw _ (List.mem_of_getElem? (i := 13) rfl))) (mvT hZ (hw _ (List.mem_of_getElem? (i := 14) rfl))) (by decide) (StrChars.Road.backV (W := 1) hZ (own_sw hw) (kI := 4) (hw _ (List.mem_of_getElem? (i := 10) rfl)) (cs := [(nar .char ((p1 &&& (255 : Int32)).toUInt32.toUInt16.toUInt32.toInt32))]) (bs := [((nar .char ((p1 &&& (255 : Int32)).toUInt32.toUInt16.toUInt32.toInt32))).toInt8.toInt32]) (n := 1) g_b89 Z89 A89 F_value_b89 F_coder_b89 (V88.ext E89) (S_cs.ext (own_kext K89)) hcs rfl rfl (by decide) (by decide) hlat rfl (by decide) (by decide)) (g := (mkF m 36 #[.val (.int p0), .val (.int p1), .val (.int p2), .val (.int p3), .val (.int p4), .val (.int (3 : Int32)), .val (.ref a_BOOLEAN), .val (.ref b86), .unset, .unset, .unset, .unset, .unset, .unset, .unset] [(.ref b86), (.ref b89), (.ref b89)])) rfl (by rw [hml]; rfl) (Steps.refl _) (a := b89) (argsL := [(.ref b86)]) (rest := [(.ref b89)]) (lenOf own_pd16 rfl) rfl (by show 2 * 0 + _ ≤ _; exact Nat.le_of_eq rfl) (hb hby at_36) (fun _ _ => ⟨rfl, e89, (by decide : 2 + 1 ≤ _), (by decide : 5 + 1 ≤ _)⟩)
    dsimp only [Pt.U, Pt.locs, Pt.cells, Pt.slots] at X90 l90 y90 z90 st90 hQ90
    subst l90 y90 z90
    obtain ⟨rfl, Nq90, Kq90, Eq90, Cq90, sv, skb, hn90, hs90, hne90, Vq90, Aq90⟩ := hQ90
    have N90 := Fr.app N88 Nq90
    have K90 := (K89).trans Kq90 (allS (Or.inr kw_b89) all0)
    have Z90 : n0 ≤ T90.heap.size := Nat.le_trans Z89 Kq90.1
    have hk90 := Nat.le_trans hk89 Kq90.1
    refine own_tr st90 ?_
    show own_Gl _ _ _ _ _ _ _ _ (T90.setTop (mkF m 39 #[.val (.int p0), .val (.int p1), .val (.int p2), .val (.int p3), .val (.int p4), .val (.int (3 : Int32)), .val (.ref a_BOOLEAN), .val (.ref b86), .unset, .unset, .unset, .unset, .unset, .unset, .unset] [(.ref b89)]))
    refine own_st (A' := T90.setTop (mkF m 44 #[.val (.int p0), .val (.int p1), .val (.int p2), .val (.int p3), .val (.int p4), .val (.int (3 : Int32)), .val (.ref a_BOOLEAN), .val (.ref b86), .val (.ref b89), .unset, .unset, .unset, .unset, .unset, .unset] [(.int (p2 &&& (1 : Int32)))])) (fun tg kt => ?_) ?_
    · show Steps p.tables e below (T90.setTop (mkF m 39 #[.val (.int p0), .val (.int p1), .val (.int p2), .val (.int p3), .val (.int p4), .val (.int (3 : Int32)), .val (.ref a_BOOLEAN), .val (.ref b86), .unset, .unset, .unset, .unset, .unset, .unset, .unset] [(.ref b89)])) _
      refine XS.astore X90.here hx rfl (hb hby at_39) rfl rfl (l' := #[.val (.int p0), .val (.int p1), .val (.int p2), .val (.int p3), .val (.int p4), .val (.int (3 : Int32)), .val (.ref a_BOOLEAN), .val (.ref b86), .val (.ref b89), .unset, .unset, .unset, .unset, .unset, .unset]) rfl ?_
      show Steps p.tables e below (T90.setTop (mkF m 41 #[.val (.int p0), .val (.int p1), .val (.int p2), .val (.int p3), .val (.int p4), .val (.int (3 : Int32)), .val (.ref a_BOOLEAN), .val (.ref b86), .val (.ref b89), .unset, .unset, .unset, .unset, .unset, .unset] [])) _
      refine XS.iloadN X90.here hx rfl (hb hby at_41) rfl ?_
      show Steps p.tables e below (T90.setTop (mkF m 42 #[.val (.int p0), .val (.int p1), .val (.int p2), .val (.int p3), .val (.int p4), .val (.int (3 : Int32)), .val (.ref a_BOOLEAN), .val (.ref b86), .val (.ref b89), .unset, .unset, .unset, .unset, .unset, .unset] [(.int p2)])) _
      refine XS.iconst X90.here hx rfl (hb hby at_42) ?_
      show Steps p.tables e below (T90.setTop (mkF m 43 #[.val (.int p0), .val (.int p1), .val (.int p2), .val (.int p3), .val (.int p4), .val (.int (3 : Int32)), .val (.ref a_BOOLEAN), .val (.ref b86), .val (.ref b89), .unset, .unset, .unset, .unset, .unset, .unset] [(.int (1 : Int32)), (.int p2)])) _
      refine XS.iand X90.here hx rfl (hb hby at_43) rfl ?_
      exact kt
    by_cases hc44_91 : (p2 &&& (1 : Int32)) = (0 : Int32)
    · refine own_st (A' := T90.setTop (mkF m 68 #[.val (.int p0), .val (.int p1), .val (.int p2), .val (.int p3), .val (.int p4), .val (.int (3 : Int32)), .val (.ref a_BOOLEAN), .val (.ref b86), .val (.ref b89), .val (.int (0 : Int32)), .unset, .unset, .unset, .unset, .unset] [(.int (p2 &&& (2 : Int32)))])) (fun tg kt => ?_) ?_
      · show Steps p.tables e below (T90.setTop (mkF m 44 #[.val (.int p0), .val (.int p1), .val (.int p2), .val (.int p3), .val (.int p4), .val (.int (3 : Int32)), .val (.ref a_BOOLEAN), .val (.ref b86), .val (.ref b89), .unset, .unset, .unset, .unset, .unset, .unset] [(.int (p2 &&& (1 : Int32)))])) _
        refine XS.ifYes X90.here hx rfl (pc0 := 44) (pc' := 57) rfl (hb hby at_44) rfl ((if0 _ _).trans (teq hc44_91).1) (by decide) (by decide) ?_
        show Steps p.tables e below (T90.setTop (mkF m 57 #[.val (.int p0), .val (.int p1), .val (.int p2), .val (.int p3), .val (.int p4), .val (.int (3 : Int32)), .val (.ref a_BOOLEAN), .val (.ref b86), .val (.ref b89), .unset, .unset, .unset, .unset, .unset, .unset] [])) _
        refine XS.iconst X90.here hx rfl (hb hby at_57) ?_
        show Steps p.tables e below (T90.setTop (mkF m 58 #[.val (.int p0), .val (.int p1), .val (.int p2), .val (.int p3), .val (.int p4), .val (.int (3 : Int32)), .val (.ref a_BOOLEAN), .val (.ref b86), .val (.ref b89), .unset, .unset, .unset, .unset, .unset, .unset] [(.int (0 : Int32))])) _
        refine XS.istore X90.here hx rfl (hb hby at_58) rfl (l' := #[.val (.int p0), .val (.int p1), .val (.int p2), .val (.int p3), .val (.int p4), .val (.int (3 : Int32)), .val (.ref a_BOOLEAN), .val (.ref b86), .val (.ref b89), .val (.int (0 : Int32)), .unset, .unset, .unset, .unset, .unset]) rfl ?_
        show Steps p.tables e below (T90.setTop (mkF m 60 #[.val (.int p0), .val (.int p1), .val (.int p2), .val (.int p3), .val (.int p4), .val (.int (3 : Int32)), .val (.ref a_BOOLEAN), .val (.ref b86), .val (.ref b89), .val (.int (0 : Int32)), .unset, .unset, .unset, .unset, .unset] [])) _
        refine XS.iload X90.here hx rfl (hb hby at_60) rfl ?_
        show Steps p.tables e below (T90.setTop (mkF m 62 #[.val (.int p0), .val (.int p1), .val (.int p2), .val (.int p3), .val (.int p4), .val (.int (3 : Int32)), .val (.ref a_BOOLEAN), .val (.ref b86), .val (.ref b89), .val (.int (0 : Int32)), .unset, .unset, .unset, .unset, .unset] [(.int (0 : Int32))])) _
        refine XS.ifNo X90.here hx rfl (hb hby at_62) rfl ((if0 _ _).trans (teq ((by decide) : (0 : Int32) = (0 : Int32))).2) ?_
        show Steps p.tables e below (T90.setTop (mkF m 65 #[.val (.int p0), .val (.int p1), .val (.int p2), .val (.int p3), .val (.int p4), .val (.int (3 : Int32)), .val (.ref a_BOOLEAN), .val (.ref b86), .val (.ref b89), .val (.int (0 : Int32)), .unset, .unset, .unset, .unset, .unset] [])) _
        refine XS.iloadN X90.here hx rfl (hb hby at_65) rfl ?_
        show Steps p.tables e below (T90.setTop (mkF m 66 #[.val (.int p0), .val (.int p1), .val (.int p2), .val (.int p3), .val (.int p4), .val (.int (3 : Int32)), .val (.ref a_BOOLEAN), .val (.ref b86), .val (.ref b89), .val (.int (0 : Int32)), .unset, .unset, .unset, .unset, .unset] [(.int p2)])) _
        refine XS.iconst X90.here hx rfl (hb hby at_66) ?_
        show Steps p.tables e below (T90.setTop (mkF m 67 #[.val (.int p0), .val (.int p1), .val (.int p2), .val (.int p3), .val (.int p4), .val (.int (3 : Int32)), .val (.ref a_BOOLEAN), .val (.ref b86), .val (.ref b89), .val (.int (0 : Int32)), .unset, .unset, .unset, .unset, .unset] [(.int (2 : Int32)), (.int p2)])) _
        refine XS.iand X90.here hx rfl (hb hby at_67) rfl ?_
        exact kt
      by_cases hc68_92 : (p2 &&& (2 : Int32)) = (0 : Int32)
      · refine own_st (A' := T90.setTop (mkF m 90 #[.val (.int p0), .val (.int p1), .val (.int p2), .val (.int p3), .val (.int p4), .val (.int (3 : Int32)), .val (.ref a_BOOLEAN), .val (.ref b86), .val (.ref b89), .val (.int (0 : Int32)), .unset, .val .null, .unset, .unset, .unset] [])) (fun tg kt => ?_) ?_
        · show Steps p.tables e below (T90.setTop (mkF m 68 #[.val (.int p0), .val (.int p1), .val (.int p2), .val (.int p3), .val (.int p4), .val (.int (3 : Int32)), .val (.ref a_BOOLEAN), .val (.ref b86), .val (.ref b89), .val (.int (0 : Int32)), .unset, .unset, .unset, .unset, .unset] [(.int (p2 &&& (2 : Int32)))])) _
          refine XS.ifYes X90.here hx rfl (pc0 := 68) (pc' := 87) rfl (hb hby at_68) rfl ((if0 _ _).trans (teq hc68_92).1) (by decide) (by decide) ?_
          show Steps p.tables e below (T90.setTop (mkF m 87 #[.val (.int p0), .val (.int p1), .val (.int p2), .val (.int p3), .val (.int p4), .val (.int (3 : Int32)), .val (.ref a_BOOLEAN), .val (.ref b86), .val (.ref b89), .val (.int (0 : Int32)), .unset, .unset, .unset, .unset, .unset] [])) _
          refine XS.aconstNull X90.here hx rfl (hb hby at_87) ?_
          show Steps p.tables e below (T90.setTop (mkF m 88 #[.val (.int p0), .val (.int p1), .val (.int p2), .val (.int p3), .val (.int p4), .val (.int (3 : Int32)), .val (.ref a_BOOLEAN), .val (.ref b86), .val (.ref b89), .val (.int (0 : Int32)), .unset, .unset, .unset, .unset, .unset] [.null])) _
          refine XS.astore X90.here hx rfl (hb hby at_88) rfl rfl (l' := #[.val (.int p0), .val (.int p1), .val (.int p2), .val (.int p3), .val (.int p4), .val (.int (3 : Int32)), .val (.ref a_BOOLEAN), .val (.ref b86), .val (.ref b89), .val (.int (0 : Int32)), .unset, .val .null, .unset, .unset, .unset]) rfl ?_
          exact kt
        obtain ⟨T93, h93, X93, e93, E93, A93, D93, -, st93⟩ := newO X90 hx hZ hown (hw _ (List.mem_of_getElem? (i := 38) rfl)) (hw _ (List.mem_of_getElem? (i := 39) rfl)) (hw _ (List.mem_of_getElem? (i := 40) rfl)) rfl (g := (mkF m 90 #[.val (.int p0), .val (.int p1), .val (.int p2), .val (.int p3), .val (.int p4), .val (.int (3 : Int32)), .val (.ref a_BOOLEAN), .val (.ref b86), .val (.ref b89), .val (.int (0 : Int32)), .unset, .val .null, .unset, .unset, .unset] [])) rfl (hb hby at_90) (by decide) (by decide)
        obtain ⟨b93, g93⟩ : ∃ z, z = T90.heap.size := ⟨_, rfl⟩
        rw [← g93] at A93 D93 st93
        have g_b93 : n0 ≤ b93 := Nat.le_trans Z90 (Nat.le_of_eq g93.symm)
        have kw_b93 : h0.size ≤ b93 := Nat.le_trans (K90).1 (Nat.le_of_eq g93.symm)
        have ne_b86_b93 : b86 ≠ b93 := Nat.ne_of_lt (Nat.lt_of_lt_of_le ((V88.ext E89).keep Kq90 (ninS ne_b86_b89 nin0)).lt (Nat.le_of_eq g93.symm))
        have ne_b89_b93 : b89 ≠ b93 := Nat.ne_of_lt (Nat.lt_of_lt_of_le Eq90.lt (Nat.le_of_eq g93.symm))
        have ne_sv_b93 : sv ≠ b93 := Nat.ne_of_lt (Nat.lt_of_lt_of_le Aq90.lt (Nat.le_of_eq g93.symm))
        have K93 := (K90).ext E93
        have Z93 : n0 ≤ h93.size := Nat.le_trans Z90 E93.1
        have hk93 := Nat.le_trans hk90 E93.1
        have F_name_b93 : Fld Z h93 b93 "com/example/inexact_search/inexactsearch/engine/Attribute" "name" "Ljava/lang/String;" .null := D93 (Or.inr (hw _ (List.mem_of_getElem? (i := 62) rfl))) (ty := (.object "java/lang/String")) (by decide)
        have F_type_b93 : Fld Z h93 b93 "com/example/inexact_search/inexactsearch/engine/Attribute" "type" "Lcom/example/inexact_search/inexactsearch/engine/AttributeType;" .null := D93 (Or.inr (hw _ (List.mem_of_getElem? (i := 64) rfl))) (ty := (.object "com/example/inexact_search/inexactsearch/engine/AttributeType")) (by decide)
        have F_declaredMin_b93 : Fld Z h93 b93 "com/example/inexact_search/inexactsearch/engine/Attribute" "declaredMin" "Ljava/lang/Double;" .null := D93 (Or.inr (hw _ (List.mem_of_getElem? (i := 66) rfl))) (ty := (.object "java/lang/Double")) (by decide)
        have F_declaredMax_b93 : Fld Z h93 b93 "com/example/inexact_search/inexactsearch/engine/Attribute" "declaredMax" "Ljava/lang/Double;" .null := D93 (Or.inr (hw _ (List.mem_of_getElem? (i := 68) rfl))) (ty := (.object "java/lang/Double")) (by decide)
        refine own_st st93 ?_
        show own_Gl _ _ _ _ _ _ _ _ (T93.setTop (mkF m 93 #[.val (.int p0), .val (.int p1), .val (.int p2), .val (.int p3), .val (.int p4), .val (.int (3 : Int32)), .val (.ref a_BOOLEAN), .val (.ref b86), .val (.ref b89), .val (.int (0 : Int32)), .unset, .val .null, .unset, .unset, .unset] [(.ref b93)]))
        refine own_st (A' := T93.setTop (mkF m 102 #[.val (.int p0), .val (.int p1), .val (.int p2), .val (.int p3), .val (.int p4), .val (.int (3 : Int32)), .val (.ref a_BOOLEAN), .val (.ref b86), .val (.ref b89), .val (.int (0 : Int32)), .unset, .val .null, .unset, .unset, .unset] [.null, .null, (.ref a_BOOLEAN), (.ref b89), (.ref b93), (.ref b93)])) (fun tg kt => ?_) ?_
        · show Steps p.tables e below (T93.setTop (mkF m 93 #[.val (.int p0), .val (.int p1), .val (.int p2), .val (.int p3), .val (.int p4), .val (.int (3 : Int32)), .val (.ref a_BOOLEAN), .val (.ref b86), .val (.ref b89), .val (.int (0 : Int32)), .unset, .val .null, .unset, .unset, .unset] [(.ref b93)])) _
          refine XS.dup X93.here hx rfl (hb hby at_93) rfl rfl ?_
          show Steps p.tables e below (T93.setTop (mkF m 94 #[.val (.int p0), .val (.int p1), .val (.int p2), .val (.int p3), .val (.int p4), .val (.int (3 : Int32)), .val (.ref a_BOOLEAN), .val (.ref b86), .val (.ref b89), .val (.int (0 : Int32)), .unset, .val .null, .unset, .unset, .unset] [(.ref b93), (.ref b93)])) _
          refine XS.aload X93.here hx rfl (hb hby at_94) rfl rfl ?_
          show Steps p.tables e below (T93.setTop (mkF m 96 #[.val (.int p0), .val (.int p1), .val (.int p2), .val (.int p3), .val (.int p4), .val (.int (3 : Int32)), .val (.ref a_BOOLEAN), .val (.ref b86), .val (.ref b89), .val (.int (0 : Int32)), .unset, .val .null, .unset, .unset, .unset] [(.ref b89), (.ref b93), (.ref b93)])) _
          refine XS.aload X93.here hx rfl (hb hby at_96) rfl rfl ?_
          show Steps p.tables e below (T93.setTop (mkF m 98 #[.val (.int p0), .val (.int p1), .val (.int p2), .val (.int p3), .val (.int p4), .val (.int (3 : Int32)), .val (.ref a_BOOLEAN), .val (.ref b86), .val (.ref b89), .val (.int (0 : Int32)), .unset, .val .null, .unset, .unset, .unset] [(.ref a_BOOLEAN), (.ref b89), (.ref b93), (.ref b93)])) _
          refine XS.aload X93.here hx rfl (hb hby at_98) rfl rfl ?_
          show Steps p.tables e below (T93.setTop (mkF m 100 #[.val (.int p0), .val (.int p1), .val (.int p2), .val (.int p3), .val (.int p4), .val (.int (3 : Int32)), .val (.ref a_BOOLEAN), .val (.ref b86), .val (.ref b89), .val (.int (0 : Int32)), .unset, .val .null, .unset, .unset, .unset] [.null, (.ref a_BOOLEAN), (.ref b89), (.ref b93), (.ref b93)])) _
          refine XS.aload X93.here hx rfl (hb hby at_100) rfl rfl ?_
          exact kt
        obtain ⟨_, _, ⟨T94, L94, k94, n94⟩, -, X94, hSq94, hgq94, ⟨Lc94, hQ94, l94, y94, z94⟩, st94⟩ := X93.specialBackS hx (y := (⟨"com/example/inexact_search/inexactsearch/engine/Attribute", "<init>", "(Ljava/lang/String;Lcom/example/inexact_search/inexactsearch/engine/AttributeType;Ljava/lang/Double;Ljava/lang/Double;)V"⟩ : MethodName)) rfl hown (mvT hZ (hw _ (List.mem_of_getElem? (i := 78) rfl))) (mvT hZ (hw _ (List.mem_of_getElem? (i := 45) rfl))) (mvT hZ (hw _ (List.mem_of_getElem? (i := 46) rfl))) (by decide) (backOfS (W := 1) (rm9n l Z a0 hw [] b93 b89 a_BOOLEAN sv skb ([((nar .char ((p1 &&& (255 : Int32)).toUInt32.toUInt16.toUInt32.toInt32))).toInt8.toInt32].map Value.int) h93 n0 Z93 F_name_b93 F_type_b93 F_declaredMin_b93 F_declaredMax_b93 A93 g_b93 (Eq90.ext E93) (Vq90.ext E93) (Aq90.ext E93) ne_b89_b93 ne_sv_b93) hZ (hw _ (List.mem_of_getElem? (i := 46) rfl)) (hw _ (List.mem_of_getElem? (i := 40) rfl)) (by decide) (by decide)) (g := (mkF m 102 #[.val (.int p0), .val (.int p1), .val (.int p2), .val (.int p3), .val (.int p4), .val (.int (3 : Int32)), .val (.ref a_BOOLEAN), .val (.ref b86), .val (.ref b89), .val (.int (0 : Int32)), .unset, .val .null, .unset, .unset, .unset] [.null, .null, (.ref a_BOOLEAN), (.ref b89), (.ref b93), (.ref b93)])) rfl (by rw [hml]; rfl) (Steps.refl _) (a := b93) (argsL := [(.ref b89), (.ref a_BOOLEAN), .null, .null]) (rest := [(.ref b93)]) (lenOf own_pd14 rfl) rfl (by show 2 * 0 + _ ≤ _; exact Nat.le_of_eq rfl) (hb hby at_102) (fun _ _ => ⟨rfl, e93, (by decide : 4 + 4 ≤ _), (by decide : 10 + 40 ≤ _)⟩)
        dsimp only [Pt.U, Pt.locs, Pt.cells, Pt.slots] at X94 l94 y94 z94 st94 hQ94 hSq94 hgq94
        subst l94 y94 z94
        replace X94 : Stand p l e _ (s.setVm T94.vm) m _ below meth c T94 _ _ _ := X94
        have hS94 : s.Since T94.vm T94.heap.size := hS0.trans hSq94 (Nat.le_trans hk93 (by rw [← e93]; exact hgq94))
        have hZ94 : Z.Warmed39 (s.setVm T94.vm).vm := State.Warmed39.trans (t := (s.setVm s.vm)) hZ hSq94.1
        have hown94 : (s.setVm T94.vm).vm.findClass "com/example/inexact_search/inexactsearch/engine/AttributeHasDeclaredRangePinLaw" = some m.cls := by rw [show (s.setVm T94.vm).vm = T94.vm from rfl, hSq94.1.alike.findClass]; exact hown
        have hk94 : T94.heap.size ≤ T94.heap.size := Nat.le_refl _
        obtain ⟨rfl, Nq94, Kq94, Eq94, Fq94⟩ := hQ94
        have N94 := Fr.app N90 Nq94
        have Fa95 := ((((V88.ext E89).keep Kq90 (ninS ne_b86_b89 nin0)).ext E93).keep Kq94 (ninS ne_b86_b93 nin0))
        have K94 := (K93).trans Kq94 (allS (Or.inr kw_b93) all0)
        have Z94 : n0 ≤ T94.heap.size := Nat.le_trans Z93 Kq94.1
        refine own_tr st94 ?_
        show own_Gl _ _ _ _ _ _ _ _ (T94.setTop (mkF m 105 #[.val (.int p0), .val (.int p1), .val (.int p2), .val (.int p3), .val (.int p4), .val (.int (3 : Int32)), .val (.ref a_BOOLEAN), .val (.ref b86), .val (.ref b89), .val (.int (0 : Int32)), .unset, .val .null, .unset, .unset, .unset] [(.ref b93)]))
        refine own_st (A' := T94.setTop (mkF m 109 #[.val (.int p0), .val (.int p1), .val (.int p2), .val (.int p3), .val (.int p4), .val (.int (3 : Int32)), .val (.ref a_BOOLEAN), .val (.ref b86), .val (.ref b89), .val (.int (0 : Int32)), .val (.ref b93), .val .null, .unset, .unset, .unset] [(.ref b93)])) (fun tg kt => ?_) ?_
        · show Steps p.tables e below (T94.setTop (mkF m 105 #[.val (.int p0), .val (.int p1), .val (.int p2), .val (.int p3), .val (.int p4), .val (.int (3 : Int32)), .val (.ref a_BOOLEAN), .val (.ref b86), .val (.ref b89), .val (.int (0 : Int32)), .unset, .val .null, .unset, .unset, .unset] [(.ref b93)])) _
          refine XS.astore X94.here hx rfl (hb hby at_105) rfl rfl (l' := #[.val (.int p0), .val (.int p1), .val (.int p2), .val (.int p3), .val (.int p4), .val (.int (3 : Int32)), .val (.ref a_BOOLEAN), .val (.ref b86), .val (.ref b89), .val (.int (0 : Int32)), .val (.ref b93), .val .null, .unset, .unset, .unset]) rfl ?_
          show Steps p.tables e below (T94.setTop (mkF m 107 #[.val (.int p0), .val (.int p1), .val (.int p2), .val (.int p3), .val (.int p4), .val (.int (3 : Int32)), .val (.ref a_BOOLEAN), .val (.ref b86), .val (.ref b89), .val (.int (0 : Int32)), .val (.ref b93), .val .null, .unset, .unset, .unset] [])) _
          refine XS.aload X94.here hx rfl (hb hby at_107) rfl rfl ?_
          exact kt
        obtain ⟨cq96, kq96, q96a, q96b, q96c⟩ := isOf hZ94 rfl Eq94
        obtain ⟨_, _, ⟨T96, L96, k96, n96⟩, -, X96, ⟨Lc96, hQ96, l96, y96, z96⟩, st96⟩ := X94.virtualBack hx (y := (⟨"com/example/inexact_search/inexactsearch/engine/Attribute", "hasDeclaredRange", "()Z"⟩ : MethodName)) (z := (⟨"com/example/inexact_search/inexactsearch/engine/Attribute", "hasDeclaredRange", "()Z"⟩ : MethodName)) hown94 (mvT hZ94 (hw _ (List.mem_of_getElem? (i := 69) rfl))) (mvT hZ94 (hw _ (List.mem_of_getElem? (i := 70) rfl))) (notFace_of_selects (args := #[]) (mvT hZ94 (hw _ (List.mem_of_getElem? (i := 72) rfl)))) (mvT hZ94 (hw _ (List.mem_of_getElem? (i := 72) rfl))) (mvT hZ94 (hw _ (List.mem_of_getElem? (i := 71) rfl))) (by decide) (backOf (W := 0) (rm12n l Z a0 hw [] b93 T94.heap n0 Z94 Fq94) hZ94 (hw _ (List.mem_of_getElem? (i := 73) rfl)) (hw _ (List.mem_of_getElem? (i := 40) rfl)) (by decide) (by decide)) q96a q96c (g := (mkF m 109 #[.val (.int p0), .val (.int p1), .val (.int p2), .val (.int p3), .val (.int p4), .val (.int (3 : Int32)), .val (.ref a_BOOLEAN), .val (.ref b86), .val (.ref b89), .val (.int (0 : Int32)), .val (.ref b93), .val .null, .unset, .unset, .unset] [(.ref b93)])) rfl (by rw [hml]; rfl) (Steps.refl _) (argsL := []) (rest := []) (lenOf own_pd10 rfl) rfl (by show 2 * 0 + _ ≤ _; exact Nat.le_of_eq rfl) (hb hby at_109) (fun _ _ => ⟨rfl, rfl, (by decide : 8 + 0 ≤ _), (by decide : 50 + 0 ≤ _)⟩)
        dsimp only [Pt.U, Pt.locs, Pt.cells, Pt.slots] at X96 l96 y96 z96 st96 hQ96
        subst l96 y96 z96
        obtain ⟨rfl, Nq96, eq96⟩ := hQ96
        have N96 := Fr.app N94 Nq96
        refine own_tr st96 ?_
        show own_Gl _ _ _ _ _ _ _ _ (T96.setTop (mkF m 112 #[.val (.int p0), .val (.int p1), .val (.int p2), .val (.int p3), .val (.int p4), .val (.int (3 : Int32)), .val (.ref a_BOOLEAN), .val (.ref b86), .val (.ref b89), .val (.int (0 : Int32)), .val (.ref b93), .val .null, .unset, .unset, .unset] [(.int (0 : Int32))]))
        refine own_st (A' := T96.setTop (mkF m 120 #[.val (.int p0), .val (.int p1), .val (.int p2), .val (.int p3), .val (.int p4), .val (.int (3 : Int32)), .val (.ref a_BOOLEAN), .val (.ref b86), .val (.ref b89), .val (.int (0 : Int32)), .val (.ref b93), .val .null, .unset, .unset, .unset] [(.int (1 : Int32))])) (fun tg kt => ?_) ?_
        · show Steps p.tables e below (T96.setTop (mkF m 112 #[.val (.int p0), .val (.int p1), .val (.int p2), .val (.int p3), .val (.int p4), .val (.int (3 : Int32)), .val (.ref a_BOOLEAN), .val (.ref b86), .val (.ref b89), .val (.int (0 : Int32)), .val (.ref b93), .val .null, .unset, .unset, .unset] [(.int (0 : Int32))])) _
          refine XS.ifNo X96.here hx rfl (hb hby at_112) rfl ((if0 _ _).trans (teq ((by decide) : (0 : Int32) = (0 : Int32))).2) ?_
          show Steps p.tables e below (T96.setTop (mkF m 115 #[.val (.int p0), .val (.int p1), .val (.int p2), .val (.int p3), .val (.int p4), .val (.int (3 : Int32)), .val (.ref a_BOOLEAN), .val (.ref b86), .val (.ref b89), .val (.int (0 : Int32)), .val (.ref b93), .val .null, .unset, .unset, .unset] [])) _
          refine XS.iconst X96.here hx rfl (hb hby at_115) ?_
          show Steps p.tables e below (T96.setTop (mkF m 116 #[.val (.int p0), .val (.int p1), .val (.int p2), .val (.int p3), .val (.int p4), .val (.int (3 : Int32)), .val (.ref a_BOOLEAN), .val (.ref b86), .val (.ref b89), .val (.int (0 : Int32)), .val (.ref b93), .val .null, .unset, .unset, .unset] [(.int (1 : Int32))])) _
          refine XS.goto X96.here hx rfl (pc0 := 116) (pc' := 120) rfl (hb hby at_116) (by decide) (by decide) ?_
          exact kt
        refine own_retW X96 hS94 (by rw [eq96]; exact hk94) (v := some (.int (1 : Int32))) (fun h => by rw [Bd.returns] at h; cases h) hlk (by decide) (by decide) ?_ (fun fs hr => ?_)
        · show Q0 Z p0 p1 p2 p3 p4 a_INTEGER a_DECIMAL a_STRING a_BOOLEAN a_STRINGS cs h0 n0 (some (.int (1 : Int32))) T96.heap _
          rw [eq96]
          exact ⟨rfl, N96⟩
        · show Steps p.tables e below (T96.setTop (mkF m 120 #[.val (.int p0), .val (.int p1), .val (.int p2), .val (.int p3), .val (.int p4), .val (.int (3 : Int32)), .val (.ref a_BOOLEAN), .val (.ref b86), .val (.ref b89), .val (.int (0 : Int32)), .val (.ref b93), .val .null, .unset, .unset, .unset] [(.int (1 : Int32))])) _
          exact retN X96 hx (t := .boolean) Bd.returns (by simp) (hb hby at_120) hr
      · refine own_st (A' := T90.setTop (mkF m 71 #[.val (.int p0), .val (.int p1), .val (.int p2), .val (.int p3), .val (.int p4), .val (.int (3 : Int32)), .val (.ref a_BOOLEAN), .val (.ref b86), .val (.ref b89), .val (.int (0 : Int32)), .unset, .unset, .unset, .unset, .unset] [])) (fun tg kt => ?_) ?_
        · show Steps p.tables e below (T90.setTop (mkF m 68 #[.val (.int p0), .val (.int p1), .val (.int p2), .val (.int p3), .val (.int p4), .val (.int (3 : Int32)), .val (.ref a_BOOLEAN), .val (.ref b86), .val (.ref b89), .val (.int (0 : Int32)), .unset, .unset, .unset, .unset, .unset] [(.int (p2 &&& (2 : Int32)))])) _
          refine XS.ifNo X90.here hx rfl (hb hby at_68) rfl ((if0 _ _).trans (feq hc68_92).1) ?_
          exact kt
        obtain ⟨T97, h97, X97, e97, E97, A97, D97, -, st97⟩ := newO X90 hx hZ hown (hw _ (List.mem_of_getElem? (i := 38) rfl)) (hw _ (List.mem_of_getElem? (i := 39) rfl)) (hw _ (List.mem_of_getElem? (i := 40) rfl)) rfl (g := (mkF m 71 #[.val (.int p0), .val (.int p1), .val (.int p2), .val (.int p3), .val (.int p4), .val (.int (3 : Int32)), .val (.ref a_BOOLEAN), .val (.ref b86), .val (.ref b89), .val (.int (0 : Int32)), .unset, .unset, .unset, .unset, .unset] [])) rfl (hb hby at_71) (by decide) (by decide)
        obtain ⟨b97, g97⟩ : ∃ z, z = T90.heap.size := ⟨_, rfl⟩
        rw [← g97] at A97 D97 st97
        have g_b97 : n0 ≤ b97 := Nat.le_trans Z90 (Nat.le_of_eq g97.symm)
        have kw_b97 : h0.size ≤ b97 := Nat.le_trans (K90).1 (Nat.le_of_eq g97.symm)
        have ne_b86_b97 : b86 ≠ b97 := Nat.ne_of_lt (Nat.lt_of_lt_of_le ((V88.ext E89).keep Kq90 (ninS ne_b86_b89 nin0)).lt (Nat.le_of_eq g97.symm))
        have ne_b89_b97 : b89 ≠ b97 := Nat.ne_of_lt (Nat.lt_of_lt_of_le Eq90.lt (Nat.le_of_eq g97.symm))
        have ne_sv_b97 : sv ≠ b97 := Nat.ne_of_lt (Nat.lt_of_lt_of_le Aq90.lt (Nat.le_of_eq g97.symm))
        have K97 := (K90).ext E97
        have Z97 : n0 ≤ h97.size := Nat.le_trans Z90 E97.1
        have hk97 := Nat.le_trans hk90 E97.1
        have F_name_b97 : Fld Z h97 b97 "com/example/inexact_search/inexactsearch/engine/Attribute" "name" "Ljava/lang/String;" .null := D97 (Or.inr (hw _ (List.mem_of_getElem? (i := 62) rfl))) (ty := (.object "java/lang/String")) (by decide)
        have F_type_b97 : Fld Z h97 b97 "com/example/inexact_search/inexactsearch/engine/Attribute" "type" "Lcom/example/inexact_search/inexactsearch/engine/AttributeType;" .null := D97 (Or.inr (hw _ (List.mem_of_getElem? (i := 64) rfl))) (ty := (.object "com/example/inexact_search/inexactsearch/engine/AttributeType")) (by decide)
        have F_declaredMin_b97 : Fld Z h97 b97 "com/example/inexact_search/inexactsearch/engine/Attribute" "declaredMin" "Ljava/lang/Double;" .null := D97 (Or.inr (hw _ (List.mem_of_getElem? (i := 66) rfl))) (ty := (.object "java/lang/Double")) (by decide)
        have F_declaredMax_b97 : Fld Z h97 b97 "com/example/inexact_search/inexactsearch/engine/Attribute" "declaredMax" "Ljava/lang/Double;" .null := D97 (Or.inr (hw _ (List.mem_of_getElem? (i := 68) rfl))) (ty := (.object "java/lang/Double")) (by decide)
        refine own_st st97 ?_
        show own_Gl _ _ _ _ _ _ _ _ (T97.setTop (mkF m 74 #[.val (.int p0), .val (.int p1), .val (.int p2), .val (.int p3), .val (.int p4), .val (.int (3 : Int32)), .val (.ref a_BOOLEAN), .val (.ref b86), .val (.ref b89), .val (.int (0 : Int32)), .unset, .unset, .unset, .unset, .unset] [(.ref b97)]))
        refine own_st (A' := T97.setTop (mkF m 79 #[.val (.int p0), .val (.int p1), .val (.int p2), .val (.int p3), .val (.int p4), .val (.int (3 : Int32)), .val (.ref a_BOOLEAN), .val (.ref b86), .val (.ref b89), .val (.int (0 : Int32)), .unset, .unset, .unset, .unset, .unset] [(.ref a_BOOLEAN), (.ref b89), (.ref b97), (.ref b97)])) (fun tg kt => ?_) ?_
        · show Steps p.tables e below (T97.setTop (mkF m 74 #[.val (.int p0), .val (.int p1), .val (.int p2), .val (.int p3), .val (.int p4), .val (.int (3 : Int32)), .val (.ref a_BOOLEAN), .val (.ref b86), .val (.ref b89), .val (.int (0 : Int32)), .unset, .unset, .unset, .unset, .unset] [(.ref b97)])) _
          refine XS.dup X97.here hx rfl (hb hby at_74) rfl rfl ?_
          show Steps p.tables e below (T97.setTop (mkF m 75 #[.val (.int p0), .val (.int p1), .val (.int p2), .val (.int p3), .val (.int p4), .val (.int (3 : Int32)), .val (.ref a_BOOLEAN), .val (.ref b86), .val (.ref b89), .val (.int (0 : Int32)), .unset, .unset, .unset, .unset, .unset] [(.ref b97), (.ref b97)])) _
          refine XS.aload X97.here hx rfl (hb hby at_75) rfl rfl ?_
          show Steps p.tables e below (T97.setTop (mkF m 77 #[.val (.int p0), .val (.int p1), .val (.int p2), .val (.int p3), .val (.int p4), .val (.int (3 : Int32)), .val (.ref a_BOOLEAN), .val (.ref b86), .val (.ref b89), .val (.int (0 : Int32)), .unset, .unset, .unset, .unset, .unset] [(.ref b89), (.ref b97), (.ref b97)])) _
          refine XS.aload X97.here hx rfl (hb hby at_77) rfl rfl ?_
          exact kt
        obtain ⟨_, _, ⟨T98, L98, k98, n98⟩, -, X98, hSq98, hgq98, ⟨Lc98, hQ98, l98, y98, z98⟩, st98⟩ := X97.specialBackS hx (y := (⟨"com/example/inexact_search/inexactsearch/engine/Attribute", "<init>", "(Ljava/lang/String;Lcom/example/inexact_search/inexactsearch/engine/AttributeType;)V"⟩ : MethodName)) rfl hown (mvT hZ (hw _ (List.mem_of_getElem? (i := 41) rfl))) (mvT hZ (hw _ (List.mem_of_getElem? (i := 42) rfl))) (mvT hZ (hw _ (List.mem_of_getElem? (i := 43) rfl))) (by decide) (backOfS (W := 1) (rm8 l Z a0 hw [] b97 b89 a_BOOLEAN sv skb ([((nar .char ((p1 &&& (255 : Int32)).toUInt32.toUInt16.toUInt32.toInt32))).toInt8.toInt32].map Value.int) h97 n0 Z97 F_name_b97 F_type_b97 F_declaredMin_b97 F_declaredMax_b97 A97 g_b97 (Eq90.ext E97) (Vq90.ext E97) (Aq90.ext E97) ne_b89_b97 ne_sv_b97) hZ (hw _ (List.mem_of_getElem? (i := 43) rfl)) (hw _ (List.mem_of_getElem? (i := 40) rfl)) (by decide) (by decide)) (g := (mkF m 79 #[.val (.int p0), .val (.int p1), .val (.int p2), .val (.int p3), .val (.int p4), .val (.int (3 : Int32)), .val (.ref a_BOOLEAN), .val (.ref b86), .val (.ref b89), .val (.int (0 : Int32)), .unset, .unset, .unset, .unset, .unset] [(.ref a_BOOLEAN), (.ref b89), (.ref b97), (.ref b97)])) rfl (by rw [hml]; rfl) (Steps.refl _) (a := b97) (argsL := [(.ref b89), (.ref a_BOOLEAN)]) (rest := [(.ref b97)]) (lenOf own_pd17 rfl) rfl (by show 2 * 0 + _ ≤ _; exact Nat.le_of_eq rfl) (hb hby at_79) (fun _ _ => ⟨rfl, e97, (by decide : 4 + 4 ≤ _), (by decide : 10 + 40 ≤ _)⟩)
        dsimp only [Pt.U, Pt.locs, Pt.cells, Pt.slots] at X98 l98 y98 z98 st98 hQ98 hSq98 hgq98
        subst l98 y98 z98
        replace X98 : Stand p l e _ (s.setVm T98.vm) m _ below meth c T98 _ _ _ := X98
        have hS98 : s.Since T98.vm T98.heap.size := hS0.trans hSq98 (Nat.le_trans hk97 (by rw [← e97]; exact hgq98))
        have hZ98 : Z.Warmed39 (s.setVm T98.vm).vm := State.Warmed39.trans (t := (s.setVm s.vm)) hZ hSq98.1
        have hown98 : (s.setVm T98.vm).vm.findClass "com/example/inexact_search/inexactsearch/engine/AttributeHasDeclaredRangePinLaw" = some m.cls := by rw [show (s.setVm T98.vm).vm = T98.vm from rfl, hSq98.1.alike.findClass]; exact hown
        have hk98 : T98.heap.size ≤ T98.heap.size := Nat.le_refl _
        obtain ⟨rfl, Nq98, Kq98, Eq98, Fq98⟩ := hQ98
        have N98 := Fr.app N90 Nq98
        have Fa99 := ((((V88.ext E89).keep Kq90 (ninS ne_b86_b89 nin0)).ext E97).keep Kq98 (ninS ne_b86_b97 nin0))
        have K98 := (K97).trans Kq98 (allS (Or.inr kw_b97) all0)
        have Z98 : n0 ≤ T98.heap.size := Nat.le_trans Z97 Kq98.1
        refine own_tr st98 ?_
        show own_Gl _ _ _ _ _ _ _ _ (T98.setTop (mkF m 82 #[.val (.int p0), .val (.int p1), .val (.int p2), .val (.int p3), .val (.int p4), .val (.int (3 : Int32)), .val (.ref a_BOOLEAN), .val (.ref b86), .val (.ref b89), .val (.int (0 : Int32)), .unset, .unset, .unset, .unset, .unset] [(.ref b97)]))
        refine own_st (A' := T98.setTop (mkF m 109 #[.val (.int p0), .val (.int p1), .val (.int p2), .val (.int p3), .val (.int p4), .val (.int (3 : Int32)), .val (.ref a_BOOLEAN), .val (.ref b86), .val (.ref b89), .val (.int (0 : Int32)), .val (.ref b97), .unset, .unset, .unset, .unset] [(.ref b97)])) (fun tg kt => ?_) ?_
        · show Steps p.tables e below (T98.setTop (mkF m 82 #[.val (.int p0), .val (.int p1), .val (.int p2), .val (.int p3), .val (.int p4), .val (.int (3 : Int32)), .val (.ref a_BOOLEAN), .val (.ref b86), .val (.ref b89), .val (.int (0 : Int32)), .unset, .unset, .unset, .unset, .unset] [(.ref b97)])) _
          refine XS.astore X98.here hx rfl (hb hby at_82) rfl rfl (l' := #[.val (.int p0), .val (.int p1), .val (.int p2), .val (.int p3), .val (.int p4), .val (.int (3 : Int32)), .val (.ref a_BOOLEAN), .val (.ref b86), .val (.ref b89), .val (.int (0 : Int32)), .val (.ref b97), .unset, .unset, .unset, .unset]) rfl ?_
          show Steps p.tables e below (T98.setTop (mkF m 84 #[.val (.int p0), .val (.int p1), .val (.int p2), .val (.int p3), .val (.int p4), .val (.int (3 : Int32)), .val (.ref a_BOOLEAN), .val (.ref b86), .val (.ref b89), .val (.int (0 : Int32)), .val (.ref b97), .unset, .unset, .unset, .unset] [])) _
          refine XS.goto X98.here hx rfl (pc0 := 84) (pc' := 107) rfl (hb hby at_84) (by decide) (by decide) ?_
          show Steps p.tables e below (T98.setTop (mkF m 107 #[.val (.int p0), .val (.int p1), .val (.int p2), .val (.int p3), .val (.int p4), .val (.int (3 : Int32)), .val (.ref a_BOOLEAN), .val (.ref b86), .val (.ref b89), .val (.int (0 : Int32)), .val (.ref b97), .unset, .unset, .unset, .unset] [])) _
          refine XS.aload X98.here hx rfl (hb hby at_107) rfl rfl ?_
          exact kt
        obtain ⟨cq100, kq100, q100a, q100b, q100c⟩ := isOf hZ98 rfl Eq98
        obtain ⟨_, _, ⟨T100, L100, k100, n100⟩, -, X100, ⟨Lc100, hQ100, l100, y100, z100⟩, st100⟩ := X98.virtualBack hx (y := (⟨"com/example/inexact_search/inexactsearch/engine/Attribute", "hasDeclaredRange", "()Z"⟩ : MethodName)) (z := (⟨"com/example/inexact_search/inexactsearch/engine/Attribute", "hasDeclaredRange", "()Z"⟩ : MethodName)) hown98 (mvT hZ98 (hw _ (List.mem_of_getElem? (i := 69) rfl))) (mvT hZ98 (hw _ (List.mem_of_getElem? (i := 70) rfl))) (notFace_of_selects (args := #[]) (mvT hZ98 (hw _ (List.mem_of_getElem? (i := 72) rfl)))) (mvT hZ98 (hw _ (List.mem_of_getElem? (i := 72) rfl))) (mvT hZ98 (hw _ (List.mem_of_getElem? (i := 71) rfl))) (by decide) (backOf (W := 0) (rm12n l Z a0 hw [] b97 T98.heap n0 Z98 Fq98) hZ98 (hw _ (List.mem_of_getElem? (i := 73) rfl)) (hw _ (List.mem_of_getElem? (i := 40) rfl)) (by decide) (by decide)) q100a q100c (g := (mkF m 109 #[.val (.int p0), .val (.int p1), .val (.int p2), .val (.int p3), .val (.int p4), .val (.int (3 : Int32)), .val (.ref a_BOOLEAN), .val (.ref b86), .val (.ref b89), .val (.int (0 : Int32)), .val (.ref b97), .unset, .unset, .unset, .unset] [(.ref b97)])) rfl (by rw [hml]; rfl) (Steps.refl _) (argsL := []) (rest := []) (lenOf own_pd10 rfl) rfl (by show 2 * 0 + _ ≤ _; exact Nat.le_of_eq rfl) (hb hby at_109) (fun _ _ => ⟨rfl, rfl, (by decide : 8 + 0 ≤ _), (by decide : 50 + 0 ≤ _)⟩)
        dsimp only [Pt.U, Pt.locs, Pt.cells, Pt.slots] at X100 l100 y100 z100 st100 hQ100
        subst l100 y100 z100
        obtain ⟨rfl, Nq100, eq100⟩ := hQ100
        have N100 := Fr.app N98 Nq100
        refine own_tr st100 ?_
        show own_Gl _ _ _ _ _ _ _ _ (T100.setTop (mkF m 112 #[.val (.int p0), .val (.int p1), .val (.int p2), .val (.int p3), .val (.int p4), .val (.int (3 : Int32)), .val (.ref a_BOOLEAN), .val (.ref b86), .val (.ref b89), .val (.int (0 : Int32)), .val (.ref b97), .unset, .unset, .unset, .unset] [(.int (0 : Int32))]))
        refine own_st (A' := T100.setTop (mkF m 120 #[.val (.int p0), .val (.int p1), .val (.int p2), .val (.int p3), .val (.int p4), .val (.int (3 : Int32)), .val (.ref a_BOOLEAN), .val (.ref b86), .val (.ref b89), .val (.int (0 : Int32)), .val (.ref b97), .unset, .unset, .unset, .unset] [(.int (1 : Int32))])) (fun tg kt => ?_) ?_
        · show Steps p.tables e below (T100.setTop (mkF m 112 #[.val (.int p0), .val (.int p1), .val (.int p2), .val (.int p3), .val (.int p4), .val (.int (3 : Int32)), .val (.ref a_BOOLEAN), .val (.ref b86), .val (.ref b89), .val (.int (0 : Int32)), .val (.ref b97), .unset, .unset, .unset, .unset] [(.int (0 : Int32))])) _
          refine XS.ifNo X100.here hx rfl (hb hby at_112) rfl ((if0 _ _).trans (teq ((by decide) : (0 : Int32) = (0 : Int32))).2) ?_
          show Steps p.tables e below (T100.setTop (mkF m 115 #[.val (.int p0), .val (.int p1), .val (.int p2), .val (.int p3), .val (.int p4), .val (.int (3 : Int32)), .val (.ref a_BOOLEAN), .val (.ref b86), .val (.ref b89), .val (.int (0 : Int32)), .val (.ref b97), .unset, .unset, .unset, .unset] [])) _
          refine XS.iconst X100.here hx rfl (hb hby at_115) ?_
          show Steps p.tables e below (T100.setTop (mkF m 116 #[.val (.int p0), .val (.int p1), .val (.int p2), .val (.int p3), .val (.int p4), .val (.int (3 : Int32)), .val (.ref a_BOOLEAN), .val (.ref b86), .val (.ref b89), .val (.int (0 : Int32)), .val (.ref b97), .unset, .unset, .unset, .unset] [(.int (1 : Int32))])) _
          refine XS.goto X100.here hx rfl (pc0 := 116) (pc' := 120) rfl (hb hby at_116) (by decide) (by decide) ?_
          exact kt
        refine own_retW X100 hS98 (by rw [eq100]; exact hk98) (v := some (.int (1 : Int32))) (fun h => by rw [Bd.returns] at h; cases h) hlk (by decide) (by decide) ?_ (fun fs hr => ?_)
        · show Q0 Z p0 p1 p2 p3 p4 a_INTEGER a_DECIMAL a_STRING a_BOOLEAN a_STRINGS cs h0 n0 (some (.int (1 : Int32))) T100.heap _
          rw [eq100]
          exact ⟨rfl, N100⟩
        · show Steps p.tables e below (T100.setTop (mkF m 120 #[.val (.int p0), .val (.int p1), .val (.int p2), .val (.int p3), .val (.int p4), .val (.int (3 : Int32)), .val (.ref a_BOOLEAN), .val (.ref b86), .val (.ref b89), .val (.int (0 : Int32)), .val (.ref b97), .unset, .unset, .unset, .unset] [(.int (1 : Int32))])) _
          exact retN X100 hx (t := .boolean) Bd.returns (by simp) (hb hby at_120) hr
    · refine own_st (A' := T90.setTop (mkF m 68 #[.val (.int p0), .val (.int p1), .val (.int p2), .val (.int p3), .val (.int p4), .val (.int (3 : Int32)), .val (.ref a_BOOLEAN), .val (.ref b86), .val (.ref b89), .val (.int (0 : Int32)), .unset, .unset, .unset, .unset, .unset] [(.int (p2 &&& (2 : Int32)))])) (fun tg kt => ?_) ?_
      · show Steps p.tables e below (T90.setTop (mkF m 44 #[.val (.int p0), .val (.int p1), .val (.int p2), .val (.int p3), .val (.int p4), .val (.int (3 : Int32)), .val (.ref a_BOOLEAN), .val (.ref b86), .val (.ref b89), .unset, .unset, .unset, .unset, .unset, .unset] [(.int (p2 &&& (1 : Int32)))])) _
        refine XS.ifNo X90.here hx rfl (hb hby at_44) rfl ((if0 _ _).trans (feq hc44_91).1) ?_
        show Steps p.tables e below (T90.setTop (mkF m 47 #[.val (.int p0), .val (.int p1), .val (.int p2), .val (.int p3), .val (.int p4), .val (.int (3 : Int32)), .val (.ref a_BOOLEAN), .val (.ref b86), .val (.ref b89), .unset, .unset, .unset, .unset, .unset, .unset] [])) _
        refine XS.iload X90.here hx rfl (hb hby at_47) rfl ?_
        show Steps p.tables e below (T90.setTop (mkF m 49 #[.val (.int p0), .val (.int p1), .val (.int p2), .val (.int p3), .val (.int p4), .val (.int (3 : Int32)), .val (.ref a_BOOLEAN), .val (.ref b86), .val (.ref b89), .unset, .unset, .unset, .unset, .unset, .unset] [(.int (3 : Int32))])) _
        refine XS.iconst X90.here hx rfl (hb hby at_49) ?_
        show Steps p.tables e below (T90.setTop (mkF m 50 #[.val (.int p0), .val (.int p1), .val (.int p2), .val (.int p3), .val (.int p4), .val (.int (3 : Int32)), .val (.ref a_BOOLEAN), .val (.ref b86), .val (.ref b89), .unset, .unset, .unset, .unset, .unset, .unset] [(.int (2 : Int32)), (.int (3 : Int32))])) _
        refine XS.icmpYes X90.here hx rfl (pc0 := 50) (pc' := 57) rfl (hb hby at_50) rfl (flt ((by decide) : ¬ ((3 : Int32) < (2 : Int32)))).2.1 (by decide) (by decide) ?_
        show Steps p.tables e below (T90.setTop (mkF m 57 #[.val (.int p0), .val (.int p1), .val (.int p2), .val (.int p3), .val (.int p4), .val (.int (3 : Int32)), .val (.ref a_BOOLEAN), .val (.ref b86), .val (.ref b89), .unset, .unset, .unset, .unset, .unset, .unset] [])) _
        refine XS.iconst X90.here hx rfl (hb hby at_57) ?_
        show Steps p.tables e below (T90.setTop (mkF m 58 #[.val (.int p0), .val (.int p1), .val (.int p2), .val (.int p3), .val (.int p4), .val (.int (3 : Int32)), .val (.ref a_BOOLEAN), .val (.ref b86), .val (.ref b89), .unset, .unset, .unset, .unset, .unset, .unset] [(.int (0 : Int32))])) _
        refine XS.istore X90.here hx rfl (hb hby at_58) rfl (l' := #[.val (.int p0), .val (.int p1), .val (.int p2), .val (.int p3), .val (.int p4), .val (.int (3 : Int32)), .val (.ref a_BOOLEAN), .val (.ref b86), .val (.ref b89), .val (.int (0 : Int32)), .unset, .unset, .unset, .unset, .unset]) rfl ?_
        show Steps p.tables e below (T90.setTop (mkF m 60 #[.val (.int p0), .val (.int p1), .val (.int p2), .val (.int p3), .val (.int p4), .val (.int (3 : Int32)), .val (.ref a_BOOLEAN), .val (.ref b86), .val (.ref b89), .val (.int (0 : Int32)), .unset, .unset, .unset, .unset, .unset] [])) _
        refine XS.iload X90.here hx rfl (hb hby at_60) rfl ?_
        show Steps p.tables e below (T90.setTop (mkF m 62 #[.val (.int p0), .val (.int p1), .val (.int p2), .val (.int p3), .val (.int p4), .val (.int (3 : Int32)), .val (.ref a_BOOLEAN), .val (.ref b86), .val (.ref b89), .val (.int (0 : Int32)), .unset, .unset, .unset, .unset, .unset] [(.int (0 : Int32))])) _
        refine XS.ifNo X90.here hx rfl (hb hby at_62) rfl ((if0 _ _).trans (teq ((by decide) : (0 : Int32) = (0 : Int32))).2) ?_
        show Steps p.tables e below (T90.setTop (mkF m 65 #[.val (.int p0), .val (.int p1), .val (.int p2), .val (.int p3), .val (.int p4), .val (.int (3 : Int32)), .val (.ref a_BOOLEAN), .val (.ref b86), .val (.ref b89), .val (.int (0 : Int32)), .unset, .unset, .unset, .unset, .unset] [])) _
        refine XS.iloadN X90.here hx rfl (hb hby at_65) rfl ?_
        show Steps p.tables e below (T90.setTop (mkF m 66 #[.val (.int p0), .val (.int p1), .val (.int p2), .val (.int p3), .val (.int p4), .val (.int (3 : Int32)), .val (.ref a_BOOLEAN), .val (.ref b86), .val (.ref b89), .val (.int (0 : Int32)), .unset, .unset, .unset, .unset, .unset] [(.int p2)])) _
        refine XS.iconst X90.here hx rfl (hb hby at_66) ?_
        show Steps p.tables e below (T90.setTop (mkF m 67 #[.val (.int p0), .val (.int p1), .val (.int p2), .val (.int p3), .val (.int p4), .val (.int (3 : Int32)), .val (.ref a_BOOLEAN), .val (.ref b86), .val (.ref b89), .val (.int (0 : Int32)), .unset, .unset, .unset, .unset, .unset] [(.int (2 : Int32)), (.int p2)])) _
        refine XS.iand X90.here hx rfl (hb hby at_67) rfl ?_
        exact kt
      by_cases hc68_101 : (p2 &&& (2 : Int32)) = (0 : Int32)
      · refine own_st (A' := T90.setTop (mkF m 90 #[.val (.int p0), .val (.int p1), .val (.int p2), .val (.int p3), .val (.int p4), .val (.int (3 : Int32)), .val (.ref a_BOOLEAN), .val (.ref b86), .val (.ref b89), .val (.int (0 : Int32)), .unset, .val .null, .unset, .unset, .unset] [])) (fun tg kt => ?_) ?_
        · show Steps p.tables e below (T90.setTop (mkF m 68 #[.val (.int p0), .val (.int p1), .val (.int p2), .val (.int p3), .val (.int p4), .val (.int (3 : Int32)), .val (.ref a_BOOLEAN), .val (.ref b86), .val (.ref b89), .val (.int (0 : Int32)), .unset, .unset, .unset, .unset, .unset] [(.int (p2 &&& (2 : Int32)))])) _
          refine XS.ifYes X90.here hx rfl (pc0 := 68) (pc' := 87) rfl (hb hby at_68) rfl ((if0 _ _).trans (teq hc68_101).1) (by decide) (by decide) ?_
          show Steps p.tables e below (T90.setTop (mkF m 87 #[.val (.int p0), .val (.int p1), .val (.int p2), .val (.int p3), .val (.int p4), .val (.int (3 : Int32)), .val (.ref a_BOOLEAN), .val (.ref b86), .val (.ref b89), .val (.int (0 : Int32)), .unset, .unset, .unset, .unset, .unset] [])) _
          refine XS.aconstNull X90.here hx rfl (hb hby at_87) ?_
          show Steps p.tables e below (T90.setTop (mkF m 88 #[.val (.int p0), .val (.int p1), .val (.int p2), .val (.int p3), .val (.int p4), .val (.int (3 : Int32)), .val (.ref a_BOOLEAN), .val (.ref b86), .val (.ref b89), .val (.int (0 : Int32)), .unset, .unset, .unset, .unset, .unset] [.null])) _
          refine XS.astore X90.here hx rfl (hb hby at_88) rfl rfl (l' := #[.val (.int p0), .val (.int p1), .val (.int p2), .val (.int p3), .val (.int p4), .val (.int (3 : Int32)), .val (.ref a_BOOLEAN), .val (.ref b86), .val (.ref b89), .val (.int (0 : Int32)), .unset, .val .null, .unset, .unset, .unset]) rfl ?_
          exact kt
        obtain ⟨T102, h102, X102, e102, E102, A102, D102, -, st102⟩ := newO X90 hx hZ hown (hw _ (List.mem_of_getElem? (i := 38) rfl)) (hw _ (List.mem_of_getElem? (i := 39) rfl)) (hw _ (List.mem_of_getElem? (i := 40) rfl)) rfl (g := (mkF m 90 #[.val (.int p0), .val (.int p1), .val (.int p2), .val (.int p3), .val (.int p4), .val (.int (3 : Int32)), .val (.ref a_BOOLEAN), .val (.ref b86), .val (.ref b89), .val (.int (0 : Int32)), .unset, .val .null, .unset, .unset, .unset] [])) rfl (hb hby at_90) (by decide) (by decide)
        obtain ⟨b102, g102⟩ : ∃ z, z = T90.heap.size := ⟨_, rfl⟩
        rw [← g102] at A102 D102 st102
        have g_b102 : n0 ≤ b102 := Nat.le_trans Z90 (Nat.le_of_eq g102.symm)
        have kw_b102 : h0.size ≤ b102 := Nat.le_trans (K90).1 (Nat.le_of_eq g102.symm)
        have ne_b86_b102 : b86 ≠ b102 := Nat.ne_of_lt (Nat.lt_of_lt_of_le ((V88.ext E89).keep Kq90 (ninS ne_b86_b89 nin0)).lt (Nat.le_of_eq g102.symm))
        have ne_b89_b102 : b89 ≠ b102 := Nat.ne_of_lt (Nat.lt_of_lt_of_le Eq90.lt (Nat.le_of_eq g102.symm))
        have ne_sv_b102 : sv ≠ b102 := Nat.ne_of_lt (Nat.lt_of_lt_of_le Aq90.lt (Nat.le_of_eq g102.symm))
        have K102 := (K90).ext E102
        have Z102 : n0 ≤ h102.size := Nat.le_trans Z90 E102.1
        have hk102 := Nat.le_trans hk90 E102.1
        have F_name_b102 : Fld Z h102 b102 "com/example/inexact_search/inexactsearch/engine/Attribute" "name" "Ljava/lang/String;" .null := D102 (Or.inr (hw _ (List.mem_of_getElem? (i := 62) rfl))) (ty := (.object "java/lang/String")) (by decide)
        have F_type_b102 : Fld Z h102 b102 "com/example/inexact_search/inexactsearch/engine/Attribute" "type" "Lcom/example/inexact_search/inexactsearch/engine/AttributeType;" .null := D102 (Or.inr (hw _ (List.mem_of_getElem? (i := 64) rfl))) (ty := (.object "com/example/inexact_search/inexactsearch/engine/AttributeType")) (by decide)
        have F_declaredMin_b102 : Fld Z h102 b102 "com/example/inexact_search/inexactsearch/engine/Attribute" "declaredMin" "Ljava/lang/Double;" .null := D102 (Or.inr (hw _ (List.mem_of_getElem? (i := 66) rfl))) (ty := (.object "java/lang/Double")) (by decide)
        have F_declaredMax_b102 : Fld Z h102 b102 "com/example/inexact_search/inexactsearch/engine/Attribute" "declaredMax" "Ljava/lang/Double;" .null := D102 (Or.inr (hw _ (List.mem_of_getElem? (i := 68) rfl))) (ty := (.object "java/lang/Double")) (by decide)
        refine own_st st102 ?_
        show own_Gl _ _ _ _ _ _ _ _ (T102.setTop (mkF m 93 #[.val (.int p0), .val (.int p1), .val (.int p2), .val (.int p3), .val (.int p4), .val (.int (3 : Int32)), .val (.ref a_BOOLEAN), .val (.ref b86), .val (.ref b89), .val (.int (0 : Int32)), .unset, .val .null, .unset, .unset, .unset] [(.ref b102)]))
        refine own_st (A' := T102.setTop (mkF m 102 #[.val (.int p0), .val (.int p1), .val (.int p2), .val (.int p3), .val (.int p4), .val (.int (3 : Int32)), .val (.ref a_BOOLEAN), .val (.ref b86), .val (.ref b89), .val (.int (0 : Int32)), .unset, .val .null, .unset, .unset, .unset] [.null, .null, (.ref a_BOOLEAN), (.ref b89), (.ref b102), (.ref b102)])) (fun tg kt => ?_) ?_
        · show Steps p.tables e below (T102.setTop (mkF m 93 #[.val (.int p0), .val (.int p1), .val (.int p2), .val (.int p3), .val (.int p4), .val (.int (3 : Int32)), .val (.ref a_BOOLEAN), .val (.ref b86), .val (.ref b89), .val (.int (0 : Int32)), .unset, .val .null, .unset, .unset, .unset] [(.ref b102)])) _
          refine XS.dup X102.here hx rfl (hb hby at_93) rfl rfl ?_
          show Steps p.tables e below (T102.setTop (mkF m 94 #[.val (.int p0), .val (.int p1), .val (.int p2), .val (.int p3), .val (.int p4), .val (.int (3 : Int32)), .val (.ref a_BOOLEAN), .val (.ref b86), .val (.ref b89), .val (.int (0 : Int32)), .unset, .val .null, .unset, .unset, .unset] [(.ref b102), (.ref b102)])) _
          refine XS.aload X102.here hx rfl (hb hby at_94) rfl rfl ?_
          show Steps p.tables e below (T102.setTop (mkF m 96 #[.val (.int p0), .val (.int p1), .val (.int p2), .val (.int p3), .val (.int p4), .val (.int (3 : Int32)), .val (.ref a_BOOLEAN), .val (.ref b86), .val (.ref b89), .val (.int (0 : Int32)), .unset, .val .null, .unset, .unset, .unset] [(.ref b89), (.ref b102), (.ref b102)])) _
          refine XS.aload X102.here hx rfl (hb hby at_96) rfl rfl ?_
          show Steps p.tables e below (T102.setTop (mkF m 98 #[.val (.int p0), .val (.int p1), .val (.int p2), .val (.int p3), .val (.int p4), .val (.int (3 : Int32)), .val (.ref a_BOOLEAN), .val (.ref b86), .val (.ref b89), .val (.int (0 : Int32)), .unset, .val .null, .unset, .unset, .unset] [(.ref a_BOOLEAN), (.ref b89), (.ref b102), (.ref b102)])) _
          refine XS.aload X102.here hx rfl (hb hby at_98) rfl rfl ?_
          show Steps p.tables e below (T102.setTop (mkF m 100 #[.val (.int p0), .val (.int p1), .val (.int p2), .val (.int p3), .val (.int p4), .val (.int (3 : Int32)), .val (.ref a_BOOLEAN), .val (.ref b86), .val (.ref b89), .val (.int (0 : Int32)), .unset, .val .null, .unset, .unset, .unset] [.null, (.ref a_BOOLEAN), (.ref b89), (.ref b102), (.ref b102)])) _
          refine XS.aload X102.here hx rfl (hb hby at_100) rfl rfl ?_
          exact kt
        obtain ⟨_, _, ⟨T103, L103, k103, n103⟩, -, X103, hSq103, hgq103, ⟨Lc103, hQ103, l103, y103, z103⟩, st103⟩ := X102.specialBackS hx (y := (⟨"com/example/inexact_search/inexactsearch/engine/Attribute", "<init>", "(Ljava/lang/String;Lcom/example/inexact_search/inexactsearch/engine/AttributeType;Ljava/lang/Double;Ljava/lang/Double;)V"⟩ : MethodName)) rfl hown (mvT hZ (hw _ (List.mem_of_getElem? (i := 78) rfl))) (mvT hZ (hw _ (List.mem_of_getElem? (i := 45) rfl))) (mvT hZ (hw _ (List.mem_of_getElem? (i := 46) rfl))) (by decide) (backOfS (W := 1) (rm9n l Z a0 hw [] b102 b89 a_BOOLEAN sv skb ([((nar .char ((p1 &&& (255 : Int32)).toUInt32.toUInt16.toUInt32.toInt32))).toInt8.toInt32].map Value.int) h102 n0 Z102 F_name_b102 F_type_b102 F_declaredMin_b102 F_declaredMax_b102 A102 g_b102 (Eq90.ext E102) (Vq90.ext E102) (Aq90.ext E102) ne_b89_b102 ne_sv_b102) hZ (hw _ (List.mem_of_getElem? (i := 46) rfl)) (hw _ (List.mem_of_getElem? (i := 40) rfl)) (by decide) (by decide)) (g := (mkF m 102 #[.val (.int p0), .val (.int p1), .val (.int p2), .val (.int p3), .val (.int p4), .val (.int (3 : Int32)), .val (.ref a_BOOLEAN), .val (.ref b86), .val (.ref b89), .val (.int (0 : Int32)), .unset, .val .null, .unset, .unset, .unset] [.null, .null, (.ref a_BOOLEAN), (.ref b89), (.ref b102), (.ref b102)])) rfl (by rw [hml]; rfl) (Steps.refl _) (a := b102) (argsL := [(.ref b89), (.ref a_BOOLEAN), .null, .null]) (rest := [(.ref b102)]) (lenOf own_pd14 rfl) rfl (by show 2 * 0 + _ ≤ _; exact Nat.le_of_eq rfl) (hb hby at_102) (fun _ _ => ⟨rfl, e102, (by decide : 4 + 4 ≤ _), (by decide : 10 + 40 ≤ _)⟩)
        dsimp only [Pt.U, Pt.locs, Pt.cells, Pt.slots] at X103 l103 y103 z103 st103 hQ103 hSq103 hgq103
        subst l103 y103 z103
        replace X103 : Stand p l e _ (s.setVm T103.vm) m _ below meth c T103 _ _ _ := X103
        have hS103 : s.Since T103.vm T103.heap.size := hS0.trans hSq103 (Nat.le_trans hk102 (by rw [← e102]; exact hgq103))
        have hZ103 : Z.Warmed39 (s.setVm T103.vm).vm := State.Warmed39.trans (t := (s.setVm s.vm)) hZ hSq103.1
        have hown103 : (s.setVm T103.vm).vm.findClass "com/example/inexact_search/inexactsearch/engine/AttributeHasDeclaredRangePinLaw" = some m.cls := by rw [show (s.setVm T103.vm).vm = T103.vm from rfl, hSq103.1.alike.findClass]; exact hown
        have hk103 : T103.heap.size ≤ T103.heap.size := Nat.le_refl _
        obtain ⟨rfl, Nq103, Kq103, Eq103, Fq103⟩ := hQ103
        have N103 := Fr.app N90 Nq103
        have Fa104 := ((((V88.ext E89).keep Kq90 (ninS ne_b86_b89 nin0)).ext E102).keep Kq103 (ninS ne_b86_b102 nin0))
        have K103 := (K102).trans Kq103 (allS (Or.inr kw_b102) all0)
        have Z103 : n0 ≤ T103.heap.size := Nat.le_trans Z102 Kq103.1
        refine own_tr st103 ?_
        show own_Gl _ _ _ _ _ _ _ _ (T103.setTop (mkF m 105 #[.val (.int p0), .val (.int p1), .val (.int p2), .val (.int p3), .val (.int p4), .val (.int (3 : Int32)), .val (.ref a_BOOLEAN), .val (.ref b86), .val (.ref b89), .val (.int (0 : Int32)), .unset, .val .null, .unset, .unset, .unset] [(.ref b102)]))
        refine own_st (A' := T103.setTop (mkF m 109 #[.val (.int p0), .val (.int p1), .val (.int p2), .val (.int p3), .val (.int p4), .val (.int (3 : Int32)), .val (.ref a_BOOLEAN), .val (.ref b86), .val (.ref b89), .val (.int (0 : Int32)), .val (.ref b102), .val .null, .unset, .unset, .unset] [(.ref b102)])) (fun tg kt => ?_) ?_
        · show Steps p.tables e below (T103.setTop (mkF m 105 #[.val (.int p0), .val (.int p1), .val (.int p2), .val (.int p3), .val (.int p4), .val (.int (3 : Int32)), .val (.ref a_BOOLEAN), .val (.ref b86), .val (.ref b89), .val (.int (0 : Int32)), .unset, .val .null, .unset, .unset, .unset] [(.ref b102)])) _
          refine XS.astore X103.here hx rfl (hb hby at_105) rfl rfl (l' := #[.val (.int p0), .val (.int p1), .val (.int p2), .val (.int p3), .val (.int p4), .val (.int (3 : Int32)), .val (.ref a_BOOLEAN), .val (.ref b86), .val (.ref b89), .val (.int (0 : Int32)), .val (.ref b102), .val .null, .unset, .unset, .unset]) rfl ?_
          show Steps p.tables e below (T103.setTop (mkF m 107 #[.val (.int p0), .val (.int p1), .val (.int p2), .val (.int p3), .val (.int p4), .val (.int (3 : Int32)), .val (.ref a_BOOLEAN), .val (.ref b86), .val (.ref b89), .val (.int (0 : Int32)), .val (.ref b102), .val .null, .unset, .unset, .unset] [])) _
          refine XS.aload X103.here hx rfl (hb hby at_107) rfl rfl ?_
          exact kt
        obtain ⟨cq105, kq105, q105a, q105b, q105c⟩ := isOf hZ103 rfl Eq103
        obtain ⟨_, _, ⟨T105, L105, k105, n105⟩, -, X105, ⟨Lc105, hQ105, l105, y105, z105⟩, st105⟩ := X103.virtualBack hx (y := (⟨"com/example/inexact_search/inexactsearch/engine/Attribute", "hasDeclaredRange", "()Z"⟩ : MethodName)) (z := (⟨"com/example/inexact_search/inexactsearch/engine/Attribute", "hasDeclaredRange", "()Z"⟩ : MethodName)) hown103 (mvT hZ103 (hw _ (List.mem_of_getElem? (i := 69) rfl))) (mvT hZ103 (hw _ (List.mem_of_getElem? (i := 70) rfl))) (notFace_of_selects (args := #[]) (mvT hZ103 (hw _ (List.mem_of_getElem? (i := 72) rfl)))) (mvT hZ103 (hw _ (List.mem_of_getElem? (i := 72) rfl))) (mvT hZ103 (hw _ (List.mem_of_getElem? (i := 71) rfl))) (by decide) (backOf (W := 0) (rm12n l Z a0 hw [] b102 T103.heap n0 Z103 Fq103) hZ103 (hw _ (List.mem_of_getElem? (i := 73) rfl)) (hw _ (List.mem_of_getElem? (i := 40) rfl)) (by decide) (by decide)) q105a q105c (g := (mkF m 109 #[.val (.int p0), .val (.int p1), .val (.int p2), .val (.int p3), .val (.int p4), .val (.int (3 : Int32)), .val (.ref a_BOOLEAN), .val (.ref b86), .val (.ref b89), .val (.int (0 : Int32)), .val (.ref b102), .val .null, .unset, .unset, .unset] [(.ref b102)])) rfl (by rw [hml]; rfl) (Steps.refl _) (argsL := []) (rest := []) (lenOf own_pd10 rfl) rfl (by show 2 * 0 + _ ≤ _; exact Nat.le_of_eq rfl) (hb hby at_109) (fun _ _ => ⟨rfl, rfl, (by decide : 8 + 0 ≤ _), (by decide : 50 + 0 ≤ _)⟩)
        dsimp only [Pt.U, Pt.locs, Pt.cells, Pt.slots] at X105 l105 y105 z105 st105 hQ105
        subst l105 y105 z105
        obtain ⟨rfl, Nq105, eq105⟩ := hQ105
        have N105 := Fr.app N103 Nq105
        refine own_tr st105 ?_
        show own_Gl _ _ _ _ _ _ _ _ (T105.setTop (mkF m 112 #[.val (.int p0), .val (.int p1), .val (.int p2), .val (.int p3), .val (.int p4), .val (.int (3 : Int32)), .val (.ref a_BOOLEAN), .val (.ref b86), .val (.ref b89), .val (.int (0 : Int32)), .val (.ref b102), .val .null, .unset, .unset, .unset] [(.int (0 : Int32))]))
        refine own_st (A' := T105.setTop (mkF m 120 #[.val (.int p0), .val (.int p1), .val (.int p2), .val (.int p3), .val (.int p4), .val (.int (3 : Int32)), .val (.ref a_BOOLEAN), .val (.ref b86), .val (.ref b89), .val (.int (0 : Int32)), .val (.ref b102), .val .null, .unset, .unset, .unset] [(.int (1 : Int32))])) (fun tg kt => ?_) ?_
        · show Steps p.tables e below (T105.setTop (mkF m 112 #[.val (.int p0), .val (.int p1), .val (.int p2), .val (.int p3), .val (.int p4), .val (.int (3 : Int32)), .val (.ref a_BOOLEAN), .val (.ref b86), .val (.ref b89), .val (.int (0 : Int32)), .val (.ref b102), .val .null, .unset, .unset, .unset] [(.int (0 : Int32))])) _
          refine XS.ifNo X105.here hx rfl (hb hby at_112) rfl ((if0 _ _).trans (teq ((by decide) : (0 : Int32) = (0 : Int32))).2) ?_
          show Steps p.tables e below (T105.setTop (mkF m 115 #[.val (.int p0), .val (.int p1), .val (.int p2), .val (.int p3), .val (.int p4), .val (.int (3 : Int32)), .val (.ref a_BOOLEAN), .val (.ref b86), .val (.ref b89), .val (.int (0 : Int32)), .val (.ref b102), .val .null, .unset, .unset, .unset] [])) _
          refine XS.iconst X105.here hx rfl (hb hby at_115) ?_
          show Steps p.tables e below (T105.setTop (mkF m 116 #[.val (.int p0), .val (.int p1), .val (.int p2), .val (.int p3), .val (.int p4), .val (.int (3 : Int32)), .val (.ref a_BOOLEAN), .val (.ref b86), .val (.ref b89), .val (.int (0 : Int32)), .val (.ref b102), .val .null, .unset, .unset, .unset] [(.int (1 : Int32))])) _
          refine XS.goto X105.here hx rfl (pc0 := 116) (pc' := 120) rfl (hb hby at_116) (by decide) (by decide) ?_
          exact kt
        refine own_retW X105 hS103 (by rw [eq105]; exact hk103) (v := some (.int (1 : Int32))) (fun h => by rw [Bd.returns] at h; cases h) hlk (by decide) (by decide) ?_ (fun fs hr => ?_)
        · show Q0 Z p0 p1 p2 p3 p4 a_INTEGER a_DECIMAL a_STRING a_BOOLEAN a_STRINGS cs h0 n0 (some (.int (1 : Int32))) T105.heap _
          rw [eq105]
          exact ⟨rfl, N105⟩
        · show Steps p.tables e below (T105.setTop (mkF m 120 #[.val (.int p0), .val (.int p1), .val (.int p2), .val (.int p3), .val (.int p4), .val (.int (3 : Int32)), .val (.ref a_BOOLEAN), .val (.ref b86), .val (.ref b89), .val (.int (0 : Int32)), .val (.ref b102), .val .null, .unset, .unset, .unset] [(.int (1 : Int32))])) _
          exact retN X105 hx (t := .boolean) Bd.returns (by simp) (hb hby at_120) hr
      · refine own_st (A' := T90.setTop (mkF m 71 #[.val (.int p0), .val (.int p1), .val (.int p2), .val (.int p3), .val (.int p4), .val (.int (3 : Int32)), .val (.ref a_BOOLEAN), .val (.ref b86), .val (.ref b89), .val (.int (0 : Int32)), .unset, .unset, .unset, .unset, .unset] [])) (fun tg kt => ?_) ?_
        · show Steps p.tables e below (T90.setTop (mkF m 68 #[.val (.int p0), .val (.int p1), .val (.int p2), .val (.int p3), .val (.int p4), .val (.int (3 : Int32)), .val (.ref a_BOOLEAN), .val (.ref b86), .val (.ref b89), .val (.int (0 : Int32)), .unset, .unset, .unset, .unset, .unset] [(.int (p2 &&& (2 : Int32)))])) _
          refine XS.ifNo X90.here hx rfl (hb hby at_68) rfl ((if0 _ _).trans (feq hc68_101).1) ?_
          exact kt
        obtain ⟨T106, h106, X106, e106, E106, A106, D106, -, st106⟩ := newO X90 hx hZ hown (hw _ (List.mem_of_getElem? (i := 38) rfl)) (hw _ (List.mem_of_getElem? (i := 39) rfl)) (hw _ (List.mem_of_getElem? (i := 40) rfl)) rfl (g := (mkF m 71 #[.val (.int p0), .val (.int p1), .val (.int p2), .val (.int p3), .val (.int p4), .val (.int (3 : Int32)), .val (.ref a_BOOLEAN), .val (.ref b86), .val (.ref b89), .val (.int (0 : Int32)), .unset, .unset, .unset, .unset, .unset] [])) rfl (hb hby at_71) (by decide) (by decide)
        obtain ⟨b106, g106⟩ : ∃ z, z = T90.heap.size := ⟨_, rfl⟩
        rw [← g106] at A106 D106 st106
        have g_b106 : n0 ≤ b106 := Nat.le_trans Z90 (Nat.le_of_eq g106.symm)
        have kw_b106 : h0.size ≤ b106 := Nat.le_trans (K90).1 (Nat.le_of_eq g106.symm)
        have ne_b86_b106 : b86 ≠ b106 := Nat.ne_of_lt (Nat.lt_of_lt_of_le ((V88.ext E89).keep Kq90 (ninS ne_b86_b89 nin0)).lt (Nat.le_of_eq g106.symm))
        have ne_b89_b106 : b89 ≠ b106 := Nat.ne_of_lt (Nat.lt_of_lt_of_le Eq90.lt (Nat.le_of_eq g106.symm))
        have ne_sv_b106 : sv ≠ b106 := Nat.ne_of_lt (Nat.lt_of_lt_of_le Aq90.lt (Nat.le_of_eq g106.symm))
        have K106 := (K90).ext E106
        have Z106 : n0 ≤ h106.size := Nat.le_trans Z90 E106.1
        have hk106 := Nat.le_trans hk90 E106.1
        have F_name_b106 : Fld Z h106 b106 "com/example/inexact_search/inexactsearch/engine/Attribute" "name" "Ljava/lang/String;" .null := D106 (Or.inr (hw _ (List.mem_of_getElem? (i := 62) rfl))) (ty := (.object "java/lang/String")) (by decide)
        have F_type_b106 : Fld Z h106 b106 "com/example/inexact_search/inexactsearch/engine/Attribute" "type" "Lcom/example/inexact_search/inexactsearch/engine/AttributeType;" .null := D106 (Or.inr (hw _ (List.mem_of_getElem? (i := 64) rfl))) (ty := (.object "com/example/inexact_search/inexactsearch/engine/AttributeType")) (by decide)
        have F_declaredMin_b106 : Fld Z h106 b106 "com/example/inexact_search/inexactsearch/engine/Attribute" "declaredMin" "Ljava/lang/Double;" .null := D106 (Or.inr (hw _ (List.mem_of_getElem? (i := 66) rfl))) (ty := (.object "java/lang/Double")) (by decide)
        have F_declaredMax_b106 : Fld Z h106 b106 "com/example/inexact_search/inexactsearch/engine/Attribute" "declaredMax" "Ljava/lang/Double;" .null := D106 (Or.inr (hw _ (List.mem_of_getElem? (i := 68) rfl))) (ty := (.object "java/lang/Double")) (by decide)
        refine own_st st106 ?_
        show own_Gl _ _ _ _ _ _ _ _ (T106.setTop (mkF m 74 #[.val (.int p0), .val (.int p1), .val (.int p2), .val (.int p3), .val (.int p4), .val (.int (3 : Int32)), .val (.ref a_BOOLEAN), .val (.ref b86), .val (.ref b89), .val (.int (0 : Int32)), .unset, .unset, .unset, .unset, .unset] [(.ref b106)]))
        refine own_st (A' := T106.setTop (mkF m 79 #[.val (.int p0), .val (.int p1), .val (.int p2), .val (.int p3), .val (.int p4), .val (.int (3 : Int32)), .val (.ref a_BOOLEAN), .val (.ref b86), .val (.ref b89), .val (.int (0 : Int32)), .unset, .unset, .unset, .unset, .unset] [(.ref a_BOOLEAN), (.ref b89), (.ref b106), (.ref b106)])) (fun tg kt => ?_) ?_
        · show Steps p.tables e below (T106.setTop (mkF m 74 #[.val (.int p0), .val (.int p1), .val (.int p2), .val (.int p3), .val (.int p4), .val (.int (3 : Int32)), .val (.ref a_BOOLEAN), .val (.ref b86), .val (.ref b89), .val (.int (0 : Int32)), .unset, .unset, .unset, .unset, .unset] [(.ref b106)])) _
          refine XS.dup X106.here hx rfl (hb hby at_74) rfl rfl ?_
          show Steps p.tables e below (T106.setTop (mkF m 75 #[.val (.int p0), .val (.int p1), .val (.int p2), .val (.int p3), .val (.int p4), .val (.int (3 : Int32)), .val (.ref a_BOOLEAN), .val (.ref b86), .val (.ref b89), .val (.int (0 : Int32)), .unset, .unset, .unset, .unset, .unset] [(.ref b106), (.ref b106)])) _
          refine XS.aload X106.here hx rfl (hb hby at_75) rfl rfl ?_
          show Steps p.tables e below (T106.setTop (mkF m 77 #[.val (.int p0), .val (.int p1), .val (.int p2), .val (.int p3), .val (.int p4), .val (.int (3 : Int32)), .val (.ref a_BOOLEAN), .val (.ref b86), .val (.ref b89), .val (.int (0 : Int32)), .unset, .unset, .unset, .unset, .unset] [(.ref b89), (.ref b106), (.ref b106)])) _
          refine XS.aload X106.here hx rfl (hb hby at_77) rfl rfl ?_
          exact kt
        obtain ⟨_, _, ⟨T107, L107, k107, n107⟩, -, X107, hSq107, hgq107, ⟨Lc107, hQ107, l107, y107, z107⟩, st107⟩ := X106.specialBackS hx (y := (⟨"com/example/inexact_search/inexactsearch/engine/Attribute", "<init>", "(Ljava/lang/String;Lcom/example/inexact_search/inexactsearch/engine/AttributeType;)V"⟩ : MethodName)) rfl hown (mvT hZ (hw _ (List.mem_of_getElem? (i := 41) rfl))) (mvT hZ (hw _ (List.mem_of_getElem? (i := 42) rfl))) (mvT hZ (hw _ (List.mem_of_getElem? (i := 43) rfl))) (by decide) (backOfS (W := 1) (rm8 l Z a0 hw [] b106 b89 a_BOOLEAN sv skb ([((nar .char ((p1 &&& (255 : Int32)).toUInt32.toUInt16.toUInt32.toInt32))).toInt8.toInt32].map Value.int) h106 n0 Z106 F_name_b106 F_type_b106 F_declaredMin_b106 F_declaredMax_b106 A106 g_b106 (Eq90.ext E106) (Vq90.ext E106) (Aq90.ext E106) ne_b89_b106 ne_sv_b106) hZ (hw _ (List.mem_of_getElem? (i := 43) rfl)) (hw _ (List.mem_of_getElem? (i := 40) rfl)) (by decide) (by decide)) (g := (mkF m 79 #[.val (.int p0), .val (.int p1), .val (.int p2), .val (.int p3), .val (.int p4), .val (.int (3 : Int32)), .val (.ref a_BOOLEAN), .val (.ref b86), .val (.ref b89), .val (.int (0 : Int32)), .unset, .unset, .unset, .unset, .unset] [(.ref a_BOOLEAN), (.ref b89), (.ref b106), (.ref b106)])) rfl (by rw [hml]; rfl) (Steps.refl _) (a := b106) (argsL := [(.ref b89), (.ref a_BOOLEAN)]) (rest := [(.ref b106)]) (lenOf own_pd17 rfl) rfl (by show 2 * 0 + _ ≤ _; exact Nat.le_of_eq rfl) (hb hby at_79) (fun _ _ => ⟨rfl, e106, (by decide : 4 + 4 ≤ _), (by decide : 10 + 40 ≤ _)⟩)
        dsimp only [Pt.U, Pt.locs, Pt.cells, Pt.slots] at X107 l107 y107 z107 st107 hQ107 hSq107 hgq107
        subst l107 y107 z107
        replace X107 : Stand p l e _ (s.setVm T107.vm) m _ below meth c T107 _ _ _ := X107
        have hS107 : s.Since T107.vm T107.heap.size := hS0.trans hSq107 (Nat.le_trans hk106 (by rw [← e106]; exact hgq107))
        have hZ107 : Z.Warmed39 (s.setVm T107.vm).vm := State.Warmed39.trans (t := (s.setVm s.vm)) hZ hSq107.1
        have hown107 : (s.setVm T107.vm).vm.findClass "com/example/inexact_search/inexactsearch/engine/AttributeHasDeclaredRangePinLaw" = some m.cls := by rw [show (s.setVm T107.vm).vm = T107.vm from rfl, hSq107.1.alike.findClass]; exact hown
        have hk107 : T107.heap.size ≤ T107.heap.size := Nat.le_refl _
        obtain ⟨rfl, Nq107, Kq107, Eq107, Fq107⟩ := hQ107
        have N107 := Fr.app N90 Nq107
        have Fa108 := ((((V88.ext E89).keep Kq90 (ninS ne_b86_b89 nin0)).ext E106).keep Kq107 (ninS ne_b86_b106 nin0))
        have K107 := (K106).trans Kq107 (allS (Or.inr kw_b106) all0)
        have Z107 : n0 ≤ T107.heap.size := Nat.le_trans Z106 Kq107.1
        refine own_tr st107 ?_
        show own_Gl _ _ _ _ _ _ _ _ (T107.setTop (mkF m 82 #[.val (.int p0), .val (.int p1), .val (.int p2), .val (.int p3), .val (.int p4), .val (.int (3 : Int32)), .val (.ref a_BOOLEAN), .val (.ref b86), .val (.ref b89), .val (.int (0 : Int32)), .unset, .unset, .unset, .unset, .unset] [(.ref b106)]))
        refine own_st (A' := T107.setTop (mkF m 109 #[.val (.int p0), .val (.int p1), .val (.int p2), .val (.int p3), .val (.int p4), .val (.int (3 : Int32)), .val (.ref a_BOOLEAN), .val (.ref b86), .val (.ref b89), .val (.int (0 : Int32)), .val (.ref b106), .unset, .unset, .unset, .unset] [(.ref b106)])) (fun tg kt => ?_) ?_
        · show Steps p.tables e below (T107.setTop (mkF m 82 #[.val (.int p0), .val (.int p1), .val (.int p2), .val (.int p3), .val (.int p4), .val (.int (3 : Int32)), .val (.ref a_BOOLEAN), .val (.ref b86), .val (.ref b89), .val (.int (0 : Int32)), .unset, .unset, .unset, .unset, .unset] [(.ref b106)])) _
          refine XS.astore X107.here hx rfl (hb hby at_82) rfl rfl (l' := #[.val (.int p0), .val (.int p1), .val (.int p2), .val (.int p3), .val (.int p4), .val (.int (3 : Int32)), .val (.ref a_BOOLEAN), .val (.ref b86), .val (.ref b89), .val (.int (0 : Int32)), .val (.ref b106), .unset, .unset, .unset, .unset]) rfl ?_
          show Steps p.tables e below (T107.setTop (mkF m 84 #[.val (.int p0), .val (.int p1), .val (.int p2), .val (.int p3), .val (.int p4), .val (.int (3 : Int32)), .val (.ref a_BOOLEAN), .val (.ref b86), .val (.ref b89), .val (.int (0 : Int32)), .val (.ref b106), .unset, .unset, .unset, .unset] [])) _
          refine XS.goto X107.here hx rfl (pc0 := 84) (pc' := 107) rfl (hb hby at_84) (by decide) (by decide) ?_
          show Steps p.tables e below (T107.setTop (mkF m 107 #[.val (.int p0), .val (.int p1), .val (.int p2), .val (.int p3), .val (.int p4), .val (.int (3 : Int32)), .val (.ref a_BOOLEAN), .val (.ref b86), .val (.ref b89), .val (.int (0 : Int32)), .val (.ref b106), .unset, .unset, .unset, .unset] [])) _
          refine XS.aload X107.here hx rfl (hb hby at_107) rfl rfl ?_
          exact kt
        obtain ⟨cq109, kq109, q109a, q109b, q109c⟩ := isOf hZ107 rfl Eq107
        obtain ⟨_, _, ⟨T109, L109, k109, n109⟩, -, X109, ⟨Lc109, hQ109, l109, y109, z109⟩, st109⟩ := X107.virtualBack hx (y := (⟨"com/example/inexact_search/inexactsearch/engine/Attribute", "hasDeclaredRange", "()Z"⟩ : MethodName)) (z := (⟨"com/example/inexact_search/inexactsearch/engine/Attribute", "hasDeclaredRange", "()Z"⟩ : MethodName)) hown107 (mvT hZ107 (hw _ (List.mem_of_getElem? (i := 69) rfl))) (mvT hZ107 (hw _ (List.mem_of_getElem? (i := 70) rfl))) (notFace_of_selects (args := #[]) (mvT hZ107 (hw _ (List.mem_of_getElem? (i := 72) rfl)))) (mvT hZ107 (hw _ (List.mem_of_getElem? (i := 72) rfl))) (mvT hZ107 (hw _ (List.mem_of_getElem? (i := 71) rfl))) (by decide) (backOf (W := 0) (rm12n l Z a0 hw [] b106 T107.heap n0 Z107 Fq107) hZ107 (hw _ (List.mem_of_getElem? (i := 73) rfl)) (hw _ (List.mem_of_getElem? (i := 40) rfl)) (by decide) (by decide)) q109a q109c (g := (mkF m 109 #[.val (.int p0), .val (.int p1), .val (.int p2), .val (.int p3), .val (.int p4), .val (.int (3 : Int32)), .val (.ref a_BOOLEAN), .val (.ref b86), .val (.ref b89), .val (.int (0 : Int32)), .val (.ref b106), .unset, .unset, .unset, .unset] [(.ref b106)])) rfl (by rw [hml]; rfl) (Steps.refl _) (argsL := []) (rest := []) (lenOf own_pd10 rfl) rfl (by show 2 * 0 + _ ≤ _; exact Nat.le_of_eq rfl) (hb hby at_109) (fun _ _ => ⟨rfl, rfl, (by decide : 8 + 0 ≤ _), (by decide : 50 + 0 ≤ _)⟩)
        dsimp only [Pt.U, Pt.locs, Pt.cells, Pt.slots] at X109 l109 y109 z109 st109 hQ109
        subst l109 y109 z109
        obtain ⟨rfl, Nq109, eq109⟩ := hQ109
        have N109 := Fr.app N107 Nq109
        refine own_tr st109 ?_
        show own_Gl _ _ _ _ _ _ _ _ (T109.setTop (mkF m 112 #[.val (.int p0), .val (.int p1), .val (.int p2), .val (.int p3), .val (.int p4), .val (.int (3 : Int32)), .val (.ref a_BOOLEAN), .val (.ref b86), .val (.ref b89), .val (.int (0 : Int32)), .val (.ref b106), .unset, .unset, .unset, .unset] [(.int (0 : Int32))]))
        refine own_st (A' := T109.setTop (mkF m 120 #[.val (.int p0), .val (.int p1), .val (.int p2), .val (.int p3), .val (.int p4), .val (.int (3 : Int32)), .val (.ref a_BOOLEAN), .val (.ref b86), .val (.ref b89), .val (.int (0 : Int32)), .val (.ref b106), .unset, .unset, .unset, .unset] [(.int (1 : Int32))])) (fun tg kt => ?_) ?_
        · show Steps p.tables e below (T109.setTop (mkF m 112 #[.val (.int p0), .val (.int p1), .val (.int p2), .val (.int p3), .val (.int p4), .val (.int (3 : Int32)), .val (.ref a_BOOLEAN), .val (.ref b86), .val (.ref b89), .val (.int (0 : Int32)), .val (.ref b106), .unset, .unset, .unset, .unset] [(.int (0 : Int32))])) _
          refine XS.ifNo X109.here hx rfl (hb hby at_112) rfl ((if0 _ _).trans (teq ((by decide) : (0 : Int32) = (0 : Int32))).2) ?_
          show Steps p.tables e below (T109.setTop (mkF m 115 #[.val (.int p0), .val (.int p1), .val (.int p2), .val (.int p3), .val (.int p4), .val (.int (3 : Int32)), .val (.ref a_BOOLEAN), .val (.ref b86), .val (.ref b89), .val (.int (0 : Int32)), .val (.ref b106), .unset, .unset, .unset, .unset] [])) _
          refine XS.iconst X109.here hx rfl (hb hby at_115) ?_
          show Steps p.tables e below (T109.setTop (mkF m 116 #[.val (.int p0), .val (.int p1), .val (.int p2), .val (.int p3), .val (.int p4), .val (.int (3 : Int32)), .val (.ref a_BOOLEAN), .val (.ref b86), .val (.ref b89), .val (.int (0 : Int32)), .val (.ref b106), .unset, .unset, .unset, .unset] [(.int (1 : Int32))])) _
          refine XS.goto X109.here hx rfl (pc0 := 116) (pc' := 120) rfl (hb hby at_116) (by decide) (by decide) ?_
          exact kt
        refine own_retW X109 hS107 (by rw [eq109]; exact hk107) (v := some (.int (1 : Int32))) (fun h => by rw [Bd.returns] at h; cases h) hlk (by decide) (by decide) ?_ (fun fs hr => ?_)
        · show Q0 Z p0 p1 p2 p3 p4 a_INTEGER a_DECIMAL a_STRING a_BOOLEAN a_STRINGS cs h0 n0 (some (.int (1 : Int32))) T109.heap _
          rw [eq109]
          exact ⟨rfl, N109⟩
        · show Steps p.tables e below (T109.setTop (mkF m 120 #[.val (.int p0), .val (.int p1), .val (.int p2), .val (.int p3), .val (.int p4), .val (.int (3 : Int32)), .val (.ref a_BOOLEAN), .val (.ref b86), .val (.ref b89), .val (.int (0 : Int32)), .val (.ref b106), .unset, .unset, .unset, .unset] [(.int (1 : Int32))])) _
          exact retN X109 hx (t := .boolean) Bd.returns (by simp) (hb hby at_120) hr
  · show own_Gl _ _ _ _ _ _ _ _ (s₁.setTop (mkF m 6 #[.val (.int p0), .val (.int p1), .val (.int p2), .val (.int p3), .val (.int p4), .unset, .unset, .unset, .unset, .unset, .unset, .unset, .unset, .unset, .unset] [(.int (4 : Int32))]))
    refine own_st (A' := s₁.setTop (mkF m 10 #[.val (.int p0), .val (.int p1), .val (.int p2), .val (.int p3), .val (.int p4), .val (.int (4 : Int32)), .unset, .unset, .unset, .unset, .unset, .unset, .unset, .unset, .unset] [(.int (4 : Int32))])) (fun tg kt => ?_) ?_
    · show Steps p.tables e below (s₁.setTop (mkF m 6 #[.val (.int p0), .val (.int p1), .val (.int p2), .val (.int p3), .val (.int p4), .unset, .unset, .unset, .unset, .unset, .unset, .unset, .unset, .unset, .unset] [(.int (4 : Int32))])) _
      refine XS.istore X0.here hx rfl (hb hby at_6) rfl (l' := #[.val (.int p0), .val (.int p1), .val (.int p2), .val (.int p3), .val (.int p4), .val (.int (4 : Int32)), .unset, .unset, .unset, .unset, .unset, .unset, .unset, .unset, .unset]) rfl ?_
      show Steps p.tables e below (s₁.setTop (mkF m 8 #[.val (.int p0), .val (.int p1), .val (.int p2), .val (.int p3), .val (.int p4), .val (.int (4 : Int32)), .unset, .unset, .unset, .unset, .unset, .unset, .unset, .unset, .unset] [])) _
      refine XS.iload X0.here hx rfl (hb hby at_8) rfl ?_
      exact kt
    obtain ⟨_, _, ⟨T110, L110, k110, n110⟩, -, X110, ⟨Lc110, hQ110, l110, y110, z110⟩, st110⟩ := Jvm.LawKit.callS X0 hx (y := (⟨"com/example/inexact_search/inexactsearch/engine/AttributeHasDeclaredRangePinLaw", "typeOf", "(I)Lcom/example/inexact_search/inexactsearch/engine/AttributeType;"⟩ : MethodName)) hown (mvT hZ (hw _ (List.mem_of_getElem? (i := 1) rfl))) (mvT hZ (hw _ (List.mem_of_getElem? (i := 2) rfl))) (mvT hZ (hw _ (List.mem_of_getElem? (i := 3) rfl))) (mvT hZ (hw _ (List.mem_of_getElem? (i := 4) rfl))) (by decide) (backOf (W := 0) (rm1 l Z a0 hw [] (4 : Int32) a_INTEGER a_DECIMAL a_STRING a_BOOLEAN a_STRINGS h0 n0 Z0 S_INTEGER S_DECIMAL S_STRING S_BOOLEAN S_STRINGS) hZ (hw _ (List.mem_of_getElem? (i := 4) rfl)) (hw _ (List.mem_of_getElem? (i := 3) rfl)) (by decide) (by decide)) (g := (mkF m 10 #[.val (.int p0), .val (.int p1), .val (.int p2), .val (.int p3), .val (.int p4), .val (.int (4 : Int32)), .unset, .unset, .unset, .unset, .unset, .unset, .unset, .unset, .unset] [(.int (4 : Int32))])) rfl (by rw [hml]; rfl) (argsL := [(.int (4 : Int32))]) (rest := []) (lenOf own_pd15 rfl) rfl (by show 2 * 0 + _ ≤ _; exact Nat.le_of_eq rfl) (hb hby at_10) (fun _ _ => ⟨rfl, e0, (by decide : 0 + 0 ≤ _), (by decide : 0 + 0 ≤ _)⟩)
    dsimp only [Pt.U, Pt.locs, Pt.cells, Pt.slots] at X110 l110 y110 z110 st110 hQ110
    subst l110 y110 z110
    obtain ⟨hv110, hr110⟩ := hQ110
    rw [show own_pick1 (4 : Int32) a_INTEGER a_DECIMAL a_STRING a_BOOLEAN a_STRINGS = a_STRINGS from rfl] at hv110
    have hQ110 := And.intro hv110 hr110
    obtain ⟨rfl, Nq110, eq110⟩ := hQ110
    have N110 := Fr.app N0 Nq110
    refine own_st st110 ?_
    show own_Gl _ _ _ _ _ _ _ _ (T110.setTop (mkF m 13 #[.val (.int p0), .val (.int p1), .val (.int p2), .val (.int p3), .val (.int p4), .val (.int (4 : Int32)), .unset, .unset, .unset, .unset, .unset, .unset, .unset, .unset, .unset] [(.ref a_STRINGS)]))
    refine own_st (A' := T110.setTop (mkF m 16 #[.val (.int p0), .val (.int p1), .val (.int p2), .val (.int p3), .val (.int p4), .val (.int (4 : Int32)), .val (.ref a_STRINGS), .unset, .unset, .unset, .unset, .unset, .unset, .unset, .unset] [(.int (1 : Int32))])) (fun tg kt => ?_) ?_
    · show Steps p.tables e below (T110.setTop (mkF m 13 #[.val (.int p0), .val (.int p1), .val (.int p2), .val (.int p3), .val (.int p4), .val (.int (4 : Int32)), .unset, .unset, .unset, .unset, .unset, .unset, .unset, .unset, .unset] [(.ref a_STRINGS)])) _
      refine XS.astore X110.here hx rfl (hb hby at_13) rfl rfl (l' := #[.val (.int p0), .val (.int p1), .val (.int p2), .val (.int p3), .val (.int p4), .val (.int (4 : Int32)), .val (.ref a_STRINGS), .unset, .unset, .unset, .unset, .unset, .unset, .unset, .unset]) rfl ?_
      show Steps p.tables e below (T110.setTop (mkF m 15 #[.val (.int p0), .val (.int p1), .val (.int p2), .val (.int p3), .val (.int p4), .val (.int (4 : Int32)), .val (.ref a_STRINGS), .unset, .unset, .unset, .unset, .unset, .unset, .unset, .unset] [])) _
      refine XS.iconst X110.here hx rfl (hb hby at_15) ?_
      exact kt
    obtain ⟨T111, h111, k111, X111, e111, E111, A111, st111⟩ := newP X110 hx hZ (hw _ (List.mem_of_getElem? (i := 8) rfl)) eq110 (g := (mkF m 16 #[.val (.int p0), .val (.int p1), .val (.int p2), .val (.int p3), .val (.int p4), .val (.int (4 : Int32)), .val (.ref a_STRINGS), .unset, .unset, .unset, .unset, .unset, .unset, .unset, .unset] [(.int (1 : Int32))])) rfl (hb hby at_16) rfl (by decide) (cap := 1) (by decide) (by decide) (by decide) (by decide)
    obtain ⟨b111, g111⟩ : ∃ z, z = h0.size := ⟨_, rfl⟩
    rw [← g111] at A111 st111
    have g_b111 : n0 ≤ b111 := Nat.le_trans Z0 (Nat.le_of_eq g111.symm)
    have kw_b111 : h0.size ≤ b111 := Nat.le_trans ((Keep.refl h0 ([] : List Addr))).1 (Nat.le_of_eq g111.symm)
    have K111 := ((Keep.refl h0 ([] : List Addr))).ext E111
    have Z111 : n0 ≤ h111.size := Nat.le_trans Z0 E111.1
    have hk111 := Nat.le_trans hk0 E111.1
    have V_b111 : Arv Z h111 b111 k111 .char (1 : Int32) [(.int (0 : Int32))] (.int (0 : Int32)) := (Arv.new A111 (by decide)).pad (pad_rep [] (.int (0 : Int32)) 1)
    refine own_st st111 ?_
    show own_Gl _ _ _ _ _ _ _ _ (T111.setTop (mkF m 18 #[.val (.int p0), .val (.int p1), .val (.int p2), .val (.int p3), .val (.int p4), .val (.int (4 : Int32)), .val (.ref a_STRINGS), .unset, .unset, .unset, .unset, .unset, .unset, .unset, .unset] [(.ref b111)]))
    refine own_st (A' := T111.setTop (mkF m 29 #[.val (.int p0), .val (.int p1), .val (.int p2), .val (.int p3), .val (.int p4), .val (.int (4 : Int32)), .val (.ref a_STRINGS), .val (.ref b111), .unset, .unset, .unset, .unset, .unset, .unset, .unset] [(.int ((p1 &&& (255 : Int32)).toUInt32.toUInt16.toUInt32.toInt32)), (.int (0 : Int32)), (.ref b111)])) (fun tg kt => ?_) ?_
    · show Steps p.tables e below (T111.setTop (mkF m 18 #[.val (.int p0), .val (.int p1), .val (.int p2), .val (.int p3), .val (.int p4), .val (.int (4 : Int32)), .val (.ref a_STRINGS), .unset, .unset, .unset, .unset, .unset, .unset, .unset, .unset] [(.ref b111)])) _
      refine XS.astore X111.here hx rfl (hb hby at_18) rfl rfl (l' := #[.val (.int p0), .val (.int p1), .val (.int p2), .val (.int p3), .val (.int p4), .val (.int (4 : Int32)), .val (.ref a_STRINGS), .val (.ref b111), .unset, .unset, .unset, .unset, .unset, .unset, .unset]) rfl ?_
      show Steps p.tables e below (T111.setTop (mkF m 20 #[.val (.int p0), .val (.int p1), .val (.int p2), .val (.int p3), .val (.int p4), .val (.int (4 : Int32)), .val (.ref a_STRINGS), .val (.ref b111), .unset, .unset, .unset, .unset, .unset, .unset, .unset] [])) _
      refine XS.aload X111.here hx rfl (hb hby at_20) rfl rfl ?_
      show Steps p.tables e below (T111.setTop (mkF m 22 #[.val (.int p0), .val (.int p1), .val (.int p2), .val (.int p3), .val (.int p4), .val (.int (4 : Int32)), .val (.ref a_STRINGS), .val (.ref b111), .unset, .unset, .unset, .unset, .unset, .unset, .unset] [(.ref b111)])) _
      refine XS.iconst X111.here hx rfl (hb hby at_22) ?_
      show Steps p.tables e below (T111.setTop (mkF m 23 #[.val (.int p0), .val (.int p1), .val (.int p2), .val (.int p3), .val (.int p4), .val (.int (4 : Int32)), .val (.ref a_STRINGS), .val (.ref b111), .unset, .unset, .unset, .unset, .unset, .unset, .unset] [(.int (0 : Int32)), (.ref b111)])) _
      refine XS.iloadN X111.here hx rfl (hb hby at_23) rfl ?_
      show Steps p.tables e below (T111.setTop (mkF m 24 #[.val (.int p0), .val (.int p1), .val (.int p2), .val (.int p3), .val (.int p4), .val (.int (4 : Int32)), .val (.ref a_STRINGS), .val (.ref b111), .unset, .unset, .unset, .unset, .unset, .unset, .unset] [(.int p1), (.int (0 : Int32)), (.ref b111)])) _
      refine XS.sipush X111.here hx rfl (hb hby at_24) ?_
      show Steps p.tables e below (T111.setTop (mkF m 27 #[.val (.int p0), .val (.int p1), .val (.int p2), .val (.int p3), .val (.int p4), .val (.int (4 : Int32)), .val (.ref a_STRINGS), .val (.ref b111), .unset, .unset, .unset, .unset, .unset, .unset, .unset] [(.int (255 : Int32)), (.int p1), (.int (0 : Int32)), (.ref b111)])) _
      refine XS.iand X111.here hx rfl (hb hby at_27) rfl ?_
      show Steps p.tables e below (T111.setTop (mkF m 28 #[.val (.int p0), .val (.int p1), .val (.int p2), .val (.int p3), .val (.int p4), .val (.int (4 : Int32)), .val (.ref a_STRINGS), .val (.ref b111), .unset, .unset, .unset, .unset, .unset, .unset, .unset] [(.int (p1 &&& (255 : Int32))), (.int (0 : Int32)), (.ref b111)])) _
      refine XS.i2c X111.here hx rfl (hb hby at_28) rfl ?_
      exact kt
    have Vt112 := V_b111
    obtain ⟨cl112, Ar112, qk112, Sz112, Nn112, Hs112, Gs112⟩ := Vt112
    have hin112 := inb_of (j := (0 : Int32)) Sz112 ⟨by decide, by decide⟩
    obtain ⟨T113, h113, X113, e113, W113, st113⟩ := stC X111 hx hZ e111 Ar112 (j := (0 : Int32)) hin112 (g := (mkF m 29 #[.val (.int p0), .val (.int p1), .val (.int p2), .val (.int p3), .val (.int p4), .val (.int (4 : Int32)), .val (.ref a_STRINGS), .val (.ref b111), .unset, .unset, .unset, .unset, .unset, .unset, .unset] [(.int ((p1 &&& (255 : Int32)).toUInt32.toUInt16.toUInt32.toInt32)), (.int (0 : Int32)), (.ref b111)])) rfl rfl (hb hby at_29)
    have N113 := Fr.snoc X113 N110 g_b111
    have K113 := (K111).wr W113 (Or.inr kw_b111)
    have Z113 : n0 ≤ h113.size := Nat.le_trans Z111 (Keep.of_wr W113).1
    have hk113 := Nat.le_trans hk111 (Keep.of_wr W113).1
    have V113 : Arv Z h113 b111 k111 .char (1 : Int32) [(.int (nar .char ((p1 &&& (255 : Int32)).toUInt32.toUInt16.toUInt32.toInt32)))] (.int (0 : Int32)) := Arv.set Ar112 qk112 Sz112 Nn112 Hs112 Gs112 (fits_nar_char _) W113 0 rfl (Nat.le_of_ble_eq_true rfl)
    refine own_st st113 ?_
    show own_Gl _ _ _ _ _ _ _ _ (T113.setTop (mkF m 30 #[.val (.int p0), .val (.int p1), .val (.int p2), .val (.int p3), .val (.int p4), .val (.int (4 : Int32)), .val (.ref a_STRINGS), .val (.ref b111), .unset, .unset, .unset, .unset, .unset, .unset, .unset] []))
    obtain ⟨T114, h114, X114, e114, E114, A114, D114, -, st114⟩ := newO X113 hx hZ hown (hw _ (List.mem_of_getElem? (i := 9) rfl)) (hw _ (List.mem_of_getElem? (i := 10) rfl)) (hw _ (List.mem_of_getElem? (i := 11) rfl)) e113 (g := (mkF m 30 #[.val (.int p0), .val (.int p1), .val (.int p2), .val (.int p3), .val (.int p4), .val (.int (4 : Int32)), .val (.ref a_STRINGS), .val (.ref b111), .unset, .unset, .unset, .unset, .unset, .unset, .unset] [])) rfl (hb hby at_30) (by decide) (by decide)
    obtain ⟨b114, g114⟩ : ∃ z, z = h113.size := ⟨_, rfl⟩
    rw [← g114] at A114 D114 st114
    have g_b114 : n0 ≤ b114 := Nat.le_trans Z113 (Nat.le_of_eq g114.symm)
    have kw_b114 : h0.size ≤ b114 := Nat.le_trans (K113).1 (Nat.le_of_eq g114.symm)
    have ne_b111_b114 : b111 ≠ b114 := Nat.ne_of_lt (Nat.lt_of_lt_of_le V113.lt (Nat.le_of_eq g114.symm))
    have K114 := (K113).ext E114
    have Z114 : n0 ≤ h114.size := Nat.le_trans Z113 E114.1
    have hk114 := Nat.le_trans hk113 E114.1
    have F_coder_b114 : Fld Z h114 b114 "java/lang/String" "coder" "B" (.int (0 : Int32)) := D114 (Or.inr (hw _ (List.mem_of_getElem? (i := 35) rfl))) (ty := .byte) (by decide)
    have F_value_b114 : Fld Z h114 b114 "java/lang/String" "value" "[B" .null := D114 (Or.inr (hw _ (List.mem_of_getElem? (i := 37) rfl))) (ty := (.array .byte)) (by decide)
    refine own_st st114 ?_
    show own_Gl _ _ _ _ _ _ _ _ (T114.setTop (mkF m 33 #[.val (.int p0), .val (.int p1), .val (.int p2), .val (.int p3), .val (.int p4), .val (.int (4 : Int32)), .val (.ref a_STRINGS), .val (.ref b111), .unset, .unset, .unset, .unset, .unset, .unset, .unset] [(.ref b114)]))
    refine own_st (A' := T114.setTop (mkF m 36 #[.val (.int p0), .val (.int p1), .val (.int p2), .val (.int p3), .val (.int p4), .val (.int (4 : Int32)), .val (.ref a_STRINGS), .val (.ref b111), .unset, .unset, .unset, .unset, .unset, .unset, .unset] [(.ref b111), (.ref b114), (.ref b114)])) (fun tg kt => ?_) ?_
    · show Steps p.tables e below (T114.setTop (mkF m 33 #[.val (.int p0), .val (.int p1), .val (.int p2), .val (.int p3), .val (.int p4), .val (.int (4 : Int32)), .val (.ref a_STRINGS), .val (.ref b111), .unset, .unset, .unset, .unset, .unset, .unset, .unset] [(.ref b114)])) _
      refine XS.dup X114.here hx rfl (hb hby at_33) rfl rfl ?_
      show Steps p.tables e below (T114.setTop (mkF m 34 #[.val (.int p0), .val (.int p1), .val (.int p2), .val (.int p3), .val (.int p4), .val (.int (4 : Int32)), .val (.ref a_STRINGS), .val (.ref b111), .unset, .unset, .unset, .unset, .unset, .unset, .unset] [(.ref b114), (.ref b114)])) _
      refine XS.aload X114.here hx rfl (hb hby at_34) rfl rfl ?_
      exact kt
    have hlat : ∀ c ∈ [(nar .char ((p1 &&& (255 : Int32)).toUInt32.toUInt16.toUInt32.toInt32))], ¬ c < 0 ∧ ¬ (255 : Int32) < c := own_lat p1
    obtain ⟨_, _, ⟨T115, L115, k115, n115⟩, -, X115, ⟨Lc115, hQ115, l115, y115, z115⟩, st115⟩ := X114.specialBack hx (y := (⟨"java/lang/String", "<init>", "([C)V"⟩ : MethodName)) rfl hown (mvT hZ (hw _ (List.mem_of_getElem? (i := 12) rfl))) (mvT hZ (hw _ (List.mem_of_getElem? (i := 13) rfl))) (mvT hZ (hw _ (List.mem_of_getElem? (i := 14) rfl))) (by decide) (StrChars.Road.backV (W := 1) hZ (own_sw hw) (kI := 4) (hw _ (List.mem_of_getElem? (i := 10) rfl)) (cs := [(nar .char ((p1 &&& (255 : Int32)).toUInt32.toUInt16.toUInt32.toInt32))]) (bs := [((nar .char ((p1 &&& (255 : Int32)).toUInt32.toUInt16.toUInt32.toInt32))).toInt8.toInt32]) (n := 1) g_b114 Z114 A114 F_value_b114 F_coder_b114 (V113.ext E114) (S_cs.ext (own_kext K114)) hcs rfl rfl (by decide) (by decide) hlat rfl (by decide) (by decide)) (g := (mkF m 36 #[.val (.int p0), .val (.int p1), .val (.int p2), .val (.int p3), .val (.int p4), .val (.int (4 : Int32)), .val (.ref a_STRINGS), .val (.ref b111), .unset, .unset, .unset, .unset, .unset, .unset, .unset] [(.ref b111), (.ref b114), (.ref b114)])) rfl (by rw [hml]; rfl) (Steps.refl _) (a := b114) (argsL := [(.ref b111)]) (rest := [(.ref b114)]) (lenOf own_pd16 rfl) rfl (by show 2 * 0 + _ ≤ _; exact Nat.le_of_eq rfl) (hb hby at_36) (fun _ _ => ⟨rfl, e114, (by decide : 2 + 1 ≤ _), (by decide : 5 + 1 ≤ _)⟩)
    dsimp only [Pt.U, Pt.locs, Pt.cells, Pt.slots] at X115 l115 y115 z115 st115 hQ115
    subst l115 y115 z115
    obtain ⟨rfl, Nq115, Kq115, Eq115, Cq115, sv, skb, hn115, hs115, hne115, Vq115, Aq115⟩ := hQ115
    have N115 := Fr.app N113 Nq115
    have K115 := (K114).trans Kq115 (allS (Or.inr kw_b114) all0)
    have Z115 : n0 ≤ T115.heap.size := Nat.le_trans Z114 Kq115.1
    have hk115 := Nat.le_trans hk114 Kq115.1
    refine own_tr st115 ?_
    show own_Gl _ _ _ _ _ _ _ _ (T115.setTop (mkF m 39 #[.val (.int p0), .val (.int p1), .val (.int p2), .val (.int p3), .val (.int p4), .val (.int (4 : Int32)), .val (.ref a_STRINGS), .val (.ref b111), .unset, .unset, .unset, .unset, .unset, .unset, .unset] [(.ref b114)]))
    refine own_st (A' := T115.setTop (mkF m 44 #[.val (.int p0), .val (.int p1), .val (.int p2), .val (.int p3), .val (.int p4), .val (.int (4 : Int32)), .val (.ref a_STRINGS), .val (.ref b111), .val (.ref b114), .unset, .unset, .unset, .unset, .unset, .unset] [(.int (p2 &&& (1 : Int32)))])) (fun tg kt => ?_) ?_
    · show Steps p.tables e below (T115.setTop (mkF m 39 #[.val (.int p0), .val (.int p1), .val (.int p2), .val (.int p3), .val (.int p4), .val (.int (4 : Int32)), .val (.ref a_STRINGS), .val (.ref b111), .unset, .unset, .unset, .unset, .unset, .unset, .unset] [(.ref b114)])) _
      refine XS.astore X115.here hx rfl (hb hby at_39) rfl rfl (l' := #[.val (.int p0), .val (.int p1), .val (.int p2), .val (.int p3), .val (.int p4), .val (.int (4 : Int32)), .val (.ref a_STRINGS), .val (.ref b111), .val (.ref b114), .unset, .unset, .unset, .unset, .unset, .unset]) rfl ?_
      show Steps p.tables e below (T115.setTop (mkF m 41 #[.val (.int p0), .val (.int p1), .val (.int p2), .val (.int p3), .val (.int p4), .val (.int (4 : Int32)), .val (.ref a_STRINGS), .val (.ref b111), .val (.ref b114), .unset, .unset, .unset, .unset, .unset, .unset] [])) _
      refine XS.iloadN X115.here hx rfl (hb hby at_41) rfl ?_
      show Steps p.tables e below (T115.setTop (mkF m 42 #[.val (.int p0), .val (.int p1), .val (.int p2), .val (.int p3), .val (.int p4), .val (.int (4 : Int32)), .val (.ref a_STRINGS), .val (.ref b111), .val (.ref b114), .unset, .unset, .unset, .unset, .unset, .unset] [(.int p2)])) _
      refine XS.iconst X115.here hx rfl (hb hby at_42) ?_
      show Steps p.tables e below (T115.setTop (mkF m 43 #[.val (.int p0), .val (.int p1), .val (.int p2), .val (.int p3), .val (.int p4), .val (.int (4 : Int32)), .val (.ref a_STRINGS), .val (.ref b111), .val (.ref b114), .unset, .unset, .unset, .unset, .unset, .unset] [(.int (1 : Int32)), (.int p2)])) _
      refine XS.iand X115.here hx rfl (hb hby at_43) rfl ?_
      exact kt
    by_cases hc44_116 : (p2 &&& (1 : Int32)) = (0 : Int32)
    · refine own_st (A' := T115.setTop (mkF m 68 #[.val (.int p0), .val (.int p1), .val (.int p2), .val (.int p3), .val (.int p4), .val (.int (4 : Int32)), .val (.ref a_STRINGS), .val (.ref b111), .val (.ref b114), .val (.int (0 : Int32)), .unset, .unset, .unset, .unset, .unset] [(.int (p2 &&& (2 : Int32)))])) (fun tg kt => ?_) ?_
      · show Steps p.tables e below (T115.setTop (mkF m 44 #[.val (.int p0), .val (.int p1), .val (.int p2), .val (.int p3), .val (.int p4), .val (.int (4 : Int32)), .val (.ref a_STRINGS), .val (.ref b111), .val (.ref b114), .unset, .unset, .unset, .unset, .unset, .unset] [(.int (p2 &&& (1 : Int32)))])) _
        refine XS.ifYes X115.here hx rfl (pc0 := 44) (pc' := 57) rfl (hb hby at_44) rfl ((if0 _ _).trans (teq hc44_116).1) (by decide) (by decide) ?_
        show Steps p.tables e below (T115.setTop (mkF m 57 #[.val (.int p0), .val (.int p1), .val (.int p2), .val (.int p3), .val (.int p4), .val (.int (4 : Int32)), .val (.ref a_STRINGS), .val (.ref b111), .val (.ref b114), .unset, .unset, .unset, .unset, .unset, .unset] [])) _
        refine XS.iconst X115.here hx rfl (hb hby at_57) ?_
        show Steps p.tables e below (T115.setTop (mkF m 58 #[.val (.int p0), .val (.int p1), .val (.int p2), .val (.int p3), .val (.int p4), .val (.int (4 : Int32)), .val (.ref a_STRINGS), .val (.ref b111), .val (.ref b114), .unset, .unset, .unset, .unset, .unset, .unset] [(.int (0 : Int32))])) _
        refine XS.istore X115.here hx rfl (hb hby at_58) rfl (l' := #[.val (.int p0), .val (.int p1), .val (.int p2), .val (.int p3), .val (.int p4), .val (.int (4 : Int32)), .val (.ref a_STRINGS), .val (.ref b111), .val (.ref b114), .val (.int (0 : Int32)), .unset, .unset, .unset, .unset, .unset]) rfl ?_
        show Steps p.tables e below (T115.setTop (mkF m 60 #[.val (.int p0), .val (.int p1), .val (.int p2), .val (.int p3), .val (.int p4), .val (.int (4 : Int32)), .val (.ref a_STRINGS), .val (.ref b111), .val (.ref b114), .val (.int (0 : Int32)), .unset, .unset, .unset, .unset, .unset] [])) _
        refine XS.iload X115.here hx rfl (hb hby at_60) rfl ?_
        show Steps p.tables e below (T115.setTop (mkF m 62 #[.val (.int p0), .val (.int p1), .val (.int p2), .val (.int p3), .val (.int p4), .val (.int (4 : Int32)), .val (.ref a_STRINGS), .val (.ref b111), .val (.ref b114), .val (.int (0 : Int32)), .unset, .unset, .unset, .unset, .unset] [(.int (0 : Int32))])) _
        refine XS.ifNo X115.here hx rfl (hb hby at_62) rfl ((if0 _ _).trans (teq ((by decide) : (0 : Int32) = (0 : Int32))).2) ?_
        show Steps p.tables e below (T115.setTop (mkF m 65 #[.val (.int p0), .val (.int p1), .val (.int p2), .val (.int p3), .val (.int p4), .val (.int (4 : Int32)), .val (.ref a_STRINGS), .val (.ref b111), .val (.ref b114), .val (.int (0 : Int32)), .unset, .unset, .unset, .unset, .unset] [])) _
        refine XS.iloadN X115.here hx rfl (hb hby at_65) rfl ?_
        show Steps p.tables e below (T115.setTop (mkF m 66 #[.val (.int p0), .val (.int p1), .val (.int p2), .val (.int p3), .val (.int p4), .val (.int (4 : Int32)), .val (.ref a_STRINGS), .val (.ref b111), .val (.ref b114), .val (.int (0 : Int32)), .unset, .unset, .unset, .unset, .unset] [(.int p2)])) _
        refine XS.iconst X115.here hx rfl (hb hby at_66) ?_
        show Steps p.tables e below (T115.setTop (mkF m 67 #[.val (.int p0), .val (.int p1), .val (.int p2), .val (.int p3), .val (.int p4), .val (.int (4 : Int32)), .val (.ref a_STRINGS), .val (.ref b111), .val (.ref b114), .val (.int (0 : Int32)), .unset, .unset, .unset, .unset, .unset] [(.int (2 : Int32)), (.int p2)])) _
        refine XS.iand X115.here hx rfl (hb hby at_67) rfl ?_
        exact kt
      by_cases hc68_117 : (p2 &&& (2 : Int32)) = (0 : Int32)
      · refine own_st (A' := T115.setTop (mkF m 90 #[.val (.int p0), .val (.int p1), .val (.int p2), .val (.int p3), .val (.int p4), .val (.int (4 : Int32)), .val (.ref a_STRINGS), .val (.ref b111), .val (.ref b114), .val (.int (0 : Int32)), .unset, .val .null, .unset, .unset, .unset] [])) (fun tg kt => ?_) ?_
        · show Steps p.tables e below (T115.setTop (mkF m 68 #[.val (.int p0), .val (.int p1), .val (.int p2), .val (.int p3), .val (.int p4), .val (.int (4 : Int32)), .val (.ref a_STRINGS), .val (.ref b111), .val (.ref b114), .val (.int (0 : Int32)), .unset, .unset, .unset, .unset, .unset] [(.int (p2 &&& (2 : Int32)))])) _
          refine XS.ifYes X115.here hx rfl (pc0 := 68) (pc' := 87) rfl (hb hby at_68) rfl ((if0 _ _).trans (teq hc68_117).1) (by decide) (by decide) ?_
          show Steps p.tables e below (T115.setTop (mkF m 87 #[.val (.int p0), .val (.int p1), .val (.int p2), .val (.int p3), .val (.int p4), .val (.int (4 : Int32)), .val (.ref a_STRINGS), .val (.ref b111), .val (.ref b114), .val (.int (0 : Int32)), .unset, .unset, .unset, .unset, .unset] [])) _
          refine XS.aconstNull X115.here hx rfl (hb hby at_87) ?_
          show Steps p.tables e below (T115.setTop (mkF m 88 #[.val (.int p0), .val (.int p1), .val (.int p2), .val (.int p3), .val (.int p4), .val (.int (4 : Int32)), .val (.ref a_STRINGS), .val (.ref b111), .val (.ref b114), .val (.int (0 : Int32)), .unset, .unset, .unset, .unset, .unset] [.null])) _
          refine XS.astore X115.here hx rfl (hb hby at_88) rfl rfl (l' := #[.val (.int p0), .val (.int p1), .val (.int p2), .val (.int p3), .val (.int p4), .val (.int (4 : Int32)), .val (.ref a_STRINGS), .val (.ref b111), .val (.ref b114), .val (.int (0 : Int32)), .unset, .val .null, .unset, .unset, .unset]) rfl ?_
          exact kt
        obtain ⟨T118, h118, X118, e118, E118, A118, D118, -, st118⟩ := newO X115 hx hZ hown (hw _ (List.mem_of_getElem? (i := 38) rfl)) (hw _ (List.mem_of_getElem? (i := 39) rfl)) (hw _ (List.mem_of_getElem? (i := 40) rfl)) rfl (g := (mkF m 90 #[.val (.int p0), .val (.int p1), .val (.int p2), .val (.int p3), .val (.int p4), .val (.int (4 : Int32)), .val (.ref a_STRINGS), .val (.ref b111), .val (.ref b114), .val (.int (0 : Int32)), .unset, .val .null, .unset, .unset, .unset] [])) rfl (hb hby at_90) (by decide) (by decide)
        obtain ⟨b118, g118⟩ : ∃ z, z = T115.heap.size := ⟨_, rfl⟩
        rw [← g118] at A118 D118 st118
        have g_b118 : n0 ≤ b118 := Nat.le_trans Z115 (Nat.le_of_eq g118.symm)
        have kw_b118 : h0.size ≤ b118 := Nat.le_trans (K115).1 (Nat.le_of_eq g118.symm)
        have ne_b111_b118 : b111 ≠ b118 := Nat.ne_of_lt (Nat.lt_of_lt_of_le ((V113.ext E114).keep Kq115 (ninS ne_b111_b114 nin0)).lt (Nat.le_of_eq g118.symm))
        have ne_b114_b118 : b114 ≠ b118 := Nat.ne_of_lt (Nat.lt_of_lt_of_le Eq115.lt (Nat.le_of_eq g118.symm))
        have ne_sv_b118 : sv ≠ b118 := Nat.ne_of_lt (Nat.lt_of_lt_of_le Aq115.lt (Nat.le_of_eq g118.symm))
        have K118 := (K115).ext E118
        have Z118 : n0 ≤ h118.size := Nat.le_trans Z115 E118.1
        have hk118 := Nat.le_trans hk115 E118.1
        have F_name_b118 : Fld Z h118 b118 "com/example/inexact_search/inexactsearch/engine/Attribute" "name" "Ljava/lang/String;" .null := D118 (Or.inr (hw _ (List.mem_of_getElem? (i := 62) rfl))) (ty := (.object "java/lang/String")) (by decide)
        have F_type_b118 : Fld Z h118 b118 "com/example/inexact_search/inexactsearch/engine/Attribute" "type" "Lcom/example/inexact_search/inexactsearch/engine/AttributeType;" .null := D118 (Or.inr (hw _ (List.mem_of_getElem? (i := 64) rfl))) (ty := (.object "com/example/inexact_search/inexactsearch/engine/AttributeType")) (by decide)
        have F_declaredMin_b118 : Fld Z h118 b118 "com/example/inexact_search/inexactsearch/engine/Attribute" "declaredMin" "Ljava/lang/Double;" .null := D118 (Or.inr (hw _ (List.mem_of_getElem? (i := 66) rfl))) (ty := (.object "java/lang/Double")) (by decide)
        have F_declaredMax_b118 : Fld Z h118 b118 "com/example/inexact_search/inexactsearch/engine/Attribute" "declaredMax" "Ljava/lang/Double;" .null := D118 (Or.inr (hw _ (List.mem_of_getElem? (i := 68) rfl))) (ty := (.object "java/lang/Double")) (by decide)
        refine own_st st118 ?_
        show own_Gl _ _ _ _ _ _ _ _ (T118.setTop (mkF m 93 #[.val (.int p0), .val (.int p1), .val (.int p2), .val (.int p3), .val (.int p4), .val (.int (4 : Int32)), .val (.ref a_STRINGS), .val (.ref b111), .val (.ref b114), .val (.int (0 : Int32)), .unset, .val .null, .unset, .unset, .unset] [(.ref b118)]))
        refine own_st (A' := T118.setTop (mkF m 102 #[.val (.int p0), .val (.int p1), .val (.int p2), .val (.int p3), .val (.int p4), .val (.int (4 : Int32)), .val (.ref a_STRINGS), .val (.ref b111), .val (.ref b114), .val (.int (0 : Int32)), .unset, .val .null, .unset, .unset, .unset] [.null, .null, (.ref a_STRINGS), (.ref b114), (.ref b118), (.ref b118)])) (fun tg kt => ?_) ?_
        · show Steps p.tables e below (T118.setTop (mkF m 93 #[.val (.int p0), .val (.int p1), .val (.int p2), .val (.int p3), .val (.int p4), .val (.int (4 : Int32)), .val (.ref a_STRINGS), .val (.ref b111), .val (.ref b114), .val (.int (0 : Int32)), .unset, .val .null, .unset, .unset, .unset] [(.ref b118)])) _
          refine XS.dup X118.here hx rfl (hb hby at_93) rfl rfl ?_
          show Steps p.tables e below (T118.setTop (mkF m 94 #[.val (.int p0), .val (.int p1), .val (.int p2), .val (.int p3), .val (.int p4), .val (.int (4 : Int32)), .val (.ref a_STRINGS), .val (.ref b111), .val (.ref b114), .val (.int (0 : Int32)), .unset, .val .null, .unset, .unset, .unset] [(.ref b118), (.ref b118)])) _
          refine XS.aload X118.here hx rfl (hb hby at_94) rfl rfl ?_
          show Steps p.tables e below (T118.setTop (mkF m 96 #[.val (.int p0), .val (.int p1), .val (.int p2), .val (.int p3), .val (.int p4), .val (.int (4 : Int32)), .val (.ref a_STRINGS), .val (.ref b111), .val (.ref b114), .val (.int (0 : Int32)), .unset, .val .null, .unset, .unset, .unset] [(.ref b114), (.ref b118), (.ref b118)])) _
          refine XS.aload X118.here hx rfl (hb hby at_96) rfl rfl ?_
          show Steps p.tables e below (T118.setTop (mkF m 98 #[.val (.int p0), .val (.int p1), .val (.int p2), .val (.int p3), .val (.int p4), .val (.int (4 : Int32)), .val (.ref a_STRINGS), .val (.ref b111), .val (.ref b114), .val (.int (0 : Int32)), .unset, .val .null, .unset, .unset, .unset] [(.ref a_STRINGS), (.ref b114), (.ref b118), (.ref b118)])) _
          refine XS.aload X118.here hx rfl (hb hby at_98) rfl rfl ?_
          show Steps p.tables e below (T118.setTop (mkF m 100 #[.val (.int p0), .val (.int p1), .val (.int p2), .val (.int p3), .val (.int p4), .val (.int (4 : Int32)), .val (.ref a_STRINGS), .val (.ref b111), .val (.ref b114), .val (.int (0 : Int32)), .unset, .val .null, .unset, .unset, .unset] [.null, (.ref a_STRINGS), (.ref b114), (.ref b118), (.ref b118)])) _
          refine XS.aload X118.here hx rfl (hb hby at_100) rfl rfl ?_
          exact kt
        obtain ⟨_, _, ⟨T119, L119, k119, n119⟩, -, X119, hSq119, hgq119, ⟨Lc119, hQ119, l119, y119, z119⟩, st119⟩ := X118.specialBackS hx (y := (⟨"com/example/inexact_search/inexactsearch/engine/Attribute", "<init>", "(Ljava/lang/String;Lcom/example/inexact_search/inexactsearch/engine/AttributeType;Ljava/lang/Double;Ljava/lang/Double;)V"⟩ : MethodName)) rfl hown (mvT hZ (hw _ (List.mem_of_getElem? (i := 78) rfl))) (mvT hZ (hw _ (List.mem_of_getElem? (i := 45) rfl))) (mvT hZ (hw _ (List.mem_of_getElem? (i := 46) rfl))) (by decide) (backOfS (W := 1) (rm9n l Z a0 hw [] b118 b114 a_STRINGS sv skb ([((nar .char ((p1 &&& (255 : Int32)).toUInt32.toUInt16.toUInt32.toInt32))).toInt8.toInt32].map Value.int) h118 n0 Z118 F_name_b118 F_type_b118 F_declaredMin_b118 F_declaredMax_b118 A118 g_b118 (Eq115.ext E118) (Vq115.ext E118) (Aq115.ext E118) ne_b114_b118 ne_sv_b118) hZ (hw _ (List.mem_of_getElem? (i := 46) rfl)) (hw _ (List.mem_of_getElem? (i := 40) rfl)) (by decide) (by decide)) (g := (mkF m 102 #[.val (.int p0), .val (.int p1), .val (.int p2), .val (.int p3), .val (.int p4), .val (.int (4 : Int32)), .val (.ref a_STRINGS), .val (.ref b111), .val (.ref b114), .val (.int (0 : Int32)), .unset, .val .null, .unset, .unset, .unset] [.null, .null, (.ref a_STRINGS), (.ref b114), (.ref b118), (.ref b118)])) rfl (by rw [hml]; rfl) (Steps.refl _) (a := b118) (argsL := [(.ref b114), (.ref a_STRINGS), .null, .null]) (rest := [(.ref b118)]) (lenOf own_pd14 rfl) rfl (by show 2 * 0 + _ ≤ _; exact Nat.le_of_eq rfl) (hb hby at_102) (fun _ _ => ⟨rfl, e118, (by decide : 4 + 4 ≤ _), (by decide : 10 + 40 ≤ _)⟩)
        dsimp only [Pt.U, Pt.locs, Pt.cells, Pt.slots] at X119 l119 y119 z119 st119 hQ119 hSq119 hgq119
        subst l119 y119 z119
        replace X119 : Stand p l e _ (s.setVm T119.vm) m _ below meth c T119 _ _ _ := X119
        have hS119 : s.Since T119.vm T119.heap.size := hS0.trans hSq119 (Nat.le_trans hk118 (by rw [← e118]; exact hgq119))
        have hZ119 : Z.Warmed39 (s.setVm T119.vm).vm := State.Warmed39.trans (t := (s.setVm s.vm)) hZ hSq119.1
        have hown119 : (s.setVm T119.vm).vm.findClass "com/example/inexact_search/inexactsearch/engine/AttributeHasDeclaredRangePinLaw" = some m.cls := by rw [show (s.setVm T119.vm).vm = T119.vm from rfl, hSq119.1.alike.findClass]; exact hown
        have hk119 : T119.heap.size ≤ T119.heap.size := Nat.le_refl _
        obtain ⟨rfl, Nq119, Kq119, Eq119, Fq119⟩ := hQ119
        have N119 := Fr.app N115 Nq119
        have Fa120 := ((((V113.ext E114).keep Kq115 (ninS ne_b111_b114 nin0)).ext E118).keep Kq119 (ninS ne_b111_b118 nin0))
        have K119 := (K118).trans Kq119 (allS (Or.inr kw_b118) all0)
        have Z119 : n0 ≤ T119.heap.size := Nat.le_trans Z118 Kq119.1
        refine own_tr st119 ?_
        show own_Gl _ _ _ _ _ _ _ _ (T119.setTop (mkF m 105 #[.val (.int p0), .val (.int p1), .val (.int p2), .val (.int p3), .val (.int p4), .val (.int (4 : Int32)), .val (.ref a_STRINGS), .val (.ref b111), .val (.ref b114), .val (.int (0 : Int32)), .unset, .val .null, .unset, .unset, .unset] [(.ref b118)]))
        refine own_st (A' := T119.setTop (mkF m 109 #[.val (.int p0), .val (.int p1), .val (.int p2), .val (.int p3), .val (.int p4), .val (.int (4 : Int32)), .val (.ref a_STRINGS), .val (.ref b111), .val (.ref b114), .val (.int (0 : Int32)), .val (.ref b118), .val .null, .unset, .unset, .unset] [(.ref b118)])) (fun tg kt => ?_) ?_
        · show Steps p.tables e below (T119.setTop (mkF m 105 #[.val (.int p0), .val (.int p1), .val (.int p2), .val (.int p3), .val (.int p4), .val (.int (4 : Int32)), .val (.ref a_STRINGS), .val (.ref b111), .val (.ref b114), .val (.int (0 : Int32)), .unset, .val .null, .unset, .unset, .unset] [(.ref b118)])) _
          refine XS.astore X119.here hx rfl (hb hby at_105) rfl rfl (l' := #[.val (.int p0), .val (.int p1), .val (.int p2), .val (.int p3), .val (.int p4), .val (.int (4 : Int32)), .val (.ref a_STRINGS), .val (.ref b111), .val (.ref b114), .val (.int (0 : Int32)), .val (.ref b118), .val .null, .unset, .unset, .unset]) rfl ?_
          show Steps p.tables e below (T119.setTop (mkF m 107 #[.val (.int p0), .val (.int p1), .val (.int p2), .val (.int p3), .val (.int p4), .val (.int (4 : Int32)), .val (.ref a_STRINGS), .val (.ref b111), .val (.ref b114), .val (.int (0 : Int32)), .val (.ref b118), .val .null, .unset, .unset, .unset] [])) _
          refine XS.aload X119.here hx rfl (hb hby at_107) rfl rfl ?_
          exact kt
        obtain ⟨cq121, kq121, q121a, q121b, q121c⟩ := isOf hZ119 rfl Eq119
        obtain ⟨_, _, ⟨T121, L121, k121, n121⟩, -, X121, ⟨Lc121, hQ121, l121, y121, z121⟩, st121⟩ := X119.virtualBack hx (y := (⟨"com/example/inexact_search/inexactsearch/engine/Attribute", "hasDeclaredRange", "()Z"⟩ : MethodName)) (z := (⟨"com/example/inexact_search/inexactsearch/engine/Attribute", "hasDeclaredRange", "()Z"⟩ : MethodName)) hown119 (mvT hZ119 (hw _ (List.mem_of_getElem? (i := 69) rfl))) (mvT hZ119 (hw _ (List.mem_of_getElem? (i := 70) rfl))) (notFace_of_selects (args := #[]) (mvT hZ119 (hw _ (List.mem_of_getElem? (i := 72) rfl)))) (mvT hZ119 (hw _ (List.mem_of_getElem? (i := 72) rfl))) (mvT hZ119 (hw _ (List.mem_of_getElem? (i := 71) rfl))) (by decide) (backOf (W := 0) (rm12n l Z a0 hw [] b118 T119.heap n0 Z119 Fq119) hZ119 (hw _ (List.mem_of_getElem? (i := 73) rfl)) (hw _ (List.mem_of_getElem? (i := 40) rfl)) (by decide) (by decide)) q121a q121c (g := (mkF m 109 #[.val (.int p0), .val (.int p1), .val (.int p2), .val (.int p3), .val (.int p4), .val (.int (4 : Int32)), .val (.ref a_STRINGS), .val (.ref b111), .val (.ref b114), .val (.int (0 : Int32)), .val (.ref b118), .val .null, .unset, .unset, .unset] [(.ref b118)])) rfl (by rw [hml]; rfl) (Steps.refl _) (argsL := []) (rest := []) (lenOf own_pd10 rfl) rfl (by show 2 * 0 + _ ≤ _; exact Nat.le_of_eq rfl) (hb hby at_109) (fun _ _ => ⟨rfl, rfl, (by decide : 8 + 0 ≤ _), (by decide : 50 + 0 ≤ _)⟩)
        dsimp only [Pt.U, Pt.locs, Pt.cells, Pt.slots] at X121 l121 y121 z121 st121 hQ121
        subst l121 y121 z121
        obtain ⟨rfl, Nq121, eq121⟩ := hQ121
        have N121 := Fr.app N119 Nq121
        refine own_tr st121 ?_
        show own_Gl _ _ _ _ _ _ _ _ (T121.setTop (mkF m 112 #[.val (.int p0), .val (.int p1), .val (.int p2), .val (.int p3), .val (.int p4), .val (.int (4 : Int32)), .val (.ref a_STRINGS), .val (.ref b111), .val (.ref b114), .val (.int (0 : Int32)), .val (.ref b118), .val .null, .unset, .unset, .unset] [(.int (0 : Int32))]))
        refine own_st (A' := T121.setTop (mkF m 120 #[.val (.int p0), .val (.int p1), .val (.int p2), .val (.int p3), .val (.int p4), .val (.int (4 : Int32)), .val (.ref a_STRINGS), .val (.ref b111), .val (.ref b114), .val (.int (0 : Int32)), .val (.ref b118), .val .null, .unset, .unset, .unset] [(.int (1 : Int32))])) (fun tg kt => ?_) ?_
        · show Steps p.tables e below (T121.setTop (mkF m 112 #[.val (.int p0), .val (.int p1), .val (.int p2), .val (.int p3), .val (.int p4), .val (.int (4 : Int32)), .val (.ref a_STRINGS), .val (.ref b111), .val (.ref b114), .val (.int (0 : Int32)), .val (.ref b118), .val .null, .unset, .unset, .unset] [(.int (0 : Int32))])) _
          refine XS.ifNo X121.here hx rfl (hb hby at_112) rfl ((if0 _ _).trans (teq ((by decide) : (0 : Int32) = (0 : Int32))).2) ?_
          show Steps p.tables e below (T121.setTop (mkF m 115 #[.val (.int p0), .val (.int p1), .val (.int p2), .val (.int p3), .val (.int p4), .val (.int (4 : Int32)), .val (.ref a_STRINGS), .val (.ref b111), .val (.ref b114), .val (.int (0 : Int32)), .val (.ref b118), .val .null, .unset, .unset, .unset] [])) _
          refine XS.iconst X121.here hx rfl (hb hby at_115) ?_
          show Steps p.tables e below (T121.setTop (mkF m 116 #[.val (.int p0), .val (.int p1), .val (.int p2), .val (.int p3), .val (.int p4), .val (.int (4 : Int32)), .val (.ref a_STRINGS), .val (.ref b111), .val (.ref b114), .val (.int (0 : Int32)), .val (.ref b118), .val .null, .unset, .unset, .unset] [(.int (1 : Int32))])) _
          refine XS.goto X121.here hx rfl (pc0 := 116) (pc' := 120) rfl (hb hby at_116) (by decide) (by decide) ?_
          exact kt
        refine own_retW X121 hS119 (by rw [eq121]; exact hk119) (v := some (.int (1 : Int32))) (fun h => by rw [Bd.returns] at h; cases h) hlk (by decide) (by decide) ?_ (fun fs hr => ?_)
        · show Q0 Z p0 p1 p2 p3 p4 a_INTEGER a_DECIMAL a_STRING a_BOOLEAN a_STRINGS cs h0 n0 (some (.int (1 : Int32))) T121.heap _
          rw [eq121]
          exact ⟨rfl, N121⟩
        · show Steps p.tables e below (T121.setTop (mkF m 120 #[.val (.int p0), .val (.int p1), .val (.int p2), .val (.int p3), .val (.int p4), .val (.int (4 : Int32)), .val (.ref a_STRINGS), .val (.ref b111), .val (.ref b114), .val (.int (0 : Int32)), .val (.ref b118), .val .null, .unset, .unset, .unset] [(.int (1 : Int32))])) _
          exact retN X121 hx (t := .boolean) Bd.returns (by simp) (hb hby at_120) hr
      · refine own_st (A' := T115.setTop (mkF m 71 #[.val (.int p0), .val (.int p1), .val (.int p2), .val (.int p3), .val (.int p4), .val (.int (4 : Int32)), .val (.ref a_STRINGS), .val (.ref b111), .val (.ref b114), .val (.int (0 : Int32)), .unset, .unset, .unset, .unset, .unset] [])) (fun tg kt => ?_) ?_
        · show Steps p.tables e below (T115.setTop (mkF m 68 #[.val (.int p0), .val (.int p1), .val (.int p2), .val (.int p3), .val (.int p4), .val (.int (4 : Int32)), .val (.ref a_STRINGS), .val (.ref b111), .val (.ref b114), .val (.int (0 : Int32)), .unset, .unset, .unset, .unset, .unset] [(.int (p2 &&& (2 : Int32)))])) _
          refine XS.ifNo X115.here hx rfl (hb hby at_68) rfl ((if0 _ _).trans (feq hc68_117).1) ?_
          exact kt
        obtain ⟨T122, h122, X122, e122, E122, A122, D122, -, st122⟩ := newO X115 hx hZ hown (hw _ (List.mem_of_getElem? (i := 38) rfl)) (hw _ (List.mem_of_getElem? (i := 39) rfl)) (hw _ (List.mem_of_getElem? (i := 40) rfl)) rfl (g := (mkF m 71 #[.val (.int p0), .val (.int p1), .val (.int p2), .val (.int p3), .val (.int p4), .val (.int (4 : Int32)), .val (.ref a_STRINGS), .val (.ref b111), .val (.ref b114), .val (.int (0 : Int32)), .unset, .unset, .unset, .unset, .unset] [])) rfl (hb hby at_71) (by decide) (by decide)
        obtain ⟨b122, g122⟩ : ∃ z, z = T115.heap.size := ⟨_, rfl⟩
        rw [← g122] at A122 D122 st122
        have g_b122 : n0 ≤ b122 := Nat.le_trans Z115 (Nat.le_of_eq g122.symm)
        have kw_b122 : h0.size ≤ b122 := Nat.le_trans (K115).1 (Nat.le_of_eq g122.symm)
        have ne_b111_b122 : b111 ≠ b122 := Nat.ne_of_lt (Nat.lt_of_lt_of_le ((V113.ext E114).keep Kq115 (ninS ne_b111_b114 nin0)).lt (Nat.le_of_eq g122.symm))
        have ne_b114_b122 : b114 ≠ b122 := Nat.ne_of_lt (Nat.lt_of_lt_of_le Eq115.lt (Nat.le_of_eq g122.symm))
        have ne_sv_b122 : sv ≠ b122 := Nat.ne_of_lt (Nat.lt_of_lt_of_le Aq115.lt (Nat.le_of_eq g122.symm))
        have K122 := (K115).ext E122
        have Z122 : n0 ≤ h122.size := Nat.le_trans Z115 E122.1
        have hk122 := Nat.le_trans hk115 E122.1
        have F_name_b122 : Fld Z h122 b122 "com/example/inexact_search/inexactsearch/engine/Attribute" "name" "Ljava/lang/String;" .null := D122 (Or.inr (hw _ (List.mem_of_getElem? (i := 62) rfl))) (ty := (.object "java/lang/String")) (by decide)
        have F_type_b122 : Fld Z h122 b122 "com/example/inexact_search/inexactsearch/engine/Attribute" "type" "Lcom/example/inexact_search/inexactsearch/engine/AttributeType;" .null := D122 (Or.inr (hw _ (List.mem_of_getElem? (i := 64) rfl))) (ty := (.object "com/example/inexact_search/inexactsearch/engine/AttributeType")) (by decide)
        have F_declaredMin_b122 : Fld Z h122 b122 "com/example/inexact_search/inexactsearch/engine/Attribute" "declaredMin" "Ljava/lang/Double;" .null := D122 (Or.inr (hw _ (List.mem_of_getElem? (i := 66) rfl))) (ty := (.object "java/lang/Double")) (by decide)
        have F_declaredMax_b122 : Fld Z h122 b122 "com/example/inexact_search/inexactsearch/engine/Attribute" "declaredMax" "Ljava/lang/Double;" .null := D122 (Or.inr (hw _ (List.mem_of_getElem? (i := 68) rfl))) (ty := (.object "java/lang/Double")) (by decide)
        refine own_st st122 ?_
        show own_Gl _ _ _ _ _ _ _ _ (T122.setTop (mkF m 74 #[.val (.int p0), .val (.int p1), .val (.int p2), .val (.int p3), .val (.int p4), .val (.int (4 : Int32)), .val (.ref a_STRINGS), .val (.ref b111), .val (.ref b114), .val (.int (0 : Int32)), .unset, .unset, .unset, .unset, .unset] [(.ref b122)]))
        refine own_st (A' := T122.setTop (mkF m 79 #[.val (.int p0), .val (.int p1), .val (.int p2), .val (.int p3), .val (.int p4), .val (.int (4 : Int32)), .val (.ref a_STRINGS), .val (.ref b111), .val (.ref b114), .val (.int (0 : Int32)), .unset, .unset, .unset, .unset, .unset] [(.ref a_STRINGS), (.ref b114), (.ref b122), (.ref b122)])) (fun tg kt => ?_) ?_
        · show Steps p.tables e below (T122.setTop (mkF m 74 #[.val (.int p0), .val (.int p1), .val (.int p2), .val (.int p3), .val (.int p4), .val (.int (4 : Int32)), .val (.ref a_STRINGS), .val (.ref b111), .val (.ref b114), .val (.int (0 : Int32)), .unset, .unset, .unset, .unset, .unset] [(.ref b122)])) _
          refine XS.dup X122.here hx rfl (hb hby at_74) rfl rfl ?_
          show Steps p.tables e below (T122.setTop (mkF m 75 #[.val (.int p0), .val (.int p1), .val (.int p2), .val (.int p3), .val (.int p4), .val (.int (4 : Int32)), .val (.ref a_STRINGS), .val (.ref b111), .val (.ref b114), .val (.int (0 : Int32)), .unset, .unset, .unset, .unset, .unset] [(.ref b122), (.ref b122)])) _
          refine XS.aload X122.here hx rfl (hb hby at_75) rfl rfl ?_
          show Steps p.tables e below (T122.setTop (mkF m 77 #[.val (.int p0), .val (.int p1), .val (.int p2), .val (.int p3), .val (.int p4), .val (.int (4 : Int32)), .val (.ref a_STRINGS), .val (.ref b111), .val (.ref b114), .val (.int (0 : Int32)), .unset, .unset, .unset, .unset, .unset] [(.ref b114), (.ref b122), (.ref b122)])) _
          refine XS.aload X122.here hx rfl (hb hby at_77) rfl rfl ?_
          exact kt
        obtain ⟨_, _, ⟨T123, L123, k123, n123⟩, -, X123, hSq123, hgq123, ⟨Lc123, hQ123, l123, y123, z123⟩, st123⟩ := X122.specialBackS hx (y := (⟨"com/example/inexact_search/inexactsearch/engine/Attribute", "<init>", "(Ljava/lang/String;Lcom/example/inexact_search/inexactsearch/engine/AttributeType;)V"⟩ : MethodName)) rfl hown (mvT hZ (hw _ (List.mem_of_getElem? (i := 41) rfl))) (mvT hZ (hw _ (List.mem_of_getElem? (i := 42) rfl))) (mvT hZ (hw _ (List.mem_of_getElem? (i := 43) rfl))) (by decide) (backOfS (W := 1) (rm8 l Z a0 hw [] b122 b114 a_STRINGS sv skb ([((nar .char ((p1 &&& (255 : Int32)).toUInt32.toUInt16.toUInt32.toInt32))).toInt8.toInt32].map Value.int) h122 n0 Z122 F_name_b122 F_type_b122 F_declaredMin_b122 F_declaredMax_b122 A122 g_b122 (Eq115.ext E122) (Vq115.ext E122) (Aq115.ext E122) ne_b114_b122 ne_sv_b122) hZ (hw _ (List.mem_of_getElem? (i := 43) rfl)) (hw _ (List.mem_of_getElem? (i := 40) rfl)) (by decide) (by decide)) (g := (mkF m 79 #[.val (.int p0), .val (.int p1), .val (.int p2), .val (.int p3), .val (.int p4), .val (.int (4 : Int32)), .val (.ref a_STRINGS), .val (.ref b111), .val (.ref b114), .val (.int (0 : Int32)), .unset, .unset, .unset, .unset, .unset] [(.ref a_STRINGS), (.ref b114), (.ref b122), (.ref b122)])) rfl (by rw [hml]; rfl) (Steps.refl _) (a := b122) (argsL := [(.ref b114), (.ref a_STRINGS)]) (rest := [(.ref b122)]) (lenOf own_pd17 rfl) rfl (by show 2 * 0 + _ ≤ _; exact Nat.le_of_eq rfl) (hb hby at_79) (fun _ _ => ⟨rfl, e122, (by decide : 4 + 4 ≤ _), (by decide : 10 + 40 ≤ _)⟩)
        dsimp only [Pt.U, Pt.locs, Pt.cells, Pt.slots] at X123 l123 y123 z123 st123 hQ123 hSq123 hgq123
        subst l123 y123 z123
        replace X123 : Stand p l e _ (s.setVm T123.vm) m _ below meth c T123 _ _ _ := X123
        have hS123 : s.Since T123.vm T123.heap.size := hS0.trans hSq123 (Nat.le_trans hk122 (by rw [← e122]; exact hgq123))
        have hZ123 : Z.Warmed39 (s.setVm T123.vm).vm := State.Warmed39.trans (t := (s.setVm s.vm)) hZ hSq123.1
        have hown123 : (s.setVm T123.vm).vm.findClass "com/example/inexact_search/inexactsearch/engine/AttributeHasDeclaredRangePinLaw" = some m.cls := by rw [show (s.setVm T123.vm).vm = T123.vm from rfl, hSq123.1.alike.findClass]; exact hown
        have hk123 : T123.heap.size ≤ T123.heap.size := Nat.le_refl _
        obtain ⟨rfl, Nq123, Kq123, Eq123, Fq123⟩ := hQ123
        have N123 := Fr.app N115 Nq123
        have Fa124 := ((((V113.ext E114).keep Kq115 (ninS ne_b111_b114 nin0)).ext E122).keep Kq123 (ninS ne_b111_b122 nin0))
        have K123 := (K122).trans Kq123 (allS (Or.inr kw_b122) all0)
        have Z123 : n0 ≤ T123.heap.size := Nat.le_trans Z122 Kq123.1
        refine own_tr st123 ?_
        show own_Gl _ _ _ _ _ _ _ _ (T123.setTop (mkF m 82 #[.val (.int p0), .val (.int p1), .val (.int p2), .val (.int p3), .val (.int p4), .val (.int (4 : Int32)), .val (.ref a_STRINGS), .val (.ref b111), .val (.ref b114), .val (.int (0 : Int32)), .unset, .unset, .unset, .unset, .unset] [(.ref b122)]))
        refine own_st (A' := T123.setTop (mkF m 109 #[.val (.int p0), .val (.int p1), .val (.int p2), .val (.int p3), .val (.int p4), .val (.int (4 : Int32)), .val (.ref a_STRINGS), .val (.ref b111), .val (.ref b114), .val (.int (0 : Int32)), .val (.ref b122), .unset, .unset, .unset, .unset] [(.ref b122)])) (fun tg kt => ?_) ?_
        · show Steps p.tables e below (T123.setTop (mkF m 82 #[.val (.int p0), .val (.int p1), .val (.int p2), .val (.int p3), .val (.int p4), .val (.int (4 : Int32)), .val (.ref a_STRINGS), .val (.ref b111), .val (.ref b114), .val (.int (0 : Int32)), .unset, .unset, .unset, .unset, .unset] [(.ref b122)])) _
          refine XS.astore X123.here hx rfl (hb hby at_82) rfl rfl (l' := #[.val (.int p0), .val (.int p1), .val (.int p2), .val (.int p3), .val (.int p4), .val (.int (4 : Int32)), .val (.ref a_STRINGS), .val (.ref b111), .val (.ref b114), .val (.int (0 : Int32)), .val (.ref b122), .unset, .unset, .unset, .unset]) rfl ?_
          show Steps p.tables e below (T123.setTop (mkF m 84 #[.val (.int p0), .val (.int p1), .val (.int p2), .val (.int p3), .val (.int p4), .val (.int (4 : Int32)), .val (.ref a_STRINGS), .val (.ref b111), .val (.ref b114), .val (.int (0 : Int32)), .val (.ref b122), .unset, .unset, .unset, .unset] [])) _
          refine XS.goto X123.here hx rfl (pc0 := 84) (pc' := 107) rfl (hb hby at_84) (by decide) (by decide) ?_
          show Steps p.tables e below (T123.setTop (mkF m 107 #[.val (.int p0), .val (.int p1), .val (.int p2), .val (.int p3), .val (.int p4), .val (.int (4 : Int32)), .val (.ref a_STRINGS), .val (.ref b111), .val (.ref b114), .val (.int (0 : Int32)), .val (.ref b122), .unset, .unset, .unset, .unset] [])) _
          refine XS.aload X123.here hx rfl (hb hby at_107) rfl rfl ?_
          exact kt
        obtain ⟨cq125, kq125, q125a, q125b, q125c⟩ := isOf hZ123 rfl Eq123
        obtain ⟨_, _, ⟨T125, L125, k125, n125⟩, -, X125, ⟨Lc125, hQ125, l125, y125, z125⟩, st125⟩ := X123.virtualBack hx (y := (⟨"com/example/inexact_search/inexactsearch/engine/Attribute", "hasDeclaredRange", "()Z"⟩ : MethodName)) (z := (⟨"com/example/inexact_search/inexactsearch/engine/Attribute", "hasDeclaredRange", "()Z"⟩ : MethodName)) hown123 (mvT hZ123 (hw _ (List.mem_of_getElem? (i := 69) rfl))) (mvT hZ123 (hw _ (List.mem_of_getElem? (i := 70) rfl))) (notFace_of_selects (args := #[]) (mvT hZ123 (hw _ (List.mem_of_getElem? (i := 72) rfl)))) (mvT hZ123 (hw _ (List.mem_of_getElem? (i := 72) rfl))) (mvT hZ123 (hw _ (List.mem_of_getElem? (i := 71) rfl))) (by decide) (backOf (W := 0) (rm12n l Z a0 hw [] b122 T123.heap n0 Z123 Fq123) hZ123 (hw _ (List.mem_of_getElem? (i := 73) rfl)) (hw _ (List.mem_of_getElem? (i := 40) rfl)) (by decide) (by decide)) q125a q125c (g := (mkF m 109 #[.val (.int p0), .val (.int p1), .val (.int p2), .val (.int p3), .val (.int p4), .val (.int (4 : Int32)), .val (.ref a_STRINGS), .val (.ref b111), .val (.ref b114), .val (.int (0 : Int32)), .val (.ref b122), .unset, .unset, .unset, .unset] [(.ref b122)])) rfl (by rw [hml]; rfl) (Steps.refl _) (argsL := []) (rest := []) (lenOf own_pd10 rfl) rfl (by show 2 * 0 + _ ≤ _; exact Nat.le_of_eq rfl) (hb hby at_109) (fun _ _ => ⟨rfl, rfl, (by decide : 8 + 0 ≤ _), (by decide : 50 + 0 ≤ _)⟩)
        dsimp only [Pt.U, Pt.locs, Pt.cells, Pt.slots] at X125 l125 y125 z125 st125 hQ125
        subst l125 y125 z125
        obtain ⟨rfl, Nq125, eq125⟩ := hQ125
        have N125 := Fr.app N123 Nq125
        refine own_tr st125 ?_
        show own_Gl _ _ _ _ _ _ _ _ (T125.setTop (mkF m 112 #[.val (.int p0), .val (.int p1), .val (.int p2), .val (.int p3), .val (.int p4), .val (.int (4 : Int32)), .val (.ref a_STRINGS), .val (.ref b111), .val (.ref b114), .val (.int (0 : Int32)), .val (.ref b122), .unset, .unset, .unset, .unset] [(.int (0 : Int32))]))
        refine own_st (A' := T125.setTop (mkF m 120 #[.val (.int p0), .val (.int p1), .val (.int p2), .val (.int p3), .val (.int p4), .val (.int (4 : Int32)), .val (.ref a_STRINGS), .val (.ref b111), .val (.ref b114), .val (.int (0 : Int32)), .val (.ref b122), .unset, .unset, .unset, .unset] [(.int (1 : Int32))])) (fun tg kt => ?_) ?_
        · show Steps p.tables e below (T125.setTop (mkF m 112 #[.val (.int p0), .val (.int p1), .val (.int p2), .val (.int p3), .val (.int p4), .val (.int (4 : Int32)), .val (.ref a_STRINGS), .val (.ref b111), .val (.ref b114), .val (.int (0 : Int32)), .val (.ref b122), .unset, .unset, .unset, .unset] [(.int (0 : Int32))])) _
          refine XS.ifNo X125.here hx rfl (hb hby at_112) rfl ((if0 _ _).trans (teq ((by decide) : (0 : Int32) = (0 : Int32))).2) ?_
          show Steps p.tables e below (T125.setTop (mkF m 115 #[.val (.int p0), .val (.int p1), .val (.int p2), .val (.int p3), .val (.int p4), .val (.int (4 : Int32)), .val (.ref a_STRINGS), .val (.ref b111), .val (.ref b114), .val (.int (0 : Int32)), .val (.ref b122), .unset, .unset, .unset, .unset] [])) _
          refine XS.iconst X125.here hx rfl (hb hby at_115) ?_
          show Steps p.tables e below (T125.setTop (mkF m 116 #[.val (.int p0), .val (.int p1), .val (.int p2), .val (.int p3), .val (.int p4), .val (.int (4 : Int32)), .val (.ref a_STRINGS), .val (.ref b111), .val (.ref b114), .val (.int (0 : Int32)), .val (.ref b122), .unset, .unset, .unset, .unset] [(.int (1 : Int32))])) _
          refine XS.goto X125.here hx rfl (pc0 := 116) (pc' := 120) rfl (hb hby at_116) (by decide) (by decide) ?_
          exact kt
        refine own_retW X125 hS123 (by rw [eq125]; exact hk123) (v := some (.int (1 : Int32))) (fun h => by rw [Bd.returns] at h; cases h) hlk (by decide) (by decide) ?_ (fun fs hr => ?_)
        · show Q0 Z p0 p1 p2 p3 p4 a_INTEGER a_DECIMAL a_STRING a_BOOLEAN a_STRINGS cs h0 n0 (some (.int (1 : Int32))) T125.heap _
          rw [eq125]
          exact ⟨rfl, N125⟩
        · show Steps p.tables e below (T125.setTop (mkF m 120 #[.val (.int p0), .val (.int p1), .val (.int p2), .val (.int p3), .val (.int p4), .val (.int (4 : Int32)), .val (.ref a_STRINGS), .val (.ref b111), .val (.ref b114), .val (.int (0 : Int32)), .val (.ref b122), .unset, .unset, .unset, .unset] [(.int (1 : Int32))])) _
          exact retN X125 hx (t := .boolean) Bd.returns (by simp) (hb hby at_120) hr
    · refine own_st (A' := T115.setTop (mkF m 68 #[.val (.int p0), .val (.int p1), .val (.int p2), .val (.int p3), .val (.int p4), .val (.int (4 : Int32)), .val (.ref a_STRINGS), .val (.ref b111), .val (.ref b114), .val (.int (0 : Int32)), .unset, .unset, .unset, .unset, .unset] [(.int (p2 &&& (2 : Int32)))])) (fun tg kt => ?_) ?_
      · show Steps p.tables e below (T115.setTop (mkF m 44 #[.val (.int p0), .val (.int p1), .val (.int p2), .val (.int p3), .val (.int p4), .val (.int (4 : Int32)), .val (.ref a_STRINGS), .val (.ref b111), .val (.ref b114), .unset, .unset, .unset, .unset, .unset, .unset] [(.int (p2 &&& (1 : Int32)))])) _
        refine XS.ifNo X115.here hx rfl (hb hby at_44) rfl ((if0 _ _).trans (feq hc44_116).1) ?_
        show Steps p.tables e below (T115.setTop (mkF m 47 #[.val (.int p0), .val (.int p1), .val (.int p2), .val (.int p3), .val (.int p4), .val (.int (4 : Int32)), .val (.ref a_STRINGS), .val (.ref b111), .val (.ref b114), .unset, .unset, .unset, .unset, .unset, .unset] [])) _
        refine XS.iload X115.here hx rfl (hb hby at_47) rfl ?_
        show Steps p.tables e below (T115.setTop (mkF m 49 #[.val (.int p0), .val (.int p1), .val (.int p2), .val (.int p3), .val (.int p4), .val (.int (4 : Int32)), .val (.ref a_STRINGS), .val (.ref b111), .val (.ref b114), .unset, .unset, .unset, .unset, .unset, .unset] [(.int (4 : Int32))])) _
        refine XS.iconst X115.here hx rfl (hb hby at_49) ?_
        show Steps p.tables e below (T115.setTop (mkF m 50 #[.val (.int p0), .val (.int p1), .val (.int p2), .val (.int p3), .val (.int p4), .val (.int (4 : Int32)), .val (.ref a_STRINGS), .val (.ref b111), .val (.ref b114), .unset, .unset, .unset, .unset, .unset, .unset] [(.int (2 : Int32)), (.int (4 : Int32))])) _
        refine XS.icmpYes X115.here hx rfl (pc0 := 50) (pc' := 57) rfl (hb hby at_50) rfl (flt ((by decide) : ¬ ((4 : Int32) < (2 : Int32)))).2.1 (by decide) (by decide) ?_
        show Steps p.tables e below (T115.setTop (mkF m 57 #[.val (.int p0), .val (.int p1), .val (.int p2), .val (.int p3), .val (.int p4), .val (.int (4 : Int32)), .val (.ref a_STRINGS), .val (.ref b111), .val (.ref b114), .unset, .unset, .unset, .unset, .unset, .unset] [])) _
        refine XS.iconst X115.here hx rfl (hb hby at_57) ?_
        show Steps p.tables e below (T115.setTop (mkF m 58 #[.val (.int p0), .val (.int p1), .val (.int p2), .val (.int p3), .val (.int p4), .val (.int (4 : Int32)), .val (.ref a_STRINGS), .val (.ref b111), .val (.ref b114), .unset, .unset, .unset, .unset, .unset, .unset] [(.int (0 : Int32))])) _
        refine XS.istore X115.here hx rfl (hb hby at_58) rfl (l' := #[.val (.int p0), .val (.int p1), .val (.int p2), .val (.int p3), .val (.int p4), .val (.int (4 : Int32)), .val (.ref a_STRINGS), .val (.ref b111), .val (.ref b114), .val (.int (0 : Int32)), .unset, .unset, .unset, .unset, .unset]) rfl ?_
        show Steps p.tables e below (T115.setTop (mkF m 60 #[.val (.int p0), .val (.int p1), .val (.int p2), .val (.int p3), .val (.int p4), .val (.int (4 : Int32)), .val (.ref a_STRINGS), .val (.ref b111), .val (.ref b114), .val (.int (0 : Int32)), .unset, .unset, .unset, .unset, .unset] [])) _
        refine XS.iload X115.here hx rfl (hb hby at_60) rfl ?_
        show Steps p.tables e below (T115.setTop (mkF m 62 #[.val (.int p0), .val (.int p1), .val (.int p2), .val (.int p3), .val (.int p4), .val (.int (4 : Int32)), .val (.ref a_STRINGS), .val (.ref b111), .val (.ref b114), .val (.int (0 : Int32)), .unset, .unset, .unset, .unset, .unset] [(.int (0 : Int32))])) _
        refine XS.ifNo X115.here hx rfl (hb hby at_62) rfl ((if0 _ _).trans (teq ((by decide) : (0 : Int32) = (0 : Int32))).2) ?_
        show Steps p.tables e below (T115.setTop (mkF m 65 #[.val (.int p0), .val (.int p1), .val (.int p2), .val (.int p3), .val (.int p4), .val (.int (4 : Int32)), .val (.ref a_STRINGS), .val (.ref b111), .val (.ref b114), .val (.int (0 : Int32)), .unset, .unset, .unset, .unset, .unset] [])) _
        refine XS.iloadN X115.here hx rfl (hb hby at_65) rfl ?_
        show Steps p.tables e below (T115.setTop (mkF m 66 #[.val (.int p0), .val (.int p1), .val (.int p2), .val (.int p3), .val (.int p4), .val (.int (4 : Int32)), .val (.ref a_STRINGS), .val (.ref b111), .val (.ref b114), .val (.int (0 : Int32)), .unset, .unset, .unset, .unset, .unset] [(.int p2)])) _
        refine XS.iconst X115.here hx rfl (hb hby at_66) ?_
        show Steps p.tables e below (T115.setTop (mkF m 67 #[.val (.int p0), .val (.int p1), .val (.int p2), .val (.int p3), .val (.int p4), .val (.int (4 : Int32)), .val (.ref a_STRINGS), .val (.ref b111), .val (.ref b114), .val (.int (0 : Int32)), .unset, .unset, .unset, .unset, .unset] [(.int (2 : Int32)), (.int p2)])) _
        refine XS.iand X115.here hx rfl (hb hby at_67) rfl ?_
        exact kt
      by_cases hc68_126 : (p2 &&& (2 : Int32)) = (0 : Int32)
      · refine own_st (A' := T115.setTop (mkF m 90 #[.val (.int p0), .val (.int p1), .val (.int p2), .val (.int p3), .val (.int p4), .val (.int (4 : Int32)), .val (.ref a_STRINGS), .val (.ref b111), .val (.ref b114), .val (.int (0 : Int32)), .unset, .val .null, .unset, .unset, .unset] [])) (fun tg kt => ?_) ?_
        · show Steps p.tables e below (T115.setTop (mkF m 68 #[.val (.int p0), .val (.int p1), .val (.int p2), .val (.int p3), .val (.int p4), .val (.int (4 : Int32)), .val (.ref a_STRINGS), .val (.ref b111), .val (.ref b114), .val (.int (0 : Int32)), .unset, .unset, .unset, .unset, .unset] [(.int (p2 &&& (2 : Int32)))])) _
          refine XS.ifYes X115.here hx rfl (pc0 := 68) (pc' := 87) rfl (hb hby at_68) rfl ((if0 _ _).trans (teq hc68_126).1) (by decide) (by decide) ?_
          show Steps p.tables e below (T115.setTop (mkF m 87 #[.val (.int p0), .val (.int p1), .val (.int p2), .val (.int p3), .val (.int p4), .val (.int (4 : Int32)), .val (.ref a_STRINGS), .val (.ref b111), .val (.ref b114), .val (.int (0 : Int32)), .unset, .unset, .unset, .unset, .unset] [])) _
          refine XS.aconstNull X115.here hx rfl (hb hby at_87) ?_
          show Steps p.tables e below (T115.setTop (mkF m 88 #[.val (.int p0), .val (.int p1), .val (.int p2), .val (.int p3), .val (.int p4), .val (.int (4 : Int32)), .val (.ref a_STRINGS), .val (.ref b111), .val (.ref b114), .val (.int (0 : Int32)), .unset, .unset, .unset, .unset, .unset] [.null])) _
          refine XS.astore X115.here hx rfl (hb hby at_88) rfl rfl (l' := #[.val (.int p0), .val (.int p1), .val (.int p2), .val (.int p3), .val (.int p4), .val (.int (4 : Int32)), .val (.ref a_STRINGS), .val (.ref b111), .val (.ref b114), .val (.int (0 : Int32)), .unset, .val .null, .unset, .unset, .unset]) rfl ?_
          exact kt
        obtain ⟨T127, h127, X127, e127, E127, A127, D127, -, st127⟩ := newO X115 hx hZ hown (hw _ (List.mem_of_getElem? (i := 38) rfl)) (hw _ (List.mem_of_getElem? (i := 39) rfl)) (hw _ (List.mem_of_getElem? (i := 40) rfl)) rfl (g := (mkF m 90 #[.val (.int p0), .val (.int p1), .val (.int p2), .val (.int p3), .val (.int p4), .val (.int (4 : Int32)), .val (.ref a_STRINGS), .val (.ref b111), .val (.ref b114), .val (.int (0 : Int32)), .unset, .val .null, .unset, .unset, .unset] [])) rfl (hb hby at_90) (by decide) (by decide)
        obtain ⟨b127, g127⟩ : ∃ z, z = T115.heap.size := ⟨_, rfl⟩
        rw [← g127] at A127 D127 st127
        have g_b127 : n0 ≤ b127 := Nat.le_trans Z115 (Nat.le_of_eq g127.symm)
        have kw_b127 : h0.size ≤ b127 := Nat.le_trans (K115).1 (Nat.le_of_eq g127.symm)
        have ne_b111_b127 : b111 ≠ b127 := Nat.ne_of_lt (Nat.lt_of_lt_of_le ((V113.ext E114).keep Kq115 (ninS ne_b111_b114 nin0)).lt (Nat.le_of_eq g127.symm))
        have ne_b114_b127 : b114 ≠ b127 := Nat.ne_of_lt (Nat.lt_of_lt_of_le Eq115.lt (Nat.le_of_eq g127.symm))
        have ne_sv_b127 : sv ≠ b127 := Nat.ne_of_lt (Nat.lt_of_lt_of_le Aq115.lt (Nat.le_of_eq g127.symm))
        have K127 := (K115).ext E127
        have Z127 : n0 ≤ h127.size := Nat.le_trans Z115 E127.1
        have hk127 := Nat.le_trans hk115 E127.1
        have F_name_b127 : Fld Z h127 b127 "com/example/inexact_search/inexactsearch/engine/Attribute" "name" "Ljava/lang/String;" .null := D127 (Or.inr (hw _ (List.mem_of_getElem? (i := 62) rfl))) (ty := (.object "java/lang/String")) (by decide)
        have F_type_b127 : Fld Z h127 b127 "com/example/inexact_search/inexactsearch/engine/Attribute" "type" "Lcom/example/inexact_search/inexactsearch/engine/AttributeType;" .null := D127 (Or.inr (hw _ (List.mem_of_getElem? (i := 64) rfl))) (ty := (.object "com/example/inexact_search/inexactsearch/engine/AttributeType")) (by decide)
        have F_declaredMin_b127 : Fld Z h127 b127 "com/example/inexact_search/inexactsearch/engine/Attribute" "declaredMin" "Ljava/lang/Double;" .null := D127 (Or.inr (hw _ (List.mem_of_getElem? (i := 66) rfl))) (ty := (.object "java/lang/Double")) (by decide)
        have F_declaredMax_b127 : Fld Z h127 b127 "com/example/inexact_search/inexactsearch/engine/Attribute" "declaredMax" "Ljava/lang/Double;" .null := D127 (Or.inr (hw _ (List.mem_of_getElem? (i := 68) rfl))) (ty := (.object "java/lang/Double")) (by decide)
        refine own_st st127 ?_
        show own_Gl _ _ _ _ _ _ _ _ (T127.setTop (mkF m 93 #[.val (.int p0), .val (.int p1), .val (.int p2), .val (.int p3), .val (.int p4), .val (.int (4 : Int32)), .val (.ref a_STRINGS), .val (.ref b111), .val (.ref b114), .val (.int (0 : Int32)), .unset, .val .null, .unset, .unset, .unset] [(.ref b127)]))
        refine own_st (A' := T127.setTop (mkF m 102 #[.val (.int p0), .val (.int p1), .val (.int p2), .val (.int p3), .val (.int p4), .val (.int (4 : Int32)), .val (.ref a_STRINGS), .val (.ref b111), .val (.ref b114), .val (.int (0 : Int32)), .unset, .val .null, .unset, .unset, .unset] [.null, .null, (.ref a_STRINGS), (.ref b114), (.ref b127), (.ref b127)])) (fun tg kt => ?_) ?_
        · show Steps p.tables e below (T127.setTop (mkF m 93 #[.val (.int p0), .val (.int p1), .val (.int p2), .val (.int p3), .val (.int p4), .val (.int (4 : Int32)), .val (.ref a_STRINGS), .val (.ref b111), .val (.ref b114), .val (.int (0 : Int32)), .unset, .val .null, .unset, .unset, .unset] [(.ref b127)])) _
          refine XS.dup X127.here hx rfl (hb hby at_93) rfl rfl ?_
          show Steps p.tables e below (T127.setTop (mkF m 94 #[.val (.int p0), .val (.int p1), .val (.int p2), .val (.int p3), .val (.int p4), .val (.int (4 : Int32)), .val (.ref a_STRINGS), .val (.ref b111), .val (.ref b114), .val (.int (0 : Int32)), .unset, .val .null, .unset, .unset, .unset] [(.ref b127), (.ref b127)])) _
          refine XS.aload X127.here hx rfl (hb hby at_94) rfl rfl ?_
          show Steps p.tables e below (T127.setTop (mkF m 96 #[.val (.int p0), .val (.int p1), .val (.int p2), .val (.int p3), .val (.int p4), .val (.int (4 : Int32)), .val (.ref a_STRINGS), .val (.ref b111), .val (.ref b114), .val (.int (0 : Int32)), .unset, .val .null, .unset, .unset, .unset] [(.ref b114), (.ref b127), (.ref b127)])) _
          refine XS.aload X127.here hx rfl (hb hby at_96) rfl rfl ?_
          show Steps p.tables e below (T127.setTop (mkF m 98 #[.val (.int p0), .val (.int p1), .val (.int p2), .val (.int p3), .val (.int p4), .val (.int (4 : Int32)), .val (.ref a_STRINGS), .val (.ref b111), .val (.ref b114), .val (.int (0 : Int32)), .unset, .val .null, .unset, .unset, .unset] [(.ref a_STRINGS), (.ref b114), (.ref b127), (.ref b127)])) _
          refine XS.aload X127.here hx rfl (hb hby at_98) rfl rfl ?_
          show Steps p.tables e below (T127.setTop (mkF m 100 #[.val (.int p0), .val (.int p1), .val (.int p2), .val (.int p3), .val (.int p4), .val (.int (4 : Int32)), .val (.ref a_STRINGS), .val (.ref b111), .val (.ref b114), .val (.int (0 : Int32)), .unset, .val .null, .unset, .unset, .unset] [.null, (.ref a_STRINGS), (.ref b114), (.ref b127), (.ref b127)])) _
          refine XS.aload X127.here hx rfl (hb hby at_100) rfl rfl ?_
          exact kt
        obtain ⟨_, _, ⟨T128, L128, k128, n128⟩, -, X128, hSq128, hgq128, ⟨Lc128, hQ128, l128, y128, z128⟩, st128⟩ := X127.specialBackS hx (y := (⟨"com/example/inexact_search/inexactsearch/engine/Attribute", "<init>", "(Ljava/lang/String;Lcom/example/inexact_search/inexactsearch/engine/AttributeType;Ljava/lang/Double;Ljava/lang/Double;)V"⟩ : MethodName)) rfl hown (mvT hZ (hw _ (List.mem_of_getElem? (i := 78) rfl))) (mvT hZ (hw _ (List.mem_of_getElem? (i := 45) rfl))) (mvT hZ (hw _ (List.mem_of_getElem? (i := 46) rfl))) (by decide) (backOfS (W := 1) (rm9n l Z a0 hw [] b127 b114 a_STRINGS sv skb ([((nar .char ((p1 &&& (255 : Int32)).toUInt32.toUInt16.toUInt32.toInt32))).toInt8.toInt32].map Value.int) h127 n0 Z127 F_name_b127 F_type_b127 F_declaredMin_b127 F_declaredMax_b127 A127 g_b127 (Eq115.ext E127) (Vq115.ext E127) (Aq115.ext E127) ne_b114_b127 ne_sv_b127) hZ (hw _ (List.mem_of_getElem? (i := 46) rfl)) (hw _ (List.mem_of_getElem? (i := 40) rfl)) (by decide) (by decide)) (g := (mkF m 102 #[.val (.int p0), .val (.int p1), .val (.int p2), .val (.int p3), .val (.int p4), .val (.int (4 : Int32)), .val (.ref a_STRINGS), .val (.ref b111), .val (.ref b114), .val (.int (0 : Int32)), .unset, .val .null, .unset, .unset, .unset] [.null, .null, (.ref a_STRINGS), (.ref b114), (.ref b127), (.ref b127)])) rfl (by rw [hml]; rfl) (Steps.refl _) (a := b127) (argsL := [(.ref b114), (.ref a_STRINGS), .null, .null]) (rest := [(.ref b127)]) (lenOf own_pd14 rfl) rfl (by show 2 * 0 + _ ≤ _; exact Nat.le_of_eq rfl) (hb hby at_102) (fun _ _ => ⟨rfl, e127, (by decide : 4 + 4 ≤ _), (by decide : 10 + 40 ≤ _)⟩)
        dsimp only [Pt.U, Pt.locs, Pt.cells, Pt.slots] at X128 l128 y128 z128 st128 hQ128 hSq128 hgq128
        subst l128 y128 z128
        replace X128 : Stand p l e _ (s.setVm T128.vm) m _ below meth c T128 _ _ _ := X128
        have hS128 : s.Since T128.vm T128.heap.size := hS0.trans hSq128 (Nat.le_trans hk127 (by rw [← e127]; exact hgq128))
        have hZ128 : Z.Warmed39 (s.setVm T128.vm).vm := State.Warmed39.trans (t := (s.setVm s.vm)) hZ hSq128.1
        have hown128 : (s.setVm T128.vm).vm.findClass "com/example/inexact_search/inexactsearch/engine/AttributeHasDeclaredRangePinLaw" = some m.cls := by rw [show (s.setVm T128.vm).vm = T128.vm from rfl, hSq128.1.alike.findClass]; exact hown
        have hk128 : T128.heap.size ≤ T128.heap.size := Nat.le_refl _
        obtain ⟨rfl, Nq128, Kq128, Eq128, Fq128⟩ := hQ128
        have N128 := Fr.app N115 Nq128
        have Fa129 := ((((V113.ext E114).keep Kq115 (ninS ne_b111_b114 nin0)).ext E127).keep Kq128 (ninS ne_b111_b127 nin0))
        have K128 := (K127).trans Kq128 (allS (Or.inr kw_b127) all0)
        have Z128 : n0 ≤ T128.heap.size := Nat.le_trans Z127 Kq128.1
        refine own_tr st128 ?_
        show own_Gl _ _ _ _ _ _ _ _ (T128.setTop (mkF m 105 #[.val (.int p0), .val (.int p1), .val (.int p2), .val (.int p3), .val (.int p4), .val (.int (4 : Int32)), .val (.ref a_STRINGS), .val (.ref b111), .val (.ref b114), .val (.int (0 : Int32)), .unset, .val .null, .unset, .unset, .unset] [(.ref b127)]))
        refine own_st (A' := T128.setTop (mkF m 109 #[.val (.int p0), .val (.int p1), .val (.int p2), .val (.int p3), .val (.int p4), .val (.int (4 : Int32)), .val (.ref a_STRINGS), .val (.ref b111), .val (.ref b114), .val (.int (0 : Int32)), .val (.ref b127), .val .null, .unset, .unset, .unset] [(.ref b127)])) (fun tg kt => ?_) ?_
        · show Steps p.tables e below (T128.setTop (mkF m 105 #[.val (.int p0), .val (.int p1), .val (.int p2), .val (.int p3), .val (.int p4), .val (.int (4 : Int32)), .val (.ref a_STRINGS), .val (.ref b111), .val (.ref b114), .val (.int (0 : Int32)), .unset, .val .null, .unset, .unset, .unset] [(.ref b127)])) _
          refine XS.astore X128.here hx rfl (hb hby at_105) rfl rfl (l' := #[.val (.int p0), .val (.int p1), .val (.int p2), .val (.int p3), .val (.int p4), .val (.int (4 : Int32)), .val (.ref a_STRINGS), .val (.ref b111), .val (.ref b114), .val (.int (0 : Int32)), .val (.ref b127), .val .null, .unset, .unset, .unset]) rfl ?_
          show Steps p.tables e below (T128.setTop (mkF m 107 #[.val (.int p0), .val (.int p1), .val (.int p2), .val (.int p3), .val (.int p4), .val (.int (4 : Int32)), .val (.ref a_STRINGS), .val (.ref b111), .val (.ref b114), .val (.int (0 : Int32)), .val (.ref b127), .val .null, .unset, .unset, .unset] [])) _
          refine XS.aload X128.here hx rfl (hb hby at_107) rfl rfl ?_
          exact kt
        obtain ⟨cq130, kq130, q130a, q130b, q130c⟩ := isOf hZ128 rfl Eq128
        obtain ⟨_, _, ⟨T130, L130, k130, n130⟩, -, X130, ⟨Lc130, hQ130, l130, y130, z130⟩, st130⟩ := X128.virtualBack hx (y := (⟨"com/example/inexact_search/inexactsearch/engine/Attribute", "hasDeclaredRange", "()Z"⟩ : MethodName)) (z := (⟨"com/example/inexact_search/inexactsearch/engine/Attribute", "hasDeclaredRange", "()Z"⟩ : MethodName)) hown128 (mvT hZ128 (hw _ (List.mem_of_getElem? (i := 69) rfl))) (mvT hZ128 (hw _ (List.mem_of_getElem? (i := 70) rfl))) (notFace_of_selects (args := #[]) (mvT hZ128 (hw _ (List.mem_of_getElem? (i := 72) rfl)))) (mvT hZ128 (hw _ (List.mem_of_getElem? (i := 72) rfl))) (mvT hZ128 (hw _ (List.mem_of_getElem? (i := 71) rfl))) (by decide) (backOf (W := 0) (rm12n l Z a0 hw [] b127 T128.heap n0 Z128 Fq128) hZ128 (hw _ (List.mem_of_getElem? (i := 73) rfl)) (hw _ (List.mem_of_getElem? (i := 40) rfl)) (by decide) (by decide)) q130a q130c (g := (mkF m 109 #[.val (.int p0), .val (.int p1), .val (.int p2), .val (.int p3), .val (.int p4), .val (.int (4 : Int32)), .val (.ref a_STRINGS), .val (.ref b111), .val (.ref b114), .val (.int (0 : Int32)), .val (.ref b127), .val .null, .unset, .unset, .unset] [(.ref b127)])) rfl (by rw [hml]; rfl) (Steps.refl _) (argsL := []) (rest := []) (lenOf own_pd10 rfl) rfl (by show 2 * 0 + _ ≤ _; exact Nat.le_of_eq rfl) (hb hby at_109) (fun _ _ => ⟨rfl, rfl, (by decide : 8 + 0 ≤ _), (by decide : 50 + 0 ≤ _)⟩)
        dsimp only [Pt.U, Pt.locs, Pt.cells, Pt.slots] at X130 l130 y130 z130 st130 hQ130
        subst l130 y130 z130
        obtain ⟨rfl, Nq130, eq130⟩ := hQ130
        have N130 := Fr.app N128 Nq130
        refine own_tr st130 ?_
        show own_Gl _ _ _ _ _ _ _ _ (T130.setTop (mkF m 112 #[.val (.int p0), .val (.int p1), .val (.int p2), .val (.int p3), .val (.int p4), .val (.int (4 : Int32)), .val (.ref a_STRINGS), .val (.ref b111), .val (.ref b114), .val (.int (0 : Int32)), .val (.ref b127), .val .null, .unset, .unset, .unset] [(.int (0 : Int32))]))
        refine own_st (A' := T130.setTop (mkF m 120 #[.val (.int p0), .val (.int p1), .val (.int p2), .val (.int p3), .val (.int p4), .val (.int (4 : Int32)), .val (.ref a_STRINGS), .val (.ref b111), .val (.ref b114), .val (.int (0 : Int32)), .val (.ref b127), .val .null, .unset, .unset, .unset] [(.int (1 : Int32))])) (fun tg kt => ?_) ?_
        · show Steps p.tables e below (T130.setTop (mkF m 112 #[.val (.int p0), .val (.int p1), .val (.int p2), .val (.int p3), .val (.int p4), .val (.int (4 : Int32)), .val (.ref a_STRINGS), .val (.ref b111), .val (.ref b114), .val (.int (0 : Int32)), .val (.ref b127), .val .null, .unset, .unset, .unset] [(.int (0 : Int32))])) _
          refine XS.ifNo X130.here hx rfl (hb hby at_112) rfl ((if0 _ _).trans (teq ((by decide) : (0 : Int32) = (0 : Int32))).2) ?_
          show Steps p.tables e below (T130.setTop (mkF m 115 #[.val (.int p0), .val (.int p1), .val (.int p2), .val (.int p3), .val (.int p4), .val (.int (4 : Int32)), .val (.ref a_STRINGS), .val (.ref b111), .val (.ref b114), .val (.int (0 : Int32)), .val (.ref b127), .val .null, .unset, .unset, .unset] [])) _
          refine XS.iconst X130.here hx rfl (hb hby at_115) ?_
          show Steps p.tables e below (T130.setTop (mkF m 116 #[.val (.int p0), .val (.int p1), .val (.int p2), .val (.int p3), .val (.int p4), .val (.int (4 : Int32)), .val (.ref a_STRINGS), .val (.ref b111), .val (.ref b114), .val (.int (0 : Int32)), .val (.ref b127), .val .null, .unset, .unset, .unset] [(.int (1 : Int32))])) _
          refine XS.goto X130.here hx rfl (pc0 := 116) (pc' := 120) rfl (hb hby at_116) (by decide) (by decide) ?_
          exact kt
        refine own_retW X130 hS128 (by rw [eq130]; exact hk128) (v := some (.int (1 : Int32))) (fun h => by rw [Bd.returns] at h; cases h) hlk (by decide) (by decide) ?_ (fun fs hr => ?_)
        · show Q0 Z p0 p1 p2 p3 p4 a_INTEGER a_DECIMAL a_STRING a_BOOLEAN a_STRINGS cs h0 n0 (some (.int (1 : Int32))) T130.heap _
          rw [eq130]
          exact ⟨rfl, N130⟩
        · show Steps p.tables e below (T130.setTop (mkF m 120 #[.val (.int p0), .val (.int p1), .val (.int p2), .val (.int p3), .val (.int p4), .val (.int (4 : Int32)), .val (.ref a_STRINGS), .val (.ref b111), .val (.ref b114), .val (.int (0 : Int32)), .val (.ref b127), .val .null, .unset, .unset, .unset] [(.int (1 : Int32))])) _
          exact retN X130 hx (t := .boolean) Bd.returns (by simp) (hb hby at_120) hr
      · refine own_st (A' := T115.setTop (mkF m 71 #[.val (.int p0), .val (.int p1), .val (.int p2), .val (.int p3), .val (.int p4), .val (.int (4 : Int32)), .val (.ref a_STRINGS), .val (.ref b111), .val (.ref b114), .val (.int (0 : Int32)), .unset, .unset, .unset, .unset, .unset] [])) (fun tg kt => ?_) ?_
        · show Steps p.tables e below (T115.setTop (mkF m 68 #[.val (.int p0), .val (.int p1), .val (.int p2), .val (.int p3), .val (.int p4), .val (.int (4 : Int32)), .val (.ref a_STRINGS), .val (.ref b111), .val (.ref b114), .val (.int (0 : Int32)), .unset, .unset, .unset, .unset, .unset] [(.int (p2 &&& (2 : Int32)))])) _
          refine XS.ifNo X115.here hx rfl (hb hby at_68) rfl ((if0 _ _).trans (feq hc68_126).1) ?_
          exact kt
        obtain ⟨T131, h131, X131, e131, E131, A131, D131, -, st131⟩ := newO X115 hx hZ hown (hw _ (List.mem_of_getElem? (i := 38) rfl)) (hw _ (List.mem_of_getElem? (i := 39) rfl)) (hw _ (List.mem_of_getElem? (i := 40) rfl)) rfl (g := (mkF m 71 #[.val (.int p0), .val (.int p1), .val (.int p2), .val (.int p3), .val (.int p4), .val (.int (4 : Int32)), .val (.ref a_STRINGS), .val (.ref b111), .val (.ref b114), .val (.int (0 : Int32)), .unset, .unset, .unset, .unset, .unset] [])) rfl (hb hby at_71) (by decide) (by decide)
        obtain ⟨b131, g131⟩ : ∃ z, z = T115.heap.size := ⟨_, rfl⟩
        rw [← g131] at A131 D131 st131
        have g_b131 : n0 ≤ b131 := Nat.le_trans Z115 (Nat.le_of_eq g131.symm)
        have kw_b131 : h0.size ≤ b131 := Nat.le_trans (K115).1 (Nat.le_of_eq g131.symm)
        have ne_b111_b131 : b111 ≠ b131 := Nat.ne_of_lt (Nat.lt_of_lt_of_le ((V113.ext E114).keep Kq115 (ninS ne_b111_b114 nin0)).lt (Nat.le_of_eq g131.symm))
        have ne_b114_b131 : b114 ≠ b131 := Nat.ne_of_lt (Nat.lt_of_lt_of_le Eq115.lt (Nat.le_of_eq g131.symm))
        have ne_sv_b131 : sv ≠ b131 := Nat.ne_of_lt (Nat.lt_of_lt_of_le Aq115.lt (Nat.le_of_eq g131.symm))
        have K131 := (K115).ext E131
        have Z131 : n0 ≤ h131.size := Nat.le_trans Z115 E131.1
        have hk131 := Nat.le_trans hk115 E131.1
        have F_name_b131 : Fld Z h131 b131 "com/example/inexact_search/inexactsearch/engine/Attribute" "name" "Ljava/lang/String;" .null := D131 (Or.inr (hw _ (List.mem_of_getElem? (i := 62) rfl))) (ty := (.object "java/lang/String")) (by decide)
        have F_type_b131 : Fld Z h131 b131 "com/example/inexact_search/inexactsearch/engine/Attribute" "type" "Lcom/example/inexact_search/inexactsearch/engine/AttributeType;" .null := D131 (Or.inr (hw _ (List.mem_of_getElem? (i := 64) rfl))) (ty := (.object "com/example/inexact_search/inexactsearch/engine/AttributeType")) (by decide)
        have F_declaredMin_b131 : Fld Z h131 b131 "com/example/inexact_search/inexactsearch/engine/Attribute" "declaredMin" "Ljava/lang/Double;" .null := D131 (Or.inr (hw _ (List.mem_of_getElem? (i := 66) rfl))) (ty := (.object "java/lang/Double")) (by decide)
        have F_declaredMax_b131 : Fld Z h131 b131 "com/example/inexact_search/inexactsearch/engine/Attribute" "declaredMax" "Ljava/lang/Double;" .null := D131 (Or.inr (hw _ (List.mem_of_getElem? (i := 68) rfl))) (ty := (.object "java/lang/Double")) (by decide)
        refine own_st st131 ?_
        show own_Gl _ _ _ _ _ _ _ _ (T131.setTop (mkF m 74 #[.val (.int p0), .val (.int p1), .val (.int p2), .val (.int p3), .val (.int p4), .val (.int (4 : Int32)), .val (.ref a_STRINGS), .val (.ref b111), .val (.ref b114), .val (.int (0 : Int32)), .unset, .unset, .unset, .unset, .unset] [(.ref b131)]))
        refine own_st (A' := T131.setTop (mkF m 79 #[.val (.int p0), .val (.int p1), .val (.int p2), .val (.int p3), .val (.int p4), .val (.int (4 : Int32)), .val (.ref a_STRINGS), .val (.ref b111), .val (.ref b114), .val (.int (0 : Int32)), .unset, .unset, .unset, .unset, .unset] [(.ref a_STRINGS), (.ref b114), (.ref b131), (.ref b131)])) (fun tg kt => ?_) ?_
        · show Steps p.tables e below (T131.setTop (mkF m 74 #[.val (.int p0), .val (.int p1), .val (.int p2), .val (.int p3), .val (.int p4), .val (.int (4 : Int32)), .val (.ref a_STRINGS), .val (.ref b111), .val (.ref b114), .val (.int (0 : Int32)), .unset, .unset, .unset, .unset, .unset] [(.ref b131)])) _
          refine XS.dup X131.here hx rfl (hb hby at_74) rfl rfl ?_
          show Steps p.tables e below (T131.setTop (mkF m 75 #[.val (.int p0), .val (.int p1), .val (.int p2), .val (.int p3), .val (.int p4), .val (.int (4 : Int32)), .val (.ref a_STRINGS), .val (.ref b111), .val (.ref b114), .val (.int (0 : Int32)), .unset, .unset, .unset, .unset, .unset] [(.ref b131), (.ref b131)])) _
          refine XS.aload X131.here hx rfl (hb hby at_75) rfl rfl ?_
          show Steps p.tables e below (T131.setTop (mkF m 77 #[.val (.int p0), .val (.int p1), .val (.int p2), .val (.int p3), .val (.int p4), .val (.int (4 : Int32)), .val (.ref a_STRINGS), .val (.ref b111), .val (.ref b114), .val (.int (0 : Int32)), .unset, .unset, .unset, .unset, .unset] [(.ref b114), (.ref b131), (.ref b131)])) _
          refine XS.aload X131.here hx rfl (hb hby at_77) rfl rfl ?_
          exact kt
        obtain ⟨_, _, ⟨T132, L132, k132, n132⟩, -, X132, hSq132, hgq132, ⟨Lc132, hQ132, l132, y132, z132⟩, st132⟩ := X131.specialBackS hx (y := (⟨"com/example/inexact_search/inexactsearch/engine/Attribute", "<init>", "(Ljava/lang/String;Lcom/example/inexact_search/inexactsearch/engine/AttributeType;)V"⟩ : MethodName)) rfl hown (mvT hZ (hw _ (List.mem_of_getElem? (i := 41) rfl))) (mvT hZ (hw _ (List.mem_of_getElem? (i := 42) rfl))) (mvT hZ (hw _ (List.mem_of_getElem? (i := 43) rfl))) (by decide) (backOfS (W := 1) (rm8 l Z a0 hw [] b131 b114 a_STRINGS sv skb ([((nar .char ((p1 &&& (255 : Int32)).toUInt32.toUInt16.toUInt32.toInt32))).toInt8.toInt32].map Value.int) h131 n0 Z131 F_name_b131 F_type_b131 F_declaredMin_b131 F_declaredMax_b131 A131 g_b131 (Eq115.ext E131) (Vq115.ext E131) (Aq115.ext E131) ne_b114_b131 ne_sv_b131) hZ (hw _ (List.mem_of_getElem? (i := 43) rfl)) (hw _ (List.mem_of_getElem? (i := 40) rfl)) (by decide) (by decide)) (g := (mkF m 79 #[.val (.int p0), .val (.int p1), .val (.int p2), .val (.int p3), .val (.int p4), .val (.int (4 : Int32)), .val (.ref a_STRINGS), .val (.ref b111), .val (.ref b114), .val (.int (0 : Int32)), .unset, .unset, .unset, .unset, .unset] [(.ref a_STRINGS), (.ref b114), (.ref b131), (.ref b131)])) rfl (by rw [hml]; rfl) (Steps.refl _) (a := b131) (argsL := [(.ref b114), (.ref a_STRINGS)]) (rest := [(.ref b131)]) (lenOf own_pd17 rfl) rfl (by show 2 * 0 + _ ≤ _; exact Nat.le_of_eq rfl) (hb hby at_79) (fun _ _ => ⟨rfl, e131, (by decide : 4 + 4 ≤ _), (by decide : 10 + 40 ≤ _)⟩)
        dsimp only [Pt.U, Pt.locs, Pt.cells, Pt.slots] at X132 l132 y132 z132 st132 hQ132 hSq132 hgq132
        subst l132 y132 z132
        replace X132 : Stand p l e _ (s.setVm T132.vm) m _ below meth c T132 _ _ _ := X132
        have hS132 : s.Since T132.vm T132.heap.size := hS0.trans hSq132 (Nat.le_trans hk131 (by rw [← e131]; exact hgq132))
        have hZ132 : Z.Warmed39 (s.setVm T132.vm).vm := State.Warmed39.trans (t := (s.setVm s.vm)) hZ hSq132.1
        have hown132 : (s.setVm T132.vm).vm.findClass "com/example/inexact_search/inexactsearch/engine/AttributeHasDeclaredRangePinLaw" = some m.cls := by rw [show (s.setVm T132.vm).vm = T132.vm from rfl, hSq132.1.alike.findClass]; exact hown
        have hk132 : T132.heap.size ≤ T132.heap.size := Nat.le_refl _
        obtain ⟨rfl, Nq132, Kq132, Eq132, Fq132⟩ := hQ132
        have N132 := Fr.app N115 Nq132
        have Fa133 := ((((V113.ext E114).keep Kq115 (ninS ne_b111_b114 nin0)).ext E131).keep Kq132 (ninS ne_b111_b131 nin0))
        have K132 := (K131).trans Kq132 (allS (Or.inr kw_b131) all0)
        have Z132 : n0 ≤ T132.heap.size := Nat.le_trans Z131 Kq132.1
        refine own_tr st132 ?_
        show own_Gl _ _ _ _ _ _ _ _ (T132.setTop (mkF m 82 #[.val (.int p0), .val (.int p1), .val (.int p2), .val (.int p3), .val (.int p4), .val (.int (4 : Int32)), .val (.ref a_STRINGS), .val (.ref b111), .val (.ref b114), .val (.int (0 : Int32)), .unset, .unset, .unset, .unset, .unset] [(.ref b131)]))
        refine own_st (A' := T132.setTop (mkF m 109 #[.val (.int p0), .val (.int p1), .val (.int p2), .val (.int p3), .val (.int p4), .val (.int (4 : Int32)), .val (.ref a_STRINGS), .val (.ref b111), .val (.ref b114), .val (.int (0 : Int32)), .val (.ref b131), .unset, .unset, .unset, .unset] [(.ref b131)])) (fun tg kt => ?_) ?_
        · show Steps p.tables e below (T132.setTop (mkF m 82 #[.val (.int p0), .val (.int p1), .val (.int p2), .val (.int p3), .val (.int p4), .val (.int (4 : Int32)), .val (.ref a_STRINGS), .val (.ref b111), .val (.ref b114), .val (.int (0 : Int32)), .unset, .unset, .unset, .unset, .unset] [(.ref b131)])) _
          refine XS.astore X132.here hx rfl (hb hby at_82) rfl rfl (l' := #[.val (.int p0), .val (.int p1), .val (.int p2), .val (.int p3), .val (.int p4), .val (.int (4 : Int32)), .val (.ref a_STRINGS), .val (.ref b111), .val (.ref b114), .val (.int (0 : Int32)), .val (.ref b131), .unset, .unset, .unset, .unset]) rfl ?_
          show Steps p.tables e below (T132.setTop (mkF m 84 #[.val (.int p0), .val (.int p1), .val (.int p2), .val (.int p3), .val (.int p4), .val (.int (4 : Int32)), .val (.ref a_STRINGS), .val (.ref b111), .val (.ref b114), .val (.int (0 : Int32)), .val (.ref b131), .unset, .unset, .unset, .unset] [])) _
          refine XS.goto X132.here hx rfl (pc0 := 84) (pc' := 107) rfl (hb hby at_84) (by decide) (by decide) ?_
          show Steps p.tables e below (T132.setTop (mkF m 107 #[.val (.int p0), .val (.int p1), .val (.int p2), .val (.int p3), .val (.int p4), .val (.int (4 : Int32)), .val (.ref a_STRINGS), .val (.ref b111), .val (.ref b114), .val (.int (0 : Int32)), .val (.ref b131), .unset, .unset, .unset, .unset] [])) _
          refine XS.aload X132.here hx rfl (hb hby at_107) rfl rfl ?_
          exact kt
        obtain ⟨cq134, kq134, q134a, q134b, q134c⟩ := isOf hZ132 rfl Eq132
        obtain ⟨_, _, ⟨T134, L134, k134, n134⟩, -, X134, ⟨Lc134, hQ134, l134, y134, z134⟩, st134⟩ := X132.virtualBack hx (y := (⟨"com/example/inexact_search/inexactsearch/engine/Attribute", "hasDeclaredRange", "()Z"⟩ : MethodName)) (z := (⟨"com/example/inexact_search/inexactsearch/engine/Attribute", "hasDeclaredRange", "()Z"⟩ : MethodName)) hown132 (mvT hZ132 (hw _ (List.mem_of_getElem? (i := 69) rfl))) (mvT hZ132 (hw _ (List.mem_of_getElem? (i := 70) rfl))) (notFace_of_selects (args := #[]) (mvT hZ132 (hw _ (List.mem_of_getElem? (i := 72) rfl)))) (mvT hZ132 (hw _ (List.mem_of_getElem? (i := 72) rfl))) (mvT hZ132 (hw _ (List.mem_of_getElem? (i := 71) rfl))) (by decide) (backOf (W := 0) (rm12n l Z a0 hw [] b131 T132.heap n0 Z132 Fq132) hZ132 (hw _ (List.mem_of_getElem? (i := 73) rfl)) (hw _ (List.mem_of_getElem? (i := 40) rfl)) (by decide) (by decide)) q134a q134c (g := (mkF m 109 #[.val (.int p0), .val (.int p1), .val (.int p2), .val (.int p3), .val (.int p4), .val (.int (4 : Int32)), .val (.ref a_STRINGS), .val (.ref b111), .val (.ref b114), .val (.int (0 : Int32)), .val (.ref b131), .unset, .unset, .unset, .unset] [(.ref b131)])) rfl (by rw [hml]; rfl) (Steps.refl _) (argsL := []) (rest := []) (lenOf own_pd10 rfl) rfl (by show 2 * 0 + _ ≤ _; exact Nat.le_of_eq rfl) (hb hby at_109) (fun _ _ => ⟨rfl, rfl, (by decide : 8 + 0 ≤ _), (by decide : 50 + 0 ≤ _)⟩)
        dsimp only [Pt.U, Pt.locs, Pt.cells, Pt.slots] at X134 l134 y134 z134 st134 hQ134
        subst l134 y134 z134
        obtain ⟨rfl, Nq134, eq134⟩ := hQ134
        have N134 := Fr.app N132 Nq134
        refine own_tr st134 ?_
        show own_Gl _ _ _ _ _ _ _ _ (T134.setTop (mkF m 112 #[.val (.int p0), .val (.int p1), .val (.int p2), .val (.int p3), .val (.int p4), .val (.int (4 : Int32)), .val (.ref a_STRINGS), .val (.ref b111), .val (.ref b114), .val (.int (0 : Int32)), .val (.ref b131), .unset, .unset, .unset, .unset] [(.int (0 : Int32))]))
        refine own_st (A' := T134.setTop (mkF m 120 #[.val (.int p0), .val (.int p1), .val (.int p2), .val (.int p3), .val (.int p4), .val (.int (4 : Int32)), .val (.ref a_STRINGS), .val (.ref b111), .val (.ref b114), .val (.int (0 : Int32)), .val (.ref b131), .unset, .unset, .unset, .unset] [(.int (1 : Int32))])) (fun tg kt => ?_) ?_
        · show Steps p.tables e below (T134.setTop (mkF m 112 #[.val (.int p0), .val (.int p1), .val (.int p2), .val (.int p3), .val (.int p4), .val (.int (4 : Int32)), .val (.ref a_STRINGS), .val (.ref b111), .val (.ref b114), .val (.int (0 : Int32)), .val (.ref b131), .unset, .unset, .unset, .unset] [(.int (0 : Int32))])) _
          refine XS.ifNo X134.here hx rfl (hb hby at_112) rfl ((if0 _ _).trans (teq ((by decide) : (0 : Int32) = (0 : Int32))).2) ?_
          show Steps p.tables e below (T134.setTop (mkF m 115 #[.val (.int p0), .val (.int p1), .val (.int p2), .val (.int p3), .val (.int p4), .val (.int (4 : Int32)), .val (.ref a_STRINGS), .val (.ref b111), .val (.ref b114), .val (.int (0 : Int32)), .val (.ref b131), .unset, .unset, .unset, .unset] [])) _
          refine XS.iconst X134.here hx rfl (hb hby at_115) ?_
          show Steps p.tables e below (T134.setTop (mkF m 116 #[.val (.int p0), .val (.int p1), .val (.int p2), .val (.int p3), .val (.int p4), .val (.int (4 : Int32)), .val (.ref a_STRINGS), .val (.ref b111), .val (.ref b114), .val (.int (0 : Int32)), .val (.ref b131), .unset, .unset, .unset, .unset] [(.int (1 : Int32))])) _
          refine XS.goto X134.here hx rfl (pc0 := 116) (pc' := 120) rfl (hb hby at_116) (by decide) (by decide) ?_
          exact kt
        refine own_retW X134 hS132 (by rw [eq134]; exact hk132) (v := some (.int (1 : Int32))) (fun h => by rw [Bd.returns] at h; cases h) hlk (by decide) (by decide) ?_ (fun fs hr => ?_)
        · show Q0 Z p0 p1 p2 p3 p4 a_INTEGER a_DECIMAL a_STRING a_BOOLEAN a_STRINGS cs h0 n0 (some (.int (1 : Int32))) T134.heap _
          rw [eq134]
          exact ⟨rfl, N134⟩
        · show Steps p.tables e below (T134.setTop (mkF m 120 #[.val (.int p0), .val (.int p1), .val (.int p2), .val (.int p3), .val (.int p4), .val (.int (4 : Int32)), .val (.ref a_STRINGS), .val (.ref b111), .val (.ref b114), .val (.int (0 : Int32)), .val (.ref b131), .unset, .unset, .unset, .unset] [(.int (1 : Int32))])) _
          exact retN X134 hx (t := .boolean) Bd.returns (by simp) (hb hby at_120) hr
set_option maxRecDepth 65536 in
set_option maxHeartbeats 40000000 in
theorem comes_1 {Post : Tables → Env → Array Value → State → Outcome → State → Prop} (hpost : ∀ tb e args s v u, (limb_1_1.after args s (.returned v) u = true ∧ limb_1_2.after args s (.returned v) u = true ∧ True) → ReturnedEndW s (.returned v) u (Jvm.fieldLocs frame_1_writes args s ++ Jvm.arrayLocs frame_1_arrays args s ++ Jvm.staticLocs frame_1_statics s) 24 2176 → Post tb e args s (.returned v) u) :
    ArmFor flags0 classFile x code maxLocals ret World_1 tables_1 room_1 Calls_1 rest_1 Pre_1 Post := by
  intro l hfl _ _ p e ha hc hk s m args below hf hA hF happ hP
  obtain ⟨hcalls, hrest, hpre⟩ := hP
  obtain ⟨-, -, -, hnamed, -, -, -, hat⟩ := (Spec.applies_iff hf).mp happ
  obtain ⟨hg, hn⟩ := and_e (Cond.before_iff.mp (show (Jvm.Cond.and given_1 narrow_1).before args s = true from hpre))
  obtain ⟨gg1, gg2⟩ := and_e hg
  obtain ⟨gg3, gg4⟩ := and_e gg2
  obtain ⟨gg5, gg6⟩ := and_e gg4
  obtain ⟨gg7, gg8⟩ := and_e gg6
  obtain ⟨gg9, gg10⟩ := and_e gg8
  obtain ⟨w0, w1, w2, w3, w4, rfl⟩ : ∃ w0 w1 w2 w3 w4 : Value, args = #[w0, w1, w2, w3, w4] := by
    have hs : args.size = 5 := by simpa [Cond.value, given_1] using gg1
    obtain ⟨L⟩ := args
    match L, hs with
    | [w0, w1, w2, w3, w4], _ => exact ⟨w0, w1, w2, w3, w4, rfl⟩
  have hw := fun d (hd : d ∈ tables_1) => atoms_spec (ws := Jvm.Cond.code x code maxLocals ret :: tables_1) hat d (List.mem_cons_of_mem _ hd)
  have hfit : Fit s := fun {y c} hc i hi => by
    obtain ⟨ha, rfl⟩ := Array.getElem?_eq_some_iff.mp hc
    have q := List.all_eq_true.mp ((Array.all_eq_true_iff_forall_mem.mp hF) _ (Array.getElem_mem ha)) i (List.mem_range.mpr hi)
    simpa [Array.getElem?_eq_getElem hi] using q
  obtain ⟨hsets, hown0⟩ := atoms_of _ (rest_1_c_eq ▸ (show rest_1_c.before _ s = true from hrest))
  obtain ⟨i0, ei0⟩ := is_v gg3
  obtain rfl : w0 = (.int i0) := Option.some.inj ei0
  obtain ⟨i1, ei1⟩ := is_v gg5
  obtain rfl : w1 = (.int i1) := Option.some.inj ei1
  obtain ⟨i2, ei2⟩ := is_v gg7
  obtain rfl : w2 = (.int i2) := Option.some.inj ei2
  obtain ⟨i3, ei3⟩ := is_v gg9
  obtain rfl : w3 = (.int i3) := Option.some.inj ei3
  obtain ⟨i4, ei4⟩ := is_v gg10
  obtain rfl : w4 = (.int i4) := Option.some.inj ei4
  obtain ⟨nn1, nn2⟩ := and_e hn
  obtain ⟨nn3, nn4⟩ := and_e nn2
  obtain ⟨nn5, nn6⟩ := and_e nn4
  obtain ⟨nn7, nn8⟩ := and_e nn6
  obtain ⟨nn9, nn10⟩ := and_e nn8
  obtain ⟨nn11, nn12⟩ := and_e nn10
  obtain ⟨a_INTEGER, ev_INTEGER⟩ := exa_v nn1
  have S_INTEGER : Sta s s.heap "com/example/inexact_search/inexactsearch/engine/AttributeType" "INTEGER" "Lcom/example/inexact_search/inexactsearch/engine/AttributeType;" (.ref a_INTEGER) := Sta.start ev_INTEGER (Or.inr ⟨(hw _ (List.mem_of_getElem? (i := 6) rfl)), (hw _ (List.mem_of_getElem? (i := 7) rfl))⟩)
  have E_INTEGER : Exa s s.heap a_INTEGER "com/example/inexact_search/inexactsearch/engine/AttributeType" := Exa.start ev_INTEGER nn1
  obtain ⟨a_BOOLEAN, ev_BOOLEAN⟩ := exa_v nn3
  have S_BOOLEAN : Sta s s.heap "com/example/inexact_search/inexactsearch/engine/AttributeType" "BOOLEAN" "Lcom/example/inexact_search/inexactsearch/engine/AttributeType;" (.ref a_BOOLEAN) := Sta.start ev_BOOLEAN (Or.inr ⟨(hw _ (List.mem_of_getElem? (i := 6) rfl)), (hw _ (List.mem_of_getElem? (i := 75) rfl))⟩)
  have E_BOOLEAN : Exa s s.heap a_BOOLEAN "com/example/inexact_search/inexactsearch/engine/AttributeType" := Exa.start ev_BOOLEAN nn3
  obtain ⟨a_STRING, ev_STRING⟩ := exa_v nn5
  have S_STRING : Sta s s.heap "com/example/inexact_search/inexactsearch/engine/AttributeType" "STRING" "Lcom/example/inexact_search/inexactsearch/engine/AttributeType;" (.ref a_STRING) := Sta.start ev_STRING (Or.inr ⟨(hw _ (List.mem_of_getElem? (i := 6) rfl)), (hw _ (List.mem_of_getElem? (i := 77) rfl))⟩)
  have E_STRING : Exa s s.heap a_STRING "com/example/inexact_search/inexactsearch/engine/AttributeType" := Exa.start ev_STRING nn5
  obtain ⟨a_DECIMAL, ev_DECIMAL⟩ := exa_v nn7
  have S_DECIMAL : Sta s s.heap "com/example/inexact_search/inexactsearch/engine/AttributeType" "DECIMAL" "Lcom/example/inexact_search/inexactsearch/engine/AttributeType;" (.ref a_DECIMAL) := Sta.start ev_DECIMAL (Or.inr ⟨(hw _ (List.mem_of_getElem? (i := 6) rfl)), (hw _ (List.mem_of_getElem? (i := 139) rfl))⟩)
  have E_DECIMAL : Exa s s.heap a_DECIMAL "com/example/inexact_search/inexactsearch/engine/AttributeType" := Exa.start ev_DECIMAL nn7
  obtain ⟨a_STRINGS, ev_STRINGS⟩ := exa_v nn12
  have S_STRINGS : Sta s s.heap "com/example/inexact_search/inexactsearch/engine/AttributeType" "STRINGS" "Lcom/example/inexact_search/inexactsearch/engine/AttributeType;" (.ref a_STRINGS) := Sta.start ev_STRINGS (Or.inr ⟨(hw _ (List.mem_of_getElem? (i := 6) rfl)), (hw _ (List.mem_of_getElem? (i := 142) rfl))⟩)
  have E_STRINGS : Exa s s.heap a_STRINGS "com/example/inexact_search/inexactsearch/engine/AttributeType" := Exa.start ev_STRINGS nn12
  have F_DECIMAL_ordinal : Fld s s.heap a_DECIMAL "java/lang/Enum" "ordinal" "I" (.int (1 : Int32)) := Fld.start ((fld_at ev_DECIMAL).symm.trans (own_eqi nn9))
  have F_INTEGER_ordinal : Fld s s.heap a_INTEGER "java/lang/Enum" "ordinal" "I" (.int (0 : Int32)) := Fld.start ((fld_at ev_INTEGER).symm.trans (own_eqi nn11))
  have hcs0 := hsets _ (List.mem_of_getElem? (i := 2) rfl)
  obtain ⟨cs, ev_cs⟩ := is_v (Cond.before_iff.mp (hsets _ (List.mem_of_getElem? (i := 1) rfl)))
  have S_cs : Sta s s.heap "java/lang/String" "COMPACT_STRINGS" "Z" (.int cs) := Sta.start ev_cs (Or.inl (hsets _ (List.mem_of_getElem? (i := 0) rfl)))
  have hcs : ¬ cs = (0 : Int32) := fun q => by
    exact own_not (eq_i ev_cs (Term.int_eval 0) (congrArg Value.int q)) (Cond.before_iff.mp hcs0)
  obtain ⟨n, o, h1, h2, h3, _, L, rfl, ⟨rfl, N⟩, hq⟩ := rm0 l s _ hw tables_1 i0 i1 i2 i3 i4 a_INTEGER a_DECIMAL a_STRING a_BOOLEAN a_STRINGS cs s.heap s.heap.size (Nat.le_refl _) S_INTEGER S_DECIMAL S_STRING S_BOOLEAN S_STRINGS E_INTEGER E_DECIMAL E_STRING E_BOOLEAN E_STRINGS F_INTEGER_ordinal F_DECIMAL_ordinal S_cs hcs p e ha hc hk s m _ below hf ((Spec.applies_iff_loose hf).mp happ).1 ⟨rfl, State.Warmed39.refl s, rfl⟩ trivial
  refine ⟨n, _, h1, h2, h3, hpost _ _ _ _ _ _ ⟨Cond.after_iff.mpr rfl, Cond.after_iff.mpr (eq_i res_at (Term.int_eval (1)) rfl), trivial⟩ ⟨hq.1, hq.2.1, hq.2.2.1, (hq.2.2.2.sift fun y hy => Or.inr (N y hy)).mono (by decide) (by decide)⟩⟩
theorem main_1_1 : Claimed_1_1 := comes_1 fun _ _ _ _ _ _ h hF => ⟨h.1, hF⟩
theorem main_1_2 : Claimed_1_2 := comes_1 fun _ _ _ _ _ _ h hF => ⟨h.2.1, hF⟩
end Jvm.Pilot.@@N@@
namespace Jvm.Pilot.@@N@@
open Jvm Jvm.ClassFile Sem Op Lib Jvm.Free Jvm.Stand Jvm.Pilot.@@N@@.Jvm.D
/-! MADE BY PROGRAM (witnessworld.py) out of the Statement's table words and the real class files: 26 classes; the members and pool entries that the words name. The judged class is class 1, her method 2. -/
namespace start1
open Jvm.ClassFile
def u (s : String) : CpInfo := .utf8 (stringToUtf16 s)
/-- a pool by its gaps: so many unusable entries, then the entry; so many at the end -/
def gap : Nat → List CpInfo → List CpInfo
  | 0, r => r
  | n + 1, r => .unusable :: gap n r
def poolList (es : List (Nat × CpInfo)) (last : Nat) : List CpInfo := es.foldr (fun e r => gap e.1 (e.2 :: r)) (gap last [])
def pool (es : List (Nat × CpInfo)) (last : Nat) : Array CpInfo := ⟨poolList es last⟩
def fileOf (pool : Array CpInfo) (this : Nat) (attrs : Array Attribute := #[]) (ms : Array MethodInfo := #[]) (fl : Nat := 33) (sup : Nat := 0) (ifs : Array Nat := #[]) (fds : Array FieldInfo := #[]) : ClassFile where
  minorVersion := 0
  majorVersion := 65
  constantPool := pool
  accessFlags := fl
  thisClass := this
  superClass := sup
  interfaces := ifs
  fields := fds
  methods := ms
  attributes := attrs
def plain (name : String) (sup : Option ClassId) : Class where
  name := name
  kind := .ordinary
  loader := none
  accessFlags := 33
  super := sup
  interfaces := #[]
  cf := none
  fields := #[]
  methods := #[]
  instanceTypes := #[]
  staticTypes := #[]
  resolved := #[]
  callSites := []
  init := .initialized
  statics := none
  mirror := none

def pool0 : Array CpInfo := pool [(5, u "<init>"), (0, u "()V"), (1, .class_ 10), (1, u "java/lang/Object")] 113

def k0c0 : Code := { maxStack := 0, maxLocals := 1, code := object_method_1_code, exceptionTable := #[], attributes := #[] }
def k0m0 : Method := { name := "<init>", desc := "()V", sig := { parameters := [], returnType := none }, accessFlags := 1, code := some k0c0 }
/-- java/lang/Object -/
def k0 : Class := { plain "java/lang/Object" none with
  accessFlags := 33
  interfaces := #[]
  cf := some (fileOf pool0 8 #[] #[{ accessFlags := 1, nameIndex := 5, descriptorIndex := 6, attributes := #[] }] 33 0 #[] #[])
  fields := #[]
  methods := #[k0m0]
  instanceTypes := #[]
  staticTypes := #[]
  resolved := Array.replicate 124 none
  statics := none }

def pool1 : Array CpInfo := pool [(2, .class_ 4), (1, u "java/lang/Object"), (0, u "<init>"), (0, u "()V"), (0, .fieldref 8 9), (0, .class_ 10), (0, .nameAndType 11 12), (0, u "com/example/inexact_search/inexactsearch/engine/AttributeType"), (0, u "INTEGER"), (0, u "Lcom/example/inexact_search/inexactsearch/engine/AttributeType;"), (0, .fieldref 8 14), (0, .nameAndType 15 12), (0, u "DECIMAL"), (0, .fieldref 8 17), (0, .nameAndType 18 12), (0, u "STRING"), (0, .fieldref 8 20), (0, .nameAndType 21 12), (0, u "BOOLEAN"), (0, .fieldref 8 23), (0, .nameAndType 24 12), (0, u "STRINGS"), (0, .integer 2147483647), (0, .methodref 27 28), (0, .class_ 29), (0, .nameAndType 30 31), (0, u "com/example/inexact_search/inexactsearch/engine/AttributeHasDeclaredRangePinLaw"), (0, u "typeOf"), (0, u "(I)Lcom/example/inexact_search/inexactsearch/engine/AttributeType;"), (0, .class_ 33), (0, u "java/lang/String"), (0, .methodref 32 35), (0, .nameAndType 5 36), (0, u "([C)V"), (0, .class_ 38), (0, u "com/example/inexact_search/inexactsearch/engine/Attribute"), (0, .methodref 37 40), (0, .nameAndType 5 41), (0, u "(Ljava/lang/String;Lcom/example/inexact_search/inexactsearch/engine/AttributeType;)V"), (0, .methodref 37 43), (0, .nameAndType 5 44), (0, u "(Ljava/lang/String;Lcom/example/inexact_search/inexactsearch/engine/AttributeType;Ljava/lang/Double;Ljava/lang/Double;)V"), (0, .methodref 37 46), (0, .nameAndType 47 48), (0, u "hasDeclaredRange"), (0, u "()Z"), (0, .methodref 50 51), (0, .class_ 52), (0, .nameAndType 53 54), (0, u "java/lang/Math"), (0, u "min"), (0, u "(II)I"), (0, .methodref 50 56), (0, .nameAndType 57 54), (0, u "max"), (0, .methodref 59 60), (0, .class_ 61), (0, .nameAndType 62 63), (0, u "java/lang/Double"), (0, u "valueOf"), (0, u "(D)Ljava/lang/Double;"), (0, .methodref 37 65), (0, .nameAndType 66 67), (0, u "declaredMin"), (0, u "()D"), (0, .methodref 37 69), (0, .nameAndType 70 67), (0, u "declaredMax"), (3, u "law"), (0, u "(IIIII)Z")] 4

def k1m0 : Method := { name := "<init>", desc := "()V", sig := { parameters := [], returnType := none }, accessFlags := 1, code := none }
def k1c1 : Code := { maxStack := 2, maxLocals := 1, code := method_2_code, exceptionTable := #[], attributes := #[] }
def k1m1 : Method := { name := "typeOf", desc := "(I)Lcom/example/inexact_search/inexactsearch/engine/AttributeType;", sig := { parameters := [.int], returnType := some (.object "com/example/inexact_search/inexactsearch/engine/AttributeType") }, accessFlags := 10, code := some k1c1 }
def k1c2 : Code := { maxStack := 6, maxLocals := 15, code := code, exceptionTable := #[], attributes := #[] }
def k1m2 : Method := { name := "law", desc := "(IIIII)Z", sig := { parameters := [.int, .int, .int, .int, .int], returnType := some .boolean }, accessFlags := 9, code := some k1c2 }
/-- com/example/inexact_search/inexactsearch/engine/AttributeHasDeclaredRangePinLaw -/
def k1 : Class := { plain "com/example/inexact_search/inexactsearch/engine/AttributeHasDeclaredRangePinLaw" (some 0) with
  accessFlags := 49
  interfaces := #[]
  cf := some (fileOf pool1 27 #[] #[{ accessFlags := 1, nameIndex := 5, descriptorIndex := 6, attributes := #[] }, { accessFlags := 10, nameIndex := 30, descriptorIndex := 31, attributes := #[] }, { accessFlags := 9, nameIndex := 74, descriptorIndex := 75, attributes := #[] }] 49 2 #[] #[])
  fields := #[]
  methods := #[k1m0, k1m1, k1m2]
  instanceTypes := #[]
  staticTypes := #[]
  resolved := Array.replicate 80 none
  statics := none }

def pool2 : Array CpInfo := pool [(1, .class_ 2), (0, u "java/lang/constant/Constable"), (0, .class_ 4), (0, u "java/lang/Object")] 6

/-- java/lang/constant/Constable -/
def k2 : Class := { plain "java/lang/constant/Constable" (some 0) with
  accessFlags := 1537
  interfaces := #[]
  cf := some (fileOf pool2 1 #[] #[] 1537 3 #[] #[])
  fields := #[]
  methods := #[]
  instanceTypes := #[]
  staticTypes := #[]
  resolved := Array.replicate 11 none
  statics := none }

def pool3 : Array CpInfo := pool [(1, .class_ 2), (0, u "java/lang/Comparable"), (0, .class_ 4), (0, u "java/lang/Object")] 7

/-- java/lang/Comparable -/
def k3 : Class := { plain "java/lang/Comparable" (some 0) with
  accessFlags := 1537
  interfaces := #[]
  cf := some (fileOf pool3 1 #[] #[] 1537 3 #[] #[])
  fields := #[]
  methods := #[]
  instanceTypes := #[]
  staticTypes := #[]
  resolved := Array.replicate 12 none
  statics := none }

def pool4 : Array CpInfo := pool [(1, .class_ 2), (0, u "java/io/Serializable"), (0, .class_ 4), (0, u "java/lang/Object")] 2

/-- java/io/Serializable -/
def k4 : Class := { plain "java/io/Serializable" (some 0) with
  accessFlags := 1537
  interfaces := #[]
  cf := some (fileOf pool4 1 #[] #[] 1537 3 #[] #[])
  fields := #[]
  methods := #[]
  instanceTypes := #[]
  staticTypes := #[]
  resolved := Array.replicate 7 none
  statics := none }

def pool5 : Array CpInfo := pool [(2, .class_ 4), (1, u "java/lang/Enum"), (0, u "name"), (0, u "Ljava/lang/String;"), (2, u "ordinal"), (0, u "I"), (1, .class_ 14), (1, u "java/lang/Object"), (4, u "hash"), (86, .class_ 108), (1, u "java/lang/Enum$EnumDesc"), (2, .class_ 112), (0, u "java/lang/constant/Constable"), (0, .class_ 114), (0, u "java/lang/Comparable"), (0, .class_ 116), (0, u "java/io/Serializable")] 87

/-- java/lang/Enum -/
def k5 : Class := { plain "java/lang/Enum" (some 0) with
  accessFlags := 1057
  interfaces := #[2, 3, 4]
  cf := some (fileOf pool5 2 #[.nestMembers #[106]] #[] 1057 12 #[111, 113, 115] #[{ accessFlags := 18, nameIndex := 5, descriptorIndex := 6, attributes := #[] }, { accessFlags := 18, nameIndex := 9, descriptorIndex := 10, attributes := #[] }, { accessFlags := 2, nameIndex := 19, descriptorIndex := 10, attributes := #[] }])
  fields := #[{ name := "name", type := (.object "java/lang/String"), accessFlags := 18, slot := 0, constantValue := 0 }, { name := "ordinal", type := .int, accessFlags := 18, slot := 1, constantValue := 0 }, { name := "hash", type := .int, accessFlags := 2, slot := 2, constantValue := 0 }]
  methods := #[]
  instanceTypes := #[(.object "java/lang/String"), .int, .int]
  staticTypes := #[]
  resolved := Array.replicate 204 none
  statics := none }

def pool6 : Array CpInfo := pool [(1, .class_ 2), (0, u "com/example/inexact_search/inexactsearch/engine/AttributeType"), (0, .fieldref 1 4), (0, .nameAndType 5 6), (0, u "INTEGER"), (0, u "Lcom/example/inexact_search/inexactsearch/engine/AttributeType;"), (0, .fieldref 1 8), (0, .nameAndType 9 6), (0, u "DECIMAL"), (2, u "STRING"), (2, u "BOOLEAN"), (2, u "STRINGS"), (2, u "$VALUES"), (0, u "[Lcom/example/inexact_search/inexactsearch/engine/AttributeType;"), (6, .class_ 31), (1, u "java/lang/Enum"), (8, u "notationName"), (0, u "Ljava/lang/String;"), (2, u "withArticle"), (77, u "()Z"), (5, u "isNumber")] 126

def k6c0 : Code := { maxStack := 2, maxLocals := 1, code := prog_11_method_7_code, exceptionTable := #[], attributes := #[] }
def k6m0 : Method := { name := "isNumber", desc := "()Z", sig := { parameters := [], returnType := some .boolean }, accessFlags := 1, code := some k6c0 }
/-- com/example/inexact_search/inexactsearch/engine/AttributeType -/
def k6 : Class := { plain "com/example/inexact_search/inexactsearch/engine/AttributeType" (some 5) with
  accessFlags := 16433
  interfaces := #[]
  cf := some (fileOf pool6 1 #[] #[{ accessFlags := 1, nameIndex := 128, descriptorIndex := 122, attributes := #[] }] 16433 29 #[] #[{ accessFlags := 16409, nameIndex := 5, descriptorIndex := 6, attributes := #[] }, { accessFlags := 16409, nameIndex := 9, descriptorIndex := 6, attributes := #[] }, { accessFlags := 16409, nameIndex := 12, descriptorIndex := 6, attributes := #[] }, { accessFlags := 16409, nameIndex := 15, descriptorIndex := 6, attributes := #[] }, { accessFlags := 16409, nameIndex := 18, descriptorIndex := 6, attributes := #[] }, { accessFlags := 18, nameIndex := 40, descriptorIndex := 41, attributes := #[] }, { accessFlags := 18, nameIndex := 44, descriptorIndex := 41, attributes := #[] }, { accessFlags := 4122, nameIndex := 21, descriptorIndex := 22, attributes := #[] }])
  fields := #[{ name := "INTEGER", type := (.object "com/example/inexact_search/inexactsearch/engine/AttributeType"), accessFlags := 16409, slot := 0, constantValue := 0 }, { name := "DECIMAL", type := (.object "com/example/inexact_search/inexactsearch/engine/AttributeType"), accessFlags := 16409, slot := 1, constantValue := 0 }, { name := "STRING", type := (.object "com/example/inexact_search/inexactsearch/engine/AttributeType"), accessFlags := 16409, slot := 2, constantValue := 0 }, { name := "BOOLEAN", type := (.object "com/example/inexact_search/inexactsearch/engine/AttributeType"), accessFlags := 16409, slot := 3, constantValue := 0 }, { name := "STRINGS", type := (.object "com/example/inexact_search/inexactsearch/engine/AttributeType"), accessFlags := 16409, slot := 4, constantValue := 0 }, { name := "notationName", type := (.object "java/lang/String"), accessFlags := 18, slot := 3, constantValue := 0 }, { name := "withArticle", type := (.object "java/lang/String"), accessFlags := 18, slot := 4, constantValue := 0 }, { name := "$VALUES", type := (.array (.object "com/example/inexact_search/inexactsearch/engine/AttributeType")), accessFlags := 4122, slot := 5, constantValue := 0 }]
  methods := #[k6m0]
  instanceTypes := #[(.object "java/lang/String"), .int, .int, (.object "java/lang/String"), (.object "java/lang/String")]
  staticTypes := #[(.object "com/example/inexact_search/inexactsearch/engine/AttributeType"), (.object "com/example/inexact_search/inexactsearch/engine/AttributeType"), (.object "com/example/inexact_search/inexactsearch/engine/AttributeType"), (.object "com/example/inexact_search/inexactsearch/engine/AttributeType"), (.object "com/example/inexact_search/inexactsearch/engine/AttributeType"), (.array (.object "com/example/inexact_search/inexactsearch/engine/AttributeType"))]
  resolved := Array.replicate 255 none
  statics := some 0 }

def pool7 : Array CpInfo := pool [(2, .class_ 4), (1, u "java/lang/CharSequence"), (42, .class_ 48), (0, u "java/lang/CharSequence$1CodePointIterator"), (10, .class_ 60), (0, u "java/lang/CharSequence$1CharIterator"), (5, .class_ 67), (0, u "java/lang/Object")] 63

/-- java/lang/CharSequence -/
def k7 : Class := { plain "java/lang/CharSequence" (some 0) with
  accessFlags := 1537
  interfaces := #[]
  cf := some (fileOf pool7 2 #[.nestMembers #[47, 59]] #[] 1537 66 #[] #[])
  fields := #[]
  methods := #[]
  instanceTypes := #[]
  staticTypes := #[]
  resolved := Array.replicate 131 none
  statics := none }

def pool8 : Array CpInfo := pool [(1, .class_ 2), (0, u "java/lang/constant/ConstantDesc"), (0, .class_ 4), (0, u "java/lang/Object")] 32

/-- java/lang/constant/ConstantDesc -/
def k8 : Class := { plain "java/lang/constant/ConstantDesc" (some 0) with
  accessFlags := 1537
  interfaces := #[]
  cf := some (fileOf pool8 1 #[] #[] 1537 3 #[] #[])
  fields := #[]
  methods := #[]
  instanceTypes := #[]
  staticTypes := #[]
  resolved := Array.replicate 37 none
  statics := none }

def pool9 : Array CpInfo := pool [(1, .methodref 2 3), (0, .class_ 4), (0, .nameAndType 5 6), (0, u "java/lang/Object"), (0, u "<init>"), (0, u "()V"), (2, .fieldref 10 11), (0, .class_ 12), (0, .nameAndType 13 14), (0, u "java/lang/String"), (0, u "value"), (0, u "[B"), (0, .fieldref 10 16), (0, .nameAndType 17 18), (0, u "coder"), (0, u "B"), (2, u "hash"), (0, u "I"), (2, u "hashIsZero"), (0, u "Z"), (0, .methodref 10 28), (0, .nameAndType 5 29), (0, u "([CIILjava/lang/Void;)V"), (8, .fieldref 10 39), (0, .nameAndType 40 26), (0, u "COMPACT_STRINGS"), (1, .class_ 44), (1, u "java/lang/StringUTF16"), (0, u "compress"), (1, .methodref 42 48), (0, .nameAndType 49 50), (0, u "coderFromArrayLen"), (0, u "([BI)B"), (91, u "()Z"), (34, .methodref 42 178), (0, .nameAndType 45 179), (0, u "([CII)[B"), (395, .class_ 576), (0, u "java/lang/CharSequence"), (22, u "CASE_INSENSITIVE_ORDER"), (0, u "Ljava/util/Comparator;"), (91, u "isEmpty"), (317, u "([C)V"), (90, u "serialPersistentFields"), (0, u "[Ljava/io/ObjectStreamField;"), (0, .class_ 1104), (0, u "java/lang/String$CaseInsensitiveComparator"), (1, .class_ 1107), (0, u "java/io/Serializable"), (0, .class_ 1109), (0, u "java/lang/Comparable"), (0, .class_ 1111), (0, u "java/lang/constant/Constable"), (0, .class_ 1113), (0, u "java/lang/constant/ConstantDesc"), (2, u "serialVersionUID"), (0, u "J"), (3, u "REPL"), (0, u "C"), (2, u "LATIN1"), (1, u "UTF16")] 323

def k9m0 : Method := { name := "<init>", desc := "()V", sig := { parameters := [], returnType := none }, accessFlags := 1, code := none }
def k9c1 : Code := { maxStack := 5, maxLocals := 2, code := jdk_42_method_3_code, exceptionTable := #[], attributes := #[] }
def k9m1 : Method := { name := "<init>", desc := "([C)V", sig := { parameters := [(.array .char)], returnType := none }, accessFlags := 1, code := some k9c1 }
def k9c2 : Code := { maxStack := 1, maxLocals := 1, code := jdk_42_method_55_code, exceptionTable := #[], attributes := #[] }
def k9m2 : Method := { name := "isEmpty", desc := "()Z", sig := { parameters := [], returnType := some .boolean }, accessFlags := 1, code := some k9c2 }
def k9c3 : Code := { maxStack := 4, maxLocals := 6, code := jdk_42_method_149_code, exceptionTable := #[], attributes := #[] }
def k9m3 : Method := { name := "<init>", desc := "([CIILjava/lang/Void;)V", sig := { parameters := [(.array .char), .int, .int, (.object "java/lang/Void")], returnType := none }, accessFlags := 2, code := some k9c3 }
/-- java/lang/String -/
def k9 : Class := { plain "java/lang/String" (some 0) with
  accessFlags := 49
  interfaces := #[4, 3, 7, 2, 8]
  cf := some (fileOf pool9 10 #[.nestMembers #[1103]] #[{ accessFlags := 1, nameIndex := 5, descriptorIndex := 6, attributes := #[] }, { accessFlags := 1, nameIndex := 5, descriptorIndex := 1010, attributes := #[] }, { accessFlags := 1, nameIndex := 692, descriptorIndex := 142, attributes := #[] }, { accessFlags := 2, nameIndex := 5, descriptorIndex := 29, attributes := #[] }] 49 2 #[1106, 1108, 575, 1110, 1112] #[{ accessFlags := 18, nameIndex := 13, descriptorIndex := 14, attributes := #[] }, { accessFlags := 18, nameIndex := 17, descriptorIndex := 18, attributes := #[] }, { accessFlags := 2, nameIndex := 21, descriptorIndex := 22, attributes := #[] }, { accessFlags := 2, nameIndex := 25, descriptorIndex := 26, attributes := #[] }, { accessFlags := 26, nameIndex := 1116, descriptorIndex := 1117, attributes := #[] }, { accessFlags := 24, nameIndex := 40, descriptorIndex := 26, attributes := #[] }, { accessFlags := 26, nameIndex := 1101, descriptorIndex := 1102, attributes := #[] }, { accessFlags := 26, nameIndex := 1121, descriptorIndex := 1122, attributes := #[] }, { accessFlags := 25, nameIndex := 599, descriptorIndex := 600, attributes := #[] }, { accessFlags := 24, nameIndex := 1125, descriptorIndex := 18, attributes := #[] }, { accessFlags := 24, nameIndex := 1127, descriptorIndex := 18, attributes := #[] }])
  fields := #[{ name := "value", type := (.array .byte), accessFlags := 18, slot := 0, constantValue := 0 }, { name := "coder", type := .byte, accessFlags := 18, slot := 1, constantValue := 0 }, { name := "hash", type := .int, accessFlags := 2, slot := 2, constantValue := 0 }, { name := "hashIsZero", type := .boolean, accessFlags := 2, slot := 3, constantValue := 0 }, { name := "serialVersionUID", type := .long, accessFlags := 26, slot := 0, constantValue := 0 }, { name := "COMPACT_STRINGS", type := .boolean, accessFlags := 24, slot := 1, constantValue := 0 }, { name := "serialPersistentFields", type := (.array (.object "java/io/ObjectStreamField")), accessFlags := 26, slot := 2, constantValue := 0 }, { name := "REPL", type := .char, accessFlags := 26, slot := 3, constantValue := 0 }, { name := "CASE_INSENSITIVE_ORDER", type := (.object "java/util/Comparator"), accessFlags := 25, slot := 4, constantValue := 0 }, { name := "LATIN1", type := .byte, accessFlags := 24, slot := 5, constantValue := 0 }, { name := "UTF16", type := .byte, accessFlags := 24, slot := 6, constantValue := 0 }]
  methods := #[k9m0, k9m1, k9m2, k9m3]
  instanceTypes := #[(.array .byte), .byte, .int, .boolean]
  staticTypes := #[.long, .boolean, (.array (.object "java/io/ObjectStreamField")), .char, (.object "java/util/Comparator"), .byte, .byte]
  resolved := Array.replicate 1451 none
  statics := some 1 }

def pool10 : Array CpInfo := pool [(6, .class_ 8), (1, u "java/lang/Object"), (0, u "<init>"), (0, u "()V"), (1, .class_ 14), (1, u "java/lang/StringUTF16"), (31, u "$assertionsDisabled"), (0, u "Z"), (13, u "HI_BYTE_SHIFT"), (0, u "I"), (2, u "LO_BYTE_SHIFT"), (49, .methodref 12 116), (0, .nameAndType 117 118), (0, u "compress"), (0, u "([CI[BII)I"), (3, u "([CII)[B"), (138, u "coderFromArrayLen"), (0, u "([BI)B"), (106, .class_ 371), (1, u "java/lang/StringUTF16$LinesSpliterator"), (58, u "MAX_LENGTH"), (196, .class_ 628), (0, u "java/lang/StringUTF16$CodePointsSpliterator"), (0, .class_ 630), (0, u "java/lang/StringUTF16$CharsSpliterator")] 4

def k10m0 : Method := { name := "<init>", desc := "()V", sig := { parameters := [], returnType := none }, accessFlags := 0, code := none }
def k10c1 : Code := { maxStack := 2, maxLocals := 2, code := jdk_52_method_15_code, exceptionTable := #[], attributes := #[] }
def k10m1 : Method := { name := "coderFromArrayLen", desc := "([BI)B", sig := { parameters := [(.array .byte), .int], returnType := some .byte }, accessFlags := 8, code := some k10c1 }
def k10c2 : Code := { maxStack := 5, maxLocals := 6, code := jdk_52_method_16_code, exceptionTable := #[], attributes := #[] }
def k10m2 : Method := { name := "compress", desc := "([CII)[B", sig := { parameters := [(.array .char), .int, .int], returnType := some (.array .byte) }, accessFlags := 9, code := some k10c2 }
def k10c3 : Code := { maxStack := 3, maxLocals := 7, code := jdk_52_method_21_code, exceptionTable := #[], attributes := #[] }
def k10m3 : Method := { name := "compress", desc := "([CI[BII)I", sig := { parameters := [(.array .char), .int, (.array .byte), .int, .int], returnType := some .int }, accessFlags := 9, code := some k10c3 }
/-- java/lang/StringUTF16 -/
def k10 : Class := { plain "java/lang/StringUTF16" (some 0) with
  accessFlags := 48
  interfaces := #[]
  cf := some (fileOf pool10 12 #[.nestMembers #[627, 629, 369]] #[{ accessFlags := 0, nameIndex := 9, descriptorIndex := 10, attributes := #[] }, { accessFlags := 8, nameIndex := 261, descriptorIndex := 262, attributes := #[] }, { accessFlags := 9, nameIndex := 117, descriptorIndex := 122, attributes := #[] }, { accessFlags := 9, nameIndex := 117, descriptorIndex := 118, attributes := #[] }] 48 6 #[] #[{ accessFlags := 26, nameIndex := 61, descriptorIndex := 62, attributes := #[] }, { accessFlags := 26, nameIndex := 65, descriptorIndex := 62, attributes := #[] }, { accessFlags := 24, nameIndex := 430, descriptorIndex := 62, attributes := #[] }, { accessFlags := 4120, nameIndex := 46, descriptorIndex := 47, attributes := #[] }])
  fields := #[{ name := "HI_BYTE_SHIFT", type := .int, accessFlags := 26, slot := 0, constantValue := 0 }, { name := "LO_BYTE_SHIFT", type := .int, accessFlags := 26, slot := 1, constantValue := 0 }, { name := "MAX_LENGTH", type := .int, accessFlags := 24, slot := 2, constantValue := 0 }, { name := "$assertionsDisabled", type := .boolean, accessFlags := 4120, slot := 3, constantValue := 0 }]
  methods := #[k10m0, k10m1, k10m2, k10m3]
  instanceTypes := #[]
  staticTypes := #[.int, .int, .int, .boolean]
  resolved := Array.replicate 635 none
  statics := none }

def pool11 : Array CpInfo := pool [(1, .methodref 2 3), (0, .class_ 4), (0, .nameAndType 5 6), (0, u "com/example/inexact_search/inexactsearch/engine/Attribute"), (0, u "<init>"), (0, u "(Ljava/lang/String;Lcom/example/inexact_search/inexactsearch/engine/AttributeType;Ljava/lang/Double;Ljava/lang/Double;)V"), (0, .methodref 8 9), (0, .class_ 10), (0, .nameAndType 5 11), (0, u "java/lang/Object"), (0, u "()V"), (0, .string 13), (0, u "name"), (0, .methodref 15 16), (0, .class_ 17), (0, .nameAndType 18 19), (0, u "java/util/Objects"), (0, u "requireNonNull"), (0, u "(Ljava/lang/Object;Ljava/lang/String;)Ljava/lang/Object;"), (0, .string 21), (0, u "type"), (0, .methodref 23 24), (0, .class_ 25), (0, .nameAndType 26 27), (0, u "java/lang/String"), (0, u "isEmpty"), (0, u "()Z"), (11, .methodref 40 41), (0, .class_ 42), (0, .nameAndType 43 27), (0, u "com/example/inexact_search/inexactsearch/engine/AttributeType"), (0, u "isNumber"), (7, .methodref 52 53), (0, .class_ 54), (0, .nameAndType 55 56), (0, u "java/lang/Double"), (0, u "doubleValue"), (0, u "()D"), (0, .methodref 52 58), (0, .nameAndType 59 60), (0, u "isFinite"), (0, u "(D)Z"), (2, .fieldref 2 64), (0, .nameAndType 13 65), (0, u "Ljava/lang/String;"), (0, .fieldref 2 67), (0, .nameAndType 21 68), (0, u "Lcom/example/inexact_search/inexactsearch/engine/AttributeType;"), (0, .fieldref 2 70), (0, .nameAndType 71 72), (0, u "declaredMin"), (0, u "Ljava/lang/Double;"), (0, .fieldref 2 74), (0, .nameAndType 75 72), (0, u "declaredMax"), (0, .methodref 2 77), (0, .nameAndType 78 11), (0, u "requireDeclaredRange"), (0, .methodref 2 80), (0, .nameAndType 81 27), (0, u "hasDeclaredRange"), (4, u "(Ljava/lang/String;Lcom/example/inexact_search/inexactsearch/engine/AttributeType;)V")] 29

def k11c0 : Code := { maxStack := 5, maxLocals := 3, code := prog_9_method_1_code, exceptionTable := #[], attributes := #[] }
def k11m0 : Method := { name := "<init>", desc := "(Ljava/lang/String;Lcom/example/inexact_search/inexactsearch/engine/AttributeType;)V", sig := { parameters := [(.object "java/lang/String"), (.object "com/example/inexact_search/inexactsearch/engine/AttributeType")], returnType := none }, accessFlags := 1, code := some k11c0 }
def k11c1 : Code := { maxStack := 4, maxLocals := 5, code := prog_9_method_2_code, exceptionTable := #[], attributes := #[] }
def k11m1 : Method := { name := "<init>", desc := "(Ljava/lang/String;Lcom/example/inexact_search/inexactsearch/engine/AttributeType;Ljava/lang/Double;Ljava/lang/Double;)V", sig := { parameters := [(.object "java/lang/String"), (.object "com/example/inexact_search/inexactsearch/engine/AttributeType"), (.object "java/lang/Double"), (.object "java/lang/Double")], returnType := none }, accessFlags := 1, code := some k11c1 }
def k11c2 : Code := { maxStack := 1, maxLocals := 1, code := prog_9_method_5_code, exceptionTable := #[], attributes := #[] }
def k11m2 : Method := { name := "hasDeclaredRange", desc := "()Z", sig := { parameters := [], returnType := some .boolean }, accessFlags := 1, code := some k11c2 }
def k11c3 : Code := { maxStack := 2, maxLocals := 1, code := prog_9_method_6_code, exceptionTable := #[], attributes := #[] }
def k11m3 : Method := { name := "declaredMin", desc := "()D", sig := { parameters := [], returnType := some .double }, accessFlags := 1, code := some k11c3 }
def k11c4 : Code := { maxStack := 2, maxLocals := 1, code := prog_9_method_7_code, exceptionTable := #[], attributes := #[] }
def k11m4 : Method := { name := "declaredMax", desc := "()D", sig := { parameters := [], returnType := some .double }, accessFlags := 1, code := some k11c4 }
def k11c5 : Code := { maxStack := 3, maxLocals := 1, code := prog_9_method_8_code, exceptionTable := #[], attributes := #[] }
def k11m5 : Method := { name := "requireDeclaredRange", desc := "()V", sig := { parameters := [], returnType := none }, accessFlags := 2, code := some k11c5 }
/-- com/example/inexact_search/inexactsearch/engine/Attribute -/
def k11 : Class := { plain "com/example/inexact_search/inexactsearch/engine/Attribute" (some 0) with
  accessFlags := 49
  interfaces := #[]
  cf := some (fileOf pool11 2 #[] #[{ accessFlags := 1, nameIndex := 5, descriptorIndex := 86, attributes := #[] }, { accessFlags := 1, nameIndex := 5, descriptorIndex := 6, attributes := #[] }, { accessFlags := 1, nameIndex := 81, descriptorIndex := 27, attributes := #[] }, { accessFlags := 1, nameIndex := 71, descriptorIndex := 56, attributes := #[] }, { accessFlags := 1, nameIndex := 75, descriptorIndex := 56, attributes := #[] }, { accessFlags := 2, nameIndex := 78, descriptorIndex := 11, attributes := #[] }] 49 8 #[] #[{ accessFlags := 18, nameIndex := 13, descriptorIndex := 65, attributes := #[] }, { accessFlags := 18, nameIndex := 21, descriptorIndex := 68, attributes := #[] }, { accessFlags := 18, nameIndex := 71, descriptorIndex := 72, attributes := #[] }, { accessFlags := 18, nameIndex := 75, descriptorIndex := 72, attributes := #[] }])
  fields := #[{ name := "name", type := (.object "java/lang/String"), accessFlags := 18, slot := 0, constantValue := 0 }, { name := "type", type := (.object "com/example/inexact_search/inexactsearch/engine/AttributeType"), accessFlags := 18, slot := 1, constantValue := 0 }, { name := "declaredMin", type := (.object "java/lang/Double"), accessFlags := 18, slot := 2, constantValue := 0 }, { name := "declaredMax", type := (.object "java/lang/Double"), accessFlags := 18, slot := 3, constantValue := 0 }]
  methods := #[k11m0, k11m1, k11m2, k11m3, k11m4, k11m5]
  instanceTypes := #[(.object "java/lang/String"), (.object "com/example/inexact_search/inexactsearch/engine/AttributeType"), (.object "java/lang/Double"), (.object "java/lang/Double")]
  staticTypes := #[]
  resolved := Array.replicate 116 none
  statics := none }

def pool12 : Array CpInfo := pool [(2, .class_ 4), (1, u "java/lang/Object"), (0, u "<init>"), (0, u "()V"), (35, .class_ 44), (1, u "java/util/Objects"), (0, u "requireNonNull"), (48, u "(Ljava/lang/Object;Ljava/lang/String;)Ljava/lang/Object;")] 89

def k12m0 : Method := { name := "<init>", desc := "()V", sig := { parameters := [], returnType := none }, accessFlags := 2, code := none }
def k12c1 : Code := { maxStack := 3, maxLocals := 2, code := jdk_31_method_11_code, exceptionTable := #[], attributes := #[] }
def k12m1 : Method := { name := "requireNonNull", desc := "(Ljava/lang/Object;Ljava/lang/String;)Ljava/lang/Object;", sig := { parameters := [(.object "java/lang/Object"), (.object "java/lang/String")], returnType := some (.object "java/lang/Object") }, accessFlags := 9, code := some k12c1 }
/-- java/util/Objects -/
def k12 : Class := { plain "java/util/Objects" (some 0) with
  accessFlags := 49
  interfaces := #[]
  cf := some (fileOf pool12 42 #[] #[{ accessFlags := 2, nameIndex := 5, descriptorIndex := 6, attributes := #[] }, { accessFlags := 9, nameIndex := 45, descriptorIndex := 94, attributes := #[] }] 49 2 #[] #[])
  fields := #[]
  methods := #[k12m0, k12m1]
  instanceTypes := #[]
  staticTypes := #[]
  resolved := Array.replicate 184 none
  statics := none }

def pool13 : Array CpInfo := pool [(1, .class_ 2), (0, u "java/lang/Math"), (1, .class_ 6), (1, u "java/lang/Object"), (0, u "<init>"), (0, u "()V"), (5, u "(D)D"), (83, .class_ 100), (1, u "java/lang/Math$RandomNumberGeneratorHolder"), (23, u "abs"), (47, u "negativeZeroFloatBits"), (0, u "J"), (2, u "negativeZeroDoubleBits"), (21, u "max"), (2, u "min"), (43, u "$assertionsDisabled"), (0, u "Z"), (88, u "(II)I"), (2, u "twoToTheDoubleScaleDown"), (0, u "D"), (4, u "twoToTheDoubleScaleUp"), (9, u "E"), (3, u "PI"), (2, u "TAU"), (2, u "DEGREES_TO_RADIANS"), (0, u "RADIANS_TO_DEGREES")] 94

def k13m0 : Method := { name := "<init>", desc := "()V", sig := { parameters := [], returnType := none }, accessFlags := 2, code := none }
def k13c1 : Code := { maxStack := 4, maxLocals := 2, code := jdk_29_method_64_code, exceptionTable := #[], attributes := #[] }
def k13m1 : Method := { name := "abs", desc := "(D)D", sig := { parameters := [.double], returnType := some .double }, accessFlags := 9, code := some k13c1 }
def k13c2 : Code := { maxStack := 2, maxLocals := 2, code := jdk_29_method_65_code, exceptionTable := #[], attributes := #[] }
def k13m2 : Method := { name := "max", desc := "(II)I", sig := { parameters := [.int, .int], returnType := some .int }, accessFlags := 9, code := some k13c2 }
def k13c3 : Code := { maxStack := 2, maxLocals := 2, code := jdk_29_method_69_code, exceptionTable := #[], attributes := #[] }
def k13m3 : Method := { name := "min", desc := "(II)I", sig := { parameters := [.int, .int], returnType := some .int }, accessFlags := 9, code := some k13c3 }
/-- java/lang/Math -/
def k13 : Class := { plain "java/lang/Math" (some 0) with
  accessFlags := 49
  interfaces := #[]
  cf := some (fileOf pool13 1 #[.nestMembers #[98]] #[{ accessFlags := 2, nameIndex := 7, descriptorIndex := 8, attributes := #[] }, { accessFlags := 9, nameIndex := 124, descriptorIndex := 14, attributes := #[] }, { accessFlags := 9, nameIndex := 198, descriptorIndex := 335, attributes := #[] }, { accessFlags := 9, nameIndex := 201, descriptorIndex := 335, attributes := #[] }] 49 4 #[] #[{ accessFlags := 25, nameIndex := 354, descriptorIndex := 339, attributes := #[] }, { accessFlags := 25, nameIndex := 358, descriptorIndex := 339, attributes := #[] }, { accessFlags := 25, nameIndex := 361, descriptorIndex := 339, attributes := #[] }, { accessFlags := 26, nameIndex := 364, descriptorIndex := 339, attributes := #[] }, { accessFlags := 26, nameIndex := 365, descriptorIndex := 339, attributes := #[] }, { accessFlags := 26, nameIndex := 172, descriptorIndex := 173, attributes := #[] }, { accessFlags := 26, nameIndex := 176, descriptorIndex := 173, attributes := #[] }, { accessFlags := 8, nameIndex := 344, descriptorIndex := 339, attributes := #[] }, { accessFlags := 8, nameIndex := 338, descriptorIndex := 339, attributes := #[] }, { accessFlags := 4120, nameIndex := 245, descriptorIndex := 246, attributes := #[] }])
  fields := #[{ name := "E", type := .double, accessFlags := 25, slot := 0, constantValue := 0 }, { name := "PI", type := .double, accessFlags := 25, slot := 1, constantValue := 0 }, { name := "TAU", type := .double, accessFlags := 25, slot := 2, constantValue := 0 }, { name := "DEGREES_TO_RADIANS", type := .double, accessFlags := 26, slot := 3, constantValue := 0 }, { name := "RADIANS_TO_DEGREES", type := .double, accessFlags := 26, slot := 4, constantValue := 0 }, { name := "negativeZeroFloatBits", type := .long, accessFlags := 26, slot := 5, constantValue := 0 }, { name := "negativeZeroDoubleBits", type := .long, accessFlags := 26, slot := 6, constantValue := 0 }, { name := "twoToTheDoubleScaleUp", type := .double, accessFlags := 8, slot := 7, constantValue := 0 }, { name := "twoToTheDoubleScaleDown", type := .double, accessFlags := 8, slot := 8, constantValue := 0 }, { name := "$assertionsDisabled", type := .boolean, accessFlags := 4120, slot := 9, constantValue := 0 }]
  methods := #[k13m0, k13m1, k13m2, k13m3]
  instanceTypes := #[]
  staticTypes := #[.double, .double, .double, .double, .double, .long, .long, .double, .double, .boolean]
  resolved := Array.replicate 460 none
  statics := none }

def pool14 : Array CpInfo := pool [(1, .methodref 2 3), (0, .class_ 4), (0, .nameAndType 5 6), (0, u "java/lang/Object"), (0, u "<init>"), (0, u "()V"), (1, .class_ 10), (1, u "java/lang/Number"), (2, .class_ 14), (0, u "java/io/Serializable"), (0, u "serialVersionUID"), (0, u "J")] 20

def k14c0 : Code := { maxStack := 1, maxLocals := 1, code := jdk_18_method_1_code, exceptionTable := #[], attributes := #[] }
def k14m0 : Method := { name := "<init>", desc := "()V", sig := { parameters := [], returnType := none }, accessFlags := 1, code := some k14c0 }
/-- java/lang/Number -/
def k14 : Class := { plain "java/lang/Number" (some 0) with
  accessFlags := 1057
  interfaces := #[4]
  cf := some (fileOf pool14 8 #[] #[{ accessFlags := 1, nameIndex := 5, descriptorIndex := 6, attributes := #[] }] 1057 2 #[13] #[{ accessFlags := 26, nameIndex := 15, descriptorIndex := 16, attributes := #[] }])
  fields := #[{ name := "serialVersionUID", type := .long, accessFlags := 26, slot := 0, constantValue := 0 }]
  methods := #[k14m0]
  instanceTypes := #[]
  staticTypes := #[.long]
  resolved := Array.replicate 37 none
  statics := none }

def pool15 : Array CpInfo := pool [(1, .class_ 2), (0, u "java/lang/Double"), (10, u "isFinite"), (0, u "(D)Z"), (5, u "<init>"), (2, .class_ 25), (1, u "java/lang/Math"), (12, .methodref 23 39), (0, .nameAndType 40 41), (0, u "abs"), (0, u "(D)D"), (63, .methodref 1 106), (0, .nameAndType 20 107), (0, u "(D)V"), (3, .double 9218868437227405311), (1, .methodref 114 115), (0, .class_ 116), (0, .nameAndType 20 117), (0, u "java/lang/Number"), (0, u "()V"), (0, .fieldref 1 119), (0, .nameAndType 120 121), (0, u "value"), (0, u "D"), (51, u "TYPE"), (0, u "Ljava/lang/Class;"), (0, .class_ 176), (0, u "java/lang/Comparable"), (0, .class_ 178), (0, u "java/lang/constant/Constable"), (0, .class_ 180), (0, u "java/lang/constant/ConstantDesc"), (0, u "POSITIVE_INFINITY"), (3, u "NEGATIVE_INFINITY"), (2, u "NaN"), (2, u "MAX_VALUE"), (0, u "MIN_NORMAL"), (0, u "MIN_VALUE"), (2, u "SIZE"), (0, u "I"), (1, u "PRECISION"), (1, u "MAX_EXPONENT"), (1, u "MIN_EXPONENT"), (1, u "BYTES"), (3, u "serialVersionUID"), (0, u "J"), (14, u "valueOf"), (5, u "(D)Ljava/lang/Double;"), (23, u "doubleValue"), (0, u "()D")] 33

def k15c0 : Code := { maxStack := 4, maxLocals := 2, code := jdk_117_method_4_code, exceptionTable := #[], attributes := #[] }
def k15m0 : Method := { name := "valueOf", desc := "(D)Ljava/lang/Double;", sig := { parameters := [.double], returnType := some (.object "java/lang/Double") }, accessFlags := 9, code := some k15c0 }
def k15c1 : Code := { maxStack := 4, maxLocals := 2, code := jdk_117_method_8_code, exceptionTable := #[], attributes := #[] }
def k15m1 : Method := { name := "isFinite", desc := "(D)Z", sig := { parameters := [.double], returnType := some .boolean }, accessFlags := 9, code := some k15c1 }
def k15c2 : Code := { maxStack := 3, maxLocals := 3, code := jdk_117_method_9_code, exceptionTable := #[], attributes := #[] }
def k15m2 : Method := { name := "<init>", desc := "(D)V", sig := { parameters := [.double], returnType := none }, accessFlags := 1, code := some k15c2 }
def k15c3 : Code := { maxStack := 2, maxLocals := 1, code := jdk_117_method_19_code, exceptionTable := #[], attributes := #[] }
def k15m3 : Method := { name := "doubleValue", desc := "()D", sig := { parameters := [], returnType := some .double }, accessFlags := 1, code := some k15c3 }
/-- java/lang/Double -/
def k15 : Class := { plain "java/lang/Double" (some 14) with
  accessFlags := 49
  interfaces := #[3, 2, 8]
  cf := some (fileOf pool15 1 #[] #[{ accessFlags := 9, nameIndex := 225, descriptorIndex := 231, attributes := #[] }, { accessFlags := 9, nameIndex := 13, descriptorIndex := 14, attributes := #[] }, { accessFlags := 1, nameIndex := 20, descriptorIndex := 107, attributes := #[] }, { accessFlags := 1, nameIndex := 255, descriptorIndex := 256, attributes := #[] }] 49 114 #[175, 177, 179] #[{ accessFlags := 25, nameIndex := 181, descriptorIndex := 121, attributes := #[] }, { accessFlags := 25, nameIndex := 185, descriptorIndex := 121, attributes := #[] }, { accessFlags := 25, nameIndex := 188, descriptorIndex := 121, attributes := #[] }, { accessFlags := 25, nameIndex := 191, descriptorIndex := 121, attributes := #[] }, { accessFlags := 25, nameIndex := 192, descriptorIndex := 121, attributes := #[] }, { accessFlags := 25, nameIndex := 193, descriptorIndex := 121, attributes := #[] }, { accessFlags := 25, nameIndex := 196, descriptorIndex := 197, attributes := #[] }, { accessFlags := 25, nameIndex := 199, descriptorIndex := 197, attributes := #[] }, { accessFlags := 25, nameIndex := 201, descriptorIndex := 197, attributes := #[] }, { accessFlags := 25, nameIndex := 203, descriptorIndex := 197, attributes := #[] }, { accessFlags := 25, nameIndex := 205, descriptorIndex := 197, attributes := #[] }, { accessFlags := 25, nameIndex := 173, descriptorIndex := 174, attributes := #[] }, { accessFlags := 18, nameIndex := 120, descriptorIndex := 121, attributes := #[] }, { accessFlags := 26, nameIndex := 209, descriptorIndex := 210, attributes := #[] }])
  fields := #[{ name := "POSITIVE_INFINITY", type := .double, accessFlags := 25, slot := 0, constantValue := 0 }, { name := "NEGATIVE_INFINITY", type := .double, accessFlags := 25, slot := 1, constantValue := 0 }, { name := "NaN", type := .double, accessFlags := 25, slot := 2, constantValue := 0 }, { name := "MAX_VALUE", type := .double, accessFlags := 25, slot := 3, constantValue := 0 }, { name := "MIN_NORMAL", type := .double, accessFlags := 25, slot := 4, constantValue := 0 }, { name := "MIN_VALUE", type := .double, accessFlags := 25, slot := 5, constantValue := 0 }, { name := "SIZE", type := .int, accessFlags := 25, slot := 6, constantValue := 0 }, { name := "PRECISION", type := .int, accessFlags := 25, slot := 7, constantValue := 0 }, { name := "MAX_EXPONENT", type := .int, accessFlags := 25, slot := 8, constantValue := 0 }, { name := "MIN_EXPONENT", type := .int, accessFlags := 25, slot := 9, constantValue := 0 }, { name := "BYTES", type := .int, accessFlags := 25, slot := 10, constantValue := 0 }, { name := "TYPE", type := (.object "java/lang/Class"), accessFlags := 25, slot := 11, constantValue := 0 }, { name := "value", type := .double, accessFlags := 18, slot := 0, constantValue := 0 }, { name := "serialVersionUID", type := .long, accessFlags := 26, slot := 12, constantValue := 0 }]
  methods := #[k15m0, k15m1, k15m2, k15m3]
  instanceTypes := #[.double]
  staticTypes := #[.double, .double, .double, .double, .double, .double, .int, .int, .int, .int, .int, (.object "java/lang/Class"), .long]
  resolved := Array.replicate 290 none
  statics := none }

def pool16 : Array CpInfo := pool [(4, .class_ 6), (1, u "java/lang/Object"), (0, u "<init>"), (0, u "()V"), (5, .class_ 16), (1, u "java/lang/StringLatin1"), (104, u "$assertionsDisabled"), (0, u "Z"), (98, .class_ 223), (1, u "java/lang/StringLatin1$LinesSpliterator"), (166, .class_ 391), (0, u "java/lang/StringLatin1$CharsSpliterator")] 3

def k16m0 : Method := { name := "<init>", desc := "()V", sig := { parameters := [], returnType := none }, accessFlags := 0, code := none }
/-- java/lang/StringLatin1 -/
def k16 : Class := { plain "java/lang/StringLatin1" (some 0) with
  accessFlags := 48
  interfaces := #[]
  cf := some (fileOf pool16 14 #[.nestMembers #[390, 221]] #[{ accessFlags := 0, nameIndex := 7, descriptorIndex := 8, attributes := #[] }] 48 4 #[] #[{ accessFlags := 4120, nameIndex := 121, descriptorIndex := 122, attributes := #[] }])
  fields := #[{ name := "$assertionsDisabled", type := .boolean, accessFlags := 4120, slot := 0, constantValue := 0 }]
  methods := #[k16m0]
  instanceTypes := #[]
  staticTypes := #[.boolean]
  resolved := Array.replicate 395 none
  statics := none }

def pool17 : Array CpInfo := pool [(2, .class_ 4), (1, u "java/lang/Object"), (0, u "<init>"), (0, u "()V"), (17, .class_ 26), (1, u "jdk/internal/util/Preconditions"), (28, .class_ 56), (0, u "jdk/internal/util/Preconditions$4"), (57, .class_ 115), (0, u "jdk/internal/util/Preconditions$1"), (7, u "SIOOBE_FORMATTER"), (0, u "Ljava/util/function/BiFunction;"), (0, .class_ 126), (0, u "jdk/internal/util/Preconditions$2"), (3, u "AIOOBE_FORMATTER"), (0, .class_ 132), (0, u "jdk/internal/util/Preconditions$3"), (3, u "IOOBE_FORMATTER")] 57

def k17m0 : Method := { name := "<init>", desc := "()V", sig := { parameters := [], returnType := none }, accessFlags := 1, code := none }
/-- jdk/internal/util/Preconditions -/
def k17 : Class := { plain "jdk/internal/util/Preconditions" (some 0) with
  accessFlags := 33
  interfaces := #[]
  cf := some (fileOf pool17 24 #[.nestMembers #[55, 131, 125, 114]] #[{ accessFlags := 1, nameIndex := 5, descriptorIndex := 6, attributes := #[] }] 33 2 #[] #[{ accessFlags := 25, nameIndex := 123, descriptorIndex := 124, attributes := #[] }, { accessFlags := 25, nameIndex := 130, descriptorIndex := 124, attributes := #[] }, { accessFlags := 25, nameIndex := 136, descriptorIndex := 124, attributes := #[] }])
  fields := #[{ name := "SIOOBE_FORMATTER", type := (.object "java/util/function/BiFunction"), accessFlags := 25, slot := 0, constantValue := 0 }, { name := "AIOOBE_FORMATTER", type := (.object "java/util/function/BiFunction"), accessFlags := 25, slot := 1, constantValue := 0 }, { name := "IOOBE_FORMATTER", type := (.object "java/util/function/BiFunction"), accessFlags := 25, slot := 2, constantValue := 0 }]
  methods := #[k17m0]
  instanceTypes := #[]
  staticTypes := #[(.object "java/util/function/BiFunction"), (.object "java/util/function/BiFunction"), (.object "java/util/function/BiFunction")]
  resolved := Array.replicate 194 none
  statics := some 2 }

def pool18 : Array CpInfo := pool [(9, u "<init>"), (6, .class_ 18), (1, u "java/lang/Object"), (0, u "()V"), (1, .class_ 23), (1, u "jdk/internal/util/ArraysSupport"), (0, u "LOG2_ARRAY_LONG_INDEX_SCALE"), (0, u "I"), (2, u "U"), (0, u "Ljdk/internal/misc/Unsafe;"), (8, u "BIG_ENDIAN"), (0, u "Z"), (8, u "LOG2_BYTE_BIT_SIZE"), (4, u "LOG2_ARRAY_INT_INDEX_SCALE"), (54, u "JLA"), (0, u "Ljdk/internal/access/JavaLangAccess;"), (11, u "LOG2_ARRAY_BOOLEAN_INDEX_SCALE"), (9, u "LOG2_ARRAY_BYTE_INDEX_SCALE"), (5, u "LOG2_ARRAY_CHAR_INDEX_SCALE"), (5, u "LOG2_ARRAY_SHORT_INDEX_SCALE"), (18, u "LOG2_ARRAY_FLOAT_INDEX_SCALE"), (24, u "LOG2_ARRAY_DOUBLE_INDEX_SCALE"), (89, u "T_BOOLEAN"), (2, u "T_CHAR"), (1, u "T_FLOAT"), (1, u "T_DOUBLE"), (1, u "T_BYTE"), (1, u "T_SHORT"), (1, u "T_INT"), (1, u "T_LONG"), (1, u "SOFT_MAX_ARRAY_LENGTH")] 83

def k18m0 : Method := { name := "<init>", desc := "()V", sig := { parameters := [], returnType := none }, accessFlags := 2, code := none }
/-- jdk/internal/util/ArraysSupport -/
def k18 : Class := { plain "jdk/internal/util/ArraysSupport" (some 0) with
  accessFlags := 33
  interfaces := #[]
  cf := some (fileOf pool18 21 #[] #[{ accessFlags := 2, nameIndex := 9, descriptorIndex := 19, attributes := #[] }] 33 16 #[] #[{ accessFlags := 24, nameIndex := 28, descriptorIndex := 29, attributes := #[] }, { accessFlags := 26, nameIndex := 38, descriptorIndex := 39, attributes := #[] }, { accessFlags := 25, nameIndex := 121, descriptorIndex := 25, attributes := #[] }, { accessFlags := 25, nameIndex := 131, descriptorIndex := 25, attributes := #[] }, { accessFlags := 25, nameIndex := 137, descriptorIndex := 25, attributes := #[] }, { accessFlags := 25, nameIndex := 143, descriptorIndex := 25, attributes := #[] }, { accessFlags := 25, nameIndex := 53, descriptorIndex := 25, attributes := #[] }, { accessFlags := 25, nameIndex := 24, descriptorIndex := 25, attributes := #[] }, { accessFlags := 25, nameIndex := 162, descriptorIndex := 25, attributes := #[] }, { accessFlags := 25, nameIndex := 187, descriptorIndex := 25, attributes := #[] }, { accessFlags := 26, nameIndex := 48, descriptorIndex := 25, attributes := #[] }, { accessFlags := 25, nameIndex := 277, descriptorIndex := 25, attributes := #[] }, { accessFlags := 25, nameIndex := 280, descriptorIndex := 25, attributes := #[] }, { accessFlags := 25, nameIndex := 282, descriptorIndex := 25, attributes := #[] }, { accessFlags := 25, nameIndex := 284, descriptorIndex := 25, attributes := #[] }, { accessFlags := 25, nameIndex := 286, descriptorIndex := 25, attributes := #[] }, { accessFlags := 25, nameIndex := 288, descriptorIndex := 25, attributes := #[] }, { accessFlags := 25, nameIndex := 290, descriptorIndex := 25, attributes := #[] }, { accessFlags := 25, nameIndex := 292, descriptorIndex := 25, attributes := #[] }, { accessFlags := 26, nameIndex := 108, descriptorIndex := 109, attributes := #[] }, { accessFlags := 25, nameIndex := 294, descriptorIndex := 25, attributes := #[] }])
  fields := #[{ name := "U", type := (.object "jdk/internal/misc/Unsafe"), accessFlags := 24, slot := 0, constantValue := 0 }, { name := "BIG_ENDIAN", type := .boolean, accessFlags := 26, slot := 1, constantValue := 0 }, { name := "LOG2_ARRAY_BOOLEAN_INDEX_SCALE", type := .int, accessFlags := 25, slot := 2, constantValue := 0 }, { name := "LOG2_ARRAY_BYTE_INDEX_SCALE", type := .int, accessFlags := 25, slot := 3, constantValue := 0 }, { name := "LOG2_ARRAY_CHAR_INDEX_SCALE", type := .int, accessFlags := 25, slot := 4, constantValue := 0 }, { name := "LOG2_ARRAY_SHORT_INDEX_SCALE", type := .int, accessFlags := 25, slot := 5, constantValue := 0 }, { name := "LOG2_ARRAY_INT_INDEX_SCALE", type := .int, accessFlags := 25, slot := 6, constantValue := 0 }, { name := "LOG2_ARRAY_LONG_INDEX_SCALE", type := .int, accessFlags := 25, slot := 7, constantValue := 0 }, { name := "LOG2_ARRAY_FLOAT_INDEX_SCALE", type := .int, accessFlags := 25, slot := 8, constantValue := 0 }, { name := "LOG2_ARRAY_DOUBLE_INDEX_SCALE", type := .int, accessFlags := 25, slot := 9, constantValue := 0 }, { name := "LOG2_BYTE_BIT_SIZE", type := .int, accessFlags := 26, slot := 10, constantValue := 0 }, { name := "T_BOOLEAN", type := .int, accessFlags := 25, slot := 11, constantValue := 0 }, { name := "T_CHAR", type := .int, accessFlags := 25, slot := 12, constantValue := 0 }, { name := "T_FLOAT", type := .int, accessFlags := 25, slot := 13, constantValue := 0 }, { name := "T_DOUBLE", type := .int, accessFlags := 25, slot := 14, constantValue := 0 }, { name := "T_BYTE", type := .int, accessFlags := 25, slot := 15, constantValue := 0 }, { name := "T_SHORT", type := .int, accessFlags := 25, slot := 16, constantValue := 0 }, { name := "T_INT", type := .int, accessFlags := 25, slot := 17, constantValue := 0 }, { name := "T_LONG", type := .int, accessFlags := 25, slot := 18, constantValue := 0 }, { name := "JLA", type := (.object "jdk/internal/access/JavaLangAccess"), accessFlags := 26, slot := 19, constantValue := 0 }, { name := "SOFT_MAX_ARRAY_LENGTH", type := .int, accessFlags := 25, slot := 20, constantValue := 0 }]
  methods := #[k18m0]
  instanceTypes := #[]
  staticTypes := #[(.object "jdk/internal/misc/Unsafe"), .boolean, .int, .int, .int, .int, .int, .int, .int, .int, .int, .int, .int, .int, .int, .int, .int, .int, .int, (.object "jdk/internal/access/JavaLangAccess"), .int]
  resolved := Array.replicate 378 none
  statics := none }

def pool19 : Array CpInfo := pool [(1, u "java/lang/Cloneable"), (0, .class_ 1), (0, u "java/lang/Object"), (0, .class_ 3)] 3

/-- java/lang/Cloneable -/
def k19 : Class := { plain "java/lang/Cloneable" (some 0) with
  accessFlags := 1537
  interfaces := #[]
  cf := some (fileOf pool19 2 #[] #[] 1537 4 #[] #[])
  fields := #[]
  methods := #[]
  instanceTypes := #[]
  staticTypes := #[]
  resolved := Array.replicate 8 none
  statics := none }

/-- the primitive byte -/
def k20 : Class := { plain "byte" none with kind := .primitive 'B', accessFlags := 0x411 }
/-- [B -/
def k21 : Class := { plain "[B" (some 0) with kind := .array 20 .byte, interfaces := #[19, 4], accessFlags := 1041 }

/-- the primitive char -/
def k22 : Class := { plain "char" none with kind := .primitive 'C', accessFlags := 0x411 }
/-- [C -/
def k23 : Class := { plain "[C" (some 0) with kind := .array 22 .char, interfaces := #[19, 4], accessFlags := 1041 }

/-- the primitive int -/
def k24 : Class := { plain "int" none with kind := .primitive 'I', accessFlags := 0x411 }
/-- [I -/
def k25 : Class := { plain "[I" (some 0) with kind := .array 24 .int, interfaces := #[19, 4], accessFlags := 1041 }

def heap : Heap := #[{ cls := 6, slots := #[.ref 3, .ref 6, .ref 5, .ref 4, .ref 7, .null], vm := .statics 6 },
  { cls := 9, slots := #[.long 0, .int 1, .null, .int 0, .null, .int 0, .int 0], vm := .statics 9 },
  { cls := 17, slots := #[.null, .null, .null], vm := .statics 17 },
  { cls := 6, slots := #[.null, .int 0, .int 0, .null, .null], vm := .none },
  { cls := 6, slots := #[.null, .int 0, .int 0, .null, .null], vm := .none },
  { cls := 6, slots := #[.null, .int 0, .int 0, .null, .null], vm := .none },
  { cls := 6, slots := #[.null, .int 1, .int 0, .null, .null], vm := .none },
  { cls := 6, slots := #[.null, .int 0, .int 0, .null, .null], vm := .none }]
def classes : Array Class := #[k0, k1, k2, k3, k4, k5, k6, k7, k8, k9, k10, k11, k12, k13, k14, k15, k16, k17, k18, k19, k20, k21, k22, k23, k24, k25]
def interned : List (Array UInt16 × Addr) := []
def slotsUsed : Nat := 41
def theMethod : MethodId := ⟨1, 2⟩
def args0 : Array Value := #[.int 0, .int 65, .int 1, .int 2, .int 3]
def aboutOver (below : List Frame) : State where
  vm := { classes := classes, interned := interned.toArray }
  heap := heap
  slotsUsed := slotsUsed
  threads := #[{ frames := .invoking theMethod args0 :: below }]
def below0 : List Frame := [.native { method := ⟨0, 0⟩, args := #[] }]
def about1 : State := aboutOver below0
def p0 : Program := .bare "" "" ""
def e0 : Env := launch0.env 0 0 0
theorem w_frames : about1.frames = Frame.invoking theMethod args0 :: below0 := rfl
set_option maxRecDepth 65536 in
theorem w_args : argsFit about1.vm theMethod args0 = true := by decide +kernel
set_option maxRecDepth 65536 in
theorem w_heap : heapFits about1 = true := by decide +kernel
set_option maxRecDepth 65536 in
theorem w_runnable : about1.curStatus? = some .runnable := by decide +kernel
set_option maxRecDepth 65536 in
theorem w_alone : about1.alone = true := by decide +kernel
set_option maxRecDepth 65536 in
theorem w_named : about1.methodNamed? x = some theMethod := by decide +kernel
set_option maxRecDepth 65536 in
theorem w_hears : about1.hears theMethod below0 = true := by decide +kernel
set_option maxRecDepth 65536 in
theorem w_ripe : about1.ripe theMethod args0 below0 = true := by decide +kernel
theorem w_running : about1.status = .running := rfl
set_option maxRecDepth 65536 in
theorem w_room : about1.hasRoom e0.platform room_1 = true :=
  launch0.hasRoom_least _ room_1 (by decide +kernel) (by decide +kernel) (by decide +kernel) (by decide +kernel) (by decide +kernel) (by decide +kernel)
theorem allAtoms_all (ts : List Jvm.Cond) (a : Array Jvm.Value) (st : Jvm.State) : (allAtoms ts).before a st = ts.all (fun c => c.before a st) := by
  induction ts with
  | nil => rfl
  | cons c t ih =>
    show (Jvm.Cond.and c (allAtoms t)).before a st = _
    rw [Jvm.Cond.before_and, ih, List.all_cons]
def words1 : List Jvm.Cond := Jvm.Cond.code x code maxLocals ret :: tables_1
/-- a 'code' word, met by the world's own term for the bytes: nothing is compared byte by byte -/
theorem code_word {y : MethodName} {bytes : ByteArray} {mx : Nat} {rt : Option FieldType} {a : Array Value} {s : State} {m : MethodId} {meth : Method} {c : Code} (h1 : s.methodNamed? y = some m) (h2 : s.vm.method? m = some meth) (h3 : meth.code = some c) (h4 : c.code = bytes)
    (h5 : (c.maxLocals == mx && c.exceptionTable.isEmpty && decide (c.maxStack ≤ mostOperands) && decide (meth.sig.returnType = rt) && !meth.locks && decide (parseMethodDescriptor y.desc = some meth.sig)) = true) : (Jvm.Cond.code y bytes mx rt).before a s = true := by
  simp only [Bool.and_eq_true, beq_iff_eq, Bool.not_eq_true', decide_eq_true_eq] at h5
  obtain ⟨⟨⟨⟨⟨g1, g2⟩, g3⟩, g4⟩, g5⟩, g6⟩ := h5
  simp [Cond.before, Cond.holds, Cond.value, h1, h2, h3, h4, g1, g2, g3, g4, g5, g6]
def isCode : Jvm.Cond → Bool
  | .code _ _ _ _ => true
  | _ => false
theorem all_split {L : List Jvm.Cond} {P : Jvm.Cond → Bool} (h1 : L.all (fun c => isCode c || P c) = true) (h2 : ∀ c ∈ L.filter isCode, P c = true) : L.all P = true := by
  refine List.all_eq_true.mpr fun c hc => ?_
  have h := List.all_eq_true.mp h1 c hc
  rcases Bool.eq_false_or_eq_true (isCode c) with hi | hi
  · exact h2 c (List.mem_filter.mpr ⟨hc, hi⟩)
  · simpa [hi] using h
set_option maxRecDepth 65536 in
theorem w_c0 : (Jvm.Cond.code x code maxLocals ret).before args0 about1 = true := code_word (m := ⟨1, 2⟩) (meth := k1m2) (c := k1c2) (by decide +kernel) rfl rfl rfl (by decide +kernel)
set_option maxRecDepth 65536 in
theorem w_c1 : (Jvm.Cond.code ({ cls := "com/example/inexact_search/inexactsearch/engine/AttributeHasDeclaredRangePinLaw", name := "typeOf", desc := "(I)Lcom/example/inexact_search/inexactsearch/engine/AttributeType;" } : Jvm.MethodName) method_2_code (1 : Nat) (Option.some (Jvm.ClassFile.FieldType.object "com/example/inexact_search/inexactsearch/engine/AttributeType"))).before args0 about1 = true := code_word (m := ⟨1, 1⟩) (meth := k1m1) (c := k1c1) (by decide +kernel) rfl rfl rfl (by decide +kernel)
set_option maxRecDepth 65536 in
theorem w_c2 : (Jvm.Cond.code ({ cls := "java/lang/String", name := "<init>", desc := "([C)V" } : Jvm.MethodName) jdk_42_method_3_code (2 : Nat) (Option.none : Option Jvm.ClassFile.FieldType)).before args0 about1 = true := code_word (m := ⟨9, 1⟩) (meth := k9m1) (c := k9c1) (by decide +kernel) rfl rfl rfl (by decide +kernel)
set_option maxRecDepth 65536 in
theorem w_c3 : (Jvm.Cond.code ({ cls := "java/lang/String", name := "<init>", desc := "([CIILjava/lang/Void;)V" } : Jvm.MethodName) jdk_42_method_149_code (6 : Nat) (Option.none : Option Jvm.ClassFile.FieldType)).before args0 about1 = true := code_word (m := ⟨9, 3⟩) (meth := k9m3) (c := k9c3) (by decide +kernel) rfl rfl rfl (by decide +kernel)
set_option maxRecDepth 65536 in
theorem w_c4 : (Jvm.Cond.code ({ cls := "java/lang/Object", name := "<init>", desc := "()V" } : Jvm.MethodName) object_method_1_code (1 : Nat) (Option.none : Option Jvm.ClassFile.FieldType)).before args0 about1 = true := code_word (m := ⟨0, 0⟩) (meth := k0m0) (c := k0c0) (by decide +kernel) rfl rfl rfl (by decide +kernel)
set_option maxRecDepth 65536 in
theorem w_c5 : (Jvm.Cond.code ({ cls := "java/lang/StringUTF16", name := "compress", desc := "([CII)[B" } : Jvm.MethodName) jdk_52_method_16_code (6 : Nat) (Option.some (Jvm.ClassFile.FieldType.array Jvm.ClassFile.FieldType.byte))).before args0 about1 = true := code_word (m := ⟨10, 2⟩) (meth := k10m2) (c := k10c2) (by decide +kernel) rfl rfl rfl (by decide +kernel)
set_option maxRecDepth 65536 in
theorem w_c6 : (Jvm.Cond.code ({ cls := "java/lang/StringUTF16", name := "compress", desc := "([CI[BII)I" } : Jvm.MethodName) jdk_52_method_21_code (7 : Nat) (Option.some Jvm.ClassFile.FieldType.int)).before args0 about1 = true := code_word (m := ⟨10, 3⟩) (meth := k10m3) (c := k10c3) (by decide +kernel) rfl rfl rfl (by decide +kernel)
set_option maxRecDepth 65536 in
theorem w_c7 : (Jvm.Cond.code ({ cls := "java/lang/StringUTF16", name := "coderFromArrayLen", desc := "([BI)B" } : Jvm.MethodName) jdk_52_method_15_code (2 : Nat) (Option.some Jvm.ClassFile.FieldType.byte)).before args0 about1 = true := code_word (m := ⟨10, 1⟩) (meth := k10m1) (c := k10c1) (by decide +kernel) rfl rfl rfl (by decide +kernel)
set_option maxRecDepth 65536 in
theorem w_c8 : (Jvm.Cond.code ({ cls := "com/example/inexact_search/inexactsearch/engine/Attribute", name := "<init>", desc := "(Ljava/lang/String;Lcom/example/inexact_search/inexactsearch/engine/AttributeType;)V" } : Jvm.MethodName) prog_9_method_1_code (3 : Nat) (Option.none : Option Jvm.ClassFile.FieldType)).before args0 about1 = true := code_word (m := ⟨11, 0⟩) (meth := k11m0) (c := k11c0) (by decide +kernel) rfl rfl rfl (by decide +kernel)
set_option maxRecDepth 65536 in
theorem w_c9 : (Jvm.Cond.code ({ cls := "com/example/inexact_search/inexactsearch/engine/Attribute", name := "<init>", desc := "(Ljava/lang/String;Lcom/example/inexact_search/inexactsearch/engine/AttributeType;Ljava/lang/Double;Ljava/lang/Double;)V" } : Jvm.MethodName) prog_9_method_2_code (5 : Nat) (Option.none : Option Jvm.ClassFile.FieldType)).before args0 about1 = true := code_word (m := ⟨11, 1⟩) (meth := k11m1) (c := k11c1) (by decide +kernel) rfl rfl rfl (by decide +kernel)
set_option maxRecDepth 65536 in
theorem w_c10 : (Jvm.Cond.code ({ cls := "java/util/Objects", name := "requireNonNull", desc := "(Ljava/lang/Object;Ljava/lang/String;)Ljava/lang/Object;" } : Jvm.MethodName) jdk_31_method_11_code (2 : Nat) (Option.some (Jvm.ClassFile.FieldType.object "java/lang/Object"))).before args0 about1 = true := code_word (m := ⟨12, 1⟩) (meth := k12m1) (c := k12c1) (by decide +kernel) rfl rfl rfl (by decide +kernel)
set_option maxRecDepth 65536 in
theorem w_c11 : (Jvm.Cond.code ({ cls := "java/lang/String", name := "isEmpty", desc := "()Z" } : Jvm.MethodName) jdk_42_method_55_code (1 : Nat) (Option.some Jvm.ClassFile.FieldType.boolean)).before args0 about1 = true := code_word (m := ⟨9, 2⟩) (meth := k9m2) (c := k9c2) (by decide +kernel) rfl rfl rfl (by decide +kernel)
set_option maxRecDepth 65536 in
theorem w_c12 : (Jvm.Cond.code ({ cls := "com/example/inexact_search/inexactsearch/engine/Attribute", name := "hasDeclaredRange", desc := "()Z" } : Jvm.MethodName) prog_9_method_5_code (1 : Nat) (Option.some Jvm.ClassFile.FieldType.boolean)).before args0 about1 = true := code_word (m := ⟨11, 2⟩) (meth := k11m2) (c := k11c2) (by decide +kernel) rfl rfl rfl (by decide +kernel)
set_option maxRecDepth 65536 in
theorem w_c13 : (Jvm.Cond.code ({ cls := "java/lang/Math", name := "min", desc := "(II)I" } : Jvm.MethodName) jdk_29_method_69_code (2 : Nat) (Option.some Jvm.ClassFile.FieldType.int)).before args0 about1 = true := code_word (m := ⟨13, 3⟩) (meth := k13m3) (c := k13c3) (by decide +kernel) rfl rfl rfl (by decide +kernel)
set_option maxRecDepth 65536 in
theorem w_c14 : (Jvm.Cond.code ({ cls := "java/lang/Math", name := "max", desc := "(II)I" } : Jvm.MethodName) jdk_29_method_65_code (2 : Nat) (Option.some Jvm.ClassFile.FieldType.int)).before args0 about1 = true := code_word (m := ⟨13, 2⟩) (meth := k13m2) (c := k13c2) (by decide +kernel) rfl rfl rfl (by decide +kernel)
set_option maxRecDepth 65536 in
theorem w_c15 : (Jvm.Cond.code ({ cls := "java/lang/Double", name := "valueOf", desc := "(D)Ljava/lang/Double;" } : Jvm.MethodName) jdk_117_method_4_code (2 : Nat) (Option.some (Jvm.ClassFile.FieldType.object "java/lang/Double"))).before args0 about1 = true := code_word (m := ⟨15, 0⟩) (meth := k15m0) (c := k15c0) (by decide +kernel) rfl rfl rfl (by decide +kernel)
set_option maxRecDepth 65536 in
theorem w_c16 : (Jvm.Cond.code ({ cls := "java/lang/Double", name := "<init>", desc := "(D)V" } : Jvm.MethodName) jdk_117_method_9_code (3 : Nat) (Option.none : Option Jvm.ClassFile.FieldType)).before args0 about1 = true := code_word (m := ⟨15, 2⟩) (meth := k15m2) (c := k15c2) (by decide +kernel) rfl rfl rfl (by decide +kernel)
set_option maxRecDepth 65536 in
theorem w_c17 : (Jvm.Cond.code ({ cls := "java/lang/Number", name := "<init>", desc := "()V" } : Jvm.MethodName) jdk_18_method_1_code (1 : Nat) (Option.none : Option Jvm.ClassFile.FieldType)).before args0 about1 = true := code_word (m := ⟨14, 0⟩) (meth := k14m0) (c := k14c0) (by decide +kernel) rfl rfl rfl (by decide +kernel)
set_option maxRecDepth 65536 in
theorem w_c18 : (Jvm.Cond.code ({ cls := "com/example/inexact_search/inexactsearch/engine/AttributeType", name := "isNumber", desc := "()Z" } : Jvm.MethodName) prog_11_method_7_code (1 : Nat) (Option.some Jvm.ClassFile.FieldType.boolean)).before args0 about1 = true := code_word (m := ⟨6, 0⟩) (meth := k6m0) (c := k6c0) (by decide +kernel) rfl rfl rfl (by decide +kernel)
set_option maxRecDepth 65536 in
theorem w_c19 : (Jvm.Cond.code ({ cls := "java/lang/Double", name := "doubleValue", desc := "()D" } : Jvm.MethodName) jdk_117_method_19_code (1 : Nat) (Option.some Jvm.ClassFile.FieldType.double)).before args0 about1 = true := code_word (m := ⟨15, 3⟩) (meth := k15m3) (c := k15c3) (by decide +kernel) rfl rfl rfl (by decide +kernel)
set_option maxRecDepth 65536 in
theorem w_c20 : (Jvm.Cond.code ({ cls := "java/lang/Double", name := "isFinite", desc := "(D)Z" } : Jvm.MethodName) jdk_117_method_8_code (2 : Nat) (Option.some Jvm.ClassFile.FieldType.boolean)).before args0 about1 = true := code_word (m := ⟨15, 1⟩) (meth := k15m1) (c := k15c1) (by decide +kernel) rfl rfl rfl (by decide +kernel)
set_option maxRecDepth 65536 in
theorem w_c21 : (Jvm.Cond.code ({ cls := "java/lang/Math", name := "abs", desc := "(D)D" } : Jvm.MethodName) jdk_29_method_64_code (2 : Nat) (Option.some Jvm.ClassFile.FieldType.double)).before args0 about1 = true := code_word (m := ⟨13, 1⟩) (meth := k13m1) (c := k13c1) (by decide +kernel) rfl rfl rfl (by decide +kernel)
set_option maxRecDepth 65536 in
theorem w_c22 : (Jvm.Cond.code ({ cls := "com/example/inexact_search/inexactsearch/engine/Attribute", name := "declaredMin", desc := "()D" } : Jvm.MethodName) prog_9_method_6_code (1 : Nat) (Option.some Jvm.ClassFile.FieldType.double)).before args0 about1 = true := code_word (m := ⟨11, 3⟩) (meth := k11m3) (c := k11c3) (by decide +kernel) rfl rfl rfl (by decide +kernel)
set_option maxRecDepth 65536 in
theorem w_c23 : (Jvm.Cond.code ({ cls := "com/example/inexact_search/inexactsearch/engine/Attribute", name := "requireDeclaredRange", desc := "()V" } : Jvm.MethodName) prog_9_method_8_code (1 : Nat) (Option.none : Option Jvm.ClassFile.FieldType)).before args0 about1 = true := code_word (m := ⟨11, 5⟩) (meth := k11m5) (c := k11c5) (by decide +kernel) rfl rfl rfl (by decide +kernel)
set_option maxRecDepth 65536 in
theorem w_c24 : (Jvm.Cond.code ({ cls := "com/example/inexact_search/inexactsearch/engine/Attribute", name := "declaredMax", desc := "()D" } : Jvm.MethodName) prog_9_method_7_code (1 : Nat) (Option.some Jvm.ClassFile.FieldType.double)).before args0 about1 = true := code_word (m := ⟨11, 4⟩) (meth := k11m4) (c := k11c4) (by decide +kernel) rfl rfl rfl (by decide +kernel)
def codes1 : List Jvm.Cond := [Jvm.Cond.code x code maxLocals ret, Jvm.Cond.code ({ cls := "com/example/inexact_search/inexactsearch/engine/AttributeHasDeclaredRangePinLaw", name := "typeOf", desc := "(I)Lcom/example/inexact_search/inexactsearch/engine/AttributeType;" } : Jvm.MethodName) method_2_code (1 : Nat) (Option.some (Jvm.ClassFile.FieldType.object "com/example/inexact_search/inexactsearch/engine/AttributeType")), Jvm.Cond.code ({ cls := "java/lang/String", name := "<init>", desc := "([C)V" } : Jvm.MethodName) jdk_42_method_3_code (2 : Nat) (Option.none : Option Jvm.ClassFile.FieldType), Jvm.Cond.code ({ cls := "java/lang/String", name := "<init>", desc := "([CIILjava/lang/Void;)V" } : Jvm.MethodName) jdk_42_method_149_code (6 : Nat) (Option.none : Option Jvm.ClassFile.FieldType), Jvm.Cond.code ({ cls := "java/lang/Object", name := "<init>", desc := "()V" } : Jvm.MethodName) object_method_1_code (1 : Nat) (Option.none : Option Jvm.ClassFile.FieldType), Jvm.Cond.code ({ cls := "java/lang/StringUTF16", name := "compress", desc := "([CII)[B" } : Jvm.MethodName) jdk_52_method_16_code (6 : Nat) (Option.some (Jvm.ClassFile.FieldType.array Jvm.ClassFile.FieldType.byte)), Jvm.Cond.code ({ cls := "java/lang/StringUTF16", name := "compress", desc := "([CI[BII)I" } : Jvm.MethodName) jdk_52_method_21_code (7 : Nat) (Option.some Jvm.ClassFile.FieldType.int), Jvm.Cond.code ({ cls := "java/lang/StringUTF16", name := "coderFromArrayLen", desc := "([BI)B" } : Jvm.MethodName) jdk_52_method_15_code (2 : Nat) (Option.some Jvm.ClassFile.FieldType.byte), Jvm.Cond.code ({ cls := "com/example/inexact_search/inexactsearch/engine/Attribute", name := "<init>", desc := "(Ljava/lang/String;Lcom/example/inexact_search/inexactsearch/engine/AttributeType;)V" } : Jvm.MethodName) prog_9_method_1_code (3 : Nat) (Option.none : Option Jvm.ClassFile.FieldType), Jvm.Cond.code ({ cls := "com/example/inexact_search/inexactsearch/engine/Attribute", name := "<init>", desc := "(Ljava/lang/String;Lcom/example/inexact_search/inexactsearch/engine/AttributeType;Ljava/lang/Double;Ljava/lang/Double;)V" } : Jvm.MethodName) prog_9_method_2_code (5 : Nat) (Option.none : Option Jvm.ClassFile.FieldType), Jvm.Cond.code ({ cls := "java/util/Objects", name := "requireNonNull", desc := "(Ljava/lang/Object;Ljava/lang/String;)Ljava/lang/Object;" } : Jvm.MethodName) jdk_31_method_11_code (2 : Nat) (Option.some (Jvm.ClassFile.FieldType.object "java/lang/Object")), Jvm.Cond.code ({ cls := "java/lang/String", name := "isEmpty", desc := "()Z" } : Jvm.MethodName) jdk_42_method_55_code (1 : Nat) (Option.some Jvm.ClassFile.FieldType.boolean), Jvm.Cond.code ({ cls := "com/example/inexact_search/inexactsearch/engine/Attribute", name := "hasDeclaredRange", desc := "()Z" } : Jvm.MethodName) prog_9_method_5_code (1 : Nat) (Option.some Jvm.ClassFile.FieldType.boolean), Jvm.Cond.code ({ cls := "java/lang/Math", name := "min", desc := "(II)I" } : Jvm.MethodName) jdk_29_method_69_code (2 : Nat) (Option.some Jvm.ClassFile.FieldType.int), Jvm.Cond.code ({ cls := "java/lang/Math", name := "max", desc := "(II)I" } : Jvm.MethodName) jdk_29_method_65_code (2 : Nat) (Option.some Jvm.ClassFile.FieldType.int), Jvm.Cond.code ({ cls := "java/lang/Double", name := "valueOf", desc := "(D)Ljava/lang/Double;" } : Jvm.MethodName) jdk_117_method_4_code (2 : Nat) (Option.some (Jvm.ClassFile.FieldType.object "java/lang/Double")), Jvm.Cond.code ({ cls := "java/lang/Double", name := "<init>", desc := "(D)V" } : Jvm.MethodName) jdk_117_method_9_code (3 : Nat) (Option.none : Option Jvm.ClassFile.FieldType), Jvm.Cond.code ({ cls := "java/lang/Number", name := "<init>", desc := "()V" } : Jvm.MethodName) jdk_18_method_1_code (1 : Nat) (Option.none : Option Jvm.ClassFile.FieldType), Jvm.Cond.code ({ cls := "com/example/inexact_search/inexactsearch/engine/AttributeType", name := "isNumber", desc := "()Z" } : Jvm.MethodName) prog_11_method_7_code (1 : Nat) (Option.some Jvm.ClassFile.FieldType.boolean), Jvm.Cond.code ({ cls := "java/lang/Double", name := "doubleValue", desc := "()D" } : Jvm.MethodName) jdk_117_method_19_code (1 : Nat) (Option.some Jvm.ClassFile.FieldType.double), Jvm.Cond.code ({ cls := "java/lang/Double", name := "isFinite", desc := "(D)Z" } : Jvm.MethodName) jdk_117_method_8_code (2 : Nat) (Option.some Jvm.ClassFile.FieldType.boolean), Jvm.Cond.code ({ cls := "java/lang/Math", name := "abs", desc := "(D)D" } : Jvm.MethodName) jdk_29_method_64_code (2 : Nat) (Option.some Jvm.ClassFile.FieldType.double), Jvm.Cond.code ({ cls := "com/example/inexact_search/inexactsearch/engine/Attribute", name := "declaredMin", desc := "()D" } : Jvm.MethodName) prog_9_method_6_code (1 : Nat) (Option.some Jvm.ClassFile.FieldType.double), Jvm.Cond.code ({ cls := "com/example/inexact_search/inexactsearch/engine/Attribute", name := "requireDeclaredRange", desc := "()V" } : Jvm.MethodName) prog_9_method_8_code (1 : Nat) (Option.none : Option Jvm.ClassFile.FieldType), Jvm.Cond.code ({ cls := "com/example/inexact_search/inexactsearch/engine/Attribute", name := "declaredMax", desc := "()D" } : Jvm.MethodName) prog_9_method_7_code (1 : Nat) (Option.some Jvm.ClassFile.FieldType.double)]
set_option maxRecDepth 65536 in
theorem codes_eq : words1.filter isCode = codes1 := rfl
theorem w_codes : ∀ c ∈ words1.filter isCode, c.before args0 about1 = true := by
  rw [codes_eq]
  intro c hc
  simp only [codes1, List.mem_cons, List.not_mem_nil, or_false] at hc
  rcases hc with rfl | rfl | rfl | rfl | rfl | rfl | rfl | rfl | rfl | rfl | rfl | rfl | rfl | rfl | rfl | rfl | rfl | rfl | rfl | rfl | rfl | rfl | rfl | rfl | rfl
  · exact w_c0
  · exact w_c1
  · exact w_c2
  · exact w_c3
  · exact w_c4
  · exact w_c5
  · exact w_c6
  · exact w_c7
  · exact w_c8
  · exact w_c9
  · exact w_c10
  · exact w_c11
  · exact w_c12
  · exact w_c13
  · exact w_c14
  · exact w_c15
  · exact w_c16
  · exact w_c17
  · exact w_c18
  · exact w_c19
  · exact w_c20
  · exact w_c21
  · exact w_c22
  · exact w_c23
  · exact w_c24
set_option maxRecDepth 65536 in
theorem w_t1 : (words1.take 24).all (fun c => isCode c || c.before args0 about1) = true := by decide +kernel
set_option maxRecDepth 65536 in
theorem w_t2 : ((words1.drop 24).take 24).all (fun c => isCode c || c.before args0 about1) = true := by decide +kernel
set_option maxRecDepth 65536 in
theorem w_t3 : (((words1.drop 24).drop 24).take 24).all (fun c => isCode c || c.before args0 about1) = true := by decide +kernel
set_option maxRecDepth 65536 in
theorem w_t4 : ((((words1.drop 24).drop 24).drop 24).take 24).all (fun c => isCode c || c.before args0 about1) = true := by decide +kernel
set_option maxRecDepth 65536 in
theorem w_t5 : (((((words1.drop 24).drop 24).drop 24).drop 24).take 24).all (fun c => isCode c || c.before args0 about1) = true := by decide +kernel
set_option maxRecDepth 65536 in
theorem w_t6 : (((((words1.drop 24).drop 24).drop 24).drop 24).drop 24).all (fun c => isCode c || c.before args0 about1) = true := by decide +kernel
theorem w_tables : (allAtoms (Jvm.Cond.code x code maxLocals ret :: tables_1)).before args0 about1 = true := by
  rw [allAtoms_all]
  show words1.all (fun c => c.before args0 about1) = true
  refine all_split ?_ w_codes
  rw [← List.take_append_drop 24 words1, List.all_append, w_t1, ← List.take_append_drop 24 (words1.drop 24), List.all_append, w_t2, ← List.take_append_drop 24 ((words1.drop 24).drop 24), List.all_append, w_t3, ← List.take_append_drop 24 (((words1.drop 24).drop 24).drop 24), List.all_append, w_t4, ← List.take_append_drop 24 ((((words1.drop 24).drop 24).drop 24).drop 24), List.all_append, w_t5, w_t6]
  rfl
set_option maxRecDepth 65536 in
theorem w_rest : rest_1_c.before args0 about1 = true := by decide +kernel
set_option maxRecDepth 65536 in
theorem w_case : (Jvm.Cond.and given_1 narrow_1).before args0 about1 = true := by decide +kernel
theorem w_applies : (headSpec (Jvm.Cond.code x code maxLocals ret :: tables_1) room_1).applies x e0.platform about1 = true :=
  (Spec.applies_iff w_frames).mpr ⟨w_running, w_runnable, w_alone, w_named, w_hears, w_ripe, w_room, w_tables⟩
theorem atStart : AtStart classFile x code maxLocals ret World_1 tables_1 room_1 Calls_1 rest_1 Pre_1 launch0 p0 e0 about1 theMethod args0 below0 :=
  ⟨lists_1, trivial, launch0.admits_env _ _ _, launch0.least_env, fairChoices_fair.cas, fairChoices_fair.clock, w_frames, w_args, w_heap, w_applies, trivial, w_rest, w_case⟩
end start1
theorem witness_1 : WitnessClaimed_1 := ⟨start1.p0, start1.e0, start1.about1, start1.theMethod, start1.args0, start1.below0, start1.atStart⟩
end Jvm.Pilot.@@N@@
