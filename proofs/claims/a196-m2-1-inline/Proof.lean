import JvmDerived
import JvmDerived.Pilot.@@N@@Statement
import JvmDerived.Pilot.@@N@@Code
set_option linter.unusedVariables false
set_option linter.unusedSimpArgs false
@@BLOCK:NumsL.lean.txt@@
/- laws to paste: Road.backV (cut by pick.py; bodies as the Statement names them) -/
namespace Jvm.Pilot.@@N@@
namespace StrChars
open Jvm Sem ClassFile Op Lib Jvm.Stand Jvm.Free.XT Jvm.Free.ALB Jvm.Free.JM Jvm.Free
open Jvm.Lib.Cold (StaticIs)
/-- a char array whose places are chars -/
def Ch (a : Addr) (A : Cell) (U : State) : Prop := Arr .char a A U ∧ Typed .char A
theorem Ch.mv {a : Addr} {A : Cell} {U U' : State} (h : Ch a A U) (hal : U.vm.Alike U'.vm) (hh : U'.heap = U.heap) : Ch a A U' := ⟨h.1.mv hal hh, h.2⟩
theorem Ch.keep {a : Addr} {A : Cell} {U U' : State} (h : Ch a A U) (hal : U.vm.Alike U'.vm) (hk : U'.heap[a]? = some A) : Ch a A U' := ⟨h.1.keep hal hk, h.2⟩
/-- what place i of a char[]'s cell holds -/
def cv (A : Cell) (i : Nat) : Int32 := match A.slots[i]? with | some (.int x) => x | _ => 0
theorem Ch.get {a : Addr} {A : Cell} {U : State} (h : Ch a A U) {i : Nat} (hi : i < A.slots.size) : A.slots[i]? = some (.int (cv A i)) := by
  have e := Array.getElem?_eq_getElem hi
  have f := h.2 i _ e
  unfold cv; rw [e]
  generalize A.slots[i] = v at f
  cases v <;> simp [fits] at f ⊢
/-- the byte that i2b leaves of a char -/
def lo8 (x : Int32) : Int32 := x.toInt8.toInt32
theorem fits_lo8 (y : Int32) : fits .byte (.int (lo8 y)) = true := by
  have h1 := y.toInt8.le_toInt
  have h2 := y.toInt8.toInt_lt
  simp only [lo8, fits, Bool.and_eq_true, decide_eq_true_eq, Int32.le_iff_toInt_le, Int8.toInt_toInt32, show (-128 : Int32).toInt = -128 from by decide, show (127 : Int32).toInt = 127 from by decide]
  omega
/-- A' is A but that each place j of lo .. hi - 1 holds f j -/
def Laid (A A' : Cell) (lo hi : Nat) (f : Nat → Value) : Prop := A'.cls = A.cls ∧ A'.vm = A.vm ∧ A'.slots.size = A.slots.size ∧ ∀ i, A'.slots[i]? = if lo ≤ i ∧ i < hi then some (f i) else A.slots[i]?
theorem Laid.zero (A : Cell) (lo : Nat) (f : Nat → Value) : Laid A A lo (lo + 0) f := ⟨rfl, rfl, rfl, fun i => by rw [if_neg (by omega)]⟩
theorem Laid.step {A Ak : Cell} {lo k : Nat} {f : Nat → Value} {v : Value} (h : Laid A Ak lo k f) (hlo : lo ≤ k) (hk : k < Ak.slots.size) (hv : v = f k) : Laid A (Ak.setSlot k v) lo (k + 1) f := by
  refine ⟨h.1, h.2.1, by simpa [Cell.setSlot] using h.2.2.1, fun i => ?_⟩
  by_cases e : k = i
  · subst e; rw [Cell.slots_setSlot_self v hk, if_pos (by omega), hv]
  · rw [Cell.slots_setSlot_ne v e, h.2.2.2 i]
    by_cases q : lo ≤ i ∧ i < k
    · rw [if_pos q, if_pos (by omega)]
    · rw [if_neg q, if_neg (by omega)]
def U16 : String := "java/lang/StringUTF16"
namespace Cmp5
def yN : MethodName := ⟨"java/lang/StringUTF16", "compress", "([CI[BII)I"⟩
abbrev yB : ByteArray := jdk_52_method_21_code
theorem d0 : decode yB 0 = .ok (.iconst 0, 1) := by decide +kernel
theorem d1 : decode yB 1 = .ok (.istore 5, 2) := by decide +kernel
theorem d3 : decode yB 3 = .ok (.iload 5, 2) := by decide +kernel
theorem d5 : decode yB 5 = .ok (.iload 4, 2) := by decide +kernel
theorem d7 : decode yB 7 = .ok (.if_icmp (.ge) 37, 3) := by decide +kernel
theorem d10 : decode yB 10 = .ok (.aload_n 0, 1) := by decide +kernel
theorem d11 : decode yB 11 = .ok (.iload_n 1, 1) := by decide +kernel
theorem d12 : decode yB 12 = .ok (.caload, 1) := by decide +kernel
theorem d13 : decode yB 13 = .ok (.istore 6, 2) := by decide +kernel
theorem d15 : decode yB 15 = .ok (.iload 6, 2) := by decide +kernel
theorem d17 : decode yB 17 = .ok (.sipush 255, 3) := by decide +kernel
theorem d20 : decode yB 20 = .ok (.if_icmp (.le) 6, 3) := by decide +kernel
theorem d26 : decode yB 26 = .ok (.aload_n 2, 1) := by decide +kernel
theorem d27 : decode yB 27 = .ok (.iload_n 3, 1) := by decide +kernel
theorem d28 : decode yB 28 = .ok (.iload 6, 2) := by decide +kernel
theorem d30 : decode yB 30 = .ok (.i2b, 1) := by decide +kernel
theorem d31 : decode yB 31 = .ok (.bastore, 1) := by decide +kernel
theorem d32 : decode yB 32 = .ok (.iinc 1 1, 3) := by decide +kernel
theorem d35 : decode yB 35 = .ok (.iinc 3 1, 3) := by decide +kernel
theorem d38 : decode yB 38 = .ok (.iinc 5 1, 3) := by decide +kernel
theorem d41 : decode yB 41 = .ok (.goto (-38), 3) := by decide +kernel
theorem d44 : decode yB 44 = .ok (.iload 4, 2) := by decide +kernel
theorem d46 : decode yB 46 = .ok (.ireturn, 1) := by decide +kernel
def site : List Cond := []
def tab : Cond := tabOf yN yB 7 (some .int) site
def P (b : Addr) (A : Cell) (d : Addr) (B : Cell) (o q len : Nat) (args : Array Value) (s : State) : Prop := args = #[.ref b, .int (Int32.ofNat o), .ref d, .int (Int32.ofNat q), .int (Int32.ofNat len)] ∧ Ch b A s ∧ Arr .byte d B s ∧ b ≠ d ∧ o + len ≤ A.slots.size ∧ q + len ≤ B.slots.size ∧ ∀ i, i < len → ¬ 255 < cv A (o + i)
def E (b : Addr) (A : Cell) (d : Addr) (B : Cell) (o q len : Nat) (r : Option Value) (s u : State) : Prop := r = some (.int (Int32.ofNat len)) ∧ ∃ B', Put d B' s u ∧ Laid B B' q (q + len) (fun j => Value.int (lo8 (cv A (o + (j - q)))))
/-- no char of the range above 255: len; the places written hold each char's low byte -/
theorem law (l : Launch) (b : Addr) (A : Cell) (d : Addr) (B : Cell) (o q len : Nat) : Law l yN 5 5 0 0 yB 7 (some .int) site (P b A d B o q len) (E b A d B o q len) (copyLocs d q len) 0 0 := by
  refine Law.of_walk (plainFor_of_name (by decide +kernel)) (by decide +kernel) (by decide +kernel) (by decide) (fun _ _ h => by rw [h.1]; rfl) (fun _ U U' hal hh h => ⟨h.1, h.2.1.mv hal hh, h.2.2.1.mv hal hh, h.2.2.2⟩) (fun r U U' V V' h1 hal h2 h => ⟨h.1, h.2.elim fun B' q => ⟨B', q.1.mv h1 h2, q.2⟩⟩) ?_
  intro p e s m args below meth c s₁ X0 hexec hbytes hml hret hlk hnm hown hh0 W hP
  obtain ⟨rfl, hA, hB, hne, l1, l2, hp⟩ := hP
  have c1 : Steps p.tables e below (s₁.setTop (entryFrame m #[.ref b, .int (Int32.ofNat o), .ref d, .int (Int32.ofNat q), .int (Int32.ofNat len)] 7)) (s₁.setTop (mkF m 0 #[.val (.ref b), .val (.int (Int32.ofNat o)), .val (.ref d), .val (.int (Int32.ofNat q)), .val (.int (Int32.ofNat len)), .unset, .unset] [])) := entry rfl
  have hA0 := hA.1.mv X0.warmed.alike hh0
  have hB0 := hB.mv X0.warmed.alike hh0
  have a31 := hA.1.2.2.2
  have c2 : Steps p.tables e below (s₁.setTop (entryFrame m #[.ref b, .int (Int32.ofNat o), .ref d, .int (Int32.ofNat q), .int (Int32.ofNat len)] 7)) (s₁.setTop (mkF m 3 #[.val (.ref b), .val (.int (Int32.ofNat o)), .val (.ref d), .val (.int (Int32.ofNat q)), .val (.int (Int32.ofNat len)), .val (.int 0), .unset] [])) := c1.trans (by
    refine iconstV X0.here hexec rfl 0 (hb hbytes d0) (by decide) ?_
    refine XS.istore X0.here hexec rfl (hb hbytes d1) rfl rfl ?_
    exact Steps.refl _)
  have loop : ∀ (r i : Nat), i + r = len → ∀ (z : Slot), (z = .unset ∨ ∃ w, z = .val w ∧ w.category = 1) → ∀ (Tl : State) (Bk : Cell), Stand p l e { frames := 0, locals := 0, cells := 0, slots := 0 } s m #[.ref b, .int (Int32.ofNat o), .ref d, .int (Int32.ofNat q), .int (Int32.ofNat len)] below meth c Tl ([] ++ copyLocs d q i) 0 0 → Put d Bk s₁ Tl → Laid B Bk q (q + i) (fun j => Value.int (lo8 (cv A (o + (j - q))))) →
      Steps p.tables e below (s₁.setTop (entryFrame m #[.ref b, .int (Int32.ofNat o), .ref d, .int (Int32.ofNat q), .int (Int32.ofNat len)] 7)) (Tl.setTop (mkF m 3 #[.val (.ref b), .val (.int (Int32.ofNat (o + i))), .val (.ref d), .val (.int (Int32.ofNat (q + i))), .val (.int (Int32.ofNat len)), .val (.int (Int32.ofNat i)), z] [])) → ∃ (T' : State) (B' : Cell) (z' : Slot), Stand p l e { frames := 0, locals := 0, cells := 0, slots := 0 } s m #[.ref b, .int (Int32.ofNat o), .ref d, .int (Int32.ofNat q), .int (Int32.ofNat len)] below meth c T' ([] ++ copyLocs d q len) 0 0 ∧ Put d B' s₁ T' ∧ Laid B B' q (q + len) (fun j => Value.int (lo8 (cv A (o + (j - q))))) ∧
      Steps p.tables e below (s₁.setTop (entryFrame m #[.ref b, .int (Int32.ofNat o), .ref d, .int (Int32.ofNat q), .int (Int32.ofNat len)] 7)) (T'.setTop (mkF m 3 #[.val (.ref b), .val (.int (Int32.ofNat (o + len))), .val (.ref d), .val (.int (Int32.ofNat (q + len))), .val (.int (Int32.ofNat len)), .val (.int (Int32.ofNat len)), z'] [])) := by
    intro r
    induction r with
    | zero =>
      intro i hi z hz Tl Bk Xl pl fl cl
      have hil : i = len := by omega
      rw [hil] at Xl fl cl
      exact ⟨Tl, Bk, z, Xl, pl, fl, cl⟩
    | succ r ih =>
      intro i hi z hz Tl Bk Xl pl fl cl
      have all := X0.warmed.alike.symm.trans Xl.warmed.alike
      have hAl := hA0.keep all (pl.other hne hA0.1)
      have hBk := hB0.like all pl.1 fl.1 fl.2.1 fl.2.2.1
      have hlt : q + i < Bk.slots.size := by rw [fl.2.2.1]; omega
      have c3 : Steps p.tables e below (s₁.setTop (entryFrame m #[.ref b, .int (Int32.ofNat o), .ref d, .int (Int32.ofNat q), .int (Int32.ofNat len)] 7)) (Tl.setTop (mkF m 12 #[.val (.ref b), .val (.int (Int32.ofNat (o + i))), .val (.ref d), .val (.int (Int32.ofNat (q + i))), .val (.int (Int32.ofNat len)), .val (.int (Int32.ofNat i)), z] [.int (Int32.ofNat (o + i)), .ref b])) := cl.trans (by
        refine XS.iload Xl.here hexec rfl (hb hbytes d3) rfl ?_
        refine XS.iload Xl.here hexec rfl (hb hbytes d5) rfl ?_
        refine XS.icmpNo Xl.here hexec rfl (hb hbytes d7) rfl (ii_ge_f (lt32 (by omega) (by omega))) ?_
        refine XS.aloadN Xl.here hexec rfl (hb hbytes d10) rfl rfl ?_
        refine XS.iloadN Xl.here hexec rfl (hb hbytes d11) rfl ?_
        exact Steps.refl _)
      have c4 : Steps p.tables e below (s₁.setTop (entryFrame m #[.ref b, .int (Int32.ofNat o), .ref d, .int (Int32.ofNat q), .int (Int32.ofNat len)] 7)) (Tl.setTop (mkF m 13 #[.val (.ref b), .val (.int (Int32.ofNat (o + i))), .val (.ref d), .val (.int (Int32.ofNat (q + i))), .val (.int (Int32.ofNat len)), .val (.int (Int32.ofNat i)), z] [.int (cv A (o + i))])) := c3.trans (by
        refine Xl.aget hexec hAl rfl (hA.get (i := o + i) (by omega)) rfl rfl (hb hbytes d12) ?_
        exact Steps.refl _)
      have c5 : Steps p.tables e below (s₁.setTop (entryFrame m #[.ref b, .int (Int32.ofNat o), .ref d, .int (Int32.ofNat q), .int (Int32.ofNat len)] 7)) (Tl.setTop (mkF m 15 #[.val (.ref b), .val (.int (Int32.ofNat (o + i))), .val (.ref d), .val (.int (Int32.ofNat (q + i))), .val (.int (Int32.ofNat len)), .val (.int (Int32.ofNat i)), .val (.int (cv A (o + i)))] [])) := c4.trans (by
        refine XS.istoreS Xl.here hexec rfl (hb hbytes d13) rfl rfl hz ?_
        exact Steps.refl _)
      have c6 : Steps p.tables e below (s₁.setTop (entryFrame m #[.ref b, .int (Int32.ofNat o), .ref d, .int (Int32.ofNat q), .int (Int32.ofNat len)] 7)) (Tl.setTop (mkF m 31 #[.val (.ref b), .val (.int (Int32.ofNat (o + i))), .val (.ref d), .val (.int (Int32.ofNat (q + i))), .val (.int (Int32.ofNat len)), .val (.int (Int32.ofNat i)), .val (.int (cv A (o + i)))] [.int (lo8 (cv A (o + i))), .int (Int32.ofNat (q + i)), .ref d])) := c5.trans (by
        refine XS.iload Xl.here hexec rfl (hb hbytes d15) rfl ?_
        refine sipushV Xl.here hexec rfl 255 (hb hbytes d17) (by decide) ?_
        refine XS.icmpYes Xl.here hexec rfl (pc0 := 20) rfl (hb hbytes d20) rfl (ii_le_t (hp i (by omega))) (by decide) rfl ?_
        refine XS.aloadN Xl.here hexec rfl (hb hbytes d26) rfl rfl ?_
        refine XS.iloadN Xl.here hexec rfl (hb hbytes d27) rfl ?_
        refine XS.iload Xl.here hexec rfl (hb hbytes d28) rfl ?_
        refine i2b Xl.here hexec rfl (hb hbytes d30) rfl ?_
        exact Steps.refl _)
      obtain ⟨T7, X7, p7, st7⟩ := Xl.aput hexec hBk rfl hlt rfl (fits_lo8 (cv A (o + i))) (g := (mkF m 31 #[.val (.ref b), .val (.int (Int32.ofNat (o + i))), .val (.ref d), .val (.int (Int32.ofNat (q + i))), .val (.int (Int32.ofNat len)), .val (.int (Int32.ofNat i)), .val (.int (cv A (o + i)))] [.int (lo8 (cv A (o + i))), .int (Int32.ofNat (q + i)), .ref d])) rfl (rest := []) rfl (hb hbytes d31)
      have c8 : Steps p.tables e below (s₁.setTop (entryFrame m #[.ref b, .int (Int32.ofNat o), .ref d, .int (Int32.ofNat q), .int (Int32.ofNat len)] 7)) (T7.setTop (mkF m 32 #[.val (.ref b), .val (.int (Int32.ofNat (o + i))), .val (.ref d), .val (.int (Int32.ofNat (q + i))), .val (.int (Int32.ofNat len)), .val (.int (Int32.ofNat i)), .val (.int (cv A (o + i)))] [])) := c6.trans (st7 _ (Steps.refl _))
      have c9 : Steps p.tables e below (s₁.setTop (entryFrame m #[.ref b, .int (Int32.ofNat o), .ref d, .int (Int32.ofNat q), .int (Int32.ofNat len)] 7)) (T7.setTop (mkF m 3 #[.val (.ref b), .val (.int (Int32.ofNat (o + i) + 1)), .val (.ref d), .val (.int (Int32.ofNat (q + i) + 1)), .val (.int (Int32.ofNat len)), .val (.int (Int32.ofNat i + 1)), .val (.int (cv A (o + i)))] [])) := c8.trans (by
        refine iincV X7.here hexec rfl 1 (hb hbytes d32) (by decide) rfl rfl ?_
        refine iincV X7.here hexec rfl 1 (hb hbytes d35) (by decide) rfl rfl ?_
        refine iincV X7.here hexec rfl 1 (hb hbytes d38) (by decide) rfl rfl ?_
        refine XS.goto X7.here hexec rfl (pc0 := 41) rfl (hb hbytes d41) (by decide) rfl ?_
        exact Steps.refl _)
      have c10 : Steps p.tables e below (s₁.setTop (entryFrame m #[.ref b, .int (Int32.ofNat o), .ref d, .int (Int32.ofNat q), .int (Int32.ofNat len)] 7)) (T7.setTop (mkF m 3 #[.val (.ref b), .val (.int (Int32.ofNat (o + (i + 1)))), .val (.ref d), .val (.int (Int32.ofNat (q + (i + 1)))), .val (.int (Int32.ofNat len)), .val (.int (Int32.ofNat (i + 1))), .val (.int (cv A (o + i)))] [])) := by
        have := c9
        rw [succ32, succ32, succ32] at this
        exact this
      exact ih (i + 1) (by omega) _ (Or.inr ⟨_, rfl, rfl⟩) T7 _ (by rw [copyLocs_step, ← List.append_assoc]; exact X7) (pl.trans p7) (fl.step (by omega) hlt (by simp)) c10
  obtain ⟨T9, B9, z9, X9, p9, f9, g9⟩ := loop len 0 (by omega) .unset (Or.inl rfl) s₁ B (by simpa [copyLocs] using X0) ⟨hB0.1, fun _ _ => rfl, rfl⟩ (Laid.zero _ _ _) c2
  have c11 : Steps p.tables e below (s₁.setTop (entryFrame m #[.ref b, .int (Int32.ofNat o), .ref d, .int (Int32.ofNat q), .int (Int32.ofNat len)] 7)) (T9.setTop (mkF m 46 #[.val (.ref b), .val (.int (Int32.ofNat (o + len))), .val (.ref d), .val (.int (Int32.ofNat (q + len))), .val (.int (Int32.ofNat len)), .val (.int (Int32.ofNat len)), z9] [.int (Int32.ofNat len)])) := g9.trans (by
    refine XS.iload X9.here hexec rfl (hb hbytes d3) rfl ?_
    refine XS.iload X9.here hexec rfl (hb hbytes d5) rfl ?_
    refine XS.icmpYes X9.here hexec rfl (pc0 := 7) rfl (hb hbytes d7) rfl (ii_ge_t (nlt32 (by omega) (Nat.le_refl _))) (by decide) rfl ?_
    refine XS.iload X9.here hexec rfl (hb hbytes d44) rfl ?_
    exact Steps.refl _)
  exact ⟨T9, some (.int (Int32.ofNat len)), _, _, _, X9, by simp, rfl, rfl, (fun h => by cases h), ⟨rfl, B9, p9.from hh0, f9⟩, fun fs hl => c11.trans (X9.ireturnOut hexec hret rfl (Or.inl rfl) (hb hbytes d46) hl)⟩
end Cmp5
namespace Cmp3
def yN : MethodName := ⟨"java/lang/StringUTF16", "compress", "([CII)[B"⟩
abbrev yB : ByteArray := jdk_52_method_16_code
theorem d0 : decode yB 0 = .ok (.iload_n 2, 1) := by decide +kernel
theorem d1 : decode yB 1 = .ok (.newarray .byte, 2) := by decide +kernel
theorem d3 : decode yB 3 = .ok (.astore_n 3, 1) := by decide +kernel
theorem d4 : decode yB 4 = .ok (.aload_n 0, 1) := by decide +kernel
theorem d5 : decode yB 5 = .ok (.iload_n 1, 1) := by decide +kernel
theorem d6 : decode yB 6 = .ok (.aload_n 3, 1) := by decide +kernel
theorem d7 : decode yB 7 = .ok (.iconst 0, 1) := by decide +kernel
theorem d8 : decode yB 8 = .ok (.iload_n 2, 1) := by decide +kernel
theorem d9 : decode yB 9 = .ok (.invokestatic 115, 3) := by decide +kernel
theorem d12 : decode yB 12 = .ok (.istore 4, 2) := by decide +kernel
theorem d14 : decode yB 14 = .ok (.iload 4, 2) := by decide +kernel
theorem d16 : decode yB 16 = .ok (.iload_n 2, 1) := by decide +kernel
theorem d17 : decode yB 17 = .ok (.if_icmp (.eq) 40, 3) := by decide +kernel
theorem d57 : decode yB 57 = .ok (.aload_n 3, 1) := by decide +kernel
theorem d58 : decode yB 58 = .ok (.areturn, 1) := by decide +kernel
def site : List Cond := [.arrayClass .byte, Cmp5.tab] ++ staticW U16 115 Cmp5.yN
def tab : Cond := tabOf yN yB 6 (some (.array .byte)) site
def P (b : Addr) (A : Cell) (o len : Nat) (args : Array Value) (s : State) : Prop := args = #[.ref b, .int (Int32.ofNat o), .int (Int32.ofNat len)] ∧ Ch b A s ∧ o + len ≤ A.slots.size ∧ len ≤ 536870912 ∧ ∀ i, i < len → ¬ 255 < cv A (o + i)
def E (b : Addr) (A : Cell) (o len : Nat) (r : Option Value) (s u : State) : Prop := NewArr .byte "[B" len (fun j => .int (lo8 (cv A (o + j)))) r s u ∧ u.heap.size = s.heap.size + 1
/-- no char of the range above 255: a new byte[] of their low bytes -/
theorem law (l : Launch) (b : Addr) (A : Cell) (o len : Nat) : Law l yN 3 3 1 18 yB 6 (some (.array .byte)) site (P b A o len) (E b A o len) [] 1 len := by
  refine Law.of_walk (plainFor_of_name (by decide +kernel)) (by decide +kernel) (by decide +kernel) (by decide) (fun _ _ h => by rw [h.1]; rfl) (fun _ U U' hal hh h => ⟨h.1, h.2.1.mv hal hh, h.2.2⟩) (fun r U U' V V' h1 hal h2 h => ⟨NewArr.mv r U U' V V' h1 hal h2 h.1, by rw [h1, h2]; exact h.2⟩) ?_
  intro p e s m args below meth c s₁ X0 hexec hbytes hml hret hlk hnm hown hh0 W hP
  obtain ⟨rfl, hA, l1, l2, hp⟩ := hP
  have a31 := hA.1.2.2.2
  have c1 : Steps p.tables e below (s₁.setTop (entryFrame m #[.ref b, .int (Int32.ofNat o), .int (Int32.ofNat len)] 6)) (s₁.setTop (mkF m 0 #[.val (.ref b), .val (.int (Int32.ofNat o)), .val (.int (Int32.ofNat len)), .unset, .unset, .unset] [])) := entry rfl
  have c2 : Steps p.tables e below (s₁.setTop (entryFrame m #[.ref b, .int (Int32.ofNat o), .int (Int32.ofNat len)] 6)) (s₁.setTop (mkF m 1 #[.val (.ref b), .val (.int (Int32.ofNat o)), .val (.int (Int32.ofNat len)), .unset, .unset, .unset] [.int (Int32.ofNat len)])) := c1.trans (by
    refine XS.iloadN X0.here hexec rfl (hb hbytes d0) rfl ?_
    exact Steps.refl _)
  obtain ⟨T3, B3, X3, ba3, bs3, bv3, bh3, bf3, st3⟩ := X0.anew hexec (atype := .byte) (wk W (.arrayClass .byte)) rfl (by show len * 1 ≤ _; omega) (by omega) (g := (mkF m 1 #[.val (.ref b), .val (.int (Int32.ofNat o)), .val (.int (Int32.ofNat len)), .unset, .unset, .unset] [.int (Int32.ofNat len)])) rfl (hb hbytes d1) (rest := []) rfl (Nat.le_refl _) (by show 0 + len ≤ len; omega)
  rw [hh0] at ba3 st3
  have kp3 : XT.Kept s T3 := (XT.Kept.of_eq hh0).push bh3
  have hA3 := hA.keep X3.warmed.alike (kp3 _ _ hA.1.1)
  have hne : b ≠ s.heap.size := hA.1.ne
  have c4 : Steps p.tables e below (s₁.setTop (entryFrame m #[.ref b, .int (Int32.ofNat o), .int (Int32.ofNat len)] 6)) (T3.setTop (mkF m 3 #[.val (.ref b), .val (.int (Int32.ofNat o)), .val (.int (Int32.ofNat len)), .unset, .unset, .unset] [.ref s.heap.size])) := c2.trans (st3 _ (Steps.refl _))
  have c5 : Steps p.tables e below (s₁.setTop (entryFrame m #[.ref b, .int (Int32.ofNat o), .int (Int32.ofNat len)] 6)) (T3.setTop (mkF m 9 #[.val (.ref b), .val (.int (Int32.ofNat o)), .val (.int (Int32.ofNat len)), .val (.ref s.heap.size), .unset, .unset] [.int (Int32.ofNat len), .int 0, .ref s.heap.size, .int (Int32.ofNat o), .ref b])) := c4.trans (by
    refine XS.astoreN X3.here hexec rfl (hb hbytes d3) rfl rfl rfl ?_
    refine XS.aloadN X3.here hexec rfl (hb hbytes d4) rfl rfl ?_
    refine XS.iloadN X3.here hexec rfl (hb hbytes d5) rfl ?_
    refine XS.aloadN X3.here hexec rfl (hb hbytes d6) rfl rfl ?_
    refine iconstV X3.here hexec rfl 0 (hb hbytes d7) (by decide) ?_
    refine XS.iloadN X3.here hexec rfl (hb hbytes d8) rfl ?_
    exact Steps.refl _)
  obtain ⟨v6, T6, X6, E6, g6⟩ := X3.callS hexec (Cmp5.law l b A s.heap.size B3 o 0 len) hown (wks W (staticW U16 115 Cmp5.yN)) (wk W Cmp5.tab) (W := 0) (Nat.le_of_ble_eq_true rfl) (Nat.le_of_ble_eq_true rfl) (Nat.le_refl _) (by show 0 + len + 0 ≤ len; omega) (g := (mkF m 9 #[.val (.ref b), .val (.int (Int32.ofNat o)), .val (.int (Int32.ofNat len)), .val (.ref s.heap.size), .unset, .unset] [.int (Int32.ofNat len), .int (Int32.ofNat 0), .ref s.heap.size, .int (Int32.ofNat o), .ref b])) rfl (by rw [hml]; rfl) c5 (argsL := [.ref b, .int (Int32.ofNat o), .ref s.heap.size, .int (Int32.ofNat 0), .int (Int32.ofNat len)]) (rest := []) rfl rfl (by show 2 * 0 + 0 ≤ _; decide) (hb hbytes d9) (⟨rfl, hA3, ba3, hne, l1, by rw [bs3]; simp, hp⟩)
  obtain ⟨rfl, B6, p6, f6⟩ := E6
  have c7 : Steps p.tables e below (s₁.setTop (entryFrame m #[.ref b, .int (Int32.ofNat o), .int (Int32.ofNat len)] 6)) (T6.setTop (mkF m 12 #[.val (.ref b), .val (.int (Int32.ofNat o)), .val (.int (Int32.ofNat len)), .val (.ref s.heap.size), .unset, .unset] [.int (Int32.ofNat len)])) := g6
  have c8 : Steps p.tables e below (s₁.setTop (entryFrame m #[.ref b, .int (Int32.ofNat o), .int (Int32.ofNat len)] 6)) (T6.setTop (mkF m 58 #[.val (.ref b), .val (.int (Int32.ofNat o)), .val (.int (Int32.ofNat len)), .val (.ref s.heap.size), .val (.int (Int32.ofNat len)), .unset] [.ref s.heap.size])) := c7.trans (by
    refine XS.istore X6.here hexec rfl (hb hbytes d12) rfl rfl ?_
    refine XS.iload X6.here hexec rfl (hb hbytes d14) rfl ?_
    refine XS.iloadN X6.here hexec rfl (hb hbytes d16) rfl ?_
    refine XS.icmpYes X6.here hexec rfl (pc0 := 17) rfl (hb hbytes d17) rfl (ii_eq_t rfl) (by decide) rfl ?_
    refine XS.aloadN X6.here hexec rfl (hb hbytes d57) rfl rfl ?_
    exact Steps.refl _)
  have X8 := X6.wide (L' := []) (cells' := 1) (slots' := len) (fun x hx hlt => by
    simp only [List.nil_append, copyLocs, List.mem_map, List.mem_range] at hx
    obtain ⟨i, -, rfl⟩ := hx
    exact absurd hlt (Nat.lt_irrefl _)) (Nat.le_refl _) (by omega)
  exact ⟨T6, some (.ref s.heap.size), _, _, _, X8, rfl, rfl, rfl, (fun h => by cases h), ⟨⟨rfl, B6, ba3.like (X3.warmed.alike.symm.trans X6.warmed.alike) p6.1 f6.1 f6.2.1 f6.2.2.1, f6.2.1.trans bv3, by rw [X6.warmed.alike.findClass, f6.1]; exact bf3, by rw [f6.2.2.1, bs3]; simp, fun j hj => by rw [f6.2.2.2 j, if_pos (by omega)]; rfl, kp3.put p6 (Nat.le_refl _)⟩, by rw [p6.2.2, bh3, hh0]; simp⟩, fun fs hl => c8.trans (X8.areturnOut hexec rfl hret rfl (hb hbytes d58) hl)⟩
end Cmp3
namespace CodL
def yN : MethodName := ⟨"java/lang/StringUTF16", "coderFromArrayLen", "([BI)B"⟩
abbrev yB : ByteArray := jdk_52_method_15_code
theorem d0 : decode yB 0 = .ok (.iload_n 1, 1) := by decide +kernel
theorem d1 : decode yB 1 = .ok (.aload_n 0, 1) := by decide +kernel
theorem d2 : decode yB 2 = .ok (.arraylength, 1) := by decide +kernel
theorem d3 : decode yB 3 = .ok (.isub, 1) := by decide +kernel
theorem d4 : decode yB 4 = .ok (.bipush 31, 2) := by decide +kernel
theorem d6 : decode yB 6 = .ok (.iushr, 1) := by decide +kernel
theorem d7 : decode yB 7 = .ok (.i2b, 1) := by decide +kernel
theorem d8 : decode yB 8 = .ok (.ireturn, 1) := by decide +kernel
def site : List Cond := []
def tab : Cond := tabOf yN yB 2 (some .byte) site
def P (d : Addr) (B : Cell) (args : Array Value) (s : State) : Prop := args = #[.ref d, .int (Int32.ofNat B.slots.size)] ∧ Arr .byte d B s
def E (r : Option Value) (s u : State) : Prop := XT.PureE (some (.int 0)) r s u
/-- an array as long as the number of chars: LATIN1 -/
theorem law (l : Launch) (d : Addr) (B : Cell) : Law l yN 2 2 0 0 yB 2 (some .byte) site (P d B) E [] 0 0 := by
  refine Law.of_walk (plainFor_of_name (by decide +kernel)) (by decide +kernel) (by decide +kernel) (by decide) (fun _ _ h => by rw [h.1]; rfl) (fun _ U U' hal hh h => ⟨h.1, h.2.mv hal hh⟩) (fun r U U' V V' h1 hal h2 h => XT.PureE.mv r U U' V V' h1 hal h2 h) ?_
  intro p e s m args below meth c s₁ X0 hexec hbytes hml hret hlk hnm hown hh0 W hP
  obtain ⟨rfl, hB⟩ := hP
  have hB0 := hB.mv X0.warmed.alike hh0
  have c1 : Steps p.tables e below (s₁.setTop (entryFrame m #[.ref d, .int (Int32.ofNat B.slots.size)] 2)) (s₁.setTop (mkF m 0 #[.val (.ref d), .val (.int (Int32.ofNat B.slots.size))] [])) := entry rfl
  have c2 : Steps p.tables e below (s₁.setTop (entryFrame m #[.ref d, .int (Int32.ofNat B.slots.size)] 2)) (s₁.setTop (mkF m 2 #[.val (.ref d), .val (.int (Int32.ofNat B.slots.size))] [.ref d, .int (Int32.ofNat B.slots.size)])) := c1.trans (by
    refine XS.iloadN X0.here hexec rfl (hb hbytes d0) rfl ?_
    refine XS.aloadN X0.here hexec rfl (hb hbytes d1) rfl rfl ?_
    exact Steps.refl _)
  have c3 : Steps p.tables e below (s₁.setTop (entryFrame m #[.ref d, .int (Int32.ofNat B.slots.size)] 2)) (s₁.setTop (mkF m 8 #[.val (.ref d), .val (.int (Int32.ofNat B.slots.size))] [.int (lo8 (ushr (Int32.ofNat B.slots.size - Int32.ofNat B.slots.size) 31))])) := c2.trans (by
    refine X0.alen hexec hB0 rfl rfl (hb hbytes d2) ?_
    refine XS.isub X0.here hexec rfl (hb hbytes d3) rfl ?_
    refine bipushV X0.here hexec rfl 31 (hb hbytes d4) (by decide) ?_
    refine iushr X0.here hexec rfl (hb hbytes d6) rfl ?_
    refine i2b X0.here hexec rfl (hb hbytes d7) rfl ?_
    exact Steps.refl _)
  have e0 : lo8 (ushr (Int32.ofNat B.slots.size - Int32.ofNat B.slots.size) 31) = 0 := by rw [Int32.sub_self]; decide
  rw [e0] at c3
  exact ⟨s₁, some (.int 0), _, _, _, X0, rfl, rfl, rfl, (fun h => by cases h), ⟨rfl, hh0⟩, fun fs hl => c3.trans (X0.ireturnOut hexec hret rfl (Or.inr (Or.inr (Or.inl rfl))) (hb hbytes d8) hl)⟩
end CodL
/-- the String at a is Latin-1 over a new byte[] (the heap's one new cell): the low bytes of the len chars of A from o on; every cell but a is kept -/
def Got (a : Addr) (D : Cell) (fV fC : Field) (A : Cell) (o len : Nat) (r : Option Value) (s u : State) : Prop := r = none ∧ ∃ D' V : Cell, Blank "java/lang/String" a D' u ∧ Same D D' [fV.slot, fC.slot] ∧ D'.slots[fV.slot]? = some (.ref s.heap.size) ∧ D'.slots[fC.slot]? = some (.int 0) ∧ Arr .byte s.heap.size V u ∧ V.vm = .none ∧ u.vm.findClass "[B" = some V.cls ∧ V.slots.size = len ∧ (∀ j, j < len → V.slots[j]? = some (.int (lo8 (cv A (o + j))))) ∧ (∀ (y : Addr) (c : Cell), y ≠ a → s.heap[y]? = some c → u.heap[y]? = some c) ∧ u.heap.size = s.heap.size + 1
theorem Got.mv {a : Addr} {D A : Cell} {fV fC : Field} {o len : Nat} : ∀ r (U U' V V' : State), U'.heap = U.heap → V.vm.Alike V'.vm → V'.heap = V.heap → Got a D fV fC A o len r U V → Got a D fV fC A o len r U' V' :=
  fun r U U' V V' h1 hal h2 ⟨e0, D', X, a1, a2, a3, a4, a5, a6, a7, a8, a9, a10, a11⟩ => ⟨e0, D', X, a1.mv hal h2, a2, by rw [h1]; exact a3, a4, by rw [h1]; exact a5.mv hal h2, a6, by rw [hal.findClass]; exact a7, a8, a9, by rw [h1, h2]; exact a10, by rw [h1, h2]; exact a11⟩
namespace New4
def yN : MethodName := ⟨"java/lang/String", "<init>", "([CIILjava/lang/Void;)V"⟩
abbrev yB : ByteArray := jdk_42_method_149_code
theorem d0 : decode yB 0 = .ok (.aload_n 0, 1) := by decide +kernel
theorem d1 : decode yB 1 = .ok (.invokespecial 1, 3) := by decide +kernel
theorem d4 : decode yB 4 = .ok (.iload_n 3, 1) := by decide +kernel
theorem d5 : decode yB 5 = .ok (.ifCond (.ne) 22, 3) := by decide +kernel
theorem d27 : decode yB 27 = .ok (.getstatic 38, 3) := by decide +kernel
theorem d30 : decode yB 30 = .ok (.ifCond (.eq) 28, 3) := by decide +kernel
theorem d33 : decode yB 33 = .ok (.aload_n 1, 1) := by decide +kernel
theorem d34 : decode yB 34 = .ok (.iload_n 2, 1) := by decide +kernel
theorem d35 : decode yB 35 = .ok (.iload_n 3, 1) := by decide +kernel
theorem d36 : decode yB 36 = .ok (.invokestatic 177, 3) := by decide +kernel
theorem d39 : decode yB 39 = .ok (.astore 5, 2) := by decide +kernel
theorem d41 : decode yB 41 = .ok (.aload_n 0, 1) := by decide +kernel
theorem d42 : decode yB 42 = .ok (.aload 5, 2) := by decide +kernel
theorem d44 : decode yB 44 = .ok (.iload_n 3, 1) := by decide +kernel
theorem d45 : decode yB 45 = .ok (.invokestatic 47, 3) := by decide +kernel
theorem d48 : decode yB 48 = .ok (.putfield 15, 3) := by decide +kernel
theorem d51 : decode yB 51 = .ok (.aload_n 0, 1) := by decide +kernel
theorem d52 : decode yB 52 = .ok (.aload 5, 2) := by decide +kernel
theorem d54 : decode yB 54 = .ok (.putfield 9, 3) := by decide +kernel
theorem d57 : decode yB 57 = .ok (.return_, 1) := by decide +kernel
def site : List Cond := [.fieldLink "java/lang/String" 38 "java/lang/String" "COMPACT_STRINGS" "Z", Cmp3.tab, CodL.tab, .laysFinal "java/lang/String" "java/lang/String" "value" "[B", .fieldLink "java/lang/String" 9 "java/lang/String" "value" "[B", .laysFinal "java/lang/String" "java/lang/String" "coder" "B", .fieldLink "java/lang/String" 15 "java/lang/String" "coder" "B"] ++ objW "java/lang/String" 1 ++ staticW "java/lang/String" 177 Cmp3.yN ++ staticW "java/lang/String" 47 CodL.yN
def tab : Cond := tabOf yN yB 6 none site
def P (a : Addr) (D : Cell) (fV fC : Field) (b : Addr) (A : Cell) (z : Int32) (o len : Nat) (args : Array Value) (s : State) : Prop := args = #[.ref a, .ref b, .int (Int32.ofNat o), .int (Int32.ofNat len), .null] ∧ Blank "java/lang/String" a D s ∧ Found "java/lang/String" "value" "[B" fV s ∧ Found "java/lang/String" "coder" "B" fC s ∧ Ch b A s ∧ StaticIs s "java/lang/String" "COMPACT_STRINGS" "Z" (.int z) ∧ ¬ z = 0 ∧ 0 < len ∧ o + len ≤ A.slots.size ∧ len ≤ 536870912 ∧ ∀ i, i < len → ¬ 255 < cv A (o + i)
def E (a : Addr) (D : Cell) (fV fC : Field) (A : Cell) (o len : Nat) (r : Option Value) (s u : State) : Prop := Got a D fV fC A o len r s u
/-- len > 0, no char of the range above 255: a Latin-1 String of their low bytes -/
theorem law (l : Launch) (a : Addr) (D : Cell) (fV fC : Field) (b : Addr) (A : Cell) (z : Int32) (o len : Nat) : Law l yN 5 4 2 35 yB 6 none site (P a D fV fC b A z o len) (E a D fV fC A o len) [⟨a, fC.slot⟩, ⟨a, fV.slot⟩] 1 len := by
  refine Law.of_walk (plainFor_of_name (by decide +kernel)) (by decide +kernel) (by decide +kernel) (by decide) (fun _ _ h => by rw [h.1]; rfl) (fun _ U U' hal hh h => ⟨h.1, h.2.1.mv hal hh, h.2.2.1.al hal, h.2.2.2.1.al hal, h.2.2.2.2.1.mv hal hh, h.2.2.2.2.2.1.there hal hh, h.2.2.2.2.2.2⟩) (fun r U U' V V' h1 hal h2 h => Got.mv r U U' V V' h1 hal h2 h) ?_
  intro p e s m args below meth c s₁ X0 hexec hbytes hml hret hlk hnm hown hh0 W hP
  obtain ⟨rfl, hB, f1, f2, hA, s1, hz, l0, l1, l2, hp⟩ := hP
  have a31 := hA.1.2.2.2
  have c1 : Steps p.tables e below (s₁.setTop (entryFrame m #[.ref a, .ref b, .int (Int32.ofNat o), .int (Int32.ofNat len), .null] 6)) (s₁.setTop (mkF m 0 #[.val (.ref a), .val (.ref b), .val (.int (Int32.ofNat o)), .val (.int (Int32.ofNat len)), .val .null, .unset] [])) := entry rfl
  have c2 : Steps p.tables e below (s₁.setTop (entryFrame m #[.ref a, .ref b, .int (Int32.ofNat o), .int (Int32.ofNat len), .null] 6)) (s₁.setTop (mkF m 1 #[.val (.ref a), .val (.ref b), .val (.int (Int32.ofNat o)), .val (.int (Int32.ofNat len)), .val .null, .unset] [.ref a])) := c1.trans (by
    refine XS.aloadN X0.here hexec rfl (hb hbytes d0) rfl rfl ?_
    exact Steps.refl _)
  obtain ⟨T3, X3, q3, st3⟩ := X0.oinit hexec hown (wks W (objW "java/lang/String" 1)) (g := (mkF m 1 #[.val (.ref a), .val (.ref b), .val (.int (Int32.ofNat o)), .val (.int (Int32.ofNat len)), .val .null, .unset] [.ref a])) rfl (by rw [hml]; rfl) (rest := []) rfl (hb hbytes d1) (W := 0) (by show 2 * 0 + 0 ≤ _; decide) (Nat.le_of_ble_eq_true rfl) (Nat.le_of_ble_eq_true rfl)
  have hh3 := q3.trans hh0
  have c4 : Steps p.tables e below (s₁.setTop (entryFrame m #[.ref a, .ref b, .int (Int32.ofNat o), .int (Int32.ofNat len), .null] 6)) (T3.setTop (mkF m 27 #[.val (.ref a), .val (.ref b), .val (.int (Int32.ofNat o)), .val (.int (Int32.ofNat len)), .val .null, .unset] [])) := (c2.trans (st3 _ (Steps.refl _))).trans (by
    refine XS.iloadN X3.here hexec rfl (hb hbytes d4) rfl ?_
    refine XS.ifYes X3.here hexec rfl (pc0 := 5) rfl (hb hbytes d5) rfl (i0_ne_t (nz32 (by omega) l0)) (by decide) rfl ?_
    exact Steps.refl _)
  obtain ⟨T5, X5, q5, st5⟩ := X3.sget hexec hown (wk W (.fieldLink "java/lang/String" 38 "java/lang/String" "COMPACT_STRINGS" "Z")) s1 (fun _ _ h => by rw [hh3]; exact h) (g := (mkF m 27 #[.val (.ref a), .val (.ref b), .val (.int (Int32.ofNat o)), .val (.int (Int32.ofNat len)), .val .null, .unset] [])) rfl (hb hbytes d27)
  have hh5 := q5.trans hh3
  have c6 : Steps p.tables e below (s₁.setTop (entryFrame m #[.ref a, .ref b, .int (Int32.ofNat o), .int (Int32.ofNat len), .null] 6)) (T5.setTop (mkF m 30 #[.val (.ref a), .val (.ref b), .val (.int (Int32.ofNat o)), .val (.int (Int32.ofNat len)), .val .null, .unset] [.int z])) := c4.trans (st5 _ (Steps.refl _))
  have c7 : Steps p.tables e below (s₁.setTop (entryFrame m #[.ref a, .ref b, .int (Int32.ofNat o), .int (Int32.ofNat len), .null] 6)) (T5.setTop (mkF m 36 #[.val (.ref a), .val (.ref b), .val (.int (Int32.ofNat o)), .val (.int (Int32.ofNat len)), .val .null, .unset] [.int (Int32.ofNat len), .int (Int32.ofNat o), .ref b])) := c6.trans (by
    refine XS.ifNo X5.here hexec rfl (hb hbytes d30) rfl (i0_eq_f hz) ?_
    refine XS.aloadN X5.here hexec rfl (hb hbytes d33) rfl rfl ?_
    refine XS.iloadN X5.here hexec rfl (hb hbytes d34) rfl ?_
    refine XS.iloadN X5.here hexec rfl (hb hbytes d35) rfl ?_
    exact Steps.refl _)
  obtain ⟨v8, T8, X8, E8, g8⟩ := X5.callS hexec (Cmp3.law l b A o len) hown (wks W (staticW "java/lang/String" 177 Cmp3.yN)) (wk W Cmp3.tab) (W := 0) (Nat.le_of_ble_eq_true rfl) (Nat.le_of_ble_eq_true rfl) (Nat.le_refl _) (by show 0 + len ≤ len; omega) (g := (mkF m 36 #[.val (.ref a), .val (.ref b), .val (.int (Int32.ofNat o)), .val (.int (Int32.ofNat len)), .val .null, .unset] [.int (Int32.ofNat len), .int (Int32.ofNat o), .ref b])) rfl (by rw [hml]; rfl) c7 (argsL := [.ref b, .int (Int32.ofNat o), .int (Int32.ofNat len)]) (rest := []) rfl rfl (by show 2 * 0 + 0 ≤ _; decide) (hb hbytes d36) (⟨rfl, hA.mv X5.warmed.alike hh5, l1, l2, hp⟩)
  obtain ⟨e8, z8⟩ := E8
  obtain ⟨rfl, N, n1, n2, n3, n4, n5, n6⟩ := NewArr.mv _ T5 s _ _ hh5.symm (Vm.Alike.refl _) rfl e8
  rw [hh5] at z8
  have hB1 := hB.keep X8.warmed.alike (n6 _ _ hB.1)
  have hne : s.heap.size ≠ a := (Nat.ne_of_lt (Array.getElem?_eq_some_iff.mp hB.1).1).symm
  have c9 : Steps p.tables e below (s₁.setTop (entryFrame m #[.ref a, .ref b, .int (Int32.ofNat o), .int (Int32.ofNat len), .null] 6)) (T8.setTop (mkF m 39 #[.val (.ref a), .val (.ref b), .val (.int (Int32.ofNat o)), .val (.int (Int32.ofNat len)), .val .null, .unset] [.ref s.heap.size])) := g8
  have c10 : Steps p.tables e below (s₁.setTop (entryFrame m #[.ref a, .ref b, .int (Int32.ofNat o), .int (Int32.ofNat len), .null] 6)) (T8.setTop (mkF m 45 #[.val (.ref a), .val (.ref b), .val (.int (Int32.ofNat o)), .val (.int (Int32.ofNat len)), .val .null, .val (.ref s.heap.size)] [.int (Int32.ofNat N.slots.size), .ref s.heap.size, .ref a])) := by
    have hc : Steps p.tables e below (s₁.setTop (entryFrame m #[.ref a, .ref b, .int (Int32.ofNat o), .int (Int32.ofNat len), .null] 6)) (T8.setTop (mkF m 45 #[.val (.ref a), .val (.ref b), .val (.int (Int32.ofNat o)), .val (.int (Int32.ofNat len)), .val .null, .val (.ref s.heap.size)] [.int (Int32.ofNat len), .ref s.heap.size, .ref a])) := c9.trans (by
      refine XS.astore X8.here hexec rfl (hb hbytes d39) rfl rfl rfl ?_
      refine XS.aloadN X8.here hexec rfl (hb hbytes d41) rfl rfl ?_
      refine XS.aload X8.here hexec rfl (hb hbytes d42) rfl rfl ?_
      refine XS.iloadN X8.here hexec rfl (hb hbytes d44) rfl ?_
      exact Steps.refl _)
    rw [n4]; exact hc
  obtain ⟨v11, T11, X11, E11, g11⟩ := X8.callS hexec (CodL.law l s.heap.size N) hown (wks W (staticW "java/lang/String" 47 CodL.yN)) (wk W CodL.tab) (W := 1) (Nat.le_of_ble_eq_true rfl) (Nat.le_of_ble_eq_true rfl) (Nat.le_refl _) (by show 0 + len + 0 ≤ len; omega) (g := (mkF m 45 #[.val (.ref a), .val (.ref b), .val (.int (Int32.ofNat o)), .val (.int (Int32.ofNat len)), .val .null, .val (.ref s.heap.size)] [.int (Int32.ofNat N.slots.size), .ref s.heap.size, .ref a])) rfl (by rw [hml]; rfl) c10 (argsL := [.ref s.heap.size, .int (Int32.ofNat N.slots.size)]) (rest := [.ref a]) rfl rfl (by show 2 * 0 + (1 + 0) ≤ _; decide) (hb hbytes d45) (⟨rfl, n1⟩)
  obtain ⟨rfl, q11⟩ := E11
  have hB11 := hB1.mv (X8.warmed.alike.symm.trans X11.warmed.alike) q11
  have c12 : Steps p.tables e below (s₁.setTop (entryFrame m #[.ref a, .ref b, .int (Int32.ofNat o), .int (Int32.ofNat len), .null] 6)) (T11.setTop (mkF m 48 #[.val (.ref a), .val (.ref b), .val (.int (Int32.ofNat o)), .val (.int (Int32.ofNat len)), .val .null, .val (.ref s.heap.size)] [.int 0, .ref a])) := g11
  obtain ⟨T13, X13, p13, bl13, sl13, st13⟩ := X11.finit hexec hown (wk W (.fieldLink "java/lang/String" 15 "java/lang/String" "coder" "B")) (Or.inr ⟨_, (wk W (.laysFinal "java/lang/String" "java/lang/String" "coder" "B"))⟩) (Or.inl ⟨rfl, hnm⟩) f2 (Or.inl rfl) hB11 (t := .byte) (by decide +kernel) rfl (g := (mkF m 48 #[.val (.ref a), .val (.ref b), .val (.int (Int32.ofNat o)), .val (.int (Int32.ofNat len)), .val .null, .val (.ref s.heap.size)] [.int 0, .ref a])) rfl (rest := []) rfl (hb hbytes d48)
  have c14 : Steps p.tables e below (s₁.setTop (entryFrame m #[.ref a, .ref b, .int (Int32.ofNat o), .int (Int32.ofNat len), .null] 6)) (T13.setTop (mkF m 54 #[.val (.ref a), .val (.ref b), .val (.int (Int32.ofNat o)), .val (.int (Int32.ofNat len)), .val .null, .val (.ref s.heap.size)] [.ref s.heap.size, .ref a])) := (c12.trans (st13 _ (Steps.refl _))).trans (by
    refine XS.aloadN X13.here hexec rfl (hb hbytes d51) rfl rfl ?_
    refine XS.aload X13.here hexec rfl (hb hbytes d52) rfl rfl ?_
    exact Steps.refl _)
  obtain ⟨T15, X15, p15, bl15, sl15, st15⟩ := X13.finit hexec hown (wk W (.fieldLink "java/lang/String" 9 "java/lang/String" "value" "[B")) (Or.inr ⟨_, (wk W (.laysFinal "java/lang/String" "java/lang/String" "value" "[B"))⟩) (Or.inl ⟨rfl, hnm⟩) f1 (Or.inl rfl) bl13 (t := (.array .byte)) (by decide +kernel) rfl (g := (mkF m 54 #[.val (.ref a), .val (.ref b), .val (.int (Int32.ofNat o)), .val (.int (Int32.ofNat len)), .val .null, .val (.ref s.heap.size)] [.ref s.heap.size, .ref a])) rfl (rest := []) rfl (hb hbytes d54)
  have c16 : Steps p.tables e below (s₁.setTop (entryFrame m #[.ref a, .ref b, .int (Int32.ofNat o), .int (Int32.ofNat len), .null] 6)) (T15.setTop (mkF m 57 #[.val (.ref a), .val (.ref b), .val (.int (Int32.ofNat o)), .val (.int (Int32.ofNat len)), .val .null, .val (.ref s.heap.size)] [])) := c14.trans (st15 _ (Steps.refl _))
  have ap := apart (Or.inr ⟨_, (wk W (.laysFinal "java/lang/String" "java/lang/String" "value" "[B"))⟩) (Or.inr ⟨_, (wk W (.laysFinal "java/lang/String" "java/lang/String" "coder" "B"))⟩) f1 f2 (t₁ := .array .byte) (t₂ := .byte) (by decide +kernel) (by decide +kernel) (by decide)
  have al := X8.warmed.alike.symm.trans X15.warmed.alike
  have n7 : T11.heap[s.heap.size]? = some N := by rw [q11]; exact n1.1
  exact ⟨T15, none, _, _, _, X15, by simp, rfl, by omega, (fun _ => rfl), ⟨rfl, _, N, bl15, ((Same.refl D _).set _ (by simp)).set _ (by simp), sl15, (Cell.slots_setSlot_ne _ ap).trans sl13, n1.keep al (p15.other hne (p13.other hne n7)), n2, by rw [al.findClass]; exact n3, n4, n5, fun y c h1 h2 => p15.other h1 (p13.other h1 (by rw [q11]; exact n6 y c h2)), by rw [p15.2.2, p13.2.2, q11]; exact z8⟩, fun fs hl => c16.trans (X15.returnOut hexec hret (hb hbytes d57) hl)⟩
end New4
namespace New1
def yN : MethodName := ⟨"java/lang/String", "<init>", "([C)V"⟩
abbrev yB : ByteArray := jdk_42_method_3_code
theorem d0 : decode yB 0 = .ok (.aload_n 0, 1) := by decide +kernel
theorem d1 : decode yB 1 = .ok (.aload_n 1, 1) := by decide +kernel
theorem d2 : decode yB 2 = .ok (.iconst 0, 1) := by decide +kernel
theorem d3 : decode yB 3 = .ok (.aload_n 1, 1) := by decide +kernel
theorem d4 : decode yB 4 = .ok (.arraylength, 1) := by decide +kernel
theorem d5 : decode yB 5 = .ok (.aconst_null, 1) := by decide +kernel
theorem d6 : decode yB 6 = .ok (.invokespecial 27, 3) := by decide +kernel
theorem d9 : decode yB 9 = .ok (.return_, 1) := by decide +kernel
def site : List Cond := [New4.tab] ++ initW "java/lang/String" 27 New4.yN
def tab : Cond := tabOf yN yB 2 none site
def P (a : Addr) (D : Cell) (fV fC : Field) (b : Addr) (A : Cell) (z : Int32) (args : Array Value) (s : State) : Prop := args = #[.ref a, .ref b] ∧ Blank "java/lang/String" a D s ∧ Found "java/lang/String" "value" "[B" fV s ∧ Found "java/lang/String" "coder" "B" fC s ∧ Ch b A s ∧ StaticIs s "java/lang/String" "COMPACT_STRINGS" "Z" (.int z) ∧ ¬ z = 0 ∧ 0 < A.slots.size ∧ A.slots.size ≤ 536870912 ∧ ∀ i, i < A.slots.size → ¬ 255 < cv A i
def E (a : Addr) (D : Cell) (fV fC : Field) (A : Cell) (r : Option Value) (s u : State) : Prop := Got a D fV fC A 0 A.slots.size r s u
/-- new String(chars), not empty, no char above 255: a Latin-1 String of their low bytes -/
theorem law (l : Launch) (a : Addr) (D : Cell) (fV fC : Field) (b : Addr) (A : Cell) (z : Int32) : Law l yN 2 1 3 52 yB 2 none site (P a D fV fC b A z) (E a D fV fC A) [⟨a, fC.slot⟩, ⟨a, fV.slot⟩] 1 A.slots.size := by
  refine Law.of_walk (plainFor_of_name (by decide +kernel)) (by decide +kernel) (by decide +kernel) (by decide) (fun _ _ h => by rw [h.1]; rfl) (fun _ U U' hal hh h => ⟨h.1, h.2.1.mv hal hh, h.2.2.1.al hal, h.2.2.2.1.al hal, h.2.2.2.2.1.mv hal hh, h.2.2.2.2.2.1.there hal hh, h.2.2.2.2.2.2⟩) (fun r U U' V V' h1 hal h2 h => Got.mv r U U' V V' h1 hal h2 h) ?_
  intro p e s m args below meth c s₁ X0 hexec hbytes hml hret hlk hnm hown hh0 W hP
  obtain ⟨rfl, hB, f1, f2, hA, s1, hz, l0, l2, hp⟩ := hP
  have c1 : Steps p.tables e below (s₁.setTop (entryFrame m #[.ref a, .ref b] 2)) (s₁.setTop (mkF m 0 #[.val (.ref a), .val (.ref b)] [])) := entry rfl
  have c2 : Steps p.tables e below (s₁.setTop (entryFrame m #[.ref a, .ref b] 2)) (s₁.setTop (mkF m 6 #[.val (.ref a), .val (.ref b)] [.null, .int (Int32.ofNat A.slots.size), .int 0, .ref b, .ref a])) := c1.trans (by
    refine XS.aloadN X0.here hexec rfl (hb hbytes d0) rfl rfl ?_
    refine XS.aloadN X0.here hexec rfl (hb hbytes d1) rfl rfl ?_
    refine iconstV X0.here hexec rfl 0 (hb hbytes d2) (by decide) ?_
    refine XS.aloadN X0.here hexec rfl (hb hbytes d3) rfl rfl ?_
    refine X0.alen hexec (hA.1.mv X0.warmed.alike hh0) rfl rfl (hb hbytes d4) ?_
    refine XS.aconstNull X0.here hexec rfl (hb hbytes d5) ?_
    exact Steps.refl _)
  obtain ⟨v3, T3, X3, E3, g3⟩ := X0.callN hexec (New4.law l a D fV fC b A z 0 A.slots.size) rfl hown (wks W (initW "java/lang/String" 27 New4.yN)) (W New4.tab (by simp only [site, List.mem_cons, List.mem_append, true_or, or_true])) (W := 0) (Nat.le_of_ble_eq_true rfl) (Nat.le_of_ble_eq_true rfl) (Nat.le_refl _) (by show 0 + A.slots.size ≤ A.slots.size; omega) (g := (mkF m 6 #[.val (.ref a), .val (.ref b)] [.null, .int (Int32.ofNat A.slots.size), .int (Int32.ofNat 0), .ref b, .ref a])) rfl (by rw [hml]; rfl) c2 (argsL := [.ref b, .int (Int32.ofNat 0), .int (Int32.ofNat A.slots.size), .null]) (rest := []) rfl rfl (by show 2 * 0 + 0 ≤ _; decide) (hb hbytes d6) (⟨rfl, hB.mv X0.warmed.alike hh0, f1.al X0.warmed.alike, f2.al X0.warmed.alike, hA.mv X0.warmed.alike hh0, s1.there X0.warmed.alike hh0, hz, l0, by omega, l2, fun i hi => by rw [Nat.zero_add]; exact hp i hi⟩)
  have e0 := Got.mv _ s₁ s _ _ hh0.symm (Vm.Alike.refl _) rfl E3
  obtain rfl := e0.1
  have c4 : Steps p.tables e below (s₁.setTop (entryFrame m #[.ref a, .ref b] 2)) (T3.setTop (mkF m 9 #[.val (.ref a), .val (.ref b)] [])) := g3
  exact ⟨T3, none, _, _, _, X3, by simp, rfl, by omega, (fun _ => rfl), e0, fun fs hl => c4.trans (X3.returnOut hexec hret (hb hbytes d9) hl)⟩
theorem pays {l : Launch} {R : Room} {p : Program} {e : Env} {below : List Frame} {s : State} {sargs : Array Value} {len W : Nat} (a : Addr) (D : Cell) (fV fC : Field) (b : Addr) (A : Cell) (z : Int32) (htab : tab.before sargs s = true) (hfr : 4 ≤ R.frames) (hlo : W + 65 ≤ R.locals) :
    Back l R p e below s sargs yN len W (fun A₁ a₁ => A₁.cells + 1 ≤ R.cells ∧ A₁.slots + A.slots.size ≤ R.slots ∧ P a D fV fC b A z a₁ A₁.U) (fun A₁ _ v₁ B₁ => E a D fV fC A v₁ A₁.U B₁.U ∧ B₁.locs = A₁.locs ++ [⟨a, fC.slot⟩, ⟨a, fV.slot⟩] ∧ B₁.cells = A₁.cells + 1 ∧ B₁.slots = A₁.slots + A.slots.size) :=
  (law l a D fV fC b A z).pays htab hfr (by omega)
end New1
end StrChars
namespace StrChars.Road
open Jvm Sem ClassFile Op Lib Jvm.Stand Jvm.Free Jvm.Free.XT
open Jvm.Lib.Cold (StaticIs)
abbrev ST : String := "java/lang/String"
/-- every table word that New1's law asks, flat -/
abbrev words : List Jvm.Cond := [.code New1.yN New1.yB 2 none, .initialized ST, .methodLink ST 27 New4.yN, .instanceMethod New4.yN,
  .code New4.yN New4.yB 6 none, .fieldLink ST 38 ST "COMPACT_STRINGS" "Z", .laysFinal ST ST "value" "[B", .fieldLink ST 9 ST "value" "[B", .laysFinal ST ST "coder" "B", .fieldLink ST 15 ST "coder" "B",
  .methodLink ST 1 Lib.objectInit, .instanceMethod Lib.objectInit, .code Lib.objectInit ⟨#[0xb1]⟩ 1 none, .methodLink ST 177 Cmp3.yN, .static Cmp3.yN, .methodLink ST 47 CodL.yN, .static CodL.yN,
  .code Cmp3.yN Cmp3.yB 6 (some (.array .byte)), .initialized U16, .arrayClass .byte, .methodLink U16 115 Cmp5.yN, .static Cmp5.yN, .code Cmp5.yN Cmp5.yB 7 (some .int), .code CodL.yN CodL.yB 2 (some .byte)]
theorem tab_of {a : Array Value} {s : State} (h : ∀ w ∈ words, w.before a s = true) : New1.tab.before a s = true := by
  have h5 : Cmp5.tab.before a s = true := unparts (wk h (.code Cmp5.yN Cmp5.yB 7 (some .int))) (wks h (.initialized Cmp5.yN.cls :: Cmp5.site))
  have hc : CodL.tab.before a s = true := unparts (wk h (.code CodL.yN CodL.yB 2 (some .byte))) (wks h (.initialized CodL.yN.cls :: CodL.site))
  have q5 : ∀ w ∈ Cmp5.tab :: words, w.before a s = true := fun w hw => (List.mem_cons.mp hw).elim (fun e => e ▸ h5) (h w)
  have h3 : Cmp3.tab.before a s = true := unparts (wk q5 (.code Cmp3.yN Cmp3.yB 6 (some (.array .byte)))) (wks q5 (.initialized Cmp3.yN.cls :: Cmp3.site))
  have q3 : ∀ w ∈ Cmp3.tab :: CodL.tab :: words, w.before a s = true := fun w hw => (List.mem_cons.mp hw).elim (fun e => e ▸ h3) fun hw => (List.mem_cons.mp hw).elim (fun e => e ▸ hc) (h w)
  have h4 : New4.tab.before a s = true := unparts (wk q3 (.code New4.yN New4.yB 6 none)) (wks q3 (.initialized New4.yN.cls :: New4.site))
  have q4 : ∀ w ∈ New4.tab :: words, w.before a s = true := fun w hw => (List.mem_cons.mp hw).elim (fun e => e ▸ h4) (h w)
  exact unparts (wk q4 (.code New1.yN New1.yB 2 none)) (wks q4 (.initialized New1.yN.cls :: New1.site))
/-- the words ride from the start Z to the walk's own state -/
theorem moved {Z s : State} {a0 args : Array Value} (hZ : Z.Warmed39 s.vm) (hw : ∀ d ∈ words, d.before a0 Z = true) : ∀ d ∈ words, d.before args s = true := fun d hd => by
  have q := hw d hd
  have t : ∀ d ∈ words, d = .arrayClass .byte ∨ (d.onTables && d.keepsFace) = true := by decide +kernel
  rcases t d hd with rfl | t
  · exact RoadKit.mvA hZ q
  · exact RoadKit.mv hZ q t
/-- WHAT COMES BACK, over the tables of the start Z: h the heap at the call, h' behind it -/
def Q (Z : State) (x : Addr) (A : Cell) (h : Heap) (v : Option Value) (h' : Heap) (L : List Loc) : Prop := v = none ∧ (∀ y ∈ L, y.base = x) ∧ RoadKit.Keep h h' [x] ∧ h'.size = h.size + 1 ∧ RoadKit.Exa Z h' x ST ∧ RoadKit.Fld Z h' x ST "value" "[B" (.ref h.size) ∧ RoadKit.Fld Z h' x ST "coder" "B" (.int 0) ∧
  (∃ V : Cell, RoadKit.Arr Z h' h.size V .byte ∧ V.vm = .none ∧ Z.vm.findClass "[B" = some V.cls ∧ V.slots.size = A.slots.size ∧ ∀ j, j < A.slots.size → V.slots[j]? = some (.int (lo8 (cv A j)))) ∧
  ∀ (O n d : String) (w : Value), RoadKit.Fld Z h x O n d w → RoadKit.slotOf Z O n d ≠ RoadKit.slotOf Z ST "value" "[B" → RoadKit.slotOf Z O n d ≠ RoadKit.slotOf Z ST "coder" "B" → RoadKit.Fld Z h' x O n d w
/-- **new String(chars) AT A CALL, IN THE ROAD'S FORM**: for specialBack behind newO: x the fresh String, b the char[] with the cell A -/
theorem back {p : Program} {l : Launch} {e : Env} {R : Room} {s : State} {args : Array Value} {below : List Frame} {len W : Nat} {Z : State} {a0 : Array Value} {h : Heap} (hZ : Z.Warmed39 s.vm) (hw : ∀ d ∈ words, d.before a0 Z = true) {kI : Nat} (wi : (Jvm.Cond.instantiable ST kI).before a0 Z = true)
    {x b : Addr} {A : Cell} {z : Int32} {v0 c0 : Value} (E : RoadKit.Exa Z h x ST) (V : RoadKit.Fld Z h x ST "value" "[B" v0) (C : RoadKit.Fld Z h x ST "coder" "B" c0) (K : RoadKit.Arr Z h b A .char) (hty : Typed .char A) (S : RoadKit.Sta Z h ST "COMPACT_STRINGS" "Z" (.int z)) (hz : ¬ z = 0)
    (l0 : 0 < A.slots.size) (l2 : A.slots.size ≤ 536870912) (hp : ∀ i, i < A.slots.size → ¬ 255 < cv A i) (hfr : 4 ≤ R.frames) (hlo : W + 65 ≤ R.locals) :
    Back l R p e below s args New1.yN len W (fun P a => a = #[.ref x, .ref b] ∧ P.U.heap = h ∧ P.cells + 1 ≤ R.cells ∧ P.slots + A.slots.size ≤ R.slots)
      (fun P _ v B => ∃ L, Q Z x A h v B.U.heap L ∧ B.locs = P.locs ++ L ∧ B.cells = P.cells + 1 ∧ B.slots = P.slots + A.slots.size) := by
  intro m meth c P g ig mk a X hg hsize hdg hW hn hp'
  obtain ⟨rfl, rfl, r1, r2⟩ := hp'
  have al : Z.vm.Alike P.U.vm := hZ.alike.trans X.warmed.alike
  obtain ⟨D, cfV, kV, iV, fV, hD, gV, stV, knV, obV, asV, slV⟩ := id V
  obtain ⟨D', cfC, kC, iC, fC, hD', gC, stC, -, -, asC, slC⟩ := id C
  cases hD.symm.trans hD'
  obtain ⟨D2, kD, e1, e2, e3, e4, e5⟩ := id E
  cases hD.symm.trans e1
  obtain ⟨c2, k2, i1, i2, i3, -⟩ := Cond.instantiable_spec wi
  cases e2.symm.trans i1
  cases e3.symm.trans i2
  obtain ⟨kU, u1, u2⟩ := al.2.2 _ _ e3
  have hB : Blank ST x D P.U := ⟨hD, ⟨knV, fun q hq => by rw [hq] at obV; cases obV⟩, by rw [al.findClass]; exact e2, kU, u1, by rw [u2]; exact i3, by rw [u2]; exact e5 i3⟩
  have F1 : Found ST "value" "[B" fV P.U := ⟨SBG.found_only al ⟨cfV, kV, iV, gV⟩, stV⟩
  have F2 : Found ST "coder" "B" fC P.U := ⟨SBG.found_only al ⟨cfC, kC, iC, gC⟩, stC⟩
  have hA : Ch b A P.U := ⟨⟨K.1, State.isArrayOf_alike al K.2.1, K.2.2, by omega⟩, hty⟩
  have hS : StaticIs P.U ST "COMPACT_STRINGS" "Z" (.int z) := by
    obtain ⟨cfS, iS, kS, fS, st, cS, t1, t2, t3, t4, t5, t6, t7⟩ := S
    exact StaticIs.there (s := { Z with heap := P.U.heap }) ⟨cfS, iS, kS, fS, st, cS, t1, t2, t3, t4, t5, (fun q => by rw [q] at t6; cases t6), t7⟩ al rfl
  obtain ⟨v, B, X', ⟨⟨hv, E', V', q1, q2, q3, q4, q5, q6, q7, q8, q9, q10, q11⟩, hl, hc, hs⟩, st⟩ := New1.pays x D fV fC b A z (tab_of (moved hZ hw)) hfr hlo m meth c P g ig mk _ X hg hsize hdg hW hn ⟨r1, r2, rfl, hB, F1, F2, hA, hS, hz, l0, l2, hp⟩
  have al' : Z.vm.Alike B.U.vm := hZ.alike.trans X'.warmed.alike
  have hsz : E'.slots.size = D.slots.size := by
    obtain ⟨-, -, -, kB, w1, w2, w3⟩ := q1
    obtain ⟨kB', y1, y2⟩ := al'.2.2 _ _ e3
    rw [q2.2.1] at w1
    cases w1.symm.trans y1
    rw [w3, e5 i3, y2]
  refine ⟨v, B, X', ⟨_, ⟨hv, ?_, ⟨by omega, fun y cy hy hn' => q10 y cy (by simpa using hn') hy, fun y cy hy => ?_⟩, q11, ⟨E', _, q1.1, by rw [q2.2.1]; exact e2, by rw [q2.2.1]; exact e3, by rw [q2.1]; exact obV, fun _ => by rw [hsz]; exact e5 i3⟩,
    ⟨E', cfV, kV, iV, fV, q1.1, gV, stV, by rw [q2.1]; exact knV, by rw [q2.1]; exact obV, by rw [q2.2.1]; exact asV, q3⟩, ⟨E', cfC, kC, iC, fC, q1.1, gC, stC, by rw [q2.1]; exact knV, by rw [q2.1]; exact obV, by rw [q2.2.1]; exact asC, q4⟩,
    ⟨V', ⟨q5.1, State.isArrayOf_alike al'.symm q5.2.1, q5.2.2.1⟩, q6, by rw [← al'.findClass]; exact q7, q8, fun j hj => by have := q9 j hj; rwa [Nat.zero_add] at this⟩, fun O n d w F n1 n2 => ?_⟩, hl, hc, hs⟩, st⟩
  · intro y hy
    simp only [List.mem_cons, List.not_mem_nil, or_false] at hy
    rcases hy with rfl | rfl <;> rfl
  · by_cases q : y = x
    · subst q
      cases hD.symm.trans hy
      exact ⟨E', q1.1, q2.2.1, q2.1, hsz⟩
    · exact ⟨cy, q10 y cy q hy, rfl, rfl, rfl⟩
  · obtain ⟨D3, cf, k, i, f, g1, g2, g3, g4, g5, g6, g7⟩ := F
    cases hD.symm.trans g1
    simp only [RoadKit.slotOf, g2, gV, gC, Option.map_some, Option.getD_some] at n1 n2
    exact ⟨E', cf, k, i, f, q1.1, g2, g3, by rw [q2.1]; exact g4, by rw [q2.1]; exact g5, by rw [q2.2.1]; exact g6, by rw [q2.2.2 f.slot (by simp [n1, n2])]; exact g7⟩
end StrChars.Road
namespace StrChars.Road
open Jvm Sem ClassFile Op Lib Jvm.Stand Jvm.Free Jvm.Free.XT
/-- WHAT COMES BACK, the byte[] as a list of values -/
def QA (Z : State) (x : Addr) (zn : Int32) (cs : List Int32) (h : Heap) (v : Option Value) (h' : Heap) (L : List Loc) : Prop := v = none ∧ (∀ y ∈ L, y.base = x) ∧ RoadKit.Keep h h' [x] ∧ h'.size = h.size + 1 ∧ RoadKit.Exa Z h' x ST ∧ RoadKit.Fld Z h' x ST "value" "[B" (.ref h.size) ∧ RoadKit.Fld Z h' x ST "coder" "B" (.int 0) ∧
  (∃ kb, Z.vm.findClass "[B" = some kb ∧ RoadKit.Arv Z h' h.size kb .byte zn (cs.map fun c => .int (lo8 c)) (.int 0)) ∧
  ∀ (O n d : String) (w : Value), RoadKit.Fld Z h x O n d w → RoadKit.slotOf Z O n d ≠ RoadKit.slotOf Z ST "value" "[B" → RoadKit.slotOf Z O n d ≠ RoadKit.slotOf Z ST "coder" "B" → RoadKit.Fld Z h' x O n d w
/-- **new String(chars) AT A CALL, THE ARRAYS AS LISTS**: the char[] at b holds cs, not empty, no char above 255 -/
theorem backArv {p : Program} {l : Launch} {e : Env} {R : Room} {s : State} {args : Array Value} {below : List Frame} {len W : Nat} {Z : State} {a0 : Array Value} {h : Heap} (hZ : Z.Warmed39 s.vm) (hw : ∀ d ∈ words, d.before a0 Z = true) {kI : Nat} (wi : (Jvm.Cond.instantiable ST kI).before a0 Z = true)
    {x b : Addr} {k : ClassId} {zn z : Int32} {cs : List Int32} {dv v0 c0 : Value} (E : RoadKit.Exa Z h x ST) (V : RoadKit.Fld Z h x ST "value" "[B" v0) (C : RoadKit.Fld Z h x ST "coder" "B" c0) (K : RoadKit.Arv Z h b k .char zn (cs.map Value.int) dv) (S : RoadKit.Sta Z h ST "COMPACT_STRINGS" "Z" (.int z)) (hz : ¬ z = 0)
    (hlen : zn.toNatClampNeg = cs.length) (h0 : 0 < cs.length) (hbig : cs.length ≤ 536870912) (hall : ∀ c ∈ cs, ¬ 255 < c) (hfr : 4 ≤ R.frames) (hlo : W + 65 ≤ R.locals) :
    Back l R p e below s args New1.yN len W (fun P a => a = #[.ref x, .ref b] ∧ P.U.heap = h ∧ P.cells + 1 ≤ R.cells ∧ P.slots + cs.length ≤ R.slots)
      (fun P _ v B => ∃ L, QA Z x zn cs h v B.U.heap L ∧ B.locs = P.locs ++ L ∧ B.cells = P.cells + 1 ∧ B.slots = P.slots + cs.length) := by
  obtain ⟨A, K1, K2, K3, K4, K5, K6⟩ := K
  have e : A.slots.size = cs.length := K3.trans hlen
  have hat : ∀ (i : Nat) (hi : i < cs.length), A.slots[i]? = some (.int cs[i]) := fun i hi => by rw [K5 i (by omega)]; simp [List.getD_eq_getElem?_getD, hi]
  have hcv : ∀ (i : Nat) (hi : i < cs.length), cv A i = cs[i] := fun i hi => by unfold cv; rw [hat i hi]
  have hty : Typed .char A := fun i v hv => by
    have hi : i < A.slots.size := (Array.getElem?_eq_some_iff.mp hv).1
    have q := K5 i hi
    rw [hv] at q
    rw [Option.some.inj q]
    exact K6 i hi
  refine Back.mono (back hZ hw wi E V C K1 hty S hz (by omega) (by omega) (fun i hi => by rw [hcv i (by omega)]; exact hall _ (List.getElem_mem _)) hfr hlo) (fun P a hp => ⟨hp.1, hp.2.1, hp.2.2.1, by rw [e]; exact hp.2.2.2⟩) (fun P a v B hp hq => ?_)
  obtain ⟨L, ⟨q1, q2, q3, q4, q5, q6, q7, ⟨V', v1, v2, v3, v4, v5⟩, q9⟩, hl, hc, hs⟩ := hq
  refine ⟨L, ⟨q1, q2, q3, q4, q5, q6, q7, ⟨V'.cls, v3, V', v1, rfl, by rw [v4, e, hlen], K4, fun i hi => ?_, fun i hi => ?_⟩, q9⟩, hl, hc, by rw [hs, e]⟩
  · have hi' : i < cs.length := by omega
    rw [v5 i (by omega), hcv i hi']; simp [List.getD_eq_getElem?_getD, hi']
  · have hi' : i < cs.length := by omega
    simp only [List.getD_eq_getElem?_getD, List.getElem?_map, List.getElem?_eq_getElem hi', Option.map_some, Option.getD_some]
    exact fits_lo8 _
end StrChars.Road
namespace StrChars.Road
open Jvm Sem ClassFile Op Lib Jvm.Stand Jvm.Free Jvm.Free.XT
/-- WHAT COMES BACK, in the writer's own shape -/
def QV (Z : State) (x : Addr) (N : Int32) (bs : List Int32) (h : Heap) (n0 : Nat) (v : Option Value) (h' : Heap) (L : List Loc) : Prop := v = none ∧ RoadKit.Fr n0 L ∧ RoadKit.Keep h h' [x] ∧ RoadKit.Exa Z h' x ST ∧ RoadKit.Fld Z h' x ST "coder" "B" (.int 0) ∧
  ∃ (t : Addr) (kb : ClassId), n0 ≤ t ∧ h.size ≤ t ∧ ¬ t = x ∧ RoadKit.Fld Z h' x ST "value" "[B" (.ref t) ∧ RoadKit.Arv Z h' t kb .byte N (bs.map Value.int) (.int 0)
/-- **new String(chars) AT A CALL, FOR THE WRITER**: a char[] of n known ints, each 0 to 255 -/
theorem backV {p : Program} {l : Launch} {e : Env} {R : Room} {s : State} {args : Array Value} {below : List Frame} {len W : Nat} {Z : State} {a0 : Array Value} {h : Heap} (hZ : Z.Warmed39 s.vm) (hw : ∀ d ∈ words, d.before a0 Z = true) {kI : Nat} (wi : (Jvm.Cond.instantiable ST kI).before a0 Z = true)
    {x b : Addr} {kC : ClassId} {cs bs : List Int32} {d v0 c0 : Value} {z N : Int32} {n n0 : Nat} (hx0 : n0 ≤ x) (hh0 : n0 ≤ h.size) (E : RoadKit.Exa Z h x ST) (V : RoadKit.Fld Z h x ST "value" "[B" v0) (C : RoadKit.Fld Z h x ST "coder" "B" c0) (K : RoadKit.Arv Z h b kC .char N (cs.map Value.int) d) (S : RoadKit.Sta Z h ST "COMPACT_STRINGS" "Z" (.int z)) (hz : ¬ z = 0)
    (hn : cs.length = n) (hN : N = Int32.ofNat n) (l0 : 0 < n) (l2 : n ≤ 4000) (hp : ∀ c ∈ cs, ¬ c < 0 ∧ ¬ (255 : Int32) < c) (hb : bs = cs.map (fun c => c.toInt8.toInt32)) (hfr : 4 ≤ R.frames) (hlo : W + 65 ≤ R.locals) :
    Back l R p e below s args (⟨"java/lang/String", "<init>", "([C)V"⟩ : MethodName) len W (fun P a => a = #[.ref x, .ref b] ∧ P.U.heap = h ∧ P.cells + 1 ≤ R.cells ∧ P.slots + n ≤ R.slots)
      (fun P _ v B => ∃ L, QV Z x N bs h n0 v B.U.heap L ∧ B.locs = P.locs ++ L ∧ B.cells = P.cells + 1 ∧ B.slots = P.slots + n) := by
  subst hn hN hb
  refine Back.mono (backArv hZ hw wi E V C K S hz (n32 (by omega)) l0 (by omega) (fun c hc => (hp c hc).2) hfr hlo) (fun P a hp => hp) (fun P a v B hp hq => ?_)
  obtain ⟨L, ⟨q1, q2, q3, q4, q5, q6, q7, ⟨kb, v1, v2⟩, q9⟩, hl, hc, hs⟩ := hq
  exact ⟨L, ⟨q1, fun y hy => by rw [q2 y hy]; exact hx0, q3, q5, q7, h.size, kb, hh0, Nat.le_refl _, Nat.ne_of_gt E.lt, q6, by rw [List.map_map]; exact v2⟩, hl, hc, hs⟩
end StrChars.Road
end Jvm.Pilot.@@N@@

namespace Jvm.Pilot.@@N@@
open Jvm Jvm.ClassFile Sem Op Lib Jvm.Free Jvm.Stand Jvm.LawKit Jvm.RoadKit Bundle Jvm.Pilot.@@N@@.Jvm.D
section Own0
variable {p : Program} {l : Launch} {e : Env} {R : Room} {s : State} {m : MethodId} {args : Array Value} {below : List Frame} {meth : Method} {c : Code} {own nm : String} {bytes : ByteArray} {ml : Nat} {ret : Option FieldType} {T : State} {locs : List Loc} {cells slots : Nat} {Z : State} {a0 : Array Value} {h : Heap} {n0 : Nat} {K : State → Outcome → Prop} {pc pc' pt : Nat} {L L' : Array Slot} {S : List Value}
/-- an array, by the list of what it holds -/
def Arx (Z : State) (h : Heap) (a : Addr) (ty : FieldType) (vs : List Value) : Prop := ∃ c : Cell, Arr Z h a c ty ∧ c.slots.toList = vs ∧ vs.length < 2 ^ 31
theorem Arx.keep {h' : Heap} {ws : List Addr} {a : Addr} {ty : FieldType} {vs : List Value} (A : Arx Z h a ty vs) (K : Keep h h' ws) (q : a ∉ ws) : Arx Z h' a ty vs := by obtain ⟨c, A, r⟩ := A; exact ⟨c, ⟨K.2.1 a c A.1 q, A.2⟩, r⟩
theorem Arx.ext {h' : Heap} {a : Addr} {ty : FieldType} {vs : List Value} (A : Arx Z h a ty vs) (E : Ext h h') : Arx Z h' a ty vs := by obtain ⟨c, A, r⟩ := A; exact ⟨c, A.ext E, r⟩
theorem Arx.other {h' : Heap} {a b : Addr} {sl : Nat} {v : Value} {ty : FieldType} {vs : List Value} (A : Arx Z h b ty vs) (W : Wr h h' a sl v) (q : b ≠ a) : Arx Z h' b ty vs := by obtain ⟨c, A, r⟩ := A; exact ⟨c, A.other W q, r⟩
theorem Arx.lt {a : Addr} {ty : FieldType} {vs : List Value} (A : Arx Z h a ty vs) : a < h.size := by obtain ⟨c, A, r⟩ := A; exact A.lt
theorem Arx.le {a : Addr} {ty : FieldType} {vs : List Value} (A : Arx Z h a ty vs) : vs.length < 2 ^ 31 := by obtain ⟨c, A, r, q⟩ := A; exact q
theorem arx_in {cl : Cell} {vs : List Value} (q : cl.slots.toList = vs) {j : Int32} {i : Nat} (hj : j.toInt = (i : Int)) (hi : i < vs.length) : ¬ (j < 0 ∨ cl.slots.size ≤ j.toNatClampNeg) ∧ j.toNatClampNeg = i := by
  have e1 : j.toNatClampNeg = i := by simp only [Int32.toNatClampNeg, hj]; omega
  have e2 : cl.slots.size = vs.length := by rw [← q]; simp
  refine ⟨?_, e1⟩
  rw [e1, e2, Int32.lt_iff_toInt_lt, hj]
  have : (0 : Int32).toInt = 0 := rfl
  omega
theorem arx_at {cl : Cell} {vs : List Value} (q : cl.slots.toList = vs) {i : Nat} {v : Value} (hv : vs[i]? = some v) : cl.slots[i]? = some v := by rw [← q] at hv; simpa using hv
theorem arx_arv {a : Addr} {ty : FieldType} {vs : List Value} {n : Int32} {d : Value} (A : Arx Z h a ty vs) (hn : n.toInt = (vs.length : Int)) (hf : ∀ v ∈ vs, fits ty v = true) : ∃ k, Arv Z h a k ty n vs d := by
  obtain ⟨c, A, q, hl⟩ := A
  have e1 : n.toNatClampNeg = vs.length := by simp only [Int32.toNatClampNeg, hn]; omega
  have e2 : c.slots.size = vs.length := by rw [← q]; simp
  have e3 : ∀ i, i < c.slots.size → vs[i]? = some (vs.getD i d) := fun i hi => by rw [e2] at hi; simp [List.getD_eq_getElem?_getD, hi]
  refine ⟨c.cls, c, A, rfl, e2.trans e1.symm, ?_, fun i hi => ?_, fun i hi => hf _ (List.mem_of_getElem? (e3 i hi))⟩
  · rw [Int32.lt_iff_toInt_lt, hn]; have : (0 : Int32).toInt = 0 := rfl
    omega
  · have := e3 i hi
    rw [← q] at this; rw [← q]; simpa using this
theorem arv_arx {a : Addr} {k : ClassId} {ty : FieldType} {vs : List Value} {n : Int32} {d : Value} (A : Arv Z h a k ty n vs d) (hn : n.toInt = (vs.length : Int)) : Arx Z h a ty vs := by
  obtain ⟨c, A, -, e2, -, H, -⟩ := A
  have e1 : n.toNatClampNeg = vs.length := by simp only [Int32.toNatClampNeg, hn]; omega
  refine ⟨c, A, ?_, by have := n.toInt_lt; omega⟩
  apply List.ext_getElem?
  intro i
  by_cases hi : i < c.slots.size
  · have h1 := H i hi
    rw [e2, e1] at hi
    rw [Array.getElem?_toList, h1]; simp [List.getD_eq_getElem?_getD, hi]
  · rw [List.getElem?_eq_none (by simpa using hi), List.getElem?_eq_none (by rw [← e1, ← e2]; omega)]
theorem arx_new (k : ClassId) (ty : FieldType) (n : Int32) : (newA k ty n).slots.toList = List.replicate n.toNatClampNeg (defaultValue ty) := by simp [newA]
theorem own_face {C0 : String} {y : MethodName} (w5 : (Jvm.Cond.selects C0 y y).before a0 Z = true) : ∃ c k, Z.vm.findClass y.cls = some c ∧ Z.vm.classes[c]? = some k ∧ k.isInterface = false := by
  obtain ⟨c2, r2, m2, q1, q2, q3, q4, kP, hkP, hkPi⟩ := Cond.selects_spec w5
  exact ⟨_, kP, findClass_of_methodNamed q3, hkP, hkPi⟩
theorem own_sameM {C0 : String} {y y' : MethodName} (w3 : (Jvm.Cond.instanceMethod y).before a0 Z = true) (w5 : (Jvm.Cond.selects C0 y' y').before a0 Z = true) (hc : y'.cls = y.cls) (hy : y.cls ≠ "java/lang/invoke/MethodHandle" ∧ y.cls ≠ "java/lang/invoke/VarHandle") : (Jvm.Cond.sameMethod y.cls y.cls y.name y.desc).before a0 Z = true := by
  obtain ⟨mk, methM, hnamed, hmethM, -, -⟩ := Cond.instanceMethod_spec w3
  have hfound : Z.methodFound? y.cls y.name y.desc = some mk := State.methodFound?_of_named hnamed hy
  obtain ⟨c, k, e1, e2, e3⟩ := own_face w5
  rw [hc] at e1
  simp only [Cond.before, Cond.holds, Cond.value, e1, hfound, hnamed, e2]
  simp [e3]
theorem own_nf {C1 : String} {y y' : MethodName} (w5 : (Jvm.Cond.selects C1 y' y').before args s = true) (hc : y'.cls = y.cls) : NotFace s y := fun r0 h0 => by
  obtain ⟨c, k, e1, e2, e3⟩ := own_face w5
  rw [hc, findClass_of_methodNamed h0] at e1
  cases e1; exact ⟨k, e2, e3⟩
theorem own_selP {C0 : String} {y : MethodName} (w2 : (Jvm.Cond.instanceMethod y).before a0 Z = true) (wp : (Jvm.Cond.privateMethod y).before a0 Z = true) (w5 : (Jvm.Cond.selects C0 y y).before a0 Z = true) (hy : y.cls ≠ "java/lang/invoke/MethodHandle" ∧ y.cls ≠ "java/lang/invoke/VarHandle") : (Jvm.Cond.selects y.cls y y).before a0 Z = true := by
  obtain ⟨c, k, e1, e2, e3⟩ := own_face w5
  exact selects_self_of_private e1 e2 e3 (Cond.privateMethod_at wp) w2 hy
theorem own_clampN {j : Int32} {i : Nat} (h : j.toInt = (i : Int)) : ¬ j < 0 ∧ j.toNatClampNeg = i := by
  refine ⟨by rw [Int32.lt_iff_toInt_lt]; have : (0 : Int32).toInt = 0 := rfl
             omega, by simp only [Int32.toNatClampNeg]; omega⟩
theorem nm0 {a : Addr} : a ∉ ([] : List Addr) := List.not_mem_nil
theorem nm1 {a b : Addr} (h : a ≠ b) : a ∉ [b] := by simpa using h
theorem nm2 {a b d : Addr} (h : a ≠ b) (h' : a ≠ d) : a ∉ [b, d] := by simp [h, h']
theorem keep_ext {h' : Heap} (E : Ext h h') (ws : List Addr) : Keep h h' ws := (Keep.refl h ws).ext E
theorem ne_new {a b k : Nat} (h1 : a < k) (h2 : b = k) : a ≠ b := by omega
theorem ne_new' {a b k : Nat} (h1 : a < k) (h2 : b = k) : b ≠ a := by omega
end Own0
namespace Nar
section Own
variable {p : Program} {l : Launch} {e : Env} {R : Room} {s : State} {m : MethodId} {args : Array Value} {below : List Frame} {meth : Method} {c : Code} {own nm : String} {bytes : ByteArray} {ml : Nat} {ret : Option FieldType} {T : State} {locs : List Loc} {cells slots : Nat} {Z : State} {a0 : Array Value} {h : Heap} {n0 : Nat} {K : State → Outcome → Prop} {pc pc' pt : Nat} {L L' : Array Slot} {S : List Value}
/-- what is left of a run, from a state on -/
def Go (p : Program) (e : Env) (below : List Frame) (K : State → Outcome → Prop) (U : State) : Prop := ∃ s₂ o, Steps p.tables e below U s₂ ∧ s₂.status = .running ∧ Ended s₂ below o ∧ K s₂ o
theorem Go.of {U U' : State} (g : Go p e below K U') (st : ∀ t, Steps p.tables e below U' t → Steps p.tables e below U t) : Go p e below K U := by
  obtain ⟨s₂, o, h1, h2⟩ := g; exact ⟨s₂, o, st _ h1, h2⟩
/-- where a walk stands -/
def St (Z : State) (n0 : Nat) (p : Program) (l : Launch) (e : Env) (R : Room) (s : State) (m : MethodId) (args : Array Value) (below : List Frame) (meth : Method) (c : Code) (own nm : String) (bytes : ByteArray) (ml : Nat) (ret : Option FieldType) (T : State) (locs : List Loc) (cells slots : Nat) (h : Heap) : Prop :=
  Stand p l e R s m args below meth c T locs cells slots ∧ (p.tables.exec = Jvm.exec ∧ c.code = bytes ∧ c.maxLocals = ml ∧ s.vm.findClass own = some m.cls ∧ Z.Warmed39 s.vm ∧ meth.sig.returnType = ret ∧ meth.locks = false ∧ meth.name = nm) ∧ T.heap = h ∧ Fr n0 locs ∧ Old Z n0 h
theorem St.X (X : St Z n0 p l e R s m args below meth c own nm bytes ml ret T locs cells slots h) : Stand p l e R s m args below meth c T locs cells slots := X.1
theorem St.hx (X : St Z n0 p l e R s m args below meth c own nm bytes ml ret T locs cells slots h) : p.tables.exec = Jvm.exec := X.2.1.1
theorem St.by_ (X : St Z n0 p l e R s m args below meth c own nm bytes ml ret T locs cells slots h) : c.code = bytes := X.2.1.2.1
theorem St.ml_ (X : St Z n0 p l e R s m args below meth c own nm bytes ml ret T locs cells slots h) : c.maxLocals = ml := X.2.1.2.2.1
theorem St.own_ (X : St Z n0 p l e R s m args below meth c own nm bytes ml ret T locs cells slots h) : s.vm.findClass own = some m.cls := X.2.1.2.2.2.1
theorem St.hZ (X : St Z n0 p l e R s m args below meth c own nm bytes ml ret T locs cells slots h) : Z.Warmed39 s.vm := X.2.1.2.2.2.2.1
theorem St.ret_ (X : St Z n0 p l e R s m args below meth c own nm bytes ml ret T locs cells slots h) : meth.sig.returnType = ret := X.2.1.2.2.2.2.2.1
theorem St.lk (X : St Z n0 p l e R s m args below meth c own nm bytes ml ret T locs cells slots h) : meth.locks = false := X.2.1.2.2.2.2.2.2.1
theorem St.nm_ (X : St Z n0 p l e R s m args below meth c own nm bytes ml ret T locs cells slots h) : meth.name = nm := X.2.1.2.2.2.2.2.2.2
theorem St.eT (X : St Z n0 p l e R s m args below meth c own nm bytes ml ret T locs cells slots h) : T.heap = h := X.2.2.1
theorem St.fr (X : St Z n0 p l e R s m args below meth c own nm bytes ml ret T locs cells slots h) : Fr n0 locs := X.2.2.2.1
theorem St.old (X : St Z n0 p l e R s m args below meth c own nm bytes ml ret T locs cells slots h) : Old Z n0 h := X.2.2.2.2
theorem St.sz (X : St Z n0 p l e R s m args below meth c own nm bytes ml ret T locs cells slots h) : n0 ≤ h.size := X.2.2.2.2.1 ▸ X.2.2.2.2.2.1
theorem St.to (X : St Z n0 p l e R s m args below meth c own nm bytes ml ret T locs cells slots h) {T' : State} {locs' : List Loc} {cells' slots' : Nat} {h' : Heap} (Y : Stand p l e R s m args below meth c T' locs' cells' slots') (e' : T'.heap = h') (N : Fr n0 locs') (z : Old Z n0 h') : St Z n0 p l e R s m args below meth c own nm bytes ml ret T' locs' cells' slots' h' := ⟨Y, X.2.1, e', N, z⟩
theorem St.more (X : St Z n0 p l e R s m args below meth c own nm bytes ml ret T locs cells slots h) {c' n' : Nat} (q1 : cells ≤ c') (q2 : slots ≤ n') : St Z n0 p l e R s m args below meth c own nm bytes ml ret T locs c' n' h := ⟨X.X.mono q1 q2, X.2⟩
theorem St.d (X : St Z n0 p l e R s m args below meth c own nm bytes ml ret T locs cells slots h) {r : Except DecodeError (Instr × Nat)} (hd : decode bytes pc = r) : decode c.code pc = r := hb X.by_ hd
/-- a body's contract -/
def Con (l : Launch) (Z : State) (y : MethodName) (bytes : ByteArray) (ml : Nat) (ret : Option FieldType) (ws : List Jvm.Cond) (rm : Room) (C N : Nat) (as' : Array Value) (h : Heap) (Q : Option Value → Heap → List Loc → Prop) : Prop :=
  MetFree l y (head1 (Jvm.Cond.code y bytes ml ret :: ws) rm) (fun a U => a = as' ∧ Z.Warmed39 U.vm ∧ U.heap = h) (fun _ _ _ _ _ => True) (fun _ U o U' => ∃ v L, o = .returned v ∧ Q v U'.heap L ∧ FrameEnd U o U' L C N)
def Kq (s : State) (C N : Nat) (Q : Option Value → Heap → List Loc → Prop) (t : State) (o : Outcome) : Prop := ∃ v L, o = .returned v ∧ Q v t.heap L ∧ FrameEnd s o t L C N
theorem Con.intro {y : MethodName} {ws : List Jvm.Cond} {rm : Room} {C N : Nat} {as' : Array Value} {Q : Option Value → Heap → List Loc → Prop} (hy : plainFor y = true) (ef : ∀ m, entryFrame m as' ml = mkF m 0 L []) (hz : Old Z n0 h)
    (body : ∀ p e s m below meth c T, s.heap = h → St Z n0 p l e rm s m as' below meth c y.cls y.name bytes ml ret T [] 0 0 h → Go p e below (Kq s C N Q) (T.setTop (mkF m 0 L []))) : Con l Z y bytes ml ret ws rm C N as' h Q := by
  refine MetFree.of_bodySF hy hisR ?_
  intro p e s m args below meth c s₁ Bd hml0 hP hK
  obtain ⟨rfl, hZ, hh⟩ := hP
  have e0 : s₁.heap = h := by rw [← hh, Bd.state]; rfl
  obtain ⟨s₂, o, h1, h2, h3, h4⟩ := body p e s m below meth c s₁ hh ⟨Stand.of_body Bd, ⟨Bd.exec, Bd.bytes, hml0, findClass_of_methodNamed Bd.named, hZ, Bd.returns, Bd.notSynchronized, (name_of_methodNamed Bd.named Bd.method).1⟩, e0, Fr.nil n0, hz⟩
  exact ⟨s₂, o, castTop (ef m) h1, h2, h3, h4⟩
theorem go_eq {f g : JFrame} (q : f = g) (k : Go p e below K (T.setTop g)) : Go p e below K (T.setTop f) := q ▸ k
theorem g_iloadN (X : St Z n0 p l e R s m args below meth c own nm bytes ml ret T locs cells slots h) {k : Fin 4} {v : Int32} (hd : decode bytes pc = .ok (.iload_n k, 1)) (hp : pc + 1 = pc') (hl : L[k.val]? = some (.val (.int v))) (k : Go p e below K (T.setTop (mkF m pc' L (.int v :: S)))) : Go p e below K (T.setTop (mkF m pc L S)) := by
  subst hp; exact k.of (fun _ q => XS.iloadN X.X.here X.hx rfl (X.d hd) hl q)
theorem g_iload (X : St Z n0 p l e R s m args below meth c own nm bytes ml ret T locs cells slots h) {k : Nat} {v : Int32} (hd : decode bytes pc = .ok (.iload k, 2)) (hp : pc + 2 = pc') (hl : L[k]? = some (.val (.int v))) (k : Go p e below K (T.setTop (mkF m pc' L (.int v :: S)))) : Go p e below K (T.setTop (mkF m pc L S)) := by
  subst hp; exact k.of (fun _ q => XS.iload X.X.here X.hx rfl (X.d hd) hl q)
theorem g_lloadN (X : St Z n0 p l e R s m args below meth c own nm bytes ml ret T locs cells slots h) {k : Fin 4} {v : Int64} (hd : decode bytes pc = .ok (.lload_n k, 1)) (hp : pc + 1 = pc') (hl : L[k.val]? = some (.val (.long v))) (k : Go p e below K (T.setTop (mkF m pc' L (.long v :: S)))) : Go p e below K (T.setTop (mkF m pc L S)) := by
  subst hp; exact k.of (fun _ q => XS.lloadN X.X.here X.hx rfl (X.d hd) hl q)
theorem g_lload (X : St Z n0 p l e R s m args below meth c own nm bytes ml ret T locs cells slots h) {k : Nat} {v : Int64} (hd : decode bytes pc = .ok (.lload k, 2)) (hp : pc + 2 = pc') (hl : L[k]? = some (.val (.long v))) (k : Go p e below K (T.setTop (mkF m pc' L (.long v :: S)))) : Go p e below K (T.setTop (mkF m pc L S)) := by
  subst hp; exact k.of (fun _ q => XS.lload X.X.here X.hx rfl (X.d hd) hl q)
theorem g_aloadN (X : St Z n0 p l e R s m args below meth c own nm bytes ml ret T locs cells slots h) {k : Fin 4} {v : Value} (hd : decode bytes pc = .ok (.aload_n k, 1)) (hp : pc + 1 = pc') (hl : L[k.val]? = some (.val v)) (hv : v.isRef = true) (k : Go p e below K (T.setTop (mkF m pc' L (v :: S)))) : Go p e below K (T.setTop (mkF m pc L S)) := by
  subst hp; exact k.of (fun _ q => XS.aloadN X.X.here X.hx rfl (X.d hd) hl hv q)
theorem g_aload (X : St Z n0 p l e R s m args below meth c own nm bytes ml ret T locs cells slots h) {k : Nat} {v : Value} (hd : decode bytes pc = .ok (.aload k, 2)) (hp : pc + 2 = pc') (hl : L[k]? = some (.val v)) (hv : v.isRef = true) (k : Go p e below K (T.setTop (mkF m pc' L (v :: S)))) : Go p e below K (T.setTop (mkF m pc L S)) := by
  subst hp; exact k.of (fun _ q => XS.aload X.X.here X.hx rfl (X.d hd) hl hv q)
theorem g_istoreN (X : St Z n0 p l e R s m args below meth c own nm bytes ml ret T locs cells slots h) {k : Fin 4} {v : Int32} (hd : decode bytes pc = .ok (.istore_n k, 1)) (hp : pc + 1 = pc') (hl : storeLocals L k.val (.int v) = some L') (k : Go p e below K (T.setTop (mkF m pc' L' S))) : Go p e below K (T.setTop (mkF m pc L (.int v :: S))) := by
  subst hp; exact k.of (fun _ q => XS.istoreN X.X.here X.hx rfl (X.d hd) rfl hl q)
theorem g_istore (X : St Z n0 p l e R s m args below meth c own nm bytes ml ret T locs cells slots h) {k : Nat} {v : Int32} (hd : decode bytes pc = .ok (.istore k, 2)) (hp : pc + 2 = pc') (hl : storeLocals L k (.int v) = some L') (k : Go p e below K (T.setTop (mkF m pc' L' S))) : Go p e below K (T.setTop (mkF m pc L (.int v :: S))) := by
  subst hp; exact k.of (fun _ q => XS.istore X.X.here X.hx rfl (X.d hd) rfl hl q)
theorem g_lstoreN (X : St Z n0 p l e R s m args below meth c own nm bytes ml ret T locs cells slots h) {k : Fin 4} {v : Int64} (hd : decode bytes pc = .ok (.lstore_n k, 1)) (hp : pc + 1 = pc') (hl : storeLocals L k.val (.long v) = some L') (k : Go p e below K (T.setTop (mkF m pc' L' S))) : Go p e below K (T.setTop (mkF m pc L (.long v :: S))) := by
  subst hp; exact k.of (fun _ q => XS.lstoreN X.X.here X.hx rfl (X.d hd) rfl hl q)
theorem g_lstore (X : St Z n0 p l e R s m args below meth c own nm bytes ml ret T locs cells slots h) {k : Nat} {v : Int64} (hd : decode bytes pc = .ok (.lstore k, 2)) (hp : pc + 2 = pc') (hl : storeLocals L k (.long v) = some L') (k : Go p e below K (T.setTop (mkF m pc' L' S))) : Go p e below K (T.setTop (mkF m pc L (.long v :: S))) := by
  subst hp; exact k.of (fun _ q => XS.lstore X.X.here X.hx rfl (X.d hd) rfl hl q)
theorem g_astoreN (X : St Z n0 p l e R s m args below meth c own nm bytes ml ret T locs cells slots h) {k : Fin 4} {v : Value} (hd : decode bytes pc = .ok (.astore_n k, 1)) (hp : pc + 1 = pc') (hv : v.isRef = true) (hl : storeLocals L k.val v = some L') (k : Go p e below K (T.setTop (mkF m pc' L' S))) : Go p e below K (T.setTop (mkF m pc L (v :: S))) := by
  subst hp; exact k.of (fun _ q => XS.astoreN X.X.here X.hx rfl (X.d hd) rfl hv hl q)
theorem g_astore (X : St Z n0 p l e R s m args below meth c own nm bytes ml ret T locs cells slots h) {k : Nat} {v : Value} (hd : decode bytes pc = .ok (.astore k, 2)) (hp : pc + 2 = pc') (hv : v.isRef = true) (hl : storeLocals L k v = some L') (k : Go p e below K (T.setTop (mkF m pc' L' S))) : Go p e below K (T.setTop (mkF m pc L (v :: S))) := by
  subst hp; exact k.of (fun _ q => XS.astore X.X.here X.hx rfl (X.d hd) rfl hv hl q)
theorem g_iinc (X : St Z n0 p l e R s m args below meth c own nm bytes ml ret T locs cells slots h) {k : Nat} {z : Int} {v : Int32} (hd : decode bytes pc = .ok (.iinc k z, 3)) (hp : pc + 3 = pc') (hl : L[k]? = some (.val (.int v))) (hl' : storeLocals L k (.int (v + Int32.ofInt z)) = some L') (k : Go p e below K (T.setTop (mkF m pc' L' S))) : Go p e below K (T.setTop (mkF m pc L S)) := by
  subst hp; exact k.of (fun _ q => XS.iinc X.X.here X.hx rfl (X.d hd) hl hl' q)
theorem g_iconst (X : St Z n0 p l e R s m args below meth c own nm bytes ml ret T locs cells slots h) {i : Int} {v : Int32} (hd : decode bytes pc = .ok (.iconst i, 1)) (hp : pc + 1 = pc') (hv : Int32.ofInt i = v) (k : Go p e below K (T.setTop (mkF m pc' L (.int v :: S)))) : Go p e below K (T.setTop (mkF m pc L S)) := by
  subst hp; exact k.of (fun _ q => XS.iconst X.X.here X.hx rfl (X.d hd) (hv ▸ q))
theorem g_bipush (X : St Z n0 p l e R s m args below meth c own nm bytes ml ret T locs cells slots h) {i : Int} {v : Int32} (hd : decode bytes pc = .ok (.bipush i, 2)) (hp : pc + 2 = pc') (hv : (Int8.ofInt i).toInt32 = v) (k : Go p e below K (T.setTop (mkF m pc' L (.int v :: S)))) : Go p e below K (T.setTop (mkF m pc L S)) := by
  subst hp; exact k.of (fun _ q => XS.bipush X.X.here X.hx rfl (X.d hd) (hv ▸ q))
theorem g_sipush (X : St Z n0 p l e R s m args below meth c own nm bytes ml ret T locs cells slots h) {i : Int} {v : Int32} (hd : decode bytes pc = .ok (.sipush i, 3)) (hp : pc + 3 = pc') (hv : (Int16.ofInt i).toInt32 = v) (k : Go p e below K (T.setTop (mkF m pc' L (.int v :: S)))) : Go p e below K (T.setTop (mkF m pc L S)) := by
  subst hp; exact k.of (fun _ q => XS.sipush X.X.here X.hx rfl (X.d hd) (hv ▸ q))
theorem g_lconst (X : St Z n0 p l e R s m args below meth c own nm bytes ml ret T locs cells slots h) {i : Fin 2} {v : Int64} (hd : decode bytes pc = .ok (.lconst i, 1)) (hp : pc + 1 = pc') (hv : Int64.ofNat i = v) (k : Go p e below K (T.setTop (mkF m pc' L (.long v :: S)))) : Go p e below K (T.setTop (mkF m pc L S)) := by
  subst hp; exact k.of (fun _ q => XS.lconst X.X.here X.hx rfl (X.d hd) (hv ▸ q))
theorem g_aconst_null (X : St Z n0 p l e R s m args below meth c own nm bytes ml ret T locs cells slots h) (hd : decode bytes pc = .ok (.aconst_null, 1)) (hp : pc + 1 = pc') (k : Go p e below K (T.setTop (mkF m pc' L (.null :: S)))) : Go p e below K (T.setTop (mkF m pc L S)) := by
  subst hp; exact k.of (fun _ q => XS.aconstNull X.X.here X.hx rfl (X.d hd) q)
theorem g_iadd (X : St Z n0 p l e R s m args below meth c own nm bytes ml ret T locs cells slots h) {x y : Int32} (hd : decode bytes pc = .ok (.iadd, 1)) (hp : pc + 1 = pc') (k : Go p e below K (T.setTop (mkF m pc' L (.int (x + y) :: S)))) : Go p e below K (T.setTop (mkF m pc L (.int y :: .int x :: S))) := by
  subst hp; exact k.of (fun _ q => XS.iadd X.X.here X.hx rfl (X.d hd) rfl q)
theorem g_isub (X : St Z n0 p l e R s m args below meth c own nm bytes ml ret T locs cells slots h) {x y : Int32} (hd : decode bytes pc = .ok (.isub, 1)) (hp : pc + 1 = pc') (k : Go p e below K (T.setTop (mkF m pc' L (.int (x - y) :: S)))) : Go p e below K (T.setTop (mkF m pc L (.int y :: .int x :: S))) := by
  subst hp; exact k.of (fun _ q => XS.isub X.X.here X.hx rfl (X.d hd) rfl q)
theorem g_imul (X : St Z n0 p l e R s m args below meth c own nm bytes ml ret T locs cells slots h) {x y : Int32} (hd : decode bytes pc = .ok (.imul, 1)) (hp : pc + 1 = pc') (k : Go p e below K (T.setTop (mkF m pc' L (.int (x * y) :: S)))) : Go p e below K (T.setTop (mkF m pc L (.int y :: .int x :: S))) := by
  subst hp; exact k.of (fun _ q => XS.imul X.X.here X.hx rfl (X.d hd) rfl q)
theorem g_iand (X : St Z n0 p l e R s m args below meth c own nm bytes ml ret T locs cells slots h) {x y : Int32} (hd : decode bytes pc = .ok (.iand, 1)) (hp : pc + 1 = pc') (k : Go p e below K (T.setTop (mkF m pc' L (.int (x &&& y) :: S)))) : Go p e below K (T.setTop (mkF m pc L (.int y :: .int x :: S))) := by
  subst hp; exact k.of (fun _ q => XS.iand X.X.here X.hx rfl (X.d hd) rfl q)
theorem g_ior (X : St Z n0 p l e R s m args below meth c own nm bytes ml ret T locs cells slots h) {x y : Int32} (hd : decode bytes pc = .ok (.ior, 1)) (hp : pc + 1 = pc') (k : Go p e below K (T.setTop (mkF m pc' L (.int (x ||| y) :: S)))) : Go p e below K (T.setTop (mkF m pc L (.int y :: .int x :: S))) := by
  subst hp; exact k.of (fun _ q => XS.ior X.X.here X.hx rfl (X.d hd) rfl q)
theorem g_ixor (X : St Z n0 p l e R s m args below meth c own nm bytes ml ret T locs cells slots h) {x y : Int32} (hd : decode bytes pc = .ok (.ixor, 1)) (hp : pc + 1 = pc') (k : Go p e below K (T.setTop (mkF m pc' L (.int (x ^^^ y) :: S)))) : Go p e below K (T.setTop (mkF m pc L (.int y :: .int x :: S))) := by
  subst hp; exact k.of (fun _ q => XS.ixor X.X.here X.hx rfl (X.d hd) rfl q)
theorem g_ishl (X : St Z n0 p l e R s m args below meth c own nm bytes ml ret T locs cells slots h) {x y : Int32} (hd : decode bytes pc = .ok (.ishl, 1)) (hp : pc + 1 = pc') (k : Go p e below K (T.setTop (mkF m pc' L (.int (x <<< (y &&& 31)) :: S)))) : Go p e below K (T.setTop (mkF m pc L (.int y :: .int x :: S))) := by
  subst hp; exact k.of (fun _ q => XS.ishl X.X.here X.hx rfl (X.d hd) rfl q)
theorem g_ishr (X : St Z n0 p l e R s m args below meth c own nm bytes ml ret T locs cells slots h) {x y : Int32} (hd : decode bytes pc = .ok (.ishr, 1)) (hp : pc + 1 = pc') (k : Go p e below K (T.setTop (mkF m pc' L (.int (x >>> (y &&& 31)) :: S)))) : Go p e below K (T.setTop (mkF m pc L (.int y :: .int x :: S))) := by
  subst hp; exact k.of (fun _ q => XS.ishr X.X.here X.hx rfl (X.d hd) rfl q)
theorem g_iushr (X : St Z n0 p l e R s m args below meth c own nm bytes ml ret T locs cells slots h) {x y : Int32} (hd : decode bytes pc = .ok (.iushr, 1)) (hp : pc + 1 = pc') (k : Go p e below K (T.setTop (mkF m pc' L (.int ((x.toUInt32 >>> (y &&& 31).toUInt32).toInt32) :: S)))) : Go p e below K (T.setTop (mkF m pc L (.int y :: .int x :: S))) := by
  subst hp; exact k.of (fun _ q => XS.iushr X.X.here X.hx rfl (X.d hd) rfl q)
theorem g_idiv (X : St Z n0 p l e R s m args below meth c own nm bytes ml ret T locs cells slots h) {x y : Int32} (hd : decode bytes pc = .ok (.idiv, 1)) (hp : pc + 1 = pc') (hy : y ≠ 0) (k : Go p e below K (T.setTop (mkF m pc' L (.int (x / y) :: S)))) : Go p e below K (T.setTop (mkF m pc L (.int y :: .int x :: S))) := by
  subst hp; exact k.of (fun _ q => XS.idiv X.X.here X.hx rfl (X.d hd) rfl hy q)
theorem g_irem (X : St Z n0 p l e R s m args below meth c own nm bytes ml ret T locs cells slots h) {x y : Int32} (hd : decode bytes pc = .ok (.irem, 1)) (hp : pc + 1 = pc') (hy : y ≠ 0) (k : Go p e below K (T.setTop (mkF m pc' L (.int (x % y) :: S)))) : Go p e below K (T.setTop (mkF m pc L (.int y :: .int x :: S))) := by
  subst hp; exact k.of (fun _ q => iremM X.X X.hx rfl (X.d hd) rfl hy q)
theorem g_ladd (X : St Z n0 p l e R s m args below meth c own nm bytes ml ret T locs cells slots h) {x y : Int64} (hd : decode bytes pc = .ok (.ladd, 1)) (hp : pc + 1 = pc') (k : Go p e below K (T.setTop (mkF m pc' L (.long (x + y) :: S)))) : Go p e below K (T.setTop (mkF m pc L (.long y :: .long x :: S))) := by
  subst hp; exact k.of (fun _ q => XS.ladd X.X.here X.hx rfl (X.d hd) rfl q)
theorem g_lsub (X : St Z n0 p l e R s m args below meth c own nm bytes ml ret T locs cells slots h) {x y : Int64} (hd : decode bytes pc = .ok (.lsub, 1)) (hp : pc + 1 = pc') (k : Go p e below K (T.setTop (mkF m pc' L (.long (x - y) :: S)))) : Go p e below K (T.setTop (mkF m pc L (.long y :: .long x :: S))) := by
  subst hp; exact k.of (fun _ q => XS.lsub X.X.here X.hx rfl (X.d hd) rfl q)
theorem g_lmul (X : St Z n0 p l e R s m args below meth c own nm bytes ml ret T locs cells slots h) {x y : Int64} (hd : decode bytes pc = .ok (.lmul, 1)) (hp : pc + 1 = pc') (k : Go p e below K (T.setTop (mkF m pc' L (.long (x * y) :: S)))) : Go p e below K (T.setTop (mkF m pc L (.long y :: .long x :: S))) := by
  subst hp; exact k.of (fun _ q => XS.lmul X.X.here X.hx rfl (X.d hd) rfl q)
theorem g_land (X : St Z n0 p l e R s m args below meth c own nm bytes ml ret T locs cells slots h) {x y : Int64} (hd : decode bytes pc = .ok (.land, 1)) (hp : pc + 1 = pc') (k : Go p e below K (T.setTop (mkF m pc' L (.long (x &&& y) :: S)))) : Go p e below K (T.setTop (mkF m pc L (.long y :: .long x :: S))) := by
  subst hp; exact k.of (fun _ q => XS.land X.X.here X.hx rfl (X.d hd) rfl q)
theorem g_lor (X : St Z n0 p l e R s m args below meth c own nm bytes ml ret T locs cells slots h) {x y : Int64} (hd : decode bytes pc = .ok (.lor, 1)) (hp : pc + 1 = pc') (k : Go p e below K (T.setTop (mkF m pc' L (.long (x ||| y) :: S)))) : Go p e below K (T.setTop (mkF m pc L (.long y :: .long x :: S))) := by
  subst hp; exact k.of (fun _ q => XS.lor X.X.here X.hx rfl (X.d hd) rfl q)
theorem g_lxor (X : St Z n0 p l e R s m args below meth c own nm bytes ml ret T locs cells slots h) {x y : Int64} (hd : decode bytes pc = .ok (.lxor, 1)) (hp : pc + 1 = pc') (k : Go p e below K (T.setTop (mkF m pc' L (.long (x ^^^ y) :: S)))) : Go p e below K (T.setTop (mkF m pc L (.long y :: .long x :: S))) := by
  subst hp; exact k.of (fun _ q => XS.lxor X.X.here X.hx rfl (X.d hd) rfl q)
theorem g_ldiv (X : St Z n0 p l e R s m args below meth c own nm bytes ml ret T locs cells slots h) {x y : Int64} (hd : decode bytes pc = .ok (.ldiv, 1)) (hp : pc + 1 = pc') (hy : y ≠ 0) (k : Go p e below K (T.setTop (mkF m pc' L (.long (x / y) :: S)))) : Go p e below K (T.setTop (mkF m pc L (.long y :: .long x :: S))) := by
  subst hp; exact k.of (fun _ q => XS.ldiv X.X.here X.hx rfl (X.d hd) rfl hy q)
theorem g_lrem (X : St Z n0 p l e R s m args below meth c own nm bytes ml ret T locs cells slots h) {x y : Int64} (hd : decode bytes pc = .ok (.lrem, 1)) (hp : pc + 1 = pc') (hy : y ≠ 0) (k : Go p e below K (T.setTop (mkF m pc' L (.long (x - (x / y) * y) :: S)))) : Go p e below K (T.setTop (mkF m pc L (.long y :: .long x :: S))) := by
  subst hp; exact k.of (fun _ q => XS.lrem X.X.here X.hx rfl (X.d hd) rfl hy q)
theorem g_lshl (X : St Z n0 p l e R s m args below meth c own nm bytes ml ret T locs cells slots h) {x : Int64} {y : Int32} (hd : decode bytes pc = .ok (.lshl, 1)) (hp : pc + 1 = pc') (k : Go p e below K (T.setTop (mkF m pc' L (.long (x <<< (y &&& 0x3f).toInt64) :: S)))) : Go p e below K (T.setTop (mkF m pc L (.int y :: .long x :: S))) := by
  subst hp; exact k.of (fun _ q => XS.lshl X.X.here X.hx rfl (X.d hd) rfl q)
theorem g_lshr (X : St Z n0 p l e R s m args below meth c own nm bytes ml ret T locs cells slots h) {x : Int64} {y : Int32} (hd : decode bytes pc = .ok (.lshr, 1)) (hp : pc + 1 = pc') (k : Go p e below K (T.setTop (mkF m pc' L (.long (x >>> (y &&& 0x3f).toInt64) :: S)))) : Go p e below K (T.setTop (mkF m pc L (.int y :: .long x :: S))) := by
  subst hp; exact k.of (fun _ q => XS.lshr X.X.here X.hx rfl (X.d hd) rfl q)
theorem g_lushr (X : St Z n0 p l e R s m args below meth c own nm bytes ml ret T locs cells slots h) {x : Int64} {y : Int32} (hd : decode bytes pc = .ok (.lushr, 1)) (hp : pc + 1 = pc') (k : Go p e below K (T.setTop (mkF m pc' L (.long ((x.toUInt64 >>> (y &&& 0x3f).toInt64.toUInt64).toInt64) :: S)))) : Go p e below K (T.setTop (mkF m pc L (.int y :: .long x :: S))) := by
  subst hp; exact k.of (fun _ q => XS.lushr X.X.here X.hx rfl (X.d hd) rfl q)
theorem g_i2b (X : St Z n0 p l e R s m args below meth c own nm bytes ml ret T locs cells slots h) {v : Int32} (hd : decode bytes pc = .ok (.i2b, 1)) (hp : pc + 1 = pc') (k : Go p e below K (T.setTop (mkF m pc' L (.int (v.toInt8.toInt32) :: S)))) : Go p e below K (T.setTop (mkF m pc L (.int v :: S))) := by
  subst hp; exact k.of (fun _ q => XS.i2b X.X.here X.hx rfl (X.d hd) rfl q)
theorem g_i2c (X : St Z n0 p l e R s m args below meth c own nm bytes ml ret T locs cells slots h) {v : Int32} (hd : decode bytes pc = .ok (.i2c, 1)) (hp : pc + 1 = pc') (k : Go p e below K (T.setTop (mkF m pc' L (.int (v.toUInt32.toUInt16.toUInt32.toInt32) :: S)))) : Go p e below K (T.setTop (mkF m pc L (.int v :: S))) := by
  subst hp; exact k.of (fun _ q => XS.i2c X.X.here X.hx rfl (X.d hd) rfl q)
theorem g_i2s (X : St Z n0 p l e R s m args below meth c own nm bytes ml ret T locs cells slots h) {v : Int32} (hd : decode bytes pc = .ok (.i2s, 1)) (hp : pc + 1 = pc') (k : Go p e below K (T.setTop (mkF m pc' L (.int (v.toInt16.toInt32) :: S)))) : Go p e below K (T.setTop (mkF m pc L (.int v :: S))) := by
  subst hp; exact k.of (fun _ q => XS.i2s X.X.here X.hx rfl (X.d hd) rfl q)
theorem g_ineg (X : St Z n0 p l e R s m args below meth c own nm bytes ml ret T locs cells slots h) {v : Int32} (hd : decode bytes pc = .ok (.ineg, 1)) (hp : pc + 1 = pc') (k : Go p e below K (T.setTop (mkF m pc' L (.int (-v) :: S)))) : Go p e below K (T.setTop (mkF m pc L (.int v :: S))) := by
  subst hp; exact k.of (fun _ q => XS.ineg X.X.here X.hx rfl (X.d hd) rfl q)
theorem g_i2l (X : St Z n0 p l e R s m args below meth c own nm bytes ml ret T locs cells slots h) {v : Int32} (hd : decode bytes pc = .ok (.i2l, 1)) (hp : pc + 1 = pc') (k : Go p e below K (T.setTop (mkF m pc' L (.long (v.toInt64) :: S)))) : Go p e below K (T.setTop (mkF m pc L (.int v :: S))) := by
  subst hp; exact k.of (fun _ q => XS.i2l X.X.here X.hx rfl (X.d hd) rfl q)
theorem g_l2i (X : St Z n0 p l e R s m args below meth c own nm bytes ml ret T locs cells slots h) {v : Int64} (hd : decode bytes pc = .ok (.l2i, 1)) (hp : pc + 1 = pc') (k : Go p e below K (T.setTop (mkF m pc' L (.int (v.toInt32) :: S)))) : Go p e below K (T.setTop (mkF m pc L (.long v :: S))) := by
  subst hp; exact k.of (fun _ q => XS.l2i X.X.here X.hx rfl (X.d hd) rfl q)
theorem g_lneg (X : St Z n0 p l e R s m args below meth c own nm bytes ml ret T locs cells slots h) {v : Int64} (hd : decode bytes pc = .ok (.lneg, 1)) (hp : pc + 1 = pc') (k : Go p e below K (T.setTop (mkF m pc' L (.long (-v) :: S)))) : Go p e below K (T.setTop (mkF m pc L (.long v :: S))) := by
  subst hp; exact k.of (fun _ q => XS.lneg X.X.here X.hx rfl (X.d hd) rfl q)
theorem g_lcmp (X : St Z n0 p l e R s m args below meth c own nm bytes ml ret T locs cells slots h) {x y : Int64} (hd : decode bytes pc = .ok (.lcmp, 1)) (hp : pc + 1 = pc') (k : Go p e below K (T.setTop (mkF m pc' L (.int (lcmpW x y) :: S)))) : Go p e below K (T.setTop (mkF m pc L (.long y :: .long x :: S))) := by
  subst hp; exact k.of (fun _ q => XS.lcmp X.X.here X.hx rfl (X.d hd) rfl q)
theorem g_dup (X : St Z n0 p l e R s m args below meth c own nm bytes ml ret T locs cells slots h) {v : Value} (hd : decode bytes pc = .ok (.dup, 1)) (hp : pc + 1 = pc') (hc : v.category = 1) (k : Go p e below K (T.setTop (mkF m pc' L (v :: v :: S)))) : Go p e below K (T.setTop (mkF m pc L (v :: S))) := by
  subst hp; exact k.of (fun _ q => XS.dup X.X.here X.hx rfl (X.d hd) rfl hc q)
theorem g_pop (X : St Z n0 p l e R s m args below meth c own nm bytes ml ret T locs cells slots h) {v : Value} (hd : decode bytes pc = .ok (.pop, 1)) (hp : pc + 1 = pc') (hc : v.category = 1) (k : Go p e below K (T.setTop (mkF m pc' L S))) : Go p e below K (T.setTop (mkF m pc L (v :: S))) := by
  subst hp; exact k.of (fun _ q => XS.pop X.X.here X.hx rfl (X.d hd) rfl hc q)
theorem g_dup_x1 (X : St Z n0 p l e R s m args below meth c own nm bytes ml ret T locs cells slots h) {v w : Value} (hd : decode bytes pc = .ok (.dup_x1, 1)) (hp : pc + 1 = pc') (hc : v.category = 1) (hc2 : w.category = 1) (k : Go p e below K (T.setTop (mkF m pc' L (v :: w :: v :: S)))) : Go p e below K (T.setTop (mkF m pc L (v :: w :: S))) := by
  subst hp; exact k.of (fun _ q => XS.dupX1 X.X.here X.hx rfl (X.d hd) rfl hc hc2 q)
theorem g_dloadN (X : St Z n0 p l e R s m args below meth c own nm bytes ml ret T locs cells slots h) {k : Fin 4} {v : UInt64} (hd : decode bytes pc = .ok (.dload_n k, 1)) (hp : pc + 1 = pc') (hl : L[k.val]? = some (.val (.double v))) (k : Go p e below K (T.setTop (mkF m pc' L (.double v :: S)))) : Go p e below K (T.setTop (mkF m pc L S)) := by
  subst hp; exact k.of (fun _ q => XS.dloadN X.X.here X.hx rfl (X.d hd) hl q)
theorem g_dload (X : St Z n0 p l e R s m args below meth c own nm bytes ml ret T locs cells slots h) {k : Nat} {v : UInt64} (hd : decode bytes pc = .ok (.dload k, 2)) (hp : pc + 2 = pc') (hl : L[k]? = some (.val (.double v))) (k : Go p e below K (T.setTop (mkF m pc' L (.double v :: S)))) : Go p e below K (T.setTop (mkF m pc L S)) := by
  subst hp; exact k.of (fun _ q => XS.dload X.X.here X.hx rfl (X.d hd) hl q)
theorem g_dstoreN (X : St Z n0 p l e R s m args below meth c own nm bytes ml ret T locs cells slots h) {k : Fin 4} {v : UInt64} (hd : decode bytes pc = .ok (.dstore_n k, 1)) (hp : pc + 1 = pc') (hl : storeLocals L k.val (.double v) = some L') (k : Go p e below K (T.setTop (mkF m pc' L' S))) : Go p e below K (T.setTop (mkF m pc L (.double v :: S))) := by
  subst hp; exact k.of (fun _ q => XS.dstoreN X.X.here X.hx rfl (X.d hd) rfl hl q)
theorem g_dstore (X : St Z n0 p l e R s m args below meth c own nm bytes ml ret T locs cells slots h) {k : Nat} {v : UInt64} (hd : decode bytes pc = .ok (.dstore k, 2)) (hp : pc + 2 = pc') (hl : storeLocals L k (.double v) = some L') (k : Go p e below K (T.setTop (mkF m pc' L' S))) : Go p e below K (T.setTop (mkF m pc L (.double v :: S))) := by
  subst hp; exact k.of (fun _ q => XS.dstore X.X.here X.hx rfl (X.d hd) rfl hl q)
theorem g_dconst0 (X : St Z n0 p l e R s m args below meth c own nm bytes ml ret T locs cells slots h) (hd : decode bytes pc = .ok (.dconst 0, 1)) (hp : pc + 1 = pc') (k : Go p e below K (T.setTop (mkF m pc' L (.double FP.dconst0 :: S)))) : Go p e below K (T.setTop (mkF m pc L S)) := by
  subst hp; exact k.of (fun _ q => XS.dconst0 X.X.here X.hx rfl (X.d hd) rfl q)
theorem g_dconst1 (X : St Z n0 p l e R s m args below meth c own nm bytes ml ret T locs cells slots h) (hd : decode bytes pc = .ok (.dconst 1, 1)) (hp : pc + 1 = pc') (k : Go p e below K (T.setTop (mkF m pc' L (.double FP.dconst1 :: S)))) : Go p e below K (T.setTop (mkF m pc L S)) := by
  subst hp; exact k.of (fun _ q => XS.dconst1 X.X.here X.hx rfl (X.d hd) rfl q)
theorem g_i2d (X : St Z n0 p l e R s m args below meth c own nm bytes ml ret T locs cells slots h) {v : Int32} (hd : decode bytes pc = .ok (.i2d, 1)) (hp : pc + 1 = pc') (k : Go p e below K (T.setTop (mkF m pc' L (.double (FP.i2d v) :: S)))) : Go p e below K (T.setTop (mkF m pc L (.int v :: S))) := by
  subst hp; exact k.of (fun _ q => XS.i2dS X.X.here X.hx rfl (X.d hd) rfl rfl q)
theorem g_ddiv (X : St Z n0 p l e R s m args below meth c own nm bytes ml ret T locs cells slots h) {x y : UInt64} (hd : decode bytes pc = .ok (.ddiv, 1)) (hp : pc + 1 = pc') (hn : Jvm.Free.Fl.NoNaN64 (FP.ddiv x y)) (k : Go p e below K (T.setTop (mkF m pc' L (.double (FP.ddiv x y) :: S)))) : Go p e below K (T.setTop (mkF m pc L (.double y :: .double x :: S))) := by
  subst hp; exact k.of (fun _ q => XS.ddivS X.X.here X.hx rfl (X.d hd) rfl hn rfl q)
theorem g_dadd (X : St Z n0 p l e R s m args below meth c own nm bytes ml ret T locs cells slots h) {x y : UInt64} (hd : decode bytes pc = .ok (.dadd, 1)) (hp : pc + 1 = pc') (hn : Jvm.Free.Fl.NoNaN64 (FP.dadd x y)) (k : Go p e below K (T.setTop (mkF m pc' L (.double (FP.dadd x y) :: S)))) : Go p e below K (T.setTop (mkF m pc L (.double y :: .double x :: S))) := by
  subst hp; exact k.of (fun _ q => XS.daddS X.X.here X.hx rfl (X.d hd) rfl hn rfl q)
theorem g_dsub (X : St Z n0 p l e R s m args below meth c own nm bytes ml ret T locs cells slots h) {x y : UInt64} (hd : decode bytes pc = .ok (.dsub, 1)) (hp : pc + 1 = pc') (hn : Jvm.Free.Fl.NoNaN64 (FP.dsub x y)) (k : Go p e below K (T.setTop (mkF m pc' L (.double (FP.dsub x y) :: S)))) : Go p e below K (T.setTop (mkF m pc L (.double y :: .double x :: S))) := by
  subst hp; exact k.of (fun _ q => XS.dsubS X.X.here X.hx rfl (X.d hd) rfl hn rfl q)
theorem g_dmul (X : St Z n0 p l e R s m args below meth c own nm bytes ml ret T locs cells slots h) {x y : UInt64} (hd : decode bytes pc = .ok (.dmul, 1)) (hp : pc + 1 = pc') (hn : Jvm.Free.Fl.NoNaN64 (FP.dmul x y)) (k : Go p e below K (T.setTop (mkF m pc' L (.double (FP.dmul x y) :: S)))) : Go p e below K (T.setTop (mkF m pc L (.double y :: .double x :: S))) := by
  subst hp; exact k.of (fun _ q => XS.dmulS X.X.here X.hx rfl (X.d hd) rfl hn rfl q)
theorem g_dcmp (X : St Z n0 p l e R s m args below meth c own nm bytes ml ret T locs cells slots h) {x y : UInt64} {o : CmpOp} (hd : decode bytes pc = .ok (.dcmp o, 1)) (hp : pc + 1 = pc') (k : Go p e below K (T.setTop (mkF m pc' L (.int (cmpValue (FP.dcmp x y) o) :: S)))) : Go p e below K (T.setTop (mkF m pc L (.double y :: .double x :: S))) := by
  subst hp; exact k.of (fun _ q => XS.dcmpS X.X.here X.hx rfl (X.d hd) rfl rfl q)
theorem g_dneg (X : St Z n0 p l e R s m args below meth c own nm bytes ml ret T locs cells slots h) {x : UInt64} (hd : decode bytes pc = .ok (.dneg, 1)) (hp : pc + 1 = pc') (k : Go p e below K (T.setTop (mkF m pc' L (.double (FP.dneg x) :: S)))) : Go p e below K (T.setTop (mkF m pc L (.double x :: S))) := by
  subst hp; exact k.of (fun _ q => XS.dnegS X.X.here X.hx rfl (X.d hd) rfl rfl q)
theorem g_ldc2D (X : St Z n0 p l e R s m args below meth c own nm bytes ml ret T locs cells slots h) {i : Nat} {v : UInt64} (w : (Jvm.Cond.constantDouble own i v).before a0 Z = true) (hd : decode bytes pc = .ok (.ldc2_w i, 3)) (hp : pc + 3 = pc') (k : Go p e below K (T.setTop (mkF m pc' L (.double v :: S)))) : Go p e below K (T.setTop (mkF m pc L S)) := by
  subst hp; exact k.of (X.X.ldc2DoubleC X.hx X.own_ (mvT X.hZ w) (g := mkF m pc L S) rfl (X.d hd))
theorem g_goto (X : St Z n0 p l e R s m args below meth c own nm bytes ml ret T locs cells slots h) {o : Int} (hd : decode bytes pc = .ok (.goto o, 3)) (ho : (pc : Int) + o = (pt : Int)) (k : Go p e below K (T.setTop (mkF m pt L S))) : Go p e below K (T.setTop (mkF m pc L S)) :=
  k.of (fun _ q => XS.goto X.X.here X.hx rfl rfl (X.d hd) (ho ▸ Int.natCast_nonneg _) (by rw [ho]; rfl) q)
theorem g_icmp_eq_t (X : St Z n0 p l e R s m args below meth c own nm bytes ml ret T locs cells slots h) {x y : Int32} {o : Int} (hd : decode bytes pc = .ok (.if_icmp .eq o, 3)) (ho : (pc : Int) + o = (pt : Int)) (hc : x = y) (k : Go p e below K (T.setTop (mkF m pt L S))) : Go p e below K (T.setTop (mkF m pc L (.int y :: .int x :: S))) :=
  k.of (fun _ q => XS.icmpYes X.X.here X.hx rfl rfl (X.d hd) rfl ((teq hc).1) (ho ▸ Int.natCast_nonneg _) (by rw [ho]; rfl) q)
theorem g_icmp_eq_f (X : St Z n0 p l e R s m args below meth c own nm bytes ml ret T locs cells slots h) {x y : Int32} {o : Int} (hd : decode bytes pc = .ok (.if_icmp .eq o, 3)) (hp : pc + 3 = pc') (hc : ¬ x = y) (k : Go p e below K (T.setTop (mkF m pc' L S))) : Go p e below K (T.setTop (mkF m pc L (.int y :: .int x :: S))) := by
  subst hp; exact k.of (fun _ q => XS.icmpNo X.X.here X.hx rfl (X.d hd) rfl ((feq hc).1) q)
theorem g_icmp_eq (X : St Z n0 p l e R s m args below meth c own nm bytes ml ret T locs cells slots h) {x y : Int32} {o : Int} (hd : decode bytes pc = .ok (.if_icmp .eq o, 3)) (ho : (pc : Int) + o = (pt : Int)) (hp : pc + 3 = pc') (yes : x = y → Go p e below K (T.setTop (mkF m pt L S))) (no : ¬ x = y → Go p e below K (T.setTop (mkF m pc' L S))) : Go p e below K (T.setTop (mkF m pc L (.int y :: .int x :: S))) := by
  by_cases hc : x = y
  · exact g_icmp_eq_t X hd ho hc (yes hc)
  · exact g_icmp_eq_f X hd hp hc (no hc)
theorem g_if_eq_t (X : St Z n0 p l e R s m args below meth c own nm bytes ml ret T locs cells slots h) {x : Int32} {o : Int} (hd : decode bytes pc = .ok (.ifCond .eq o, 3)) (ho : (pc : Int) + o = (pt : Int)) (hc : x = 0) (k : Go p e below K (T.setTop (mkF m pt L S))) : Go p e below K (T.setTop (mkF m pc L (.int x :: S))) :=
  k.of (fun _ q => XS.ifYes X.X.here X.hx rfl rfl (X.d hd) rfl ((if0 _ _).trans ((teq hc).1)) (ho ▸ Int.natCast_nonneg _) (by rw [ho]; rfl) q)
theorem g_if_eq_f (X : St Z n0 p l e R s m args below meth c own nm bytes ml ret T locs cells slots h) {x : Int32} {o : Int} (hd : decode bytes pc = .ok (.ifCond .eq o, 3)) (hp : pc + 3 = pc') (hc : ¬ x = 0) (k : Go p e below K (T.setTop (mkF m pc' L S))) : Go p e below K (T.setTop (mkF m pc L (.int x :: S))) := by
  subst hp; exact k.of (fun _ q => XS.ifNo X.X.here X.hx rfl (X.d hd) rfl ((if0 _ _).trans ((feq hc).1)) q)
theorem g_if_eq (X : St Z n0 p l e R s m args below meth c own nm bytes ml ret T locs cells slots h) {x : Int32} {o : Int} (hd : decode bytes pc = .ok (.ifCond .eq o, 3)) (ho : (pc : Int) + o = (pt : Int)) (hp : pc + 3 = pc') (yes : x = 0 → Go p e below K (T.setTop (mkF m pt L S))) (no : ¬ x = 0 → Go p e below K (T.setTop (mkF m pc' L S))) : Go p e below K (T.setTop (mkF m pc L (.int x :: S))) := by
  by_cases hc : x = 0
  · exact g_if_eq_t X hd ho hc (yes hc)
  · exact g_if_eq_f X hd hp hc (no hc)
theorem g_icmp_ne_t (X : St Z n0 p l e R s m args below meth c own nm bytes ml ret T locs cells slots h) {x y : Int32} {o : Int} (hd : decode bytes pc = .ok (.if_icmp .ne o, 3)) (ho : (pc : Int) + o = (pt : Int)) (hc : ¬ x = y) (k : Go p e below K (T.setTop (mkF m pt L S))) : Go p e below K (T.setTop (mkF m pc L (.int y :: .int x :: S))) :=
  k.of (fun _ q => XS.icmpYes X.X.here X.hx rfl rfl (X.d hd) rfl ((feq hc).2) (ho ▸ Int.natCast_nonneg _) (by rw [ho]; rfl) q)
theorem g_icmp_ne_f (X : St Z n0 p l e R s m args below meth c own nm bytes ml ret T locs cells slots h) {x y : Int32} {o : Int} (hd : decode bytes pc = .ok (.if_icmp .ne o, 3)) (hp : pc + 3 = pc') (hc : x = y) (k : Go p e below K (T.setTop (mkF m pc' L S))) : Go p e below K (T.setTop (mkF m pc L (.int y :: .int x :: S))) := by
  subst hp; exact k.of (fun _ q => XS.icmpNo X.X.here X.hx rfl (X.d hd) rfl ((teq hc).2) q)
theorem g_icmp_ne (X : St Z n0 p l e R s m args below meth c own nm bytes ml ret T locs cells slots h) {x y : Int32} {o : Int} (hd : decode bytes pc = .ok (.if_icmp .ne o, 3)) (ho : (pc : Int) + o = (pt : Int)) (hp : pc + 3 = pc') (yes : ¬ x = y → Go p e below K (T.setTop (mkF m pt L S))) (no : x = y → Go p e below K (T.setTop (mkF m pc' L S))) : Go p e below K (T.setTop (mkF m pc L (.int y :: .int x :: S))) := by
  by_cases hc : x = y
  · exact g_icmp_ne_f X hd hp hc (no hc)
  · exact g_icmp_ne_t X hd ho hc (yes hc)
theorem g_if_ne_t (X : St Z n0 p l e R s m args below meth c own nm bytes ml ret T locs cells slots h) {x : Int32} {o : Int} (hd : decode bytes pc = .ok (.ifCond .ne o, 3)) (ho : (pc : Int) + o = (pt : Int)) (hc : ¬ x = 0) (k : Go p e below K (T.setTop (mkF m pt L S))) : Go p e below K (T.setTop (mkF m pc L (.int x :: S))) :=
  k.of (fun _ q => XS.ifYes X.X.here X.hx rfl rfl (X.d hd) rfl ((if0 _ _).trans ((feq hc).2)) (ho ▸ Int.natCast_nonneg _) (by rw [ho]; rfl) q)
theorem g_if_ne_f (X : St Z n0 p l e R s m args below meth c own nm bytes ml ret T locs cells slots h) {x : Int32} {o : Int} (hd : decode bytes pc = .ok (.ifCond .ne o, 3)) (hp : pc + 3 = pc') (hc : x = 0) (k : Go p e below K (T.setTop (mkF m pc' L S))) : Go p e below K (T.setTop (mkF m pc L (.int x :: S))) := by
  subst hp; exact k.of (fun _ q => XS.ifNo X.X.here X.hx rfl (X.d hd) rfl ((if0 _ _).trans ((teq hc).2)) q)
theorem g_if_ne (X : St Z n0 p l e R s m args below meth c own nm bytes ml ret T locs cells slots h) {x : Int32} {o : Int} (hd : decode bytes pc = .ok (.ifCond .ne o, 3)) (ho : (pc : Int) + o = (pt : Int)) (hp : pc + 3 = pc') (yes : ¬ x = 0 → Go p e below K (T.setTop (mkF m pt L S))) (no : x = 0 → Go p e below K (T.setTop (mkF m pc' L S))) : Go p e below K (T.setTop (mkF m pc L (.int x :: S))) := by
  by_cases hc : x = 0
  · exact g_if_ne_f X hd hp hc (no hc)
  · exact g_if_ne_t X hd ho hc (yes hc)
theorem g_icmp_lt_t (X : St Z n0 p l e R s m args below meth c own nm bytes ml ret T locs cells slots h) {x y : Int32} {o : Int} (hd : decode bytes pc = .ok (.if_icmp .lt o, 3)) (ho : (pc : Int) + o = (pt : Int)) (hc : x < y) (k : Go p e below K (T.setTop (mkF m pt L S))) : Go p e below K (T.setTop (mkF m pc L (.int y :: .int x :: S))) :=
  k.of (fun _ q => XS.icmpYes X.X.here X.hx rfl rfl (X.d hd) rfl ((tlt hc).1) (ho ▸ Int.natCast_nonneg _) (by rw [ho]; rfl) q)
theorem g_icmp_lt_f (X : St Z n0 p l e R s m args below meth c own nm bytes ml ret T locs cells slots h) {x y : Int32} {o : Int} (hd : decode bytes pc = .ok (.if_icmp .lt o, 3)) (hp : pc + 3 = pc') (hc : ¬ x < y) (k : Go p e below K (T.setTop (mkF m pc' L S))) : Go p e below K (T.setTop (mkF m pc L (.int y :: .int x :: S))) := by
  subst hp; exact k.of (fun _ q => XS.icmpNo X.X.here X.hx rfl (X.d hd) rfl ((flt hc).1) q)
theorem g_icmp_lt (X : St Z n0 p l e R s m args below meth c own nm bytes ml ret T locs cells slots h) {x y : Int32} {o : Int} (hd : decode bytes pc = .ok (.if_icmp .lt o, 3)) (ho : (pc : Int) + o = (pt : Int)) (hp : pc + 3 = pc') (yes : x < y → Go p e below K (T.setTop (mkF m pt L S))) (no : ¬ x < y → Go p e below K (T.setTop (mkF m pc' L S))) : Go p e below K (T.setTop (mkF m pc L (.int y :: .int x :: S))) := by
  by_cases hc : x < y
  · exact g_icmp_lt_t X hd ho hc (yes hc)
  · exact g_icmp_lt_f X hd hp hc (no hc)
theorem g_if_lt_t (X : St Z n0 p l e R s m args below meth c own nm bytes ml ret T locs cells slots h) {x : Int32} {o : Int} (hd : decode bytes pc = .ok (.ifCond .lt o, 3)) (ho : (pc : Int) + o = (pt : Int)) (hc : x < 0) (k : Go p e below K (T.setTop (mkF m pt L S))) : Go p e below K (T.setTop (mkF m pc L (.int x :: S))) :=
  k.of (fun _ q => XS.ifYes X.X.here X.hx rfl rfl (X.d hd) rfl ((if0 _ _).trans ((tlt hc).1)) (ho ▸ Int.natCast_nonneg _) (by rw [ho]; rfl) q)
theorem g_if_lt_f (X : St Z n0 p l e R s m args below meth c own nm bytes ml ret T locs cells slots h) {x : Int32} {o : Int} (hd : decode bytes pc = .ok (.ifCond .lt o, 3)) (hp : pc + 3 = pc') (hc : ¬ x < 0) (k : Go p e below K (T.setTop (mkF m pc' L S))) : Go p e below K (T.setTop (mkF m pc L (.int x :: S))) := by
  subst hp; exact k.of (fun _ q => XS.ifNo X.X.here X.hx rfl (X.d hd) rfl ((if0 _ _).trans ((flt hc).1)) q)
theorem g_if_lt (X : St Z n0 p l e R s m args below meth c own nm bytes ml ret T locs cells slots h) {x : Int32} {o : Int} (hd : decode bytes pc = .ok (.ifCond .lt o, 3)) (ho : (pc : Int) + o = (pt : Int)) (hp : pc + 3 = pc') (yes : x < 0 → Go p e below K (T.setTop (mkF m pt L S))) (no : ¬ x < 0 → Go p e below K (T.setTop (mkF m pc' L S))) : Go p e below K (T.setTop (mkF m pc L (.int x :: S))) := by
  by_cases hc : x < 0
  · exact g_if_lt_t X hd ho hc (yes hc)
  · exact g_if_lt_f X hd hp hc (no hc)
theorem g_icmp_ge_t (X : St Z n0 p l e R s m args below meth c own nm bytes ml ret T locs cells slots h) {x y : Int32} {o : Int} (hd : decode bytes pc = .ok (.if_icmp .ge o, 3)) (ho : (pc : Int) + o = (pt : Int)) (hc : ¬ x < y) (k : Go p e below K (T.setTop (mkF m pt L S))) : Go p e below K (T.setTop (mkF m pc L (.int y :: .int x :: S))) :=
  k.of (fun _ q => XS.icmpYes X.X.here X.hx rfl rfl (X.d hd) rfl ((flt hc).2.1) (ho ▸ Int.natCast_nonneg _) (by rw [ho]; rfl) q)
theorem g_icmp_ge_f (X : St Z n0 p l e R s m args below meth c own nm bytes ml ret T locs cells slots h) {x y : Int32} {o : Int} (hd : decode bytes pc = .ok (.if_icmp .ge o, 3)) (hp : pc + 3 = pc') (hc : x < y) (k : Go p e below K (T.setTop (mkF m pc' L S))) : Go p e below K (T.setTop (mkF m pc L (.int y :: .int x :: S))) := by
  subst hp; exact k.of (fun _ q => XS.icmpNo X.X.here X.hx rfl (X.d hd) rfl ((tlt hc).2.1) q)
theorem g_icmp_ge (X : St Z n0 p l e R s m args below meth c own nm bytes ml ret T locs cells slots h) {x y : Int32} {o : Int} (hd : decode bytes pc = .ok (.if_icmp .ge o, 3)) (ho : (pc : Int) + o = (pt : Int)) (hp : pc + 3 = pc') (yes : ¬ x < y → Go p e below K (T.setTop (mkF m pt L S))) (no : x < y → Go p e below K (T.setTop (mkF m pc' L S))) : Go p e below K (T.setTop (mkF m pc L (.int y :: .int x :: S))) := by
  by_cases hc : x < y
  · exact g_icmp_ge_f X hd hp hc (no hc)
  · exact g_icmp_ge_t X hd ho hc (yes hc)
theorem g_if_ge_t (X : St Z n0 p l e R s m args below meth c own nm bytes ml ret T locs cells slots h) {x : Int32} {o : Int} (hd : decode bytes pc = .ok (.ifCond .ge o, 3)) (ho : (pc : Int) + o = (pt : Int)) (hc : ¬ x < 0) (k : Go p e below K (T.setTop (mkF m pt L S))) : Go p e below K (T.setTop (mkF m pc L (.int x :: S))) :=
  k.of (fun _ q => XS.ifYes X.X.here X.hx rfl rfl (X.d hd) rfl ((if0 _ _).trans ((flt hc).2.1)) (ho ▸ Int.natCast_nonneg _) (by rw [ho]; rfl) q)
theorem g_if_ge_f (X : St Z n0 p l e R s m args below meth c own nm bytes ml ret T locs cells slots h) {x : Int32} {o : Int} (hd : decode bytes pc = .ok (.ifCond .ge o, 3)) (hp : pc + 3 = pc') (hc : x < 0) (k : Go p e below K (T.setTop (mkF m pc' L S))) : Go p e below K (T.setTop (mkF m pc L (.int x :: S))) := by
  subst hp; exact k.of (fun _ q => XS.ifNo X.X.here X.hx rfl (X.d hd) rfl ((if0 _ _).trans ((tlt hc).2.1)) q)
theorem g_if_ge (X : St Z n0 p l e R s m args below meth c own nm bytes ml ret T locs cells slots h) {x : Int32} {o : Int} (hd : decode bytes pc = .ok (.ifCond .ge o, 3)) (ho : (pc : Int) + o = (pt : Int)) (hp : pc + 3 = pc') (yes : ¬ x < 0 → Go p e below K (T.setTop (mkF m pt L S))) (no : x < 0 → Go p e below K (T.setTop (mkF m pc' L S))) : Go p e below K (T.setTop (mkF m pc L (.int x :: S))) := by
  by_cases hc : x < 0
  · exact g_if_ge_f X hd hp hc (no hc)
  · exact g_if_ge_t X hd ho hc (yes hc)
theorem g_icmp_gt_t (X : St Z n0 p l e R s m args below meth c own nm bytes ml ret T locs cells slots h) {x y : Int32} {o : Int} (hd : decode bytes pc = .ok (.if_icmp .gt o, 3)) (ho : (pc : Int) + o = (pt : Int)) (hc : y < x) (k : Go p e below K (T.setTop (mkF m pt L S))) : Go p e below K (T.setTop (mkF m pc L (.int y :: .int x :: S))) :=
  k.of (fun _ q => XS.icmpYes X.X.here X.hx rfl rfl (X.d hd) rfl ((tlt hc).2.2.1) (ho ▸ Int.natCast_nonneg _) (by rw [ho]; rfl) q)
theorem g_icmp_gt_f (X : St Z n0 p l e R s m args below meth c own nm bytes ml ret T locs cells slots h) {x y : Int32} {o : Int} (hd : decode bytes pc = .ok (.if_icmp .gt o, 3)) (hp : pc + 3 = pc') (hc : ¬ y < x) (k : Go p e below K (T.setTop (mkF m pc' L S))) : Go p e below K (T.setTop (mkF m pc L (.int y :: .int x :: S))) := by
  subst hp; exact k.of (fun _ q => XS.icmpNo X.X.here X.hx rfl (X.d hd) rfl ((flt hc).2.2.1) q)
theorem g_icmp_gt (X : St Z n0 p l e R s m args below meth c own nm bytes ml ret T locs cells slots h) {x y : Int32} {o : Int} (hd : decode bytes pc = .ok (.if_icmp .gt o, 3)) (ho : (pc : Int) + o = (pt : Int)) (hp : pc + 3 = pc') (yes : y < x → Go p e below K (T.setTop (mkF m pt L S))) (no : ¬ y < x → Go p e below K (T.setTop (mkF m pc' L S))) : Go p e below K (T.setTop (mkF m pc L (.int y :: .int x :: S))) := by
  by_cases hc : y < x
  · exact g_icmp_gt_t X hd ho hc (yes hc)
  · exact g_icmp_gt_f X hd hp hc (no hc)
theorem g_if_gt_t (X : St Z n0 p l e R s m args below meth c own nm bytes ml ret T locs cells slots h) {x : Int32} {o : Int} (hd : decode bytes pc = .ok (.ifCond .gt o, 3)) (ho : (pc : Int) + o = (pt : Int)) (hc : 0 < x) (k : Go p e below K (T.setTop (mkF m pt L S))) : Go p e below K (T.setTop (mkF m pc L (.int x :: S))) :=
  k.of (fun _ q => XS.ifYes X.X.here X.hx rfl rfl (X.d hd) rfl ((if0 _ _).trans ((tlt hc).2.2.1)) (ho ▸ Int.natCast_nonneg _) (by rw [ho]; rfl) q)
theorem g_if_gt_f (X : St Z n0 p l e R s m args below meth c own nm bytes ml ret T locs cells slots h) {x : Int32} {o : Int} (hd : decode bytes pc = .ok (.ifCond .gt o, 3)) (hp : pc + 3 = pc') (hc : ¬ 0 < x) (k : Go p e below K (T.setTop (mkF m pc' L S))) : Go p e below K (T.setTop (mkF m pc L (.int x :: S))) := by
  subst hp; exact k.of (fun _ q => XS.ifNo X.X.here X.hx rfl (X.d hd) rfl ((if0 _ _).trans ((flt hc).2.2.1)) q)
theorem g_if_gt (X : St Z n0 p l e R s m args below meth c own nm bytes ml ret T locs cells slots h) {x : Int32} {o : Int} (hd : decode bytes pc = .ok (.ifCond .gt o, 3)) (ho : (pc : Int) + o = (pt : Int)) (hp : pc + 3 = pc') (yes : 0 < x → Go p e below K (T.setTop (mkF m pt L S))) (no : ¬ 0 < x → Go p e below K (T.setTop (mkF m pc' L S))) : Go p e below K (T.setTop (mkF m pc L (.int x :: S))) := by
  by_cases hc : 0 < x
  · exact g_if_gt_t X hd ho hc (yes hc)
  · exact g_if_gt_f X hd hp hc (no hc)
theorem g_icmp_le_t (X : St Z n0 p l e R s m args below meth c own nm bytes ml ret T locs cells slots h) {x y : Int32} {o : Int} (hd : decode bytes pc = .ok (.if_icmp .le o, 3)) (ho : (pc : Int) + o = (pt : Int)) (hc : ¬ y < x) (k : Go p e below K (T.setTop (mkF m pt L S))) : Go p e below K (T.setTop (mkF m pc L (.int y :: .int x :: S))) :=
  k.of (fun _ q => XS.icmpYes X.X.here X.hx rfl rfl (X.d hd) rfl ((flt hc).2.2.2) (ho ▸ Int.natCast_nonneg _) (by rw [ho]; rfl) q)
theorem g_icmp_le_f (X : St Z n0 p l e R s m args below meth c own nm bytes ml ret T locs cells slots h) {x y : Int32} {o : Int} (hd : decode bytes pc = .ok (.if_icmp .le o, 3)) (hp : pc + 3 = pc') (hc : y < x) (k : Go p e below K (T.setTop (mkF m pc' L S))) : Go p e below K (T.setTop (mkF m pc L (.int y :: .int x :: S))) := by
  subst hp; exact k.of (fun _ q => XS.icmpNo X.X.here X.hx rfl (X.d hd) rfl ((tlt hc).2.2.2) q)
theorem g_icmp_le (X : St Z n0 p l e R s m args below meth c own nm bytes ml ret T locs cells slots h) {x y : Int32} {o : Int} (hd : decode bytes pc = .ok (.if_icmp .le o, 3)) (ho : (pc : Int) + o = (pt : Int)) (hp : pc + 3 = pc') (yes : ¬ y < x → Go p e below K (T.setTop (mkF m pt L S))) (no : y < x → Go p e below K (T.setTop (mkF m pc' L S))) : Go p e below K (T.setTop (mkF m pc L (.int y :: .int x :: S))) := by
  by_cases hc : y < x
  · exact g_icmp_le_f X hd hp hc (no hc)
  · exact g_icmp_le_t X hd ho hc (yes hc)
theorem g_if_le_t (X : St Z n0 p l e R s m args below meth c own nm bytes ml ret T locs cells slots h) {x : Int32} {o : Int} (hd : decode bytes pc = .ok (.ifCond .le o, 3)) (ho : (pc : Int) + o = (pt : Int)) (hc : ¬ 0 < x) (k : Go p e below K (T.setTop (mkF m pt L S))) : Go p e below K (T.setTop (mkF m pc L (.int x :: S))) :=
  k.of (fun _ q => XS.ifYes X.X.here X.hx rfl rfl (X.d hd) rfl ((if0 _ _).trans ((flt hc).2.2.2)) (ho ▸ Int.natCast_nonneg _) (by rw [ho]; rfl) q)
theorem g_if_le_f (X : St Z n0 p l e R s m args below meth c own nm bytes ml ret T locs cells slots h) {x : Int32} {o : Int} (hd : decode bytes pc = .ok (.ifCond .le o, 3)) (hp : pc + 3 = pc') (hc : 0 < x) (k : Go p e below K (T.setTop (mkF m pc' L S))) : Go p e below K (T.setTop (mkF m pc L (.int x :: S))) := by
  subst hp; exact k.of (fun _ q => XS.ifNo X.X.here X.hx rfl (X.d hd) rfl ((if0 _ _).trans ((tlt hc).2.2.2)) q)
theorem g_if_le (X : St Z n0 p l e R s m args below meth c own nm bytes ml ret T locs cells slots h) {x : Int32} {o : Int} (hd : decode bytes pc = .ok (.ifCond .le o, 3)) (ho : (pc : Int) + o = (pt : Int)) (hp : pc + 3 = pc') (yes : ¬ 0 < x → Go p e below K (T.setTop (mkF m pt L S))) (no : 0 < x → Go p e below K (T.setTop (mkF m pc' L S))) : Go p e below K (T.setTop (mkF m pc L (.int x :: S))) := by
  by_cases hc : 0 < x
  · exact g_if_le_f X hd hp hc (no hc)
  · exact g_if_le_t X hd ho hc (yes hc)
theorem g_lcmp_eq (X : St Z n0 p l e R s m args below meth c own nm bytes ml ret T locs cells slots h) {x y : Int64} {o : Int} (hd : decode bytes pc = .ok (.lcmp, 1)) (hd' : decode bytes (pc + 1) = .ok (.ifCond .eq o, 3)) (ho : ((pc + 1 : Nat) : Int) + o = (pt : Int)) (hp : pc + 1 + 3 = pc') (yes : x = y → Go p e below K (T.setTop (mkF m pt L S))) (no : ¬ x = y → Go p e below K (T.setTop (mkF m pc' L S))) : Go p e below K (T.setTop (mkF m pc L (.long y :: .long x :: S))) := by
  refine g_lcmp X hd rfl ?_
  refine g_if_eq X hd' ho hp (fun q => yes ?_) (fun q => no ?_)
  · rwa [lw_eq] at q
  · rwa [lw_eq] at q
theorem g_lcmp_ne (X : St Z n0 p l e R s m args below meth c own nm bytes ml ret T locs cells slots h) {x y : Int64} {o : Int} (hd : decode bytes pc = .ok (.lcmp, 1)) (hd' : decode bytes (pc + 1) = .ok (.ifCond .ne o, 3)) (ho : ((pc + 1 : Nat) : Int) + o = (pt : Int)) (hp : pc + 1 + 3 = pc') (yes : ¬ x = y → Go p e below K (T.setTop (mkF m pt L S))) (no : x = y → Go p e below K (T.setTop (mkF m pc' L S))) : Go p e below K (T.setTop (mkF m pc L (.long y :: .long x :: S))) := by
  refine g_lcmp X hd rfl ?_
  refine g_if_ne X hd' ho hp (fun q => yes ?_) (fun q => no ?_)
  · rwa [lw_eq] at q
  · rwa [lw_eq] at q
theorem g_lcmp_lt (X : St Z n0 p l e R s m args below meth c own nm bytes ml ret T locs cells slots h) {x y : Int64} {o : Int} (hd : decode bytes pc = .ok (.lcmp, 1)) (hd' : decode bytes (pc + 1) = .ok (.ifCond .lt o, 3)) (ho : ((pc + 1 : Nat) : Int) + o = (pt : Int)) (hp : pc + 1 + 3 = pc') (yes : x < y → Go p e below K (T.setTop (mkF m pt L S))) (no : ¬ x < y → Go p e below K (T.setTop (mkF m pc' L S))) : Go p e below K (T.setTop (mkF m pc L (.long y :: .long x :: S))) := by
  refine g_lcmp X hd rfl ?_
  refine g_if_lt X hd' ho hp (fun q => yes ?_) (fun q => no ?_)
  · rwa [lw_lt] at q
  · rwa [lw_lt] at q
theorem g_lcmp_ge (X : St Z n0 p l e R s m args below meth c own nm bytes ml ret T locs cells slots h) {x y : Int64} {o : Int} (hd : decode bytes pc = .ok (.lcmp, 1)) (hd' : decode bytes (pc + 1) = .ok (.ifCond .ge o, 3)) (ho : ((pc + 1 : Nat) : Int) + o = (pt : Int)) (hp : pc + 1 + 3 = pc') (yes : ¬ x < y → Go p e below K (T.setTop (mkF m pt L S))) (no : x < y → Go p e below K (T.setTop (mkF m pc' L S))) : Go p e below K (T.setTop (mkF m pc L (.long y :: .long x :: S))) := by
  refine g_lcmp X hd rfl ?_
  refine g_if_ge X hd' ho hp (fun q => yes ?_) (fun q => no ?_)
  · rwa [lw_lt] at q
  · rwa [lw_lt] at q
theorem g_lcmp_gt (X : St Z n0 p l e R s m args below meth c own nm bytes ml ret T locs cells slots h) {x y : Int64} {o : Int} (hd : decode bytes pc = .ok (.lcmp, 1)) (hd' : decode bytes (pc + 1) = .ok (.ifCond .gt o, 3)) (ho : ((pc + 1 : Nat) : Int) + o = (pt : Int)) (hp : pc + 1 + 3 = pc') (yes : y < x → Go p e below K (T.setTop (mkF m pt L S))) (no : ¬ y < x → Go p e below K (T.setTop (mkF m pc' L S))) : Go p e below K (T.setTop (mkF m pc L (.long y :: .long x :: S))) := by
  refine g_lcmp X hd rfl ?_
  refine g_if_gt X hd' ho hp (fun q => yes ?_) (fun q => no ?_)
  · rwa [lw_gt] at q
  · rwa [lw_gt] at q
theorem g_lcmp_le (X : St Z n0 p l e R s m args below meth c own nm bytes ml ret T locs cells slots h) {x y : Int64} {o : Int} (hd : decode bytes pc = .ok (.lcmp, 1)) (hd' : decode bytes (pc + 1) = .ok (.ifCond .le o, 3)) (ho : ((pc + 1 : Nat) : Int) + o = (pt : Int)) (hp : pc + 1 + 3 = pc') (yes : ¬ y < x → Go p e below K (T.setTop (mkF m pt L S))) (no : y < x → Go p e below K (T.setTop (mkF m pc' L S))) : Go p e below K (T.setTop (mkF m pc L (.long y :: .long x :: S))) := by
  refine g_lcmp X hd rfl ?_
  refine g_if_le X hd' ho hp (fun q => yes ?_) (fun q => no ?_)
  · rwa [lw_gt] at q
  · rwa [lw_gt] at q
theorem g_ifnull_t (X : St Z n0 p l e R s m args below meth c own nm bytes ml ret T locs cells slots h) {o : Int} (hd : decode bytes pc = .ok (.ifnull o, 3)) (ho : (pc : Int) + o = (pt : Int)) (k : Go p e below K (T.setTop (mkF m pt L S))) : Go p e below K (T.setTop (mkF m pc L (.null :: S))) :=
  k.of (fun _ q => XS.ifnullYes X.X.here X.hx rfl rfl (X.d hd) rfl (ho ▸ Int.natCast_nonneg _) (by rw [ho]; rfl) q)
theorem g_ifnull_f (X : St Z n0 p l e R s m args below meth c own nm bytes ml ret T locs cells slots h) {o : Int} {a : Addr} (hd : decode bytes pc = .ok (.ifnull o, 3)) (hp : pc + 3 = pc') (k : Go p e below K (T.setTop (mkF m pc' L S))) : Go p e below K (T.setTop (mkF m pc L (.ref a :: S))) := by
  subst hp; exact k.of (fun _ q => XS.ifnullNo X.X.here X.hx rfl (X.d hd) rfl q)
theorem g_ifnonnull_t (X : St Z n0 p l e R s m args below meth c own nm bytes ml ret T locs cells slots h) {o : Int} {a : Addr} (hd : decode bytes pc = .ok (.ifnonnull o, 3)) (ho : (pc : Int) + o = (pt : Int)) (k : Go p e below K (T.setTop (mkF m pt L S))) : Go p e below K (T.setTop (mkF m pc L (.ref a :: S))) :=
  k.of (fun _ q => XS.ifnonnullYes X.X.here X.hx rfl rfl (X.d hd) rfl (ho ▸ Int.natCast_nonneg _) (by rw [ho]; rfl) q)
theorem g_ifnonnull_f (X : St Z n0 p l e R s m args below meth c own nm bytes ml ret T locs cells slots h) {o : Int} (hd : decode bytes pc = .ok (.ifnonnull o, 3)) (hp : pc + 3 = pc') (k : Go p e below K (T.setTop (mkF m pc' L S))) : Go p e below K (T.setTop (mkF m pc L (.null :: S))) := by
  subst hp; exact k.of (fun _ q => XS.ifnonnullNo X.X.here X.hx rfl (X.d hd) rfl q)
theorem g_acmp (X : St Z n0 p l e R s m args below meth c own nm bytes ml ret T locs cells slots h) {cd : ACond} {x y : Value} {o : Int} {same : Bool} (h1 : x.isRef = true) (h2 : y.isRef = true) (hd : decode bytes pc = .ok (.if_acmp cd o, 3)) (ho : (pc : Int) + o = (pt : Int)) (hq : decide (x = y) = same) (hp : pc' = if acV cd same = true then pt else pc + 3) (k : Go p e below K (T.setTop (mkF m pc' L S))) : Go p e below K (T.setTop (mkF m pc L (y :: x :: S))) :=
  k.of (fun _ q => Jvm.RoadKit.acmp X.X X.hx rfl h1 h2 rfl (X.d hd) rfl hq (ho ▸ Int.natCast_nonneg _) (by rw [hp, ho]; rfl) q)
theorem g_acmp_eq (X : St Z n0 p l e R s m args below meth c own nm bytes ml ret T locs cells slots h) {a b : Addr} {o : Int} (hd : decode bytes pc = .ok (.if_acmp .eq o, 3)) (ho : (pc : Int) + o = (pt : Int)) (hp : pc + 3 = pc') (yes : a = b → Go p e below K (T.setTop (mkF m pt L S))) (no : ¬ a = b → Go p e below K (T.setTop (mkF m pc' L S))) : Go p e below K (T.setTop (mkF m pc L (.ref b :: .ref a :: S))) := by
  subst hp
  by_cases hc : a = b
  · exact g_acmp X (same := true) rfl rfl hd ho (decide_eq_true (congrArg Value.ref hc)) rfl (yes hc)
  · exact g_acmp X (same := false) rfl rfl hd ho (decide_eq_false fun q => hc (Value.ref.inj q)) rfl (no hc)
theorem g_acmp_ne (X : St Z n0 p l e R s m args below meth c own nm bytes ml ret T locs cells slots h) {a b : Addr} {o : Int} (hd : decode bytes pc = .ok (.if_acmp .ne o, 3)) (ho : (pc : Int) + o = (pt : Int)) (hp : pc + 3 = pc') (yes : ¬ a = b → Go p e below K (T.setTop (mkF m pt L S))) (no : a = b → Go p e below K (T.setTop (mkF m pc' L S))) : Go p e below K (T.setTop (mkF m pc L (.ref b :: .ref a :: S))) := by
  subst hp
  by_cases hc : a = b
  · exact g_acmp X (same := true) rfl rfl hd ho (decide_eq_true (congrArg Value.ref hc)) rfl (no hc)
  · exact g_acmp X (same := false) rfl rfl hd ho (decide_eq_false fun q => hc (Value.ref.inj q)) rfl (yes hc)
theorem g_ldc (X : St Z n0 p l e R s m args below meth c own nm bytes ml ret T locs cells slots h) {i : Nat} {v : Int32} (w : (Jvm.Cond.constant own i v).before a0 Z = true) (hd : decode bytes pc = .ok (.ldc i, 2)) (hp : pc + 2 = pc') (k : Go p e below K (T.setTop (mkF m pc' L (.int v :: S)))) : Go p e below K (T.setTop (mkF m pc L S)) := by
  subst hp; exact k.of (X.X.ldcInt X.hx X.own_ (mvT X.hZ w) (g := mkF m pc L S) rfl (X.d hd))
theorem g_ldc2 (X : St Z n0 p l e R s m args below meth c own nm bytes ml ret T locs cells slots h) {i : Nat} {v : Int64} (w : (Jvm.Cond.constantLong own i v).before a0 Z = true) (hd : decode bytes pc = .ok (.ldc2_w i, 3)) (hp : pc + 3 = pc') (k : Go p e below K (T.setTop (mkF m pc' L (.long v :: S)))) : Go p e below K (T.setTop (mkF m pc L S)) := by
  subst hp; exact k.of (X.X.ldc2Long X.hx X.own_ (mvT X.hZ w) (g := mkF m pc L S) rfl (X.d hd))
theorem g_getF (X : St Z n0 p l e R s m args below meth c own nm bytes ml ret T locs cells slots h) {R0 O n d host : String} {i : Nat} {a : Addr} {v : Value} (w : (Jvm.Cond.fieldLink own i R0 n d).before a0 Z = true ∨ (Jvm.Cond.fieldLinkNest own i R0 n d host).before a0 Z = true) (via : Via Z R0 O n d) (F : Fld Z h a O n d v) (hd : decode bytes pc = .ok (.getfield i, 3)) (hp : pc + 3 = pc') (k : ∀ T', St Z n0 p l e R s m args below meth c own nm bytes ml ret T' locs cells slots h → Go p e below K (T'.setTop (mkF m pc' L (v :: S)))) : Go p e below K (T.setTop (mkF m pc L (.ref a :: S))) := by
  obtain ⟨T', X', e', st'⟩ := getF X.X X.hx X.hZ X.own_ w via X.eT F (g := mkF m pc L (.ref a :: S)) rfl rfl (X.d hd)
  subst hp; exact (k T' (X.to X' e' X.fr X.old)).of st'
theorem g_getS (X : St Z n0 p l e R s m args below meth c own nm bytes ml ret T locs cells slots h) {O n d : String} {i : Nat} {v : Value} (w : (Jvm.Cond.fieldLink own i O n d).before a0 Z = true) (F : Sta Z h O n d v) (hd : decode bytes pc = .ok (.getstatic i, 3)) (hp : pc + 3 = pc') (k : ∀ T', St Z n0 p l e R s m args below meth c own nm bytes ml ret T' locs cells slots h → Go p e below K (T'.setTop (mkF m pc' L (v :: S)))) : Go p e below K (T.setTop (mkF m pc L S)) := by
  obtain ⟨T', X', e', st'⟩ := getS X.X X.hx X.hZ (host := "") X.own_ w Via.refl X.eT F (g := mkF m pc L S) rfl (X.d hd)
  subst hp; exact (k T' (X.to X' e' X.fr X.old)).of st'
theorem g_putF (X : St Z n0 p l e R s m args below meth c own nm bytes ml ret T locs cells slots h) {R0 O n d host C : String} {i kk : Nat} {ty : FieldType} {a : Addr} {v old : Value} (w : (Jvm.Cond.fieldLink own i R0 n d).before a0 Z = true ∨ (Jvm.Cond.fieldLinkNest own i R0 n d host).before a0 Z = true) (via : Via Z R0 O n d) (F : Fld Z h a O n d old) (E : Exa Z h a C)
    (La : (Jvm.Cond.lays C O n d).before a0 Z = true ∨ ((Jvm.Cond.laysFinal C O n d).before a0 Z = true ∧ own = O ∧ nm = "<init>")) (wi : (Jvm.Cond.instantiable C kk).before a0 Z = true) (hty : parseFieldDescriptor d = some ty) (hn : narrow ty v = v) (hf : fits ty v = true) (ga : n0 ≤ a) (hd : decode bytes pc = .ok (.putfield i, 3)) (hp : pc + 3 = pc') (k : ∀ T' h', St Z n0 p l e R s m args below meth c own nm bytes ml ret T' (locs ++ [⟨a, Jvm.RoadKit.slotOf Z O n d⟩]) cells slots h' → Wr h h' a (Jvm.RoadKit.slotOf Z O n d) v → Go p e below K (T'.setTop (mkF m pc' L S))) : Go p e below K (T.setTop (mkF m pc L (v :: .ref a :: S))) := by
  obtain ⟨T', h', X', e', W, st'⟩ := putF X.X X.hx X.hZ X.own_ w via X.eT F E (La.imp id fun q => ⟨q.1, q.2.1, X.nm_.trans q.2.2⟩) wi hty hn hf (g := mkF m pc L (v :: .ref a :: S)) rfl rfl (X.d hd)
  subst hp; exact (k T' h' (X.to X' e' (Fr.snoc X' X.fr ga) (X.old.wr W ga)) W).of st'
theorem g_putFN (X : St Z n0 p l e R s m args below meth c own nm bytes ml ret T locs cells slots h) {R0 O n d C : String} {i kk : Nat} {ty : FieldType} {a : Addr} {v v' old : Value} (w : (Jvm.Cond.fieldLink own i R0 n d).before a0 Z = true) (via : Via Z R0 O n d) (F : Fld Z h a O n d old) (E : Exa Z h a C)
    (La : (Jvm.Cond.lays C O n d).before a0 Z = true ∨ ((Jvm.Cond.laysFinal C O n d).before a0 Z = true ∧ own = O ∧ nm = "<init>")) (wi : (Jvm.Cond.instantiable C kk).before a0 Z = true) (hty : parseFieldDescriptor d = some ty) (hn : narrow ty v = v') (hf : fits ty v' = true) (ga : n0 ≤ a) (hd : decode bytes pc = .ok (.putfield i, 3)) (hp : pc + 3 = pc') (k : ∀ T' h', St Z n0 p l e R s m args below meth c own nm bytes ml ret T' (locs ++ [⟨a, Jvm.RoadKit.slotOf Z O n d⟩]) cells slots h' → Wr h h' a (Jvm.RoadKit.slotOf Z O n d) v' → Go p e below K (T'.setTop (mkF m pc' L S))) : Go p e below K (T.setTop (mkF m pc L (v :: .ref a :: S))) := by
  obtain ⟨T', h', X', e', W, st'⟩ := putFN X.X X.hx X.hZ X.own_ w via X.eT F E (La.imp id fun q => ⟨q.1, q.2.1, X.nm_.trans q.2.2⟩) wi hty hn hf (g := mkF m pc L (v :: .ref a :: S)) rfl rfl (X.d hd)
  subst hp; exact (k T' h' (X.to X' e' (Fr.snoc X' X.fr ga) (X.old.wr W ga)) W).of st'
theorem g_new (X : St Z n0 p l e R s m args below meth c own nm bytes ml ret T locs cells slots h) {C : String} {i n : Nat} (w : (Jvm.Cond.classLink own i C).before a0 Z = true) (wi : (Jvm.Cond.instantiable C n).before a0 Z = true) (wz : (Jvm.Cond.initialized C).before a0 Z = true) (hd : decode bytes pc = .ok (.new i, 3)) (hp : pc + 3 = pc') (hc : cells + 1 ≤ R.cells) (hl : slots + n ≤ R.slots)
    (k : ∀ T' h' a, St Z n0 p l e R s m args below meth c own nm bytes ml ret T' locs (cells + 1) (slots + n) h' → a = h.size → Ext h h' → Exa Z h' a C → (∀ {O nm d : String} {ty : FieldType}, Laid Z a0 C O nm d → parseFieldDescriptor d = some ty → Fld Z h' a O nm d (defaultValue ty)) → n0 ≤ a → Go p e below K (T'.setTop (mkF m pc' L (.ref a :: S)))) : Go p e below K (T.setTop (mkF m pc L S)) := by
  obtain ⟨T', h', X', e', E, A, D, -, st'⟩ := newO X.X X.hx X.hZ X.own_ w wi wz X.eT (g := mkF m pc L S) rfl (X.d hd) hc hl
  subst hp; exact (k T' h' _ (X.to X' e' X.fr (X.old.ext E)) rfl E A D X.sz).of st'
theorem g_initO (X : St Z n0 p l e R s m args below meth c own nm bytes ml ret T locs cells slots h) {i : Nat} {a : Addr} (w1 : (Jvm.Cond.methodLink own i Lib.objectInit).before a0 Z = true) (w2 : (Jvm.Cond.instanceMethod Lib.objectInit).before a0 Z = true) (w3 : (Jvm.Cond.code Lib.objectInit ⟨#[0xb1]⟩ 1 none).before a0 Z = true) (hL : L.size = ml) (hd : decode bytes pc = .ok (.invokespecial i, 3)) (hp : pc + 3 = pc') (hf : 1 ≤ R.frames) {W : Nat} (hW : (S.map fun v => v.category).sum = W) (hl : W + 12 ≤ R.locals) (k : ∀ T', St Z n0 p l e R s m args below meth c own nm bytes ml ret T' locs cells slots h → Go p e below K (T'.setTop (mkF m pc' L S))) : Go p e below K (T.setTop (mkF m pc L (.ref a :: S))) := by
  obtain ⟨T', X', e', st'⟩ := initO X.X X.hx X.hZ X.own_ w1 w2 w3 X.eT (g := mkF m pc L (.ref a :: S)) rfl (by rw [X.ml_]; exact hL) rfl (X.d hd) hf (W := W) (by show 2 * 0 + _ ≤ _; rw [hW, Nat.mul_zero, Nat.zero_add]; exact Nat.le_refl _) hl
  subst hp; exact (k T' (X.to X' e' X.fr X.old)).of st'
theorem g_castNull (X : St Z n0 p l e R s m args below meth c own nm bytes ml ret T locs cells slots h) {i : Nat} (hd : decode bytes pc = .ok (.checkcast i, 3)) (hp : pc + 3 = pc') (k : Go p e below K (T.setTop (mkF m pc' L (.null :: S)))) : Go p e below K (T.setTop (mkF m pc L (.null :: S))) := by
  subst hp; exact k.of (fun _ q => X.X.checkcastNull X.hx (g := mkF m pc L (.null :: S)) rfl rfl (X.d hd) _ q)
theorem g_instNull (X : St Z n0 p l e R s m args below meth c own nm bytes ml ret T locs cells slots h) {i : Nat} (hd : decode bytes pc = .ok (.instanceof i, 3)) (hp : pc + 3 = pc') (k : Go p e below K (T.setTop (mkF m pc' L (.int 0 :: S)))) : Go p e below K (T.setTop (mkF m pc L (.null :: S))) := by
  subst hp; exact k.of (fun _ q => X.X.instanceofNull X.hx (g := mkF m pc L (.null :: S)) rfl rfl (X.d hd) _ q)
theorem g_cast (X : St Z n0 p l e R s m args below meth c own nm bytes ml ret T locs cells slots h) {k0 : String} {i : Nat} {a : Addr} (w : (Jvm.Cond.classLink own i k0).before a0 Z = true) (F : Ins Z h a k0 true) (hd : decode bytes pc = .ok (.checkcast i, 3)) (hp : pc + 3 = pc') (k : ∀ T', St Z n0 p l e R s m args below meth c own nm bytes ml ret T' locs cells slots h → Go p e below K (T'.setTop (mkF m pc' L (.ref a :: S)))) : Go p e below K (T.setTop (mkF m pc L (.ref a :: S))) := by
  obtain ⟨T', X', e', st'⟩ := castY X.X X.hx X.hZ X.own_ w X.eT F (g := mkF m pc L (.ref a :: S)) rfl rfl (X.d hd)
  subst hp; exact (k T' (X.to X' e' X.fr X.old)).of st'
theorem g_inst (X : St Z n0 p l e R s m args below meth c own nm bytes ml ret T locs cells slots h) {k0 : String} {i : Nat} {a : Addr} (w : (Jvm.Cond.classLink own i k0).before a0 Z = true) (F : Ins Z h a k0 true) (hd : decode bytes pc = .ok (.instanceof i, 3)) (hp : pc + 3 = pc') (k : ∀ T', St Z n0 p l e R s m args below meth c own nm bytes ml ret T' locs cells slots h → Go p e below K (T'.setTop (mkF m pc' L (.int 1 :: S)))) : Go p e below K (T.setTop (mkF m pc L (.ref a :: S))) := by
  obtain ⟨T', X', e', st'⟩ := instY X.X X.hx X.hZ X.own_ w X.eT F (g := mkF m pc L (.ref a :: S)) rfl rfl (X.d hd)
  subst hp; exact (k T' (X.to X' e' X.fr X.old)).of st'
theorem g_instN (X : St Z n0 p l e R s m args below meth c own nm bytes ml ret T locs cells slots h) {k0 c0 : String} {i : Nat} {a : Addr} (w : (Jvm.Cond.classLink own i k0).before a0 Z = true) (F : Ins Z s.heap a k0 false) (E : Exa Z s.heap a c0) (hd : decode bytes pc = .ok (.instanceof i, 3)) (hp : pc + 3 = pc') (k : ∀ T', St Z n0 p l e R s m args below meth c own nm bytes ml ret T' locs cells slots h → Go p e below K (T'.setTop (mkF m pc' L (.int 0 :: S)))) : Go p e below K (T.setTop (mkF m pc L (.ref a :: S))) := by
  obtain ⟨T', X', e', st'⟩ := instN X.X X.hx X.hZ X.own_ w X.eT F E (g := mkF m pc L (.ref a :: S)) rfl rfl (X.d hd)
  subst hp; exact (k T' (X.to X' e' X.fr X.old)).of st'
theorem g_iaload (X : St Z n0 p l e R s m args below meth c own nm bytes ml ret T locs cells slots h) {a : Addr} {j : Int32} {i : Nat} {v : Value} {vs : List Value} (A : Arx Z h a .int vs) (hj : j.toInt = (i : Int)) (hv : vs[i]? = some v) (hd : decode bytes pc = .ok (.iaload, 1)) (hp : pc + 1 = pc') (k : Go p e below K (T.setTop (mkF m pc' L (v :: S)))) : Go p e below K (T.setTop (mkF m pc L (.int j :: .ref a :: S))) := by
  obtain ⟨cl, A, q, -⟩ := A
  obtain ⟨hin, hi⟩ := arx_in q hj (List.getElem?_eq_some_iff.mp hv).1
  subst hp; exact k.of (fun _ z => X.X.iaload X.hx (by rw [X.eT]; exact A.1) (State.isArrayOf_alike X.hZ.alike A.2.1) A.2.2 hin (by rw [hi]; exact arx_at q hv) (g := mkF m pc L (.int j :: .ref a :: S)) rfl rfl (X.d hd) _ z)
theorem g_laload (X : St Z n0 p l e R s m args below meth c own nm bytes ml ret T locs cells slots h) {a : Addr} {j : Int32} {i : Nat} {v : Value} {vs : List Value} (A : Arx Z h a .long vs) (hj : j.toInt = (i : Int)) (hv : vs[i]? = some v) (hd : decode bytes pc = .ok (.laload, 1)) (hp : pc + 1 = pc') (k : Go p e below K (T.setTop (mkF m pc' L (v :: S)))) : Go p e below K (T.setTop (mkF m pc L (.int j :: .ref a :: S))) := by
  obtain ⟨cl, A, q, -⟩ := A
  obtain ⟨hin, hi⟩ := arx_in q hj (List.getElem?_eq_some_iff.mp hv).1
  subst hp; exact k.of (fun _ z => X.X.laload X.hx (by rw [X.eT]; exact A.1) (State.isArrayOf_alike X.hZ.alike A.2.1) A.2.2 hin (by rw [hi]; exact arx_at q hv) (g := mkF m pc L (.int j :: .ref a :: S)) rfl rfl (X.d hd) _ z)
theorem g_caload (X : St Z n0 p l e R s m args below meth c own nm bytes ml ret T locs cells slots h) {a : Addr} {j : Int32} {i : Nat} {v : Value} {vs : List Value} (A : Arx Z h a .char vs) (hj : j.toInt = (i : Int)) (hv : vs[i]? = some v) (hd : decode bytes pc = .ok (.caload, 1)) (hp : pc + 1 = pc') (k : Go p e below K (T.setTop (mkF m pc' L (v :: S)))) : Go p e below K (T.setTop (mkF m pc L (.int j :: .ref a :: S))) := by
  obtain ⟨cl, A, q, -⟩ := A
  obtain ⟨hin, hi⟩ := arx_in q hj (List.getElem?_eq_some_iff.mp hv).1
  subst hp; exact k.of (fun _ z => X.X.caload X.hx (by rw [X.eT]; exact A.1) (State.isArrayOf_alike X.hZ.alike A.2.1) A.2.2 hin (by rw [hi]; exact arx_at q hv) (g := mkF m pc L (.int j :: .ref a :: S)) rfl rfl (X.d hd) _ z)
theorem g_baload (X : St Z n0 p l e R s m args below meth c own nm bytes ml ret T locs cells slots h) {a : Addr} {j : Int32} {i : Nat} {v : Value} {vs : List Value} (A : Arx Z h a .byte vs) (hj : j.toInt = (i : Int)) (hv : vs[i]? = some v) (hd : decode bytes pc = .ok (.baload, 1)) (hp : pc + 1 = pc') (k : Go p e below K (T.setTop (mkF m pc' L (v :: S)))) : Go p e below K (T.setTop (mkF m pc L (.int j :: .ref a :: S))) := by
  obtain ⟨cl, A, q, -⟩ := A
  obtain ⟨hin, hi⟩ := arx_in q hj (List.getElem?_eq_some_iff.mp hv).1
  subst hp; exact k.of (fun _ z => X.X.baloadBytes X.hx (by rw [X.eT]; exact A.1) (State.isArrayOf_alike X.hZ.alike A.2.1) A.2.2 hin (by rw [hi]; exact arx_at q hv) (g := mkF m pc L (.int j :: .ref a :: S)) rfl rfl (X.d hd) _ z)
theorem g_daload (X : St Z n0 p l e R s m args below meth c own nm bytes ml ret T locs cells slots h) {a : Addr} {j : Int32} {i : Nat} {v : Value} {vs : List Value} (A : Arx Z h a .double vs) (hj : j.toInt = (i : Int)) (hv : vs[i]? = some v) (hd : decode bytes pc = .ok (.daload, 1)) (hp : pc + 1 = pc') (k : Go p e below K (T.setTop (mkF m pc' L (v :: S)))) : Go p e below K (T.setTop (mkF m pc L (.int j :: .ref a :: S))) := by
  obtain ⟨cl, A, q, -⟩ := A
  obtain ⟨hin, hi⟩ := arx_in q hj (List.getElem?_eq_some_iff.mp hv).1
  subst hp; exact k.of (fun _ z => X.X.daload X.hx (by rw [X.eT]; exact A.1) (State.isArrayOf_alike X.hZ.alike A.2.1) A.2.2 hin (by rw [hi]; exact arx_at q hv) (g := mkF m pc L (.int j :: .ref a :: S)) rfl rfl (X.d hd) _ z)
theorem g_aaload (X : St Z n0 p l e R s m args below meth c own nm bytes ml ret T locs cells slots h) {a : Addr} {j : Int32} {i : Nat} {v : Value} {ty : FieldType} {vs : List Value} (A : Arx Z h a ty vs) (hty : ty.isReference = true) (hj : j.toInt = (i : Int)) (hv : vs[i]? = some v) (hd : decode bytes pc = .ok (.aaload, 1)) (hp : pc + 1 = pc') (k : Go p e below K (T.setTop (mkF m pc' L (v :: S)))) : Go p e below K (T.setTop (mkF m pc L (.int j :: .ref a :: S))) := by
  obtain ⟨cl, A, q, -⟩ := A
  obtain ⟨hin, hi⟩ := arx_in q hj (List.getElem?_eq_some_iff.mp hv).1
  subst hp; exact k.of (fun _ z => X.X.aaload X.hx (by rw [X.eT]; exact A.1) (State.isArrayOf_alike X.hZ.alike A.2.1) hty A.2.2 hin (by rw [hi]; exact arx_at q hv) (g := mkF m pc L (.int j :: .ref a :: S)) rfl rfl (X.d hd) _ z)
theorem g_arraylength (X : St Z n0 p l e R s m args below meth c own nm bytes ml ret T locs cells slots h) {a : Addr} {ty : FieldType} {vs : List Value} {n : Int32} (A : Arx Z h a ty vs) (hn : vs.length.toInt32 = n) (hd : decode bytes pc = .ok (.arraylength, 1)) (hp : pc + 1 = pc') (k : Go p e below K (T.setTop (mkF m pc' L (.int n :: S)))) : Go p e below K (T.setTop (mkF m pc L (.ref a :: S))) := by
  obtain ⟨cl, A, q, -⟩ := A
  have e2 : cl.slots.size.toInt32 = n := by rw [← hn, ← q]; simp
  subst hp; exact k.of (fun _ z => X.X.arraylength X.hx (by rw [X.eT]; exact A.1) (State.isArrayOf_alike X.hZ.alike A.2.1) (g := mkF m pc L (.ref a :: S)) rfl rfl (X.d hd) _ (by rw [e2]; exact z))
theorem g_iastore (X : St Z n0 p l e R s m args below meth c own nm bytes ml ret T locs cells slots h) {a : Addr} {j : Int32} {i : Nat} {x : Int32} {vs : List Value} (A : Arx Z h a .int vs) (hj : j.toInt = (i : Int)) (hi : i < vs.length) (ga : n0 ≤ a) (hd : decode bytes pc = .ok (.iastore, 1)) (hp : pc + 1 = pc') (k : ∀ T' h', St Z n0 p l e R s m args below meth c own nm bytes ml ret T' (locs ++ [⟨a, i⟩]) cells slots h' → Wr h h' a i (.int x) → Arx Z h' a .int (vs.set i (.int x)) → Go p e below K (T'.setTop (mkF m pc' L S))) : Go p e below K (T.setTop (mkF m pc L (.int x :: .int j :: .ref a :: S))) := by
  obtain ⟨cl, A, q, hl⟩ := A
  obtain ⟨hin, hn⟩ := arx_in q hj hi
  obtain ⟨T', h', X', e', W, st'⟩ := stI X.X X.hx X.hZ X.eT A hin (g := mkF m pc L (.int x :: .int j :: .ref a :: S)) rfl rfl (X.d hd)
  rw [hn] at W X'
  subst hp; exact (k T' h' (X.to X' e' (Fr.snoc X' X.fr ga) (X.old.wr W ga)) W ⟨_, A.same W, by rw [← q]; simp [Cell.setSlot], by simpa using hl⟩).of st'
theorem g_lastore (X : St Z n0 p l e R s m args below meth c own nm bytes ml ret T locs cells slots h) {a : Addr} {j : Int32} {i : Nat} {x : Int64} {vs : List Value} (A : Arx Z h a .long vs) (hj : j.toInt = (i : Int)) (hi : i < vs.length) (ga : n0 ≤ a) (hd : decode bytes pc = .ok (.lastore, 1)) (hp : pc + 1 = pc') (k : ∀ T' h', St Z n0 p l e R s m args below meth c own nm bytes ml ret T' (locs ++ [⟨a, i⟩]) cells slots h' → Wr h h' a i (.long x) → Arx Z h' a .long (vs.set i (.long x)) → Go p e below K (T'.setTop (mkF m pc' L S))) : Go p e below K (T.setTop (mkF m pc L (.long x :: .int j :: .ref a :: S))) := by
  obtain ⟨cl, A, q, hl⟩ := A
  obtain ⟨hin, hn⟩ := arx_in q hj hi
  obtain ⟨T', h', X', e', W, st'⟩ := stJ X.X X.hx X.hZ X.eT A hin (g := mkF m pc L (.long x :: .int j :: .ref a :: S)) rfl rfl (X.d hd)
  rw [hn] at W X'
  subst hp; exact (k T' h' (X.to X' e' (Fr.snoc X' X.fr ga) (X.old.wr W ga)) W ⟨_, A.same W, by rw [← q]; simp [Cell.setSlot], by simpa using hl⟩).of st'
theorem g_castore (X : St Z n0 p l e R s m args below meth c own nm bytes ml ret T locs cells slots h) {a : Addr} {j : Int32} {i : Nat} {x : Int32} {vs : List Value} (A : Arx Z h a .char vs) (hj : j.toInt = (i : Int)) (hi : i < vs.length) (ga : n0 ≤ a) (hd : decode bytes pc = .ok (.castore, 1)) (hp : pc + 1 = pc') (k : ∀ T' h', St Z n0 p l e R s m args below meth c own nm bytes ml ret T' (locs ++ [⟨a, i⟩]) cells slots h' → Wr h h' a i (.int (nar .char x)) → Arx Z h' a .char (vs.set i (.int (nar .char x))) → Go p e below K (T'.setTop (mkF m pc' L S))) : Go p e below K (T.setTop (mkF m pc L (.int x :: .int j :: .ref a :: S))) := by
  obtain ⟨cl, A, q, hl⟩ := A
  obtain ⟨hin, hn⟩ := arx_in q hj hi
  obtain ⟨T', h', X', e', W, st'⟩ := stC X.X X.hx X.hZ X.eT A hin (g := mkF m pc L (.int x :: .int j :: .ref a :: S)) rfl rfl (X.d hd)
  rw [hn] at W X'
  subst hp; exact (k T' h' (X.to X' e' (Fr.snoc X' X.fr ga) (X.old.wr W ga)) W ⟨_, A.same W, by rw [← q]; simp [Cell.setSlot], by simpa using hl⟩).of st'
theorem g_bastore (X : St Z n0 p l e R s m args below meth c own nm bytes ml ret T locs cells slots h) {a : Addr} {j : Int32} {i : Nat} {x : Int32} {vs : List Value} (A : Arx Z h a .byte vs) (hj : j.toInt = (i : Int)) (hi : i < vs.length) (ga : n0 ≤ a) (hd : decode bytes pc = .ok (.bastore, 1)) (hp : pc + 1 = pc') (k : ∀ T' h', St Z n0 p l e R s m args below meth c own nm bytes ml ret T' (locs ++ [⟨a, i⟩]) cells slots h' → Wr h h' a i (.int (nar .byte x)) → Arx Z h' a .byte (vs.set i (.int (nar .byte x))) → Go p e below K (T'.setTop (mkF m pc' L S))) : Go p e below K (T.setTop (mkF m pc L (.int x :: .int j :: .ref a :: S))) := by
  obtain ⟨cl, A, q, hl⟩ := A
  obtain ⟨hin, hn⟩ := arx_in q hj hi
  obtain ⟨T', h', X', e', W, st'⟩ := stB X.X X.hx X.hZ X.eT A hin (g := mkF m pc L (.int x :: .int j :: .ref a :: S)) rfl rfl (X.d hd)
  rw [hn] at W X'
  subst hp; exact (k T' h' (X.to X' e' (Fr.snoc X' X.fr ga) (X.old.wr W ga)) W ⟨_, A.same W, by rw [← q]; simp [Cell.setSlot], by simpa using hl⟩).of st'
theorem g_dastore (X : St Z n0 p l e R s m args below meth c own nm bytes ml ret T locs cells slots h) {a : Addr} {j : Int32} {i : Nat} {x : UInt64} {vs : List Value} (A : Arx Z h a .double vs) (hj : j.toInt = (i : Int)) (hi : i < vs.length) (ga : n0 ≤ a) (hd : decode bytes pc = .ok (.dastore, 1)) (hp : pc + 1 = pc') (k : ∀ T' h', St Z n0 p l e R s m args below meth c own nm bytes ml ret T' (locs ++ [⟨a, i⟩]) cells slots h' → Wr h h' a i (.double x) → Arx Z h' a .double (vs.set i (.double x)) → Go p e below K (T'.setTop (mkF m pc' L S))) : Go p e below K (T.setTop (mkF m pc L (.double x :: .int j :: .ref a :: S))) := by
  obtain ⟨cl, A, q, hl⟩ := A
  obtain ⟨hin, hn⟩ := arx_in q hj hi
  obtain ⟨T', h', X', e', W, st'⟩ := stD X.X X.hx X.hZ X.eT A hin (g := mkF m pc L (.double x :: .int j :: .ref a :: S)) rfl rfl (X.d hd)
  rw [hn] at W X'
  subst hp; exact (k T' h' (X.to X' e' (Fr.snoc X' X.fr ga) (X.old.wr W ga)) W ⟨_, A.same W, by rw [← q]; simp [Cell.setSlot], by simpa using hl⟩).of st'
theorem g_newarray (X : St Z n0 p l e R s m args below meth c own nm bytes ml ret T locs cells slots h) {aty : ArrayType} {n : Int32} {cap : Nat} {vs : List Value} (w : (Jvm.Cond.arrayClass (newarray.typeOf aty)).before a0 Z = true) (hn : ¬ n < 0) (hcap : n.toNatClampNeg ≤ cap) (hvs : List.replicate n.toNatClampNeg (defaultValue (newarray.typeOf aty)) = vs) (hb : cap * 8 ≤ 536870912) (hd : decode bytes pc = .ok (.newarray aty, 2)) (hp : pc + 2 = pc') (hc : cells + 1 ≤ R.cells) (hl : slots + cap ≤ R.slots)
    (k : ∀ T' h' a, St Z n0 p l e R s m args below meth c own nm bytes ml ret T' locs (cells + 1) (slots + cap) h' → a = h.size → Ext h h' → Arx Z h' a (newarray.typeOf aty) vs → n0 ≤ a → Go p e below K (T'.setTop (mkF m pc' L (.ref a :: S)))) : Go p e below K (T.setTop (mkF m pc L (.int n :: S))) := by
  obtain ⟨T', h', cA, X', e', E, A, st'⟩ := newP X.X X.hx X.hZ w X.eT (g := mkF m pc L (.int n :: S)) rfl (X.d hd) rfl hn hcap hb hc hl
  subst hp; exact (k T' h' _ (X.to X' e' X.fr (X.old.ext E)) rfl E ⟨_, A, (arx_new _ _ _).trans hvs, by rw [← hvs, List.length_replicate]; omega⟩ X.sz).of st'
theorem g_callSB (X : St Z n0 p l e R s m args below meth c own nm bytes ml ret T locs cells slots h) {i : Nat} {y : MethodName} {b' : ByteArray} {ml' : Nat} {ret' : Option FieldType} {cc ss : Nat} {Q : Option Value → Heap → List Loc → Prop} {ps : List FieldType} {r : Option FieldType} {W : Nat} {S0 rest : List Value} (argsL : List Value) (w1 : (Jvm.Cond.methodLink own i y).before a0 Z = true) (w2 : (Jvm.Cond.static y).before a0 Z = true) (w0 : (Jvm.Cond.initialized y.cls).before a0 Z = true) (w4 : (Jvm.Cond.code y b' ml' ret').before a0 Z = true) (Bk : Back l R p e below s args y 3 W (fun A a' => a' = argsL.toArray ∧ A.U.heap = h ∧ A.cells + cc ≤ R.cells ∧ A.slots + ss ≤ R.slots) (fun A _ v B => ∃ L, Q v B.U.heap L ∧ B.locs = A.locs ++ L ∧ B.cells = A.cells + cc ∧ B.slots = A.slots + ss)) (hy : y.cls ≠ "java/lang/invoke/MethodHandle" ∧ y.cls ≠ "java/lang/invoke/VarHandle") (hc : cells + cc ≤ R.cells) (hs : slots + ss ≤ R.slots) (hL : L.size = ml) (hps : parseMethodDescriptor y.desc = some ⟨ps, r⟩) (hlen : argsL.length = ps.length) (hS : S0 = argsL.reverse ++ rest) (hW : (rest.map fun v => v.category).sum = W) (hd : decode bytes pc = .ok (.invokestatic i, 3)) (hp : pc + 3 = pc') (k : ∀ v T' h' L'', (Old Z n0 h' → Fr n0 L'' → St Z n0 p l e R s m args below meth c own nm bytes ml ret T' (locs ++ L'') (cells + cc) (slots + ss) h') → Q v h' L'' → Go p e below K (T'.setTop (mkF m pc' L (v.toList ++ rest)))) : Go p e below K (T.setTop (mkF m pc L S0)) := by
  subst hS hp
  obtain ⟨v, _, ⟨T', L'', k', n'⟩, -, X', ⟨Lc, hQ, l', y', z'⟩, st'⟩ := Jvm.LawKit.callS X.X X.hx (y := y) X.own_ (mvT X.hZ w1) (mvT X.hZ w2) (mvT X.hZ w0) (mvT X.hZ w4) hy Bk (g := mkF m pc L (argsL.reverse ++ rest)) rfl (by rw [X.ml_]; exact hL) (argsL := argsL) (rest := rest) (lenOf hps hlen) rfl (by show 2 * 0 + _ ≤ _; rw [hW, Nat.mul_zero, Nat.zero_add]; exact Nat.le_refl _) (X.d hd) (fun _ _ => ⟨rfl, X.eT, hc, hs⟩)
  dsimp only [Pt.U, Pt.locs, Pt.cells, Pt.slots] at X' l' y' z' st' hQ
  subst l' y' z'
  exact (k v T' T'.heap Lc (fun hz hF => ⟨X', X.2.1, rfl, X.fr.app hF, hz⟩) hQ).of st'
theorem g_callS (X : St Z n0 p l e R s m args below meth c own nm bytes ml ret T locs cells slots h) {i : Nat} {y : MethodName} {b' : ByteArray} {ml' : Nat} {ret' : Option FieldType} {rm : Room} {Q : Option Value → Heap → List Loc → Prop} {ps : List FieldType} {r : Option FieldType} {W : Nat} {S0 rest : List Value} (argsL : List Value) (w1 : (Jvm.Cond.methodLink own i y).before a0 Z = true) (w2 : (Jvm.Cond.static y).before a0 Z = true) (w0 : (Jvm.Cond.initialized y.cls).before a0 Z = true) (w4 : (Jvm.Cond.code y b' ml' ret').before a0 Z = true) (w3 : (Jvm.Cond.initialized y.cls).before a0 Z = true) (C : Con l Z y b' ml' ret' [] rm rm.cells rm.slots argsL.toArray h Q) (hy : y.cls ≠ "java/lang/invoke/MethodHandle" ∧ y.cls ≠ "java/lang/invoke/VarHandle") (hf : rm.frames + 1 ≤ R.frames) (hl : W + (ml' + 11) + rm.locals ≤ R.locals) (hc : cells + rm.cells ≤ R.cells) (hs : slots + rm.slots ≤ R.slots) (hL : L.size = ml) (hps : parseMethodDescriptor y.desc = some ⟨ps, r⟩) (hlen : argsL.length = ps.length) (hS : S0 = argsL.reverse ++ rest) (hW : (rest.map fun v => v.category).sum = W) (hd : decode bytes pc = .ok (.invokestatic i, 3)) (hp : pc + 3 = pc') (k : ∀ v T' h' L'', (Old Z n0 h' → Fr n0 L'' → St Z n0 p l e R s m args below meth c own nm bytes ml ret T' (locs ++ L'') (cells + rm.cells) (slots + rm.slots) h') → Q v h' L'' → Go p e below K (T'.setTop (mkF m pc' L (v.toList ++ rest)))) : Go p e below K (T.setTop (mkF m pc L S0)) :=
  g_callSB X argsL w1 w2 w0 w4 (backOf (W := W) C X.hZ w4 w3 hf hl) hy hc hs hL hps hlen hS hW hd hp k
theorem g_callIB (X : St Z n0 p l e R s m args below meth c own nm bytes ml ret T locs cells slots h) {i : Nat} {y : MethodName} {b' : ByteArray} {ml' : Nat} {ret' : Option FieldType} {cc ss : Nat} {Q : Option Value → Heap → List Loc → Prop} {ps : List FieldType} {r : Option FieldType} {W : Nat} {S0 rest : List Value} (argsL : List Value) {a : Addr} (hinit : y.name = "<init>") (w1 : (Jvm.Cond.methodLink own i y).before a0 Z = true) (w2 : (Jvm.Cond.instanceMethod y).before a0 Z = true) (hr : ret' = none) (w4 : (Jvm.Cond.code y b' ml' ret').before a0 Z = true) (Bk : Back l R p e below s args y 3 W (fun A a' => a' = (.ref a :: argsL).toArray ∧ A.U.heap = h ∧ A.cells + cc ≤ R.cells ∧ A.slots + ss ≤ R.slots) (fun A _ v B => ∃ L, Q v B.U.heap L ∧ B.locs = A.locs ++ L ∧ B.cells = A.cells + cc ∧ B.slots = A.slots + ss)) (hy : y.cls ≠ "java/lang/invoke/MethodHandle" ∧ y.cls ≠ "java/lang/invoke/VarHandle") (hc : cells + cc ≤ R.cells) (hs : slots + ss ≤ R.slots) (hL : L.size = ml) (hps : parseMethodDescriptor y.desc = some ⟨ps, r⟩) (hlen : argsL.length = ps.length) (hS : S0 = argsL.reverse ++ .ref a :: rest) (hW : (rest.map fun v => v.category).sum = W) (hd : decode bytes pc = .ok (.invokespecial i, 3)) (hp : pc + 3 = pc') (k : ∀ v T' h' L'', (Old Z n0 h' → Fr n0 L'' → St Z n0 p l e R s m args below meth c own nm bytes ml ret T' (locs ++ L'') (cells + cc) (slots + ss) h') → Q v h' L'' → Go p e below K (T'.setTop (mkF m pc' L (v.toList ++ rest)))) : Go p e below K (T.setTop (mkF m pc L S0)) := by
  subst hS hp
  subst hr
  obtain ⟨v, _, ⟨T', L'', k', n'⟩, -, X', ⟨Lc, hQ, l', y', z'⟩, st'⟩ := X.X.specialBack X.hx (y := y) hinit X.own_ (mvT X.hZ w1) (mvT X.hZ w2) (mvT X.hZ w4) hy Bk (g := mkF m pc L (argsL.reverse ++ .ref a :: rest)) rfl (by rw [X.ml_]; exact hL) (Steps.refl _) (a := a) (argsL := argsL) (rest := rest) (lenOf hps hlen) rfl (by show 2 * 0 + _ ≤ _; rw [hW, Nat.mul_zero, Nat.zero_add]; exact Nat.le_refl _) (X.d hd) (fun _ _ => ⟨rfl, X.eT, hc, hs⟩)
  dsimp only [Pt.U, Pt.locs, Pt.cells, Pt.slots] at X' l' y' z' st' hQ
  subst l' y' z'
  exact (k v T' T'.heap Lc (fun hz hF => ⟨X', X.2.1, rfl, X.fr.app hF, hz⟩) hQ).of (fun _ q => st'.trans q)
theorem g_callI (X : St Z n0 p l e R s m args below meth c own nm bytes ml ret T locs cells slots h) {i : Nat} {y : MethodName} {b' : ByteArray} {ml' : Nat} {ret' : Option FieldType} {rm : Room} {Q : Option Value → Heap → List Loc → Prop} {ps : List FieldType} {r : Option FieldType} {W : Nat} {S0 rest : List Value} (argsL : List Value) {a : Addr} (hinit : y.name = "<init>") (w1 : (Jvm.Cond.methodLink own i y).before a0 Z = true) (w2 : (Jvm.Cond.instanceMethod y).before a0 Z = true) (hr : ret' = none) (w4 : (Jvm.Cond.code y b' ml' ret').before a0 Z = true) (w3 : (Jvm.Cond.initialized y.cls).before a0 Z = true) (C : Con l Z y b' ml' ret' [] rm rm.cells rm.slots (.ref a :: argsL).toArray h Q) (hy : y.cls ≠ "java/lang/invoke/MethodHandle" ∧ y.cls ≠ "java/lang/invoke/VarHandle") (hf : rm.frames + 1 ≤ R.frames) (hl : W + (ml' + 11) + rm.locals ≤ R.locals) (hc : cells + rm.cells ≤ R.cells) (hs : slots + rm.slots ≤ R.slots) (hL : L.size = ml) (hps : parseMethodDescriptor y.desc = some ⟨ps, r⟩) (hlen : argsL.length = ps.length) (hS : S0 = argsL.reverse ++ .ref a :: rest) (hW : (rest.map fun v => v.category).sum = W) (hd : decode bytes pc = .ok (.invokespecial i, 3)) (hp : pc + 3 = pc') (k : ∀ v T' h' L'', (Old Z n0 h' → Fr n0 L'' → St Z n0 p l e R s m args below meth c own nm bytes ml ret T' (locs ++ L'') (cells + rm.cells) (slots + rm.slots) h') → Q v h' L'' → Go p e below K (T'.setTop (mkF m pc' L (v.toList ++ rest)))) : Go p e below K (T.setTop (mkF m pc L S0)) :=
  g_callIB X argsL hinit w1 w2 hr w4 (backOf (W := W) C X.hZ w4 w3 hf hl) hy hc hs hL hps hlen hS hW hd hp k
theorem g_callVB (X : St Z n0 p l e R s m args below meth c own nm bytes ml ret T locs cells slots h) {i : Nat} {y : MethodName} {b' : ByteArray} {ml' : Nat} {ret' : Option FieldType} {cc ss : Nat} {Q : Option Value → Heap → List Loc → Prop} {ps : List FieldType} {r : Option FieldType} {W : Nat} {S0 rest : List Value} (argsL : List Value) {C0 : String} {z : MethodName} {a : Addr} (w1 : (Jvm.Cond.methodLink own i y).before a0 Z = true) (w2 : (Jvm.Cond.declares y).before a0 Z = true) (nf : NotFace s y) (w5 : (Jvm.Cond.selects C0 y z).before a0 Z = true) (w6 : (Jvm.Cond.instanceMethod z).before a0 Z = true) (E : Exa Z h a C0) (w4 : (Jvm.Cond.code z b' ml' ret').before a0 Z = true) (Bk : Back l R p e below s args z 3 W (fun A a' => a' = (.ref a :: argsL).toArray ∧ A.U.heap = h ∧ A.cells + cc ≤ R.cells ∧ A.slots + ss ≤ R.slots) (fun A _ v B => ∃ L, Q v B.U.heap L ∧ B.locs = A.locs ++ L ∧ B.cells = A.cells + cc ∧ B.slots = A.slots + ss)) (hy : y.cls ≠ "java/lang/invoke/MethodHandle" ∧ y.cls ≠ "java/lang/invoke/VarHandle") (hc : cells + cc ≤ R.cells) (hs : slots + ss ≤ R.slots) (hL : L.size = ml) (hps : parseMethodDescriptor y.desc = some ⟨ps, r⟩) (hlen : argsL.length = ps.length) (hS : S0 = argsL.reverse ++ .ref a :: rest) (hW : (rest.map fun v => v.category).sum = W) (hd : decode bytes pc = .ok (.invokevirtual i, 3)) (hp : pc + 3 = pc') (k : ∀ v T' h' L'', (Old Z n0 h' → Fr n0 L'' → St Z n0 p l e R s m args below meth c own nm bytes ml ret T' (locs ++ L'') (cells + cc) (slots + ss) h') → Q v h' L'' → Go p e below K (T'.setTop (mkF m pc' L (v.toList ++ rest)))) : Go p e below K (T.setTop (mkF m pc L S0)) := by
  subst hS hp
  obtain ⟨cq, kq, q1, q2, q3⟩ := isOf X.hZ X.eT E
  obtain ⟨v, _, ⟨T', L'', k', n'⟩, -, X', ⟨Lc, hQ, l', y', z'⟩, st'⟩ := X.X.virtualBack X.hx (y := y) (z := z) X.own_ (mvT X.hZ w1) (mvT X.hZ w2) nf (mvT X.hZ w5) (mvT X.hZ w6) hy Bk q1 q3 (g := mkF m pc L (argsL.reverse ++ .ref a :: rest)) rfl (by rw [X.ml_]; exact hL) (Steps.refl _) (argsL := argsL) (rest := rest) (lenOf hps hlen) rfl (by show 2 * 0 + _ ≤ _; rw [hW, Nat.mul_zero, Nat.zero_add]; exact Nat.le_refl _) (X.d hd) (fun _ _ => ⟨rfl, X.eT, hc, hs⟩)
  dsimp only [Pt.U, Pt.locs, Pt.cells, Pt.slots] at X' l' y' z' st' hQ
  subst l' y' z'
  exact (k v T' T'.heap Lc (fun hz hF => ⟨X', X.2.1, rfl, X.fr.app hF, hz⟩) hQ).of (fun _ q => st'.trans q)
theorem g_callV (X : St Z n0 p l e R s m args below meth c own nm bytes ml ret T locs cells slots h) {i : Nat} {y : MethodName} {b' : ByteArray} {ml' : Nat} {ret' : Option FieldType} {rm : Room} {Q : Option Value → Heap → List Loc → Prop} {ps : List FieldType} {r : Option FieldType} {W : Nat} {S0 rest : List Value} (argsL : List Value) {C0 : String} {z : MethodName} {a : Addr} (w1 : (Jvm.Cond.methodLink own i y).before a0 Z = true) (w2 : (Jvm.Cond.declares y).before a0 Z = true) (nf : NotFace s y) (w5 : (Jvm.Cond.selects C0 y z).before a0 Z = true) (w6 : (Jvm.Cond.instanceMethod z).before a0 Z = true) (E : Exa Z h a C0) (w4 : (Jvm.Cond.code z b' ml' ret').before a0 Z = true) (w3 : (Jvm.Cond.initialized z.cls).before a0 Z = true) (C : Con l Z z b' ml' ret' [] rm rm.cells rm.slots (.ref a :: argsL).toArray h Q) (hy : y.cls ≠ "java/lang/invoke/MethodHandle" ∧ y.cls ≠ "java/lang/invoke/VarHandle") (hf : rm.frames + 1 ≤ R.frames) (hl : W + (ml' + 11) + rm.locals ≤ R.locals) (hc : cells + rm.cells ≤ R.cells) (hs : slots + rm.slots ≤ R.slots) (hL : L.size = ml) (hps : parseMethodDescriptor y.desc = some ⟨ps, r⟩) (hlen : argsL.length = ps.length) (hS : S0 = argsL.reverse ++ .ref a :: rest) (hW : (rest.map fun v => v.category).sum = W) (hd : decode bytes pc = .ok (.invokevirtual i, 3)) (hp : pc + 3 = pc') (k : ∀ v T' h' L'', (Old Z n0 h' → Fr n0 L'' → St Z n0 p l e R s m args below meth c own nm bytes ml ret T' (locs ++ L'') (cells + rm.cells) (slots + rm.slots) h') → Q v h' L'' → Go p e below K (T'.setTop (mkF m pc' L (v.toList ++ rest)))) : Go p e below K (T.setTop (mkF m pc L S0)) :=
  g_callVB X argsL w1 w2 nf w5 w6 E w4 (backOf (W := W) C X.hZ w4 w3 hf hl) hy hc hs hL hps hlen hS hW hd hp k
theorem g_callPB (X : St Z n0 p l e R s m args below meth c own nm bytes ml ret T locs cells slots h) {i : Nat} {y : MethodName} {b' : ByteArray} {ml' : Nat} {ret' : Option FieldType} {cc ss : Nat} {Q : Option Value → Heap → List Loc → Prop} {ps : List FieldType} {r : Option FieldType} {W : Nat} {S0 rest : List Value} (argsL : List Value) {C0 : String} {kk : Nat} {a : Addr} (w1 : (Jvm.Cond.methodLink own i y).before a0 Z = true) (w2 : (Jvm.Cond.instanceMethod y).before a0 Z = true) (wp : (Jvm.Cond.privateMethod y).before a0 Z = true) (wi : (Jvm.Cond.instantiable y.cls kk).before a0 Z = true) (E : Exa Z h a C0) (w4 : (Jvm.Cond.code y b' ml' ret').before a0 Z = true) (Bk : Back l R p e below s args y 3 W (fun A a' => a' = (.ref a :: argsL).toArray ∧ A.U.heap = h ∧ A.cells + cc ≤ R.cells ∧ A.slots + ss ≤ R.slots) (fun A _ v B => ∃ L, Q v B.U.heap L ∧ B.locs = A.locs ++ L ∧ B.cells = A.cells + cc ∧ B.slots = A.slots + ss)) (hy : y.cls ≠ "java/lang/invoke/MethodHandle" ∧ y.cls ≠ "java/lang/invoke/VarHandle") (hc : cells + cc ≤ R.cells) (hs : slots + ss ≤ R.slots) (hL : L.size = ml) (hps : parseMethodDescriptor y.desc = some ⟨ps, r⟩) (hlen : argsL.length = ps.length) (hS : S0 = argsL.reverse ++ .ref a :: rest) (hW : (rest.map fun v => v.category).sum = W) (hd : decode bytes pc = .ok (.invokevirtual i, 3)) (hp : pc + 3 = pc') (k : ∀ v T' h' L'', (Old Z n0 h' → Fr n0 L'' → St Z n0 p l e R s m args below meth c own nm bytes ml ret T' (locs ++ L'') (cells + cc) (slots + ss) h') → Q v h' L'' → Go p e below K (T'.setTop (mkF m pc' L (v.toList ++ rest)))) : Go p e below K (T.setTop (mkF m pc L S0)) := by
  subst hS hp
  obtain ⟨cq, q1, q2⟩ := E.cell
  have hpr : State.PrivateAt s y := Cond.privateMethod_at (mvP X.hZ wp (args := #[]))
  obtain ⟨c1, k1, f1, f2, f3, f4, -, -⟩ := Cond.instantiable_spec (show (Jvm.Cond.instantiable y.cls kk).holds #[] s none s [] = true from mvT X.hZ wi)
  obtain ⟨v, _, ⟨T', L'', k', n'⟩, -, X', ⟨Lc, hQ, l', y', z'⟩, st'⟩ := X.X.privateBack X.hx (y := y) X.own_ (mvT X.hZ w1) (mvT X.hZ w2) (selects_self_of_private f1 f2 (by cases hq : k1.isInterface with | false => rfl | true => rw [hq] at f4; simp at f4) hpr (mvT X.hZ w2) hy) hpr (mvT X.hZ w4) hy Bk (g := mkF m pc L (argsL.reverse ++ .ref a :: rest)) rfl (by rw [X.ml_]; exact hL) (Steps.refl _) (a := a) (by rw [X.eT]; exact q1) q2 (argsL := argsL) (rest := rest) (lenOf hps hlen) rfl (by show 2 * 0 + _ ≤ _; rw [hW, Nat.mul_zero, Nat.zero_add]; exact Nat.le_refl _) (X.d hd) (fun _ _ => ⟨rfl, X.eT, hc, hs⟩)
  dsimp only [Pt.U, Pt.locs, Pt.cells, Pt.slots] at X' l' y' z' st' hQ
  subst l' y' z'
  exact (k v T' T'.heap Lc (fun hz hF => ⟨X', X.2.1, rfl, X.fr.app hF, hz⟩) hQ).of (fun _ q => st'.trans q)
theorem g_callP (X : St Z n0 p l e R s m args below meth c own nm bytes ml ret T locs cells slots h) {i : Nat} {y : MethodName} {b' : ByteArray} {ml' : Nat} {ret' : Option FieldType} {rm : Room} {Q : Option Value → Heap → List Loc → Prop} {ps : List FieldType} {r : Option FieldType} {W : Nat} {S0 rest : List Value} (argsL : List Value) {C0 : String} {kk : Nat} {a : Addr} (w1 : (Jvm.Cond.methodLink own i y).before a0 Z = true) (w2 : (Jvm.Cond.instanceMethod y).before a0 Z = true) (wp : (Jvm.Cond.privateMethod y).before a0 Z = true) (wi : (Jvm.Cond.instantiable y.cls kk).before a0 Z = true) (E : Exa Z h a C0) (w4 : (Jvm.Cond.code y b' ml' ret').before a0 Z = true) (w3 : (Jvm.Cond.initialized y.cls).before a0 Z = true) (C : Con l Z y b' ml' ret' [] rm rm.cells rm.slots (.ref a :: argsL).toArray h Q) (hy : y.cls ≠ "java/lang/invoke/MethodHandle" ∧ y.cls ≠ "java/lang/invoke/VarHandle") (hf : rm.frames + 1 ≤ R.frames) (hl : W + (ml' + 11) + rm.locals ≤ R.locals) (hc : cells + rm.cells ≤ R.cells) (hs : slots + rm.slots ≤ R.slots) (hL : L.size = ml) (hps : parseMethodDescriptor y.desc = some ⟨ps, r⟩) (hlen : argsL.length = ps.length) (hS : S0 = argsL.reverse ++ .ref a :: rest) (hW : (rest.map fun v => v.category).sum = W) (hd : decode bytes pc = .ok (.invokevirtual i, 3)) (hp : pc + 3 = pc') (k : ∀ v T' h' L'', (Old Z n0 h' → Fr n0 L'' → St Z n0 p l e R s m args below meth c own nm bytes ml ret T' (locs ++ L'') (cells + rm.cells) (slots + rm.slots) h') → Q v h' L'' → Go p e below K (T'.setTop (mkF m pc' L (v.toList ++ rest)))) : Go p e below K (T.setTop (mkF m pc L S0)) :=
  g_callPB X argsL w1 w2 wp wi E w4 (backOf (W := W) C X.hZ w4 w3 hf hl) hy hc hs hL hps hlen hS hW hd hp k
theorem g_callQB (X : St Z n0 p l e R s m args below meth c own nm bytes ml ret T locs cells slots h) {i : Nat} {y : MethodName} {b' : ByteArray} {ml' : Nat} {ret' : Option FieldType} {cc ss : Nat} {Q : Option Value → Heap → List Loc → Prop} {ps : List FieldType} {r : Option FieldType} {W : Nat} {S0 rest : List Value} (argsL : List Value) {C0 C1 : String} {a : Addr} (w1 : (Jvm.Cond.methodLink own i y).before a0 Z = true) (w2 : (Jvm.Cond.instanceMethod y).before a0 Z = true) (wp : (Jvm.Cond.privateMethod y).before a0 Z = true) (w5 : (Jvm.Cond.selects C1 y y).before a0 Z = true) (E : Exa Z h a C0) (w4 : (Jvm.Cond.code y b' ml' ret').before a0 Z = true) (Bk : Back l R p e below s args y 3 W (fun A a' => a' = (.ref a :: argsL).toArray ∧ A.U.heap = h ∧ A.cells + cc ≤ R.cells ∧ A.slots + ss ≤ R.slots) (fun A _ v B => ∃ L, Q v B.U.heap L ∧ B.locs = A.locs ++ L ∧ B.cells = A.cells + cc ∧ B.slots = A.slots + ss)) (hy : y.cls ≠ "java/lang/invoke/MethodHandle" ∧ y.cls ≠ "java/lang/invoke/VarHandle") (hc : cells + cc ≤ R.cells) (hs : slots + ss ≤ R.slots) (hL : L.size = ml) (hps : parseMethodDescriptor y.desc = some ⟨ps, r⟩) (hlen : argsL.length = ps.length) (hS : S0 = argsL.reverse ++ .ref a :: rest) (hW : (rest.map fun v => v.category).sum = W) (hd : decode bytes pc = .ok (.invokevirtual i, 3)) (hp : pc + 3 = pc') (k : ∀ v T' h' L'', (Old Z n0 h' → Fr n0 L'' → St Z n0 p l e R s m args below meth c own nm bytes ml ret T' (locs ++ L'') (cells + cc) (slots + ss) h') → Q v h' L'' → Go p e below K (T'.setTop (mkF m pc' L (v.toList ++ rest)))) : Go p e below K (T.setTop (mkF m pc L S0)) := by
  subst hS hp
  obtain ⟨cq, q1, q2⟩ := E.cell
  have hpr : State.PrivateAt s y := Cond.privateMethod_at (mvP X.hZ wp (args := #[]))
  obtain ⟨v, _, ⟨T', L'', k', n'⟩, -, X', ⟨Lc, hQ, l', y', z'⟩, st'⟩ := X.X.privateBack X.hx (y := y) X.own_ (mvT X.hZ w1) (mvT X.hZ w2) (mvT X.hZ (own_selP w2 wp w5 hy)) hpr (mvT X.hZ w4) hy Bk (g := mkF m pc L (argsL.reverse ++ .ref a :: rest)) rfl (by rw [X.ml_]; exact hL) (Steps.refl _) (a := a) (by rw [X.eT]; exact q1) q2 (argsL := argsL) (rest := rest) (lenOf hps hlen) rfl (by show 2 * 0 + _ ≤ _; rw [hW, Nat.mul_zero, Nat.zero_add]; exact Nat.le_refl _) (X.d hd) (fun _ _ => ⟨rfl, X.eT, hc, hs⟩)
  dsimp only [Pt.U, Pt.locs, Pt.cells, Pt.slots] at X' l' y' z' st' hQ
  subst l' y' z'
  exact (k v T' T'.heap Lc (fun hz hF => ⟨X', X.2.1, rfl, X.fr.app hF, hz⟩) hQ).of (fun _ q => st'.trans q)
theorem g_callQ (X : St Z n0 p l e R s m args below meth c own nm bytes ml ret T locs cells slots h) {i : Nat} {y : MethodName} {b' : ByteArray} {ml' : Nat} {ret' : Option FieldType} {rm : Room} {Q : Option Value → Heap → List Loc → Prop} {ps : List FieldType} {r : Option FieldType} {W : Nat} {S0 rest : List Value} (argsL : List Value) {C0 C1 : String} {a : Addr} (w1 : (Jvm.Cond.methodLink own i y).before a0 Z = true) (w2 : (Jvm.Cond.instanceMethod y).before a0 Z = true) (wp : (Jvm.Cond.privateMethod y).before a0 Z = true) (w5 : (Jvm.Cond.selects C1 y y).before a0 Z = true) (E : Exa Z h a C0) (w4 : (Jvm.Cond.code y b' ml' ret').before a0 Z = true) (w3 : (Jvm.Cond.initialized y.cls).before a0 Z = true) (C : Con l Z y b' ml' ret' [] rm rm.cells rm.slots (.ref a :: argsL).toArray h Q) (hy : y.cls ≠ "java/lang/invoke/MethodHandle" ∧ y.cls ≠ "java/lang/invoke/VarHandle") (hf : rm.frames + 1 ≤ R.frames) (hl : W + (ml' + 11) + rm.locals ≤ R.locals) (hc : cells + rm.cells ≤ R.cells) (hs : slots + rm.slots ≤ R.slots) (hL : L.size = ml) (hps : parseMethodDescriptor y.desc = some ⟨ps, r⟩) (hlen : argsL.length = ps.length) (hS : S0 = argsL.reverse ++ .ref a :: rest) (hW : (rest.map fun v => v.category).sum = W) (hd : decode bytes pc = .ok (.invokevirtual i, 3)) (hp : pc + 3 = pc') (k : ∀ v T' h' L'', (Old Z n0 h' → Fr n0 L'' → St Z n0 p l e R s m args below meth c own nm bytes ml ret T' (locs ++ L'') (cells + rm.cells) (slots + rm.slots) h') → Q v h' L'' → Go p e below K (T'.setTop (mkF m pc' L (v.toList ++ rest)))) : Go p e below K (T.setTop (mkF m pc L S0)) :=
  g_callQB X argsL w1 w2 wp w5 E w4 (backOf (W := W) C X.hZ w4 w3 hf hl) hy hc hs hL hps hlen hS hW hd hp k
theorem g_callUB (X : St Z n0 p l e R s m args below meth c own nm bytes ml ret T locs cells slots h) {i : Nat} {y : MethodName} {b' : ByteArray} {ml' : Nat} {ret' : Option FieldType} {cc ss : Nat} {Q : Option Value → Heap → List Loc → Prop} {ps : List FieldType} {r : Option FieldType} {W : Nat} {S0 rest : List Value} (argsL : List Value) {C1 : String} {y' : MethodName} {a : Addr} (w1 : (Jvm.Cond.methodLink own i y).before a0 Z = true) (w2 : (Jvm.Cond.instanceMethod y).before a0 Z = true) (w5 : (Jvm.Cond.selects C1 y' y').before a0 Z = true) (hyc : y'.cls = y.cls) (w6 : (Jvm.Cond.superclass own y.cls).before a0 Z = true) (hni : y.name ≠ "<init>") (E : Exa Z h a own) (w4 : (Jvm.Cond.code y b' ml' ret').before a0 Z = true) (Bk : Back l R p e below s args y 3 W (fun A a' => a' = (.ref a :: argsL).toArray ∧ A.U.heap = h ∧ A.cells + cc ≤ R.cells ∧ A.slots + ss ≤ R.slots) (fun A _ v B => ∃ L, Q v B.U.heap L ∧ B.locs = A.locs ++ L ∧ B.cells = A.cells + cc ∧ B.slots = A.slots + ss)) (hy : y.cls ≠ "java/lang/invoke/MethodHandle" ∧ y.cls ≠ "java/lang/invoke/VarHandle") (hc : cells + cc ≤ R.cells) (hs : slots + ss ≤ R.slots) (hL : L.size = ml) (hps : parseMethodDescriptor y.desc = some ⟨ps, r⟩) (hlen : argsL.length = ps.length) (hS : S0 = argsL.reverse ++ .ref a :: rest) (hW : (rest.map fun v => v.category).sum = W) (hd : decode bytes pc = .ok (.invokespecial i, 3)) (hp : pc + 3 = pc') (k : ∀ v T' h' L'', (Old Z n0 h' → Fr n0 L'' → St Z n0 p l e R s m args below meth c own nm bytes ml ret T' (locs ++ L'') (cells + cc) (slots + ss) h') → Q v h' L'' → Go p e below K (T'.setTop (mkF m pc' L (v.toList ++ rest)))) : Go p e below K (T.setTop (mkF m pc L S0)) := by
  subst hS hp
  obtain ⟨v, _, ⟨T', L'', k', n'⟩, -, X', ⟨Lc, hQ, l', y', z'⟩, st'⟩ := superBack X.X X.hx X.hZ (y := y) X.own_ w1 (own_sameM w2 w5 hyc hy) w2 w6 hni Bk X.eT (Ins.self E) (g := mkF m pc L (argsL.reverse ++ .ref a :: rest)) rfl (by rw [X.ml_]; exact hL) w4 (argsL := argsL) (rest := rest) (lenOf hps hlen) rfl (by show 2 * 0 + _ ≤ _; rw [hW, Nat.mul_zero, Nat.zero_add]; exact Nat.le_refl _) (X.d hd) (fun _ _ => ⟨rfl, X.eT, hc, hs⟩)
  dsimp only [Pt.U, Pt.locs, Pt.cells, Pt.slots] at X' l' y' z' st' hQ
  subst l' y' z'
  exact (k v T' T'.heap Lc (fun hz hF => ⟨X', X.2.1, rfl, X.fr.app hF, hz⟩) hQ).of (fun _ q => st'.trans q)
theorem g_callU (X : St Z n0 p l e R s m args below meth c own nm bytes ml ret T locs cells slots h) {i : Nat} {y : MethodName} {b' : ByteArray} {ml' : Nat} {ret' : Option FieldType} {rm : Room} {Q : Option Value → Heap → List Loc → Prop} {ps : List FieldType} {r : Option FieldType} {W : Nat} {S0 rest : List Value} (argsL : List Value) {C1 : String} {y' : MethodName} {a : Addr} (w1 : (Jvm.Cond.methodLink own i y).before a0 Z = true) (w2 : (Jvm.Cond.instanceMethod y).before a0 Z = true) (w5 : (Jvm.Cond.selects C1 y' y').before a0 Z = true) (hyc : y'.cls = y.cls) (w6 : (Jvm.Cond.superclass own y.cls).before a0 Z = true) (hni : y.name ≠ "<init>") (E : Exa Z h a own) (w4 : (Jvm.Cond.code y b' ml' ret').before a0 Z = true) (w3 : (Jvm.Cond.initialized y.cls).before a0 Z = true) (C : Con l Z y b' ml' ret' [] rm rm.cells rm.slots (.ref a :: argsL).toArray h Q) (hy : y.cls ≠ "java/lang/invoke/MethodHandle" ∧ y.cls ≠ "java/lang/invoke/VarHandle") (hf : rm.frames + 1 ≤ R.frames) (hl : W + (ml' + 11) + rm.locals ≤ R.locals) (hc : cells + rm.cells ≤ R.cells) (hs : slots + rm.slots ≤ R.slots) (hL : L.size = ml) (hps : parseMethodDescriptor y.desc = some ⟨ps, r⟩) (hlen : argsL.length = ps.length) (hS : S0 = argsL.reverse ++ .ref a :: rest) (hW : (rest.map fun v => v.category).sum = W) (hd : decode bytes pc = .ok (.invokespecial i, 3)) (hp : pc + 3 = pc') (k : ∀ v T' h' L'', (Old Z n0 h' → Fr n0 L'' → St Z n0 p l e R s m args below meth c own nm bytes ml ret T' (locs ++ L'') (cells + rm.cells) (slots + rm.slots) h') → Q v h' L'' → Go p e below K (T'.setTop (mkF m pc' L (v.toList ++ rest)))) : Go p e below K (T.setTop (mkF m pc L S0)) :=
  g_callUB X argsL w1 w2 w5 hyc w6 hni E w4 (backOf (W := W) C X.hZ w4 w3 hf hl) hy hc hs hL hps hlen hS hW hd hp k
theorem g_callSNB (X : St Z n0 p l e R s m args below meth c own nm bytes ml ret T locs cells slots h) {i : Nat} {y : MethodName} {b' : ByteArray} {ml' : Nat} {ret' : Option FieldType} {cc ss : Nat} {Q : Option Value → Heap → List Loc → Prop} {ps : List FieldType} {r : Option FieldType} {W : Nat} {S0 rest : List Value} (argsL : List Value) {host : String} (w1 : (Jvm.Cond.methodLinkNest own i y host).before a0 Z = true) (w2 : (Jvm.Cond.static y).before a0 Z = true) (w0 : (Jvm.Cond.initialized y.cls).before a0 Z = true) (w4 : (Jvm.Cond.code y b' ml' ret').before a0 Z = true) (Bk : Back l R p e below s args y 3 W (fun A a' => a' = argsL.toArray ∧ A.U.heap = h ∧ A.cells + cc ≤ R.cells ∧ A.slots + ss ≤ R.slots) (fun A _ v B => ∃ L, Q v B.U.heap L ∧ B.locs = A.locs ++ L ∧ B.cells = A.cells + cc ∧ B.slots = A.slots + ss)) (hy : y.cls ≠ "java/lang/invoke/MethodHandle" ∧ y.cls ≠ "java/lang/invoke/VarHandle") (hc : cells + cc ≤ R.cells) (hs : slots + ss ≤ R.slots) (hL : L.size = ml) (hps : parseMethodDescriptor y.desc = some ⟨ps, r⟩) (hlen : argsL.length = ps.length) (hS : S0 = argsL.reverse ++ rest) (hW : (rest.map fun v => v.category).sum = W) (hd : decode bytes pc = .ok (.invokestatic i, 3)) (hp : pc + 3 = pc') (k : ∀ v T' h' L'', (Old Z n0 h' → Fr n0 L'' → St Z n0 p l e R s m args below meth c own nm bytes ml ret T' (locs ++ L'') (cells + cc) (slots + ss) h') → Q v h' L'' → Go p e below K (T'.setTop (mkF m pc' L (v.toList ++ rest)))) : Go p e below K (T.setTop (mkF m pc L S0)) := by
  subst hS hp
  obtain ⟨v, _, ⟨T', L'', k', n'⟩, -, X', ⟨Lc, hQ, l', y', z'⟩, st'⟩ := callSN X.X X.hx (y := y) X.own_ (Cond.methodLinkNest_wide X.hZ w1) (mvT X.hZ w2) (mvT X.hZ w0) (mvT X.hZ w4) hy Bk (g := mkF m pc L (argsL.reverse ++ rest)) rfl (by rw [X.ml_]; exact hL) (argsL := argsL) (rest := rest) (lenOf hps hlen) rfl (by show 2 * 0 + _ ≤ _; rw [hW, Nat.mul_zero, Nat.zero_add]; exact Nat.le_refl _) (X.d hd) (fun _ _ => ⟨rfl, X.eT, hc, hs⟩)
  dsimp only [Pt.U, Pt.locs, Pt.cells, Pt.slots] at X' l' y' z' st' hQ
  subst l' y' z'
  exact (k v T' T'.heap Lc (fun hz hF => ⟨X', X.2.1, rfl, X.fr.app hF, hz⟩) hQ).of (fun _ q => st'.trans q)
theorem g_callSN (X : St Z n0 p l e R s m args below meth c own nm bytes ml ret T locs cells slots h) {i : Nat} {y : MethodName} {b' : ByteArray} {ml' : Nat} {ret' : Option FieldType} {rm : Room} {Q : Option Value → Heap → List Loc → Prop} {ps : List FieldType} {r : Option FieldType} {W : Nat} {S0 rest : List Value} (argsL : List Value) {host : String} (w1 : (Jvm.Cond.methodLinkNest own i y host).before a0 Z = true) (w2 : (Jvm.Cond.static y).before a0 Z = true) (w0 : (Jvm.Cond.initialized y.cls).before a0 Z = true) (w4 : (Jvm.Cond.code y b' ml' ret').before a0 Z = true) (w3 : (Jvm.Cond.initialized y.cls).before a0 Z = true) (C : Con l Z y b' ml' ret' [] rm rm.cells rm.slots argsL.toArray h Q) (hy : y.cls ≠ "java/lang/invoke/MethodHandle" ∧ y.cls ≠ "java/lang/invoke/VarHandle") (hf : rm.frames + 1 ≤ R.frames) (hl : W + (ml' + 11) + rm.locals ≤ R.locals) (hc : cells + rm.cells ≤ R.cells) (hs : slots + rm.slots ≤ R.slots) (hL : L.size = ml) (hps : parseMethodDescriptor y.desc = some ⟨ps, r⟩) (hlen : argsL.length = ps.length) (hS : S0 = argsL.reverse ++ rest) (hW : (rest.map fun v => v.category).sum = W) (hd : decode bytes pc = .ok (.invokestatic i, 3)) (hp : pc + 3 = pc') (k : ∀ v T' h' L'', (Old Z n0 h' → Fr n0 L'' → St Z n0 p l e R s m args below meth c own nm bytes ml ret T' (locs ++ L'') (cells + rm.cells) (slots + rm.slots) h') → Q v h' L'' → Go p e below K (T'.setTop (mkF m pc' L (v.toList ++ rest)))) : Go p e below K (T.setTop (mkF m pc L S0)) :=
  g_callSNB X argsL w1 w2 w0 w4 (backOf (W := W) C X.hZ w4 w3 hf hl) hy hc hs hL hps hlen hS hW hd hp k
theorem g_arraycopy (X : St Z n0 p l e R s m args below meth c own nm bytes ml ret T locs cells slots h) {i : Nat} {a b : Addr} {sp dp nn : Int32} {si di ni : Nat} {ty : FieldType} {vs vd : List Value} {W : Nat} (w1 : (Jvm.Cond.methodLink own i Jvm.Stand.acN).before a0 Z = true) (w2 : (Jvm.Cond.native Jvm.Stand.acN).before a0 Z = true) (w3 : (Jvm.Cond.static Jvm.Stand.acN).before a0 Z = true) (w4 : (Jvm.Cond.initialized "java/lang/System").before a0 Z = true) (A : Arx Z h a ty vs) (B : Arx Z h b ty vd) (hty : refKind ty = false) (fs : ∀ v ∈ vs, fits ty v = true) (fd : ∀ v ∈ vd, fits ty v = true) (h1 : sp.toInt = (si : Int)) (h2 : dp.toInt = (di : Int)) (h3 : nn.toInt = (ni : Int)) (h4 : si + ni ≤ vs.length) (h5 : di + ni ≤ vd.length) (ge : n0 ≤ b) (hL : L.size = ml) (hW : (S.map fun v => v.category).sum = W) (hf : 1 ≤ R.frames) (hl : W + (nativeFrameWords "java/lang/System" "arraycopy" 5 + 11) ≤ R.locals) (hd : decode bytes pc = .ok (.invokestatic i, 3)) (hp : pc + 3 = pc')
    (k : ∀ T' h' locs', St Z n0 p l e R s m args below meth c own nm bytes ml ret T' locs' cells slots h' → Keep h h' [b] → Arx Z h' b ty (vd.take di ++ (vs.drop si).take ni ++ vd.drop (di + ni)) → Go p e below K (T'.setTop (mkF m pc' L S))) : Go p e below K (T.setTop (mkF m pc L (.int nn :: .int dp :: .ref b :: .int sp :: .ref a :: S))) := by
  have q1 := own_clampN h1; have q2 := own_clampN h2; have q3 := own_clampN h3
  obtain ⟨ka, VA⟩ := arx_arv (n := Int32.ofNat vs.length) (d := .int 0) A (Int32.toInt_ofNat_small A.le) fs
  obtain ⟨kb, VB⟩ := arx_arv (n := Int32.ofNat vd.length) (d := .int 0) B (Int32.toInt_ofNat_small B.le) fd
  have c1 := (own_clampN (Int32.toInt_ofNat_small A.le)).2; have c2 := (own_clampN (Int32.toInt_ofNat_small B.le)).2
  have hus : (vs.drop si).take ni = (List.range nn.toNatClampNeg).map fun i => vs.getD (sp.toNatClampNeg + i) (.int 0) := by
    rw [q1.2, q3.2]
    apply List.ext_getElem?
    intro j
    by_cases hj : j < ni
    · rw [List.getElem?_take_of_lt hj, List.getElem?_drop, List.getElem?_map, List.getElem?_range hj]
      simp [List.getElem?_eq_getElem (show si + j < vs.length by omega)]
    · rw [List.getElem?_eq_none (by rw [List.length_take, List.length_drop]; omega), List.getElem?_eq_none (by simp; omega)]
  obtain ⟨T', h', L', X', e', N', K', B', st'⟩ := cpA X.X X.hx X.hZ X.own_ w1 w2 w3 w4 X.eT VA VB (Or.inl ⟨rfl, hty⟩) q1.1 q2.1 q3.1 (by rw [q1.2, q3.2, c1]; exact h4) (by rw [q2.2, q3.2, c2]; exact h5) hus (by rw [q2.2, q3.2]; exact h5) X.fr ge (g := mkF m pc L (.int nn :: .int dp :: .ref b :: .int sp :: .ref a :: S)) rfl (by rw [X.ml_]; exact hL) rfl (X.d hd) hf (W := W) (by show 2 * 0 + _ ≤ _; rw [hW, Nat.mul_zero, Nat.zero_add]; exact Nat.le_refl _) hl
  rw [q2.2, q3.2] at B'
  subst hp; exact (k T' h' L' (X.to X' e' N' (X.old.keep K' (allS ge all0))) K' (arv_arx B' (by rw [Int32.toInt_ofNat_small B.le]; simp only [List.length_append, List.length_take, List.length_drop]; omega))).of st'
theorem g_rawbits (X : St Z n0 p l e R s m args below meth c own nm bytes ml ret T locs cells slots h) {i : Nat} {b : UInt64} {W : Nat} (w1 : (Jvm.Cond.methodLink own i doubleToRawLongBitsName).before a0 Z = true) (w2 : (Jvm.Cond.native doubleToRawLongBitsName).before a0 Z = true) (w3 : (Jvm.Cond.static doubleToRawLongBitsName).before a0 Z = true) (w4 : (Jvm.Cond.initialized "java/lang/Double").before a0 Z = true) (hL : L.size = ml) (hW : (S.map fun v => v.category).sum = W) (hf : 1 ≤ R.frames) (hl : W + (nativeFrameWords "java/lang/Double" "doubleToRawLongBits" 2 + 11) ≤ R.locals) (hd : decode bytes pc = .ok (.invokestatic i, 3)) (hp : pc + 3 = pc') (k : ∀ T', St Z n0 p l e R s m args below meth c own nm bytes ml ret T' locs cells slots h → Go p e below K (T'.setTop (mkF m pc' L (.long b.toInt64 :: S)))) : Go p e below K (T.setTop (mkF m pc L (.double b :: S))) := by
  obtain ⟨vm', X', st'⟩ := X.X.doubleToRawLongBits X.hx X.own_ (mvT X.hZ w1) (mvT X.hZ w2) (mvT X.hZ w3) (mvT X.hZ w4) (g := mkF m pc L (.double b :: S)) rfl (by rw [X.ml_]; exact hL) rfl (X.d hd) hf (by show 2 * 0 + _ + _ ≤ _; rw [hW, Nat.mul_zero, Nat.zero_add]; exact hl)
  subst hp; exact (k _ (X.to X' X.eT X.fr X.old)).of st'
theorem g_retI (X : St Z n0 p l e R s m args below meth c own nm bytes ml ret T locs cells slots h) {C N : Nat} {Q : Option Value → Heap → List Loc → Prop} {z : Int32} (hr : ret = some .int) (hd : decode bytes pc = .ok (.ireturn, 1)) (hc : cells ≤ C) (hs : slots ≤ N) (q : Q (some (.int z)) h locs) : Go p e below (Kq s C N Q) (T.setTop (mkF m pc L (.int z :: S))) := by
  obtain ⟨fs, hl, hrun, hended, hW, hsame⟩ := X.X.leave (v := (some (.int z))) (fun h => by rw [X.ret_, hr] at h; cases h) X.lk
  exact ⟨_, _, retOut X.X X.hx (t := .int) (X.ret_.trans hr) rfl (Or.inl ⟨rfl, Or.inl rfl, _, rfl⟩) (X.d hd) hl, hrun, hended, _, _, rfl, (show Q _ T.heap _ by rw [X.eT]; exact q), ⟨_, rfl⟩, hW, hsame.mono hc hs⟩
theorem g_retL (X : St Z n0 p l e R s m args below meth c own nm bytes ml ret T locs cells slots h) {C N : Nat} {Q : Option Value → Heap → List Loc → Prop} {z : Int64} (hr : ret = some .long) (hd : decode bytes pc = .ok (.lreturn, 1)) (hc : cells ≤ C) (hs : slots ≤ N) (q : Q (some (.long z)) h locs) : Go p e below (Kq s C N Q) (T.setTop (mkF m pc L (.long z :: S))) := by
  obtain ⟨fs, hl, hrun, hended, hW, hsame⟩ := X.X.leave (v := (some (.long z))) (fun h => by rw [X.ret_, hr] at h; cases h) X.lk
  exact ⟨_, _, retOut X.X X.hx (t := .long) (X.ret_.trans hr) rfl (Or.inr (Or.inl ⟨rfl, rfl, _, rfl⟩)) (X.d hd) hl, hrun, hended, _, _, rfl, (show Q _ T.heap _ by rw [X.eT]; exact q), ⟨_, rfl⟩, hW, hsame.mono hc hs⟩
theorem g_retD (X : St Z n0 p l e R s m args below meth c own nm bytes ml ret T locs cells slots h) {C N : Nat} {Q : Option Value → Heap → List Loc → Prop} {z : UInt64} (hr : ret = some .double) (hd : decode bytes pc = .ok (.dreturn, 1)) (hc : cells ≤ C) (hs : slots ≤ N) (q : Q (some (.double z)) h locs) : Go p e below (Kq s C N Q) (T.setTop (mkF m pc L (.double z :: S))) := by
  obtain ⟨fs, hl, hrun, hended, hW, hsame⟩ := X.X.leave (v := (some (.double z))) (fun h => by rw [X.ret_, hr] at h; cases h) X.lk
  exact ⟨_, _, retOut X.X X.hx (t := .double) (X.ret_.trans hr) rfl (Or.inr (Or.inr (Or.inl ⟨rfl, rfl, _, rfl⟩))) (X.d hd) hl, hrun, hended, _, _, rfl, (show Q _ T.heap _ by rw [X.eT]; exact q), ⟨_, rfl⟩, hW, hsame.mono hc hs⟩
theorem g_retA (X : St Z n0 p l e R s m args below meth c own nm bytes ml ret T locs cells slots h) {C N : Nat} {Q : Option Value → Heap → List Loc → Prop} {z : Value} {t : FieldType} (hz : z.isRef = true) (ht : t.isReference = true) (hr : ret = some t) (hd : decode bytes pc = .ok (.areturn, 1)) (hc : cells ≤ C) (hs : slots ≤ N) (q : Q (some z) h locs) : Go p e below (Kq s C N Q) (T.setTop (mkF m pc L (z :: S))) := by
  obtain ⟨fs, hl, hrun, hended, hW, hsame⟩ := X.X.leave (v := (some z)) (fun h => by rw [X.ret_, hr] at h; cases h) X.lk
  exact ⟨_, _, retOut X.X X.hx (t := t) (X.ret_.trans hr) (by cases z <;> cases t <;> simp [Value.isRef, FieldType.isReference, narrow] at hz ht ⊢) (Or.inr (Or.inr (Or.inr (Or.inr ⟨rfl, ht, hz⟩)))) (X.d hd) hl, hrun, hended, _, _, rfl, (show Q _ T.heap _ by rw [X.eT]; exact q), ⟨_, rfl⟩, hW, hsame.mono hc hs⟩
theorem g_retN (X : St Z n0 p l e R s m args below meth c own nm bytes ml ret T locs cells slots h) {C N : Nat} {Q : Option Value → Heap → List Loc → Prop} {z : Int32} {t : FieldType} (ht : t = .boolean ∨ t = .byte ∨ t = .char ∨ t = .short) (hr : ret = some t) (hd : decode bytes pc = .ok (.ireturn, 1)) (hc : cells ≤ C) (hs : slots ≤ N) (q : Q (some (.int (nar t z))) h locs) : Go p e below (Kq s C N Q) (T.setTop (mkF m pc L (.int z :: S))) := by
  obtain ⟨fs, hl, hrun, hended, hW, hsame⟩ := X.X.leave (v := (some (.int (nar t z)))) (fun h => by rw [X.ret_, hr] at h; cases h) X.lk
  exact ⟨_, _, retN X.X X.hx (t := t) (X.ret_.trans hr) ht (X.d hd) hl, hrun, hended, _, _, rfl, (show Q _ T.heap _ by rw [X.eT]; exact q), ⟨_, rfl⟩, hW, hsame.mono hc hs⟩
theorem g_ret (X : St Z n0 p l e R s m args below meth c own nm bytes ml ret T locs cells slots h) {C N : Nat} {Q : Option Value → Heap → List Loc → Prop} (hr : ret = none) (hd : decode bytes pc = .ok (.return_, 1)) (hc : cells ≤ C) (hs : slots ≤ N) (q : Q none h locs) : Go p e below (Kq s C N Q) (T.setTop (mkF m pc L [])) := by
  obtain ⟨fs, hl, hrun, hended, hW, hsame⟩ := X.X.leave (v := none) (fun _ => rfl) X.lk
  exact ⟨_, _, X.X.returnOut X.hx (X.ret_.trans hr) (X.d hd) hl, hrun, hended, _, _, rfl, (show Q _ T.heap _ by rw [X.eT]; exact q), ⟨_, rfl⟩, hW, hsame.mono hc hs⟩
end Own
end Nar
namespace Wid
section Own
variable {p : Program} {l : Launch} {e : Env} {R : Room} {s : State} {m : MethodId} {args : Array Value} {below : List Frame} {meth : Method} {c : Code} {own nm : String} {bytes : ByteArray} {ml : Nat} {ret : Option FieldType} {T : State} {locs : List Loc} {cells slots : Nat} {Z : State} {a0 : Array Value} {h : Heap} {vm0 : Vm} {n0 : Nat} {K : State → Outcome → Prop} {pc pc' pt : Nat} {L L' : Array Slot} {S : List Value}
/-- what is left of a run, from a state on -/
def Go (p : Program) (e : Env) (below : List Frame) (K : State → Outcome → Prop) (U : State) : Prop := ∃ s₂ o, Steps p.tables e below U s₂ ∧ s₂.status = .running ∧ Ended s₂ below o ∧ K s₂ o
theorem Go.of {U U' : State} (g : Go p e below K U') (st : ∀ t, Steps p.tables e below U' t → Steps p.tables e below U t) : Go p e below K U := by
  obtain ⟨s₂, o, h1, h2⟩ := g; exact ⟨s₂, o, st _ h1, h2⟩
/-- where a walk stands -/
def St (Z : State) (n0 : Nat) (p : Program) (l : Launch) (e : Env) (R : Room) (s : State) (vm0 : Vm) (m : MethodId) (args : Array Value) (below : List Frame) (meth : Method) (c : Code) (own nm : String) (bytes : ByteArray) (ml : Nat) (ret : Option FieldType) (T : State) (locs : List Loc) (cells slots : Nat) (h : Heap) : Prop :=
  Stand p l e R (s.setVm vm0) m args below meth c T locs cells slots ∧ (p.tables.exec = Jvm.exec ∧ c.code = bytes ∧ c.maxLocals = ml ∧ (s.setVm vm0).vm.findClass own = some m.cls ∧ Z.Warmed39 (s.setVm vm0).vm ∧ meth.sig.returnType = ret ∧ meth.locks = false ∧ meth.name = nm) ∧ T.heap = h ∧ Fr n0 locs ∧ Old Z n0 h ∧ ∃ k0, s.Since vm0 k0 ∧ k0 ≤ h.size
theorem St.X (X : St Z n0 p l e R s vm0 m args below meth c own nm bytes ml ret T locs cells slots h) : Stand p l e R (s.setVm vm0) m args below meth c T locs cells slots := X.1
theorem St.hx (X : St Z n0 p l e R s vm0 m args below meth c own nm bytes ml ret T locs cells slots h) : p.tables.exec = Jvm.exec := X.2.1.1
theorem St.by_ (X : St Z n0 p l e R s vm0 m args below meth c own nm bytes ml ret T locs cells slots h) : c.code = bytes := X.2.1.2.1
theorem St.ml_ (X : St Z n0 p l e R s vm0 m args below meth c own nm bytes ml ret T locs cells slots h) : c.maxLocals = ml := X.2.1.2.2.1
theorem St.own_ (X : St Z n0 p l e R s vm0 m args below meth c own nm bytes ml ret T locs cells slots h) : (s.setVm vm0).vm.findClass own = some m.cls := X.2.1.2.2.2.1
theorem St.hZ (X : St Z n0 p l e R s vm0 m args below meth c own nm bytes ml ret T locs cells slots h) : Z.Warmed39 (s.setVm vm0).vm := X.2.1.2.2.2.2.1
theorem St.ret_ (X : St Z n0 p l e R s vm0 m args below meth c own nm bytes ml ret T locs cells slots h) : meth.sig.returnType = ret := X.2.1.2.2.2.2.2.1
theorem St.lk (X : St Z n0 p l e R s vm0 m args below meth c own nm bytes ml ret T locs cells slots h) : meth.locks = false := X.2.1.2.2.2.2.2.2.1
theorem St.nm_ (X : St Z n0 p l e R s vm0 m args below meth c own nm bytes ml ret T locs cells slots h) : meth.name = nm := X.2.1.2.2.2.2.2.2.2
theorem St.eT (X : St Z n0 p l e R s vm0 m args below meth c own nm bytes ml ret T locs cells slots h) : T.heap = h := X.2.2.1
theorem St.fr (X : St Z n0 p l e R s vm0 m args below meth c own nm bytes ml ret T locs cells slots h) : Fr n0 locs := X.2.2.2.1
theorem St.old (X : St Z n0 p l e R s vm0 m args below meth c own nm bytes ml ret T locs cells slots h) : Old Z n0 h := X.2.2.2.2.1
theorem St.sz (X : St Z n0 p l e R s vm0 m args below meth c own nm bytes ml ret T locs cells slots h) : n0 ≤ h.size := X.2.2.2.2.1.1 ▸ X.2.2.2.2.1.2.1
theorem St.to (X : St Z n0 p l e R s vm0 m args below meth c own nm bytes ml ret T locs cells slots h) {T' : State} {locs' : List Loc} {cells' slots' : Nat} {h' : Heap} (Y : Stand p l e R (s.setVm vm0) m args below meth c T' locs' cells' slots') (e' : T'.heap = h') (N : Fr n0 locs') (z : Old Z n0 h') (zz : h.size ≤ h'.size) : St Z n0 p l e R s vm0 m args below meth c own nm bytes ml ret T' locs' cells' slots' h' := ⟨Y, X.2.1, e', N, z, X.2.2.2.2.2.imp fun _ q => ⟨q.1, Nat.le_trans q.2 zz⟩⟩
theorem St.more (X : St Z n0 p l e R s vm0 m args below meth c own nm bytes ml ret T locs cells slots h) {c' n' : Nat} (q1 : cells ≤ c') (q2 : slots ≤ n') : St Z n0 p l e R s vm0 m args below meth c own nm bytes ml ret T locs c' n' h := ⟨X.X.mono q1 q2, X.2⟩
theorem St.d (X : St Z n0 p l e R s vm0 m args below meth c own nm bytes ml ret T locs cells slots h) {r : Except DecodeError (Instr × Nat)} (hd : decode bytes pc = r) : decode c.code pc = r := hb X.by_ hd
/-- a body's contract -/
def Con (l : Launch) (Z : State) (y : MethodName) (bytes : ByteArray) (ml : Nat) (ret : Option FieldType) (ws : List Jvm.Cond) (rm : Room) (C N : Nat) (as' : Array Value) (h : Heap) (Q : Option Value → Heap → List Loc → Prop) : Prop :=
  MetFree l y (head1 (Jvm.Cond.code y bytes ml ret :: ws) rm) (fun a U => a = as' ∧ Z.Warmed39 U.vm ∧ U.heap = h) (fun _ _ _ _ _ => True) (fun _ U o U' => ∃ v L, o = .returned v ∧ Q v U'.heap L ∧ ReturnedEndW U o U' L C N)
def Kq (s : State) (C N : Nat) (Q : Option Value → Heap → List Loc → Prop) (t : State) (o : Outcome) : Prop := ∃ v L, o = .returned v ∧ Q v t.heap L ∧ ReturnedEndW s o t L C N
theorem Con.intro {y : MethodName} {ws : List Jvm.Cond} {rm : Room} {C N : Nat} {as' : Array Value} {Q : Option Value → Heap → List Loc → Prop} (hy : plainFor y = true) (ef : ∀ m, entryFrame m as' ml = mkF m 0 L []) (hz : Old Z n0 h)
    (body : ∀ p e s m below meth c T, s.heap = h → St Z n0 p l e rm s s.vm m as' below meth c y.cls y.name bytes ml ret T [] 0 0 h → Go p e below (Kq s C N Q) (T.setTop (mkF m 0 L []))) : Con l Z y bytes ml ret ws rm C N as' h Q := by
  refine MetFree.of_bodySF hy hisR ?_
  intro p e s m args below meth c s₁ Bd hml0 hP hK
  obtain ⟨rfl, hZ, hh⟩ := hP
  have e0 : s₁.heap = h := by rw [← hh, Bd.state]; rfl
  obtain ⟨s₂, o, h1, h2, h3, h4⟩ := body p e s m below meth c s₁ hh ⟨Stand.of_body Bd, ⟨Bd.exec, Bd.bytes, hml0, findClass_of_methodNamed Bd.named, hZ, Bd.returns, Bd.notSynchronized, (name_of_methodNamed Bd.named Bd.method).1⟩, e0, Fr.nil n0, hz, 0, (State.WarmedH.refl s).since 0, Nat.zero_le _⟩
  exact ⟨s₂, o, castTop (ef m) h1, h2, h3, h4⟩
theorem go_eq {f g : JFrame} (q : f = g) (k : Go p e below K (T.setTop g)) : Go p e below K (T.setTop f) := q ▸ k
theorem g_iloadN (X : St Z n0 p l e R s vm0 m args below meth c own nm bytes ml ret T locs cells slots h) {k : Fin 4} {v : Int32} (hd : decode bytes pc = .ok (.iload_n k, 1)) (hp : pc + 1 = pc') (hl : L[k.val]? = some (.val (.int v))) (k : Go p e below K (T.setTop (mkF m pc' L (.int v :: S)))) : Go p e below K (T.setTop (mkF m pc L S)) := by
  subst hp; exact k.of (fun _ q => XS.iloadN X.X.here X.hx rfl (X.d hd) hl q)
theorem g_iload (X : St Z n0 p l e R s vm0 m args below meth c own nm bytes ml ret T locs cells slots h) {k : Nat} {v : Int32} (hd : decode bytes pc = .ok (.iload k, 2)) (hp : pc + 2 = pc') (hl : L[k]? = some (.val (.int v))) (k : Go p e below K (T.setTop (mkF m pc' L (.int v :: S)))) : Go p e below K (T.setTop (mkF m pc L S)) := by
  subst hp; exact k.of (fun _ q => XS.iload X.X.here X.hx rfl (X.d hd) hl q)
theorem g_lloadN (X : St Z n0 p l e R s vm0 m args below meth c own nm bytes ml ret T locs cells slots h) {k : Fin 4} {v : Int64} (hd : decode bytes pc = .ok (.lload_n k, 1)) (hp : pc + 1 = pc') (hl : L[k.val]? = some (.val (.long v))) (k : Go p e below K (T.setTop (mkF m pc' L (.long v :: S)))) : Go p e below K (T.setTop (mkF m pc L S)) := by
  subst hp; exact k.of (fun _ q => XS.lloadN X.X.here X.hx rfl (X.d hd) hl q)
theorem g_lload (X : St Z n0 p l e R s vm0 m args below meth c own nm bytes ml ret T locs cells slots h) {k : Nat} {v : Int64} (hd : decode bytes pc = .ok (.lload k, 2)) (hp : pc + 2 = pc') (hl : L[k]? = some (.val (.long v))) (k : Go p e below K (T.setTop (mkF m pc' L (.long v :: S)))) : Go p e below K (T.setTop (mkF m pc L S)) := by
  subst hp; exact k.of (fun _ q => XS.lload X.X.here X.hx rfl (X.d hd) hl q)
theorem g_aloadN (X : St Z n0 p l e R s vm0 m args below meth c own nm bytes ml ret T locs cells slots h) {k : Fin 4} {v : Value} (hd : decode bytes pc = .ok (.aload_n k, 1)) (hp : pc + 1 = pc') (hl : L[k.val]? = some (.val v)) (hv : v.isRef = true) (k : Go p e below K (T.setTop (mkF m pc' L (v :: S)))) : Go p e below K (T.setTop (mkF m pc L S)) := by
  subst hp; exact k.of (fun _ q => XS.aloadN X.X.here X.hx rfl (X.d hd) hl hv q)
theorem g_aload (X : St Z n0 p l e R s vm0 m args below meth c own nm bytes ml ret T locs cells slots h) {k : Nat} {v : Value} (hd : decode bytes pc = .ok (.aload k, 2)) (hp : pc + 2 = pc') (hl : L[k]? = some (.val v)) (hv : v.isRef = true) (k : Go p e below K (T.setTop (mkF m pc' L (v :: S)))) : Go p e below K (T.setTop (mkF m pc L S)) := by
  subst hp; exact k.of (fun _ q => XS.aload X.X.here X.hx rfl (X.d hd) hl hv q)
theorem g_istoreN (X : St Z n0 p l e R s vm0 m args below meth c own nm bytes ml ret T locs cells slots h) {k : Fin 4} {v : Int32} (hd : decode bytes pc = .ok (.istore_n k, 1)) (hp : pc + 1 = pc') (hl : storeLocals L k.val (.int v) = some L') (k : Go p e below K (T.setTop (mkF m pc' L' S))) : Go p e below K (T.setTop (mkF m pc L (.int v :: S))) := by
  subst hp; exact k.of (fun _ q => XS.istoreN X.X.here X.hx rfl (X.d hd) rfl hl q)
theorem g_istore (X : St Z n0 p l e R s vm0 m args below meth c own nm bytes ml ret T locs cells slots h) {k : Nat} {v : Int32} (hd : decode bytes pc = .ok (.istore k, 2)) (hp : pc + 2 = pc') (hl : storeLocals L k (.int v) = some L') (k : Go p e below K (T.setTop (mkF m pc' L' S))) : Go p e below K (T.setTop (mkF m pc L (.int v :: S))) := by
  subst hp; exact k.of (fun _ q => XS.istore X.X.here X.hx rfl (X.d hd) rfl hl q)
theorem g_lstoreN (X : St Z n0 p l e R s vm0 m args below meth c own nm bytes ml ret T locs cells slots h) {k : Fin 4} {v : Int64} (hd : decode bytes pc = .ok (.lstore_n k, 1)) (hp : pc + 1 = pc') (hl : storeLocals L k.val (.long v) = some L') (k : Go p e below K (T.setTop (mkF m pc' L' S))) : Go p e below K (T.setTop (mkF m pc L (.long v :: S))) := by
  subst hp; exact k.of (fun _ q => XS.lstoreN X.X.here X.hx rfl (X.d hd) rfl hl q)
theorem g_lstore (X : St Z n0 p l e R s vm0 m args below meth c own nm bytes ml ret T locs cells slots h) {k : Nat} {v : Int64} (hd : decode bytes pc = .ok (.lstore k, 2)) (hp : pc + 2 = pc') (hl : storeLocals L k (.long v) = some L') (k : Go p e below K (T.setTop (mkF m pc' L' S))) : Go p e below K (T.setTop (mkF m pc L (.long v :: S))) := by
  subst hp; exact k.of (fun _ q => XS.lstore X.X.here X.hx rfl (X.d hd) rfl hl q)
theorem g_astoreN (X : St Z n0 p l e R s vm0 m args below meth c own nm bytes ml ret T locs cells slots h) {k : Fin 4} {v : Value} (hd : decode bytes pc = .ok (.astore_n k, 1)) (hp : pc + 1 = pc') (hv : v.isRef = true) (hl : storeLocals L k.val v = some L') (k : Go p e below K (T.setTop (mkF m pc' L' S))) : Go p e below K (T.setTop (mkF m pc L (v :: S))) := by
  subst hp; exact k.of (fun _ q => XS.astoreN X.X.here X.hx rfl (X.d hd) rfl hv hl q)
theorem g_astore (X : St Z n0 p l e R s vm0 m args below meth c own nm bytes ml ret T locs cells slots h) {k : Nat} {v : Value} (hd : decode bytes pc = .ok (.astore k, 2)) (hp : pc + 2 = pc') (hv : v.isRef = true) (hl : storeLocals L k v = some L') (k : Go p e below K (T.setTop (mkF m pc' L' S))) : Go p e below K (T.setTop (mkF m pc L (v :: S))) := by
  subst hp; exact k.of (fun _ q => XS.astore X.X.here X.hx rfl (X.d hd) rfl hv hl q)
theorem g_iinc (X : St Z n0 p l e R s vm0 m args below meth c own nm bytes ml ret T locs cells slots h) {k : Nat} {z : Int} {v : Int32} (hd : decode bytes pc = .ok (.iinc k z, 3)) (hp : pc + 3 = pc') (hl : L[k]? = some (.val (.int v))) (hl' : storeLocals L k (.int (v + Int32.ofInt z)) = some L') (k : Go p e below K (T.setTop (mkF m pc' L' S))) : Go p e below K (T.setTop (mkF m pc L S)) := by
  subst hp; exact k.of (fun _ q => XS.iinc X.X.here X.hx rfl (X.d hd) hl hl' q)
theorem g_iconst (X : St Z n0 p l e R s vm0 m args below meth c own nm bytes ml ret T locs cells slots h) {i : Int} {v : Int32} (hd : decode bytes pc = .ok (.iconst i, 1)) (hp : pc + 1 = pc') (hv : Int32.ofInt i = v) (k : Go p e below K (T.setTop (mkF m pc' L (.int v :: S)))) : Go p e below K (T.setTop (mkF m pc L S)) := by
  subst hp; exact k.of (fun _ q => XS.iconst X.X.here X.hx rfl (X.d hd) (hv ▸ q))
theorem g_bipush (X : St Z n0 p l e R s vm0 m args below meth c own nm bytes ml ret T locs cells slots h) {i : Int} {v : Int32} (hd : decode bytes pc = .ok (.bipush i, 2)) (hp : pc + 2 = pc') (hv : (Int8.ofInt i).toInt32 = v) (k : Go p e below K (T.setTop (mkF m pc' L (.int v :: S)))) : Go p e below K (T.setTop (mkF m pc L S)) := by
  subst hp; exact k.of (fun _ q => XS.bipush X.X.here X.hx rfl (X.d hd) (hv ▸ q))
theorem g_sipush (X : St Z n0 p l e R s vm0 m args below meth c own nm bytes ml ret T locs cells slots h) {i : Int} {v : Int32} (hd : decode bytes pc = .ok (.sipush i, 3)) (hp : pc + 3 = pc') (hv : (Int16.ofInt i).toInt32 = v) (k : Go p e below K (T.setTop (mkF m pc' L (.int v :: S)))) : Go p e below K (T.setTop (mkF m pc L S)) := by
  subst hp; exact k.of (fun _ q => XS.sipush X.X.here X.hx rfl (X.d hd) (hv ▸ q))
theorem g_lconst (X : St Z n0 p l e R s vm0 m args below meth c own nm bytes ml ret T locs cells slots h) {i : Fin 2} {v : Int64} (hd : decode bytes pc = .ok (.lconst i, 1)) (hp : pc + 1 = pc') (hv : Int64.ofNat i = v) (k : Go p e below K (T.setTop (mkF m pc' L (.long v :: S)))) : Go p e below K (T.setTop (mkF m pc L S)) := by
  subst hp; exact k.of (fun _ q => XS.lconst X.X.here X.hx rfl (X.d hd) (hv ▸ q))
theorem g_aconst_null (X : St Z n0 p l e R s vm0 m args below meth c own nm bytes ml ret T locs cells slots h) (hd : decode bytes pc = .ok (.aconst_null, 1)) (hp : pc + 1 = pc') (k : Go p e below K (T.setTop (mkF m pc' L (.null :: S)))) : Go p e below K (T.setTop (mkF m pc L S)) := by
  subst hp; exact k.of (fun _ q => XS.aconstNull X.X.here X.hx rfl (X.d hd) q)
theorem g_iadd (X : St Z n0 p l e R s vm0 m args below meth c own nm bytes ml ret T locs cells slots h) {x y : Int32} (hd : decode bytes pc = .ok (.iadd, 1)) (hp : pc + 1 = pc') (k : Go p e below K (T.setTop (mkF m pc' L (.int (x + y) :: S)))) : Go p e below K (T.setTop (mkF m pc L (.int y :: .int x :: S))) := by
  subst hp; exact k.of (fun _ q => XS.iadd X.X.here X.hx rfl (X.d hd) rfl q)
theorem g_isub (X : St Z n0 p l e R s vm0 m args below meth c own nm bytes ml ret T locs cells slots h) {x y : Int32} (hd : decode bytes pc = .ok (.isub, 1)) (hp : pc + 1 = pc') (k : Go p e below K (T.setTop (mkF m pc' L (.int (x - y) :: S)))) : Go p e below K (T.setTop (mkF m pc L (.int y :: .int x :: S))) := by
  subst hp; exact k.of (fun _ q => XS.isub X.X.here X.hx rfl (X.d hd) rfl q)
theorem g_imul (X : St Z n0 p l e R s vm0 m args below meth c own nm bytes ml ret T locs cells slots h) {x y : Int32} (hd : decode bytes pc = .ok (.imul, 1)) (hp : pc + 1 = pc') (k : Go p e below K (T.setTop (mkF m pc' L (.int (x * y) :: S)))) : Go p e below K (T.setTop (mkF m pc L (.int y :: .int x :: S))) := by
  subst hp; exact k.of (fun _ q => XS.imul X.X.here X.hx rfl (X.d hd) rfl q)
theorem g_iand (X : St Z n0 p l e R s vm0 m args below meth c own nm bytes ml ret T locs cells slots h) {x y : Int32} (hd : decode bytes pc = .ok (.iand, 1)) (hp : pc + 1 = pc') (k : Go p e below K (T.setTop (mkF m pc' L (.int (x &&& y) :: S)))) : Go p e below K (T.setTop (mkF m pc L (.int y :: .int x :: S))) := by
  subst hp; exact k.of (fun _ q => XS.iand X.X.here X.hx rfl (X.d hd) rfl q)
theorem g_ior (X : St Z n0 p l e R s vm0 m args below meth c own nm bytes ml ret T locs cells slots h) {x y : Int32} (hd : decode bytes pc = .ok (.ior, 1)) (hp : pc + 1 = pc') (k : Go p e below K (T.setTop (mkF m pc' L (.int (x ||| y) :: S)))) : Go p e below K (T.setTop (mkF m pc L (.int y :: .int x :: S))) := by
  subst hp; exact k.of (fun _ q => XS.ior X.X.here X.hx rfl (X.d hd) rfl q)
theorem g_ixor (X : St Z n0 p l e R s vm0 m args below meth c own nm bytes ml ret T locs cells slots h) {x y : Int32} (hd : decode bytes pc = .ok (.ixor, 1)) (hp : pc + 1 = pc') (k : Go p e below K (T.setTop (mkF m pc' L (.int (x ^^^ y) :: S)))) : Go p e below K (T.setTop (mkF m pc L (.int y :: .int x :: S))) := by
  subst hp; exact k.of (fun _ q => XS.ixor X.X.here X.hx rfl (X.d hd) rfl q)
theorem g_ishl (X : St Z n0 p l e R s vm0 m args below meth c own nm bytes ml ret T locs cells slots h) {x y : Int32} (hd : decode bytes pc = .ok (.ishl, 1)) (hp : pc + 1 = pc') (k : Go p e below K (T.setTop (mkF m pc' L (.int (x <<< (y &&& 31)) :: S)))) : Go p e below K (T.setTop (mkF m pc L (.int y :: .int x :: S))) := by
  subst hp; exact k.of (fun _ q => XS.ishl X.X.here X.hx rfl (X.d hd) rfl q)
theorem g_ishr (X : St Z n0 p l e R s vm0 m args below meth c own nm bytes ml ret T locs cells slots h) {x y : Int32} (hd : decode bytes pc = .ok (.ishr, 1)) (hp : pc + 1 = pc') (k : Go p e below K (T.setTop (mkF m pc' L (.int (x >>> (y &&& 31)) :: S)))) : Go p e below K (T.setTop (mkF m pc L (.int y :: .int x :: S))) := by
  subst hp; exact k.of (fun _ q => XS.ishr X.X.here X.hx rfl (X.d hd) rfl q)
theorem g_iushr (X : St Z n0 p l e R s vm0 m args below meth c own nm bytes ml ret T locs cells slots h) {x y : Int32} (hd : decode bytes pc = .ok (.iushr, 1)) (hp : pc + 1 = pc') (k : Go p e below K (T.setTop (mkF m pc' L (.int ((x.toUInt32 >>> (y &&& 31).toUInt32).toInt32) :: S)))) : Go p e below K (T.setTop (mkF m pc L (.int y :: .int x :: S))) := by
  subst hp; exact k.of (fun _ q => XS.iushr X.X.here X.hx rfl (X.d hd) rfl q)
theorem g_idiv (X : St Z n0 p l e R s vm0 m args below meth c own nm bytes ml ret T locs cells slots h) {x y : Int32} (hd : decode bytes pc = .ok (.idiv, 1)) (hp : pc + 1 = pc') (hy : y ≠ 0) (k : Go p e below K (T.setTop (mkF m pc' L (.int (x / y) :: S)))) : Go p e below K (T.setTop (mkF m pc L (.int y :: .int x :: S))) := by
  subst hp; exact k.of (fun _ q => XS.idiv X.X.here X.hx rfl (X.d hd) rfl hy q)
theorem g_irem (X : St Z n0 p l e R s vm0 m args below meth c own nm bytes ml ret T locs cells slots h) {x y : Int32} (hd : decode bytes pc = .ok (.irem, 1)) (hp : pc + 1 = pc') (hy : y ≠ 0) (k : Go p e below K (T.setTop (mkF m pc' L (.int (x % y) :: S)))) : Go p e below K (T.setTop (mkF m pc L (.int y :: .int x :: S))) := by
  subst hp; exact k.of (fun _ q => iremM X.X X.hx rfl (X.d hd) rfl hy q)
theorem g_ladd (X : St Z n0 p l e R s vm0 m args below meth c own nm bytes ml ret T locs cells slots h) {x y : Int64} (hd : decode bytes pc = .ok (.ladd, 1)) (hp : pc + 1 = pc') (k : Go p e below K (T.setTop (mkF m pc' L (.long (x + y) :: S)))) : Go p e below K (T.setTop (mkF m pc L (.long y :: .long x :: S))) := by
  subst hp; exact k.of (fun _ q => XS.ladd X.X.here X.hx rfl (X.d hd) rfl q)
theorem g_lsub (X : St Z n0 p l e R s vm0 m args below meth c own nm bytes ml ret T locs cells slots h) {x y : Int64} (hd : decode bytes pc = .ok (.lsub, 1)) (hp : pc + 1 = pc') (k : Go p e below K (T.setTop (mkF m pc' L (.long (x - y) :: S)))) : Go p e below K (T.setTop (mkF m pc L (.long y :: .long x :: S))) := by
  subst hp; exact k.of (fun _ q => XS.lsub X.X.here X.hx rfl (X.d hd) rfl q)
theorem g_lmul (X : St Z n0 p l e R s vm0 m args below meth c own nm bytes ml ret T locs cells slots h) {x y : Int64} (hd : decode bytes pc = .ok (.lmul, 1)) (hp : pc + 1 = pc') (k : Go p e below K (T.setTop (mkF m pc' L (.long (x * y) :: S)))) : Go p e below K (T.setTop (mkF m pc L (.long y :: .long x :: S))) := by
  subst hp; exact k.of (fun _ q => XS.lmul X.X.here X.hx rfl (X.d hd) rfl q)
theorem g_land (X : St Z n0 p l e R s vm0 m args below meth c own nm bytes ml ret T locs cells slots h) {x y : Int64} (hd : decode bytes pc = .ok (.land, 1)) (hp : pc + 1 = pc') (k : Go p e below K (T.setTop (mkF m pc' L (.long (x &&& y) :: S)))) : Go p e below K (T.setTop (mkF m pc L (.long y :: .long x :: S))) := by
  subst hp; exact k.of (fun _ q => XS.land X.X.here X.hx rfl (X.d hd) rfl q)
theorem g_lor (X : St Z n0 p l e R s vm0 m args below meth c own nm bytes ml ret T locs cells slots h) {x y : Int64} (hd : decode bytes pc = .ok (.lor, 1)) (hp : pc + 1 = pc') (k : Go p e below K (T.setTop (mkF m pc' L (.long (x ||| y) :: S)))) : Go p e below K (T.setTop (mkF m pc L (.long y :: .long x :: S))) := by
  subst hp; exact k.of (fun _ q => XS.lor X.X.here X.hx rfl (X.d hd) rfl q)
theorem g_lxor (X : St Z n0 p l e R s vm0 m args below meth c own nm bytes ml ret T locs cells slots h) {x y : Int64} (hd : decode bytes pc = .ok (.lxor, 1)) (hp : pc + 1 = pc') (k : Go p e below K (T.setTop (mkF m pc' L (.long (x ^^^ y) :: S)))) : Go p e below K (T.setTop (mkF m pc L (.long y :: .long x :: S))) := by
  subst hp; exact k.of (fun _ q => XS.lxor X.X.here X.hx rfl (X.d hd) rfl q)
theorem g_ldiv (X : St Z n0 p l e R s vm0 m args below meth c own nm bytes ml ret T locs cells slots h) {x y : Int64} (hd : decode bytes pc = .ok (.ldiv, 1)) (hp : pc + 1 = pc') (hy : y ≠ 0) (k : Go p e below K (T.setTop (mkF m pc' L (.long (x / y) :: S)))) : Go p e below K (T.setTop (mkF m pc L (.long y :: .long x :: S))) := by
  subst hp; exact k.of (fun _ q => XS.ldiv X.X.here X.hx rfl (X.d hd) rfl hy q)
theorem g_lrem (X : St Z n0 p l e R s vm0 m args below meth c own nm bytes ml ret T locs cells slots h) {x y : Int64} (hd : decode bytes pc = .ok (.lrem, 1)) (hp : pc + 1 = pc') (hy : y ≠ 0) (k : Go p e below K (T.setTop (mkF m pc' L (.long (x - (x / y) * y) :: S)))) : Go p e below K (T.setTop (mkF m pc L (.long y :: .long x :: S))) := by
  subst hp; exact k.of (fun _ q => XS.lrem X.X.here X.hx rfl (X.d hd) rfl hy q)
theorem g_lshl (X : St Z n0 p l e R s vm0 m args below meth c own nm bytes ml ret T locs cells slots h) {x : Int64} {y : Int32} (hd : decode bytes pc = .ok (.lshl, 1)) (hp : pc + 1 = pc') (k : Go p e below K (T.setTop (mkF m pc' L (.long (x <<< (y &&& 0x3f).toInt64) :: S)))) : Go p e below K (T.setTop (mkF m pc L (.int y :: .long x :: S))) := by
  subst hp; exact k.of (fun _ q => XS.lshl X.X.here X.hx rfl (X.d hd) rfl q)
theorem g_lshr (X : St Z n0 p l e R s vm0 m args below meth c own nm bytes ml ret T locs cells slots h) {x : Int64} {y : Int32} (hd : decode bytes pc = .ok (.lshr, 1)) (hp : pc + 1 = pc') (k : Go p e below K (T.setTop (mkF m pc' L (.long (x >>> (y &&& 0x3f).toInt64) :: S)))) : Go p e below K (T.setTop (mkF m pc L (.int y :: .long x :: S))) := by
  subst hp; exact k.of (fun _ q => XS.lshr X.X.here X.hx rfl (X.d hd) rfl q)
theorem g_lushr (X : St Z n0 p l e R s vm0 m args below meth c own nm bytes ml ret T locs cells slots h) {x : Int64} {y : Int32} (hd : decode bytes pc = .ok (.lushr, 1)) (hp : pc + 1 = pc') (k : Go p e below K (T.setTop (mkF m pc' L (.long ((x.toUInt64 >>> (y &&& 0x3f).toInt64.toUInt64).toInt64) :: S)))) : Go p e below K (T.setTop (mkF m pc L (.int y :: .long x :: S))) := by
  subst hp; exact k.of (fun _ q => XS.lushr X.X.here X.hx rfl (X.d hd) rfl q)
theorem g_i2b (X : St Z n0 p l e R s vm0 m args below meth c own nm bytes ml ret T locs cells slots h) {v : Int32} (hd : decode bytes pc = .ok (.i2b, 1)) (hp : pc + 1 = pc') (k : Go p e below K (T.setTop (mkF m pc' L (.int (v.toInt8.toInt32) :: S)))) : Go p e below K (T.setTop (mkF m pc L (.int v :: S))) := by
  subst hp; exact k.of (fun _ q => XS.i2b X.X.here X.hx rfl (X.d hd) rfl q)
theorem g_i2c (X : St Z n0 p l e R s vm0 m args below meth c own nm bytes ml ret T locs cells slots h) {v : Int32} (hd : decode bytes pc = .ok (.i2c, 1)) (hp : pc + 1 = pc') (k : Go p e below K (T.setTop (mkF m pc' L (.int (v.toUInt32.toUInt16.toUInt32.toInt32) :: S)))) : Go p e below K (T.setTop (mkF m pc L (.int v :: S))) := by
  subst hp; exact k.of (fun _ q => XS.i2c X.X.here X.hx rfl (X.d hd) rfl q)
theorem g_i2s (X : St Z n0 p l e R s vm0 m args below meth c own nm bytes ml ret T locs cells slots h) {v : Int32} (hd : decode bytes pc = .ok (.i2s, 1)) (hp : pc + 1 = pc') (k : Go p e below K (T.setTop (mkF m pc' L (.int (v.toInt16.toInt32) :: S)))) : Go p e below K (T.setTop (mkF m pc L (.int v :: S))) := by
  subst hp; exact k.of (fun _ q => XS.i2s X.X.here X.hx rfl (X.d hd) rfl q)
theorem g_ineg (X : St Z n0 p l e R s vm0 m args below meth c own nm bytes ml ret T locs cells slots h) {v : Int32} (hd : decode bytes pc = .ok (.ineg, 1)) (hp : pc + 1 = pc') (k : Go p e below K (T.setTop (mkF m pc' L (.int (-v) :: S)))) : Go p e below K (T.setTop (mkF m pc L (.int v :: S))) := by
  subst hp; exact k.of (fun _ q => XS.ineg X.X.here X.hx rfl (X.d hd) rfl q)
theorem g_i2l (X : St Z n0 p l e R s vm0 m args below meth c own nm bytes ml ret T locs cells slots h) {v : Int32} (hd : decode bytes pc = .ok (.i2l, 1)) (hp : pc + 1 = pc') (k : Go p e below K (T.setTop (mkF m pc' L (.long (v.toInt64) :: S)))) : Go p e below K (T.setTop (mkF m pc L (.int v :: S))) := by
  subst hp; exact k.of (fun _ q => XS.i2l X.X.here X.hx rfl (X.d hd) rfl q)
theorem g_l2i (X : St Z n0 p l e R s vm0 m args below meth c own nm bytes ml ret T locs cells slots h) {v : Int64} (hd : decode bytes pc = .ok (.l2i, 1)) (hp : pc + 1 = pc') (k : Go p e below K (T.setTop (mkF m pc' L (.int (v.toInt32) :: S)))) : Go p e below K (T.setTop (mkF m pc L (.long v :: S))) := by
  subst hp; exact k.of (fun _ q => XS.l2i X.X.here X.hx rfl (X.d hd) rfl q)
theorem g_lneg (X : St Z n0 p l e R s vm0 m args below meth c own nm bytes ml ret T locs cells slots h) {v : Int64} (hd : decode bytes pc = .ok (.lneg, 1)) (hp : pc + 1 = pc') (k : Go p e below K (T.setTop (mkF m pc' L (.long (-v) :: S)))) : Go p e below K (T.setTop (mkF m pc L (.long v :: S))) := by
  subst hp; exact k.of (fun _ q => XS.lneg X.X.here X.hx rfl (X.d hd) rfl q)
theorem g_lcmp (X : St Z n0 p l e R s vm0 m args below meth c own nm bytes ml ret T locs cells slots h) {x y : Int64} (hd : decode bytes pc = .ok (.lcmp, 1)) (hp : pc + 1 = pc') (k : Go p e below K (T.setTop (mkF m pc' L (.int (lcmpW x y) :: S)))) : Go p e below K (T.setTop (mkF m pc L (.long y :: .long x :: S))) := by
  subst hp; exact k.of (fun _ q => XS.lcmp X.X.here X.hx rfl (X.d hd) rfl q)
theorem g_dup (X : St Z n0 p l e R s vm0 m args below meth c own nm bytes ml ret T locs cells slots h) {v : Value} (hd : decode bytes pc = .ok (.dup, 1)) (hp : pc + 1 = pc') (hc : v.category = 1) (k : Go p e below K (T.setTop (mkF m pc' L (v :: v :: S)))) : Go p e below K (T.setTop (mkF m pc L (v :: S))) := by
  subst hp; exact k.of (fun _ q => XS.dup X.X.here X.hx rfl (X.d hd) rfl hc q)
theorem g_pop (X : St Z n0 p l e R s vm0 m args below meth c own nm bytes ml ret T locs cells slots h) {v : Value} (hd : decode bytes pc = .ok (.pop, 1)) (hp : pc + 1 = pc') (hc : v.category = 1) (k : Go p e below K (T.setTop (mkF m pc' L S))) : Go p e below K (T.setTop (mkF m pc L (v :: S))) := by
  subst hp; exact k.of (fun _ q => XS.pop X.X.here X.hx rfl (X.d hd) rfl hc q)
theorem g_dup_x1 (X : St Z n0 p l e R s vm0 m args below meth c own nm bytes ml ret T locs cells slots h) {v w : Value} (hd : decode bytes pc = .ok (.dup_x1, 1)) (hp : pc + 1 = pc') (hc : v.category = 1) (hc2 : w.category = 1) (k : Go p e below K (T.setTop (mkF m pc' L (v :: w :: v :: S)))) : Go p e below K (T.setTop (mkF m pc L (v :: w :: S))) := by
  subst hp; exact k.of (fun _ q => XS.dupX1 X.X.here X.hx rfl (X.d hd) rfl hc hc2 q)
theorem g_dloadN (X : St Z n0 p l e R s vm0 m args below meth c own nm bytes ml ret T locs cells slots h) {k : Fin 4} {v : UInt64} (hd : decode bytes pc = .ok (.dload_n k, 1)) (hp : pc + 1 = pc') (hl : L[k.val]? = some (.val (.double v))) (k : Go p e below K (T.setTop (mkF m pc' L (.double v :: S)))) : Go p e below K (T.setTop (mkF m pc L S)) := by
  subst hp; exact k.of (fun _ q => XS.dloadN X.X.here X.hx rfl (X.d hd) hl q)
theorem g_dload (X : St Z n0 p l e R s vm0 m args below meth c own nm bytes ml ret T locs cells slots h) {k : Nat} {v : UInt64} (hd : decode bytes pc = .ok (.dload k, 2)) (hp : pc + 2 = pc') (hl : L[k]? = some (.val (.double v))) (k : Go p e below K (T.setTop (mkF m pc' L (.double v :: S)))) : Go p e below K (T.setTop (mkF m pc L S)) := by
  subst hp; exact k.of (fun _ q => XS.dload X.X.here X.hx rfl (X.d hd) hl q)
theorem g_dstoreN (X : St Z n0 p l e R s vm0 m args below meth c own nm bytes ml ret T locs cells slots h) {k : Fin 4} {v : UInt64} (hd : decode bytes pc = .ok (.dstore_n k, 1)) (hp : pc + 1 = pc') (hl : storeLocals L k.val (.double v) = some L') (k : Go p e below K (T.setTop (mkF m pc' L' S))) : Go p e below K (T.setTop (mkF m pc L (.double v :: S))) := by
  subst hp; exact k.of (fun _ q => XS.dstoreN X.X.here X.hx rfl (X.d hd) rfl hl q)
theorem g_dstore (X : St Z n0 p l e R s vm0 m args below meth c own nm bytes ml ret T locs cells slots h) {k : Nat} {v : UInt64} (hd : decode bytes pc = .ok (.dstore k, 2)) (hp : pc + 2 = pc') (hl : storeLocals L k (.double v) = some L') (k : Go p e below K (T.setTop (mkF m pc' L' S))) : Go p e below K (T.setTop (mkF m pc L (.double v :: S))) := by
  subst hp; exact k.of (fun _ q => XS.dstore X.X.here X.hx rfl (X.d hd) rfl hl q)
theorem g_dconst0 (X : St Z n0 p l e R s vm0 m args below meth c own nm bytes ml ret T locs cells slots h) (hd : decode bytes pc = .ok (.dconst 0, 1)) (hp : pc + 1 = pc') (k : Go p e below K (T.setTop (mkF m pc' L (.double FP.dconst0 :: S)))) : Go p e below K (T.setTop (mkF m pc L S)) := by
  subst hp; exact k.of (fun _ q => XS.dconst0 X.X.here X.hx rfl (X.d hd) rfl q)
theorem g_dconst1 (X : St Z n0 p l e R s vm0 m args below meth c own nm bytes ml ret T locs cells slots h) (hd : decode bytes pc = .ok (.dconst 1, 1)) (hp : pc + 1 = pc') (k : Go p e below K (T.setTop (mkF m pc' L (.double FP.dconst1 :: S)))) : Go p e below K (T.setTop (mkF m pc L S)) := by
  subst hp; exact k.of (fun _ q => XS.dconst1 X.X.here X.hx rfl (X.d hd) rfl q)
theorem g_i2d (X : St Z n0 p l e R s vm0 m args below meth c own nm bytes ml ret T locs cells slots h) {v : Int32} (hd : decode bytes pc = .ok (.i2d, 1)) (hp : pc + 1 = pc') (k : Go p e below K (T.setTop (mkF m pc' L (.double (FP.i2d v) :: S)))) : Go p e below K (T.setTop (mkF m pc L (.int v :: S))) := by
  subst hp; exact k.of (fun _ q => XS.i2dS X.X.here X.hx rfl (X.d hd) rfl rfl q)
theorem g_ddiv (X : St Z n0 p l e R s vm0 m args below meth c own nm bytes ml ret T locs cells slots h) {x y : UInt64} (hd : decode bytes pc = .ok (.ddiv, 1)) (hp : pc + 1 = pc') (hn : Jvm.Free.Fl.NoNaN64 (FP.ddiv x y)) (k : Go p e below K (T.setTop (mkF m pc' L (.double (FP.ddiv x y) :: S)))) : Go p e below K (T.setTop (mkF m pc L (.double y :: .double x :: S))) := by
  subst hp; exact k.of (fun _ q => XS.ddivS X.X.here X.hx rfl (X.d hd) rfl hn rfl q)
theorem g_dadd (X : St Z n0 p l e R s vm0 m args below meth c own nm bytes ml ret T locs cells slots h) {x y : UInt64} (hd : decode bytes pc = .ok (.dadd, 1)) (hp : pc + 1 = pc') (hn : Jvm.Free.Fl.NoNaN64 (FP.dadd x y)) (k : Go p e below K (T.setTop (mkF m pc' L (.double (FP.dadd x y) :: S)))) : Go p e below K (T.setTop (mkF m pc L (.double y :: .double x :: S))) := by
  subst hp; exact k.of (fun _ q => XS.daddS X.X.here X.hx rfl (X.d hd) rfl hn rfl q)
theorem g_dsub (X : St Z n0 p l e R s vm0 m args below meth c own nm bytes ml ret T locs cells slots h) {x y : UInt64} (hd : decode bytes pc = .ok (.dsub, 1)) (hp : pc + 1 = pc') (hn : Jvm.Free.Fl.NoNaN64 (FP.dsub x y)) (k : Go p e below K (T.setTop (mkF m pc' L (.double (FP.dsub x y) :: S)))) : Go p e below K (T.setTop (mkF m pc L (.double y :: .double x :: S))) := by
  subst hp; exact k.of (fun _ q => XS.dsubS X.X.here X.hx rfl (X.d hd) rfl hn rfl q)
theorem g_dmul (X : St Z n0 p l e R s vm0 m args below meth c own nm bytes ml ret T locs cells slots h) {x y : UInt64} (hd : decode bytes pc = .ok (.dmul, 1)) (hp : pc + 1 = pc') (hn : Jvm.Free.Fl.NoNaN64 (FP.dmul x y)) (k : Go p e below K (T.setTop (mkF m pc' L (.double (FP.dmul x y) :: S)))) : Go p e below K (T.setTop (mkF m pc L (.double y :: .double x :: S))) := by
  subst hp; exact k.of (fun _ q => XS.dmulS X.X.here X.hx rfl (X.d hd) rfl hn rfl q)
theorem g_dcmp (X : St Z n0 p l e R s vm0 m args below meth c own nm bytes ml ret T locs cells slots h) {x y : UInt64} {o : CmpOp} (hd : decode bytes pc = .ok (.dcmp o, 1)) (hp : pc + 1 = pc') (k : Go p e below K (T.setTop (mkF m pc' L (.int (cmpValue (FP.dcmp x y) o) :: S)))) : Go p e below K (T.setTop (mkF m pc L (.double y :: .double x :: S))) := by
  subst hp; exact k.of (fun _ q => XS.dcmpS X.X.here X.hx rfl (X.d hd) rfl rfl q)
theorem g_dneg (X : St Z n0 p l e R s vm0 m args below meth c own nm bytes ml ret T locs cells slots h) {x : UInt64} (hd : decode bytes pc = .ok (.dneg, 1)) (hp : pc + 1 = pc') (k : Go p e below K (T.setTop (mkF m pc' L (.double (FP.dneg x) :: S)))) : Go p e below K (T.setTop (mkF m pc L (.double x :: S))) := by
  subst hp; exact k.of (fun _ q => XS.dnegS X.X.here X.hx rfl (X.d hd) rfl rfl q)
theorem g_ldc2D (X : St Z n0 p l e R s vm0 m args below meth c own nm bytes ml ret T locs cells slots h) {i : Nat} {v : UInt64} (w : (Jvm.Cond.constantDouble own i v).before a0 Z = true) (hd : decode bytes pc = .ok (.ldc2_w i, 3)) (hp : pc + 3 = pc') (k : Go p e below K (T.setTop (mkF m pc' L (.double v :: S)))) : Go p e below K (T.setTop (mkF m pc L S)) := by
  subst hp; exact k.of (X.X.ldc2DoubleC X.hx X.own_ (mvT X.hZ w) (g := mkF m pc L S) rfl (X.d hd))
theorem g_goto (X : St Z n0 p l e R s vm0 m args below meth c own nm bytes ml ret T locs cells slots h) {o : Int} (hd : decode bytes pc = .ok (.goto o, 3)) (ho : (pc : Int) + o = (pt : Int)) (k : Go p e below K (T.setTop (mkF m pt L S))) : Go p e below K (T.setTop (mkF m pc L S)) :=
  k.of (fun _ q => XS.goto X.X.here X.hx rfl rfl (X.d hd) (ho ▸ Int.natCast_nonneg _) (by rw [ho]; rfl) q)
theorem g_icmp_eq_t (X : St Z n0 p l e R s vm0 m args below meth c own nm bytes ml ret T locs cells slots h) {x y : Int32} {o : Int} (hd : decode bytes pc = .ok (.if_icmp .eq o, 3)) (ho : (pc : Int) + o = (pt : Int)) (hc : x = y) (k : Go p e below K (T.setTop (mkF m pt L S))) : Go p e below K (T.setTop (mkF m pc L (.int y :: .int x :: S))) :=
  k.of (fun _ q => XS.icmpYes X.X.here X.hx rfl rfl (X.d hd) rfl ((teq hc).1) (ho ▸ Int.natCast_nonneg _) (by rw [ho]; rfl) q)
theorem g_icmp_eq_f (X : St Z n0 p l e R s vm0 m args below meth c own nm bytes ml ret T locs cells slots h) {x y : Int32} {o : Int} (hd : decode bytes pc = .ok (.if_icmp .eq o, 3)) (hp : pc + 3 = pc') (hc : ¬ x = y) (k : Go p e below K (T.setTop (mkF m pc' L S))) : Go p e below K (T.setTop (mkF m pc L (.int y :: .int x :: S))) := by
  subst hp; exact k.of (fun _ q => XS.icmpNo X.X.here X.hx rfl (X.d hd) rfl ((feq hc).1) q)
theorem g_icmp_eq (X : St Z n0 p l e R s vm0 m args below meth c own nm bytes ml ret T locs cells slots h) {x y : Int32} {o : Int} (hd : decode bytes pc = .ok (.if_icmp .eq o, 3)) (ho : (pc : Int) + o = (pt : Int)) (hp : pc + 3 = pc') (yes : x = y → Go p e below K (T.setTop (mkF m pt L S))) (no : ¬ x = y → Go p e below K (T.setTop (mkF m pc' L S))) : Go p e below K (T.setTop (mkF m pc L (.int y :: .int x :: S))) := by
  by_cases hc : x = y
  · exact g_icmp_eq_t X hd ho hc (yes hc)
  · exact g_icmp_eq_f X hd hp hc (no hc)
theorem g_if_eq_t (X : St Z n0 p l e R s vm0 m args below meth c own nm bytes ml ret T locs cells slots h) {x : Int32} {o : Int} (hd : decode bytes pc = .ok (.ifCond .eq o, 3)) (ho : (pc : Int) + o = (pt : Int)) (hc : x = 0) (k : Go p e below K (T.setTop (mkF m pt L S))) : Go p e below K (T.setTop (mkF m pc L (.int x :: S))) :=
  k.of (fun _ q => XS.ifYes X.X.here X.hx rfl rfl (X.d hd) rfl ((if0 _ _).trans ((teq hc).1)) (ho ▸ Int.natCast_nonneg _) (by rw [ho]; rfl) q)
theorem g_if_eq_f (X : St Z n0 p l e R s vm0 m args below meth c own nm bytes ml ret T locs cells slots h) {x : Int32} {o : Int} (hd : decode bytes pc = .ok (.ifCond .eq o, 3)) (hp : pc + 3 = pc') (hc : ¬ x = 0) (k : Go p e below K (T.setTop (mkF m pc' L S))) : Go p e below K (T.setTop (mkF m pc L (.int x :: S))) := by
  subst hp; exact k.of (fun _ q => XS.ifNo X.X.here X.hx rfl (X.d hd) rfl ((if0 _ _).trans ((feq hc).1)) q)
theorem g_if_eq (X : St Z n0 p l e R s vm0 m args below meth c own nm bytes ml ret T locs cells slots h) {x : Int32} {o : Int} (hd : decode bytes pc = .ok (.ifCond .eq o, 3)) (ho : (pc : Int) + o = (pt : Int)) (hp : pc + 3 = pc') (yes : x = 0 → Go p e below K (T.setTop (mkF m pt L S))) (no : ¬ x = 0 → Go p e below K (T.setTop (mkF m pc' L S))) : Go p e below K (T.setTop (mkF m pc L (.int x :: S))) := by
  by_cases hc : x = 0
  · exact g_if_eq_t X hd ho hc (yes hc)
  · exact g_if_eq_f X hd hp hc (no hc)
theorem g_icmp_ne_t (X : St Z n0 p l e R s vm0 m args below meth c own nm bytes ml ret T locs cells slots h) {x y : Int32} {o : Int} (hd : decode bytes pc = .ok (.if_icmp .ne o, 3)) (ho : (pc : Int) + o = (pt : Int)) (hc : ¬ x = y) (k : Go p e below K (T.setTop (mkF m pt L S))) : Go p e below K (T.setTop (mkF m pc L (.int y :: .int x :: S))) :=
  k.of (fun _ q => XS.icmpYes X.X.here X.hx rfl rfl (X.d hd) rfl ((feq hc).2) (ho ▸ Int.natCast_nonneg _) (by rw [ho]; rfl) q)
theorem g_icmp_ne_f (X : St Z n0 p l e R s vm0 m args below meth c own nm bytes ml ret T locs cells slots h) {x y : Int32} {o : Int} (hd : decode bytes pc = .ok (.if_icmp .ne o, 3)) (hp : pc + 3 = pc') (hc : x = y) (k : Go p e below K (T.setTop (mkF m pc' L S))) : Go p e below K (T.setTop (mkF m pc L (.int y :: .int x :: S))) := by
  subst hp; exact k.of (fun _ q => XS.icmpNo X.X.here X.hx rfl (X.d hd) rfl ((teq hc).2) q)
theorem g_icmp_ne (X : St Z n0 p l e R s vm0 m args below meth c own nm bytes ml ret T locs cells slots h) {x y : Int32} {o : Int} (hd : decode bytes pc = .ok (.if_icmp .ne o, 3)) (ho : (pc : Int) + o = (pt : Int)) (hp : pc + 3 = pc') (yes : ¬ x = y → Go p e below K (T.setTop (mkF m pt L S))) (no : x = y → Go p e below K (T.setTop (mkF m pc' L S))) : Go p e below K (T.setTop (mkF m pc L (.int y :: .int x :: S))) := by
  by_cases hc : x = y
  · exact g_icmp_ne_f X hd hp hc (no hc)
  · exact g_icmp_ne_t X hd ho hc (yes hc)
theorem g_if_ne_t (X : St Z n0 p l e R s vm0 m args below meth c own nm bytes ml ret T locs cells slots h) {x : Int32} {o : Int} (hd : decode bytes pc = .ok (.ifCond .ne o, 3)) (ho : (pc : Int) + o = (pt : Int)) (hc : ¬ x = 0) (k : Go p e below K (T.setTop (mkF m pt L S))) : Go p e below K (T.setTop (mkF m pc L (.int x :: S))) :=
  k.of (fun _ q => XS.ifYes X.X.here X.hx rfl rfl (X.d hd) rfl ((if0 _ _).trans ((feq hc).2)) (ho ▸ Int.natCast_nonneg _) (by rw [ho]; rfl) q)
theorem g_if_ne_f (X : St Z n0 p l e R s vm0 m args below meth c own nm bytes ml ret T locs cells slots h) {x : Int32} {o : Int} (hd : decode bytes pc = .ok (.ifCond .ne o, 3)) (hp : pc + 3 = pc') (hc : x = 0) (k : Go p e below K (T.setTop (mkF m pc' L S))) : Go p e below K (T.setTop (mkF m pc L (.int x :: S))) := by
  subst hp; exact k.of (fun _ q => XS.ifNo X.X.here X.hx rfl (X.d hd) rfl ((if0 _ _).trans ((teq hc).2)) q)
theorem g_if_ne (X : St Z n0 p l e R s vm0 m args below meth c own nm bytes ml ret T locs cells slots h) {x : Int32} {o : Int} (hd : decode bytes pc = .ok (.ifCond .ne o, 3)) (ho : (pc : Int) + o = (pt : Int)) (hp : pc + 3 = pc') (yes : ¬ x = 0 → Go p e below K (T.setTop (mkF m pt L S))) (no : x = 0 → Go p e below K (T.setTop (mkF m pc' L S))) : Go p e below K (T.setTop (mkF m pc L (.int x :: S))) := by
  by_cases hc : x = 0
  · exact g_if_ne_f X hd hp hc (no hc)
  · exact g_if_ne_t X hd ho hc (yes hc)
theorem g_icmp_lt_t (X : St Z n0 p l e R s vm0 m args below meth c own nm bytes ml ret T locs cells slots h) {x y : Int32} {o : Int} (hd : decode bytes pc = .ok (.if_icmp .lt o, 3)) (ho : (pc : Int) + o = (pt : Int)) (hc : x < y) (k : Go p e below K (T.setTop (mkF m pt L S))) : Go p e below K (T.setTop (mkF m pc L (.int y :: .int x :: S))) :=
  k.of (fun _ q => XS.icmpYes X.X.here X.hx rfl rfl (X.d hd) rfl ((tlt hc).1) (ho ▸ Int.natCast_nonneg _) (by rw [ho]; rfl) q)
theorem g_icmp_lt_f (X : St Z n0 p l e R s vm0 m args below meth c own nm bytes ml ret T locs cells slots h) {x y : Int32} {o : Int} (hd : decode bytes pc = .ok (.if_icmp .lt o, 3)) (hp : pc + 3 = pc') (hc : ¬ x < y) (k : Go p e below K (T.setTop (mkF m pc' L S))) : Go p e below K (T.setTop (mkF m pc L (.int y :: .int x :: S))) := by
  subst hp; exact k.of (fun _ q => XS.icmpNo X.X.here X.hx rfl (X.d hd) rfl ((flt hc).1) q)
theorem g_icmp_lt (X : St Z n0 p l e R s vm0 m args below meth c own nm bytes ml ret T locs cells slots h) {x y : Int32} {o : Int} (hd : decode bytes pc = .ok (.if_icmp .lt o, 3)) (ho : (pc : Int) + o = (pt : Int)) (hp : pc + 3 = pc') (yes : x < y → Go p e below K (T.setTop (mkF m pt L S))) (no : ¬ x < y → Go p e below K (T.setTop (mkF m pc' L S))) : Go p e below K (T.setTop (mkF m pc L (.int y :: .int x :: S))) := by
  by_cases hc : x < y
  · exact g_icmp_lt_t X hd ho hc (yes hc)
  · exact g_icmp_lt_f X hd hp hc (no hc)
theorem g_if_lt_t (X : St Z n0 p l e R s vm0 m args below meth c own nm bytes ml ret T locs cells slots h) {x : Int32} {o : Int} (hd : decode bytes pc = .ok (.ifCond .lt o, 3)) (ho : (pc : Int) + o = (pt : Int)) (hc : x < 0) (k : Go p e below K (T.setTop (mkF m pt L S))) : Go p e below K (T.setTop (mkF m pc L (.int x :: S))) :=
  k.of (fun _ q => XS.ifYes X.X.here X.hx rfl rfl (X.d hd) rfl ((if0 _ _).trans ((tlt hc).1)) (ho ▸ Int.natCast_nonneg _) (by rw [ho]; rfl) q)
theorem g_if_lt_f (X : St Z n0 p l e R s vm0 m args below meth c own nm bytes ml ret T locs cells slots h) {x : Int32} {o : Int} (hd : decode bytes pc = .ok (.ifCond .lt o, 3)) (hp : pc + 3 = pc') (hc : ¬ x < 0) (k : Go p e below K (T.setTop (mkF m pc' L S))) : Go p e below K (T.setTop (mkF m pc L (.int x :: S))) := by
  subst hp; exact k.of (fun _ q => XS.ifNo X.X.here X.hx rfl (X.d hd) rfl ((if0 _ _).trans ((flt hc).1)) q)
theorem g_if_lt (X : St Z n0 p l e R s vm0 m args below meth c own nm bytes ml ret T locs cells slots h) {x : Int32} {o : Int} (hd : decode bytes pc = .ok (.ifCond .lt o, 3)) (ho : (pc : Int) + o = (pt : Int)) (hp : pc + 3 = pc') (yes : x < 0 → Go p e below K (T.setTop (mkF m pt L S))) (no : ¬ x < 0 → Go p e below K (T.setTop (mkF m pc' L S))) : Go p e below K (T.setTop (mkF m pc L (.int x :: S))) := by
  by_cases hc : x < 0
  · exact g_if_lt_t X hd ho hc (yes hc)
  · exact g_if_lt_f X hd hp hc (no hc)
theorem g_icmp_ge_t (X : St Z n0 p l e R s vm0 m args below meth c own nm bytes ml ret T locs cells slots h) {x y : Int32} {o : Int} (hd : decode bytes pc = .ok (.if_icmp .ge o, 3)) (ho : (pc : Int) + o = (pt : Int)) (hc : ¬ x < y) (k : Go p e below K (T.setTop (mkF m pt L S))) : Go p e below K (T.setTop (mkF m pc L (.int y :: .int x :: S))) :=
  k.of (fun _ q => XS.icmpYes X.X.here X.hx rfl rfl (X.d hd) rfl ((flt hc).2.1) (ho ▸ Int.natCast_nonneg _) (by rw [ho]; rfl) q)
theorem g_icmp_ge_f (X : St Z n0 p l e R s vm0 m args below meth c own nm bytes ml ret T locs cells slots h) {x y : Int32} {o : Int} (hd : decode bytes pc = .ok (.if_icmp .ge o, 3)) (hp : pc + 3 = pc') (hc : x < y) (k : Go p e below K (T.setTop (mkF m pc' L S))) : Go p e below K (T.setTop (mkF m pc L (.int y :: .int x :: S))) := by
  subst hp; exact k.of (fun _ q => XS.icmpNo X.X.here X.hx rfl (X.d hd) rfl ((tlt hc).2.1) q)
theorem g_icmp_ge (X : St Z n0 p l e R s vm0 m args below meth c own nm bytes ml ret T locs cells slots h) {x y : Int32} {o : Int} (hd : decode bytes pc = .ok (.if_icmp .ge o, 3)) (ho : (pc : Int) + o = (pt : Int)) (hp : pc + 3 = pc') (yes : ¬ x < y → Go p e below K (T.setTop (mkF m pt L S))) (no : x < y → Go p e below K (T.setTop (mkF m pc' L S))) : Go p e below K (T.setTop (mkF m pc L (.int y :: .int x :: S))) := by
  by_cases hc : x < y
  · exact g_icmp_ge_f X hd hp hc (no hc)
  · exact g_icmp_ge_t X hd ho hc (yes hc)
theorem g_if_ge_t (X : St Z n0 p l e R s vm0 m args below meth c own nm bytes ml ret T locs cells slots h) {x : Int32} {o : Int} (hd : decode bytes pc = .ok (.ifCond .ge o, 3)) (ho : (pc : Int) + o = (pt : Int)) (hc : ¬ x < 0) (k : Go p e below K (T.setTop (mkF m pt L S))) : Go p e below K (T.setTop (mkF m pc L (.int x :: S))) :=
  k.of (fun _ q => XS.ifYes X.X.here X.hx rfl rfl (X.d hd) rfl ((if0 _ _).trans ((flt hc).2.1)) (ho ▸ Int.natCast_nonneg _) (by rw [ho]; rfl) q)
theorem g_if_ge_f (X : St Z n0 p l e R s vm0 m args below meth c own nm bytes ml ret T locs cells slots h) {x : Int32} {o : Int} (hd : decode bytes pc = .ok (.ifCond .ge o, 3)) (hp : pc + 3 = pc') (hc : x < 0) (k : Go p e below K (T.setTop (mkF m pc' L S))) : Go p e below K (T.setTop (mkF m pc L (.int x :: S))) := by
  subst hp; exact k.of (fun _ q => XS.ifNo X.X.here X.hx rfl (X.d hd) rfl ((if0 _ _).trans ((tlt hc).2.1)) q)
theorem g_if_ge (X : St Z n0 p l e R s vm0 m args below meth c own nm bytes ml ret T locs cells slots h) {x : Int32} {o : Int} (hd : decode bytes pc = .ok (.ifCond .ge o, 3)) (ho : (pc : Int) + o = (pt : Int)) (hp : pc + 3 = pc') (yes : ¬ x < 0 → Go p e below K (T.setTop (mkF m pt L S))) (no : x < 0 → Go p e below K (T.setTop (mkF m pc' L S))) : Go p e below K (T.setTop (mkF m pc L (.int x :: S))) := by
  by_cases hc : x < 0
  · exact g_if_ge_f X hd hp hc (no hc)
  · exact g_if_ge_t X hd ho hc (yes hc)
theorem g_icmp_gt_t (X : St Z n0 p l e R s vm0 m args below meth c own nm bytes ml ret T locs cells slots h) {x y : Int32} {o : Int} (hd : decode bytes pc = .ok (.if_icmp .gt o, 3)) (ho : (pc : Int) + o = (pt : Int)) (hc : y < x) (k : Go p e below K (T.setTop (mkF m pt L S))) : Go p e below K (T.setTop (mkF m pc L (.int y :: .int x :: S))) :=
  k.of (fun _ q => XS.icmpYes X.X.here X.hx rfl rfl (X.d hd) rfl ((tlt hc).2.2.1) (ho ▸ Int.natCast_nonneg _) (by rw [ho]; rfl) q)
theorem g_icmp_gt_f (X : St Z n0 p l e R s vm0 m args below meth c own nm bytes ml ret T locs cells slots h) {x y : Int32} {o : Int} (hd : decode bytes pc = .ok (.if_icmp .gt o, 3)) (hp : pc + 3 = pc') (hc : ¬ y < x) (k : Go p e below K (T.setTop (mkF m pc' L S))) : Go p e below K (T.setTop (mkF m pc L (.int y :: .int x :: S))) := by
  subst hp; exact k.of (fun _ q => XS.icmpNo X.X.here X.hx rfl (X.d hd) rfl ((flt hc).2.2.1) q)
theorem g_icmp_gt (X : St Z n0 p l e R s vm0 m args below meth c own nm bytes ml ret T locs cells slots h) {x y : Int32} {o : Int} (hd : decode bytes pc = .ok (.if_icmp .gt o, 3)) (ho : (pc : Int) + o = (pt : Int)) (hp : pc + 3 = pc') (yes : y < x → Go p e below K (T.setTop (mkF m pt L S))) (no : ¬ y < x → Go p e below K (T.setTop (mkF m pc' L S))) : Go p e below K (T.setTop (mkF m pc L (.int y :: .int x :: S))) := by
  by_cases hc : y < x
  · exact g_icmp_gt_t X hd ho hc (yes hc)
  · exact g_icmp_gt_f X hd hp hc (no hc)
theorem g_if_gt_t (X : St Z n0 p l e R s vm0 m args below meth c own nm bytes ml ret T locs cells slots h) {x : Int32} {o : Int} (hd : decode bytes pc = .ok (.ifCond .gt o, 3)) (ho : (pc : Int) + o = (pt : Int)) (hc : 0 < x) (k : Go p e below K (T.setTop (mkF m pt L S))) : Go p e below K (T.setTop (mkF m pc L (.int x :: S))) :=
  k.of (fun _ q => XS.ifYes X.X.here X.hx rfl rfl (X.d hd) rfl ((if0 _ _).trans ((tlt hc).2.2.1)) (ho ▸ Int.natCast_nonneg _) (by rw [ho]; rfl) q)
theorem g_if_gt_f (X : St Z n0 p l e R s vm0 m args below meth c own nm bytes ml ret T locs cells slots h) {x : Int32} {o : Int} (hd : decode bytes pc = .ok (.ifCond .gt o, 3)) (hp : pc + 3 = pc') (hc : ¬ 0 < x) (k : Go p e below K (T.setTop (mkF m pc' L S))) : Go p e below K (T.setTop (mkF m pc L (.int x :: S))) := by
  subst hp; exact k.of (fun _ q => XS.ifNo X.X.here X.hx rfl (X.d hd) rfl ((if0 _ _).trans ((flt hc).2.2.1)) q)
theorem g_if_gt (X : St Z n0 p l e R s vm0 m args below meth c own nm bytes ml ret T locs cells slots h) {x : Int32} {o : Int} (hd : decode bytes pc = .ok (.ifCond .gt o, 3)) (ho : (pc : Int) + o = (pt : Int)) (hp : pc + 3 = pc') (yes : 0 < x → Go p e below K (T.setTop (mkF m pt L S))) (no : ¬ 0 < x → Go p e below K (T.setTop (mkF m pc' L S))) : Go p e below K (T.setTop (mkF m pc L (.int x :: S))) := by
  by_cases hc : 0 < x
  · exact g_if_gt_t X hd ho hc (yes hc)
  · exact g_if_gt_f X hd hp hc (no hc)
theorem g_icmp_le_t (X : St Z n0 p l e R s vm0 m args below meth c own nm bytes ml ret T locs cells slots h) {x y : Int32} {o : Int} (hd : decode bytes pc = .ok (.if_icmp .le o, 3)) (ho : (pc : Int) + o = (pt : Int)) (hc : ¬ y < x) (k : Go p e below K (T.setTop (mkF m pt L S))) : Go p e below K (T.setTop (mkF m pc L (.int y :: .int x :: S))) :=
  k.of (fun _ q => XS.icmpYes X.X.here X.hx rfl rfl (X.d hd) rfl ((flt hc).2.2.2) (ho ▸ Int.natCast_nonneg _) (by rw [ho]; rfl) q)
theorem g_icmp_le_f (X : St Z n0 p l e R s vm0 m args below meth c own nm bytes ml ret T locs cells slots h) {x y : Int32} {o : Int} (hd : decode bytes pc = .ok (.if_icmp .le o, 3)) (hp : pc + 3 = pc') (hc : y < x) (k : Go p e below K (T.setTop (mkF m pc' L S))) : Go p e below K (T.setTop (mkF m pc L (.int y :: .int x :: S))) := by
  subst hp; exact k.of (fun _ q => XS.icmpNo X.X.here X.hx rfl (X.d hd) rfl ((tlt hc).2.2.2) q)
theorem g_icmp_le (X : St Z n0 p l e R s vm0 m args below meth c own nm bytes ml ret T locs cells slots h) {x y : Int32} {o : Int} (hd : decode bytes pc = .ok (.if_icmp .le o, 3)) (ho : (pc : Int) + o = (pt : Int)) (hp : pc + 3 = pc') (yes : ¬ y < x → Go p e below K (T.setTop (mkF m pt L S))) (no : y < x → Go p e below K (T.setTop (mkF m pc' L S))) : Go p e below K (T.setTop (mkF m pc L (.int y :: .int x :: S))) := by
  by_cases hc : y < x
  · exact g_icmp_le_f X hd hp hc (no hc)
  · exact g_icmp_le_t X hd ho hc (yes hc)
theorem g_if_le_t (X : St Z n0 p l e R s vm0 m args below meth c own nm bytes ml ret T locs cells slots h) {x : Int32} {o : Int} (hd : decode bytes pc = .ok (.ifCond .le o, 3)) (ho : (pc : Int) + o = (pt : Int)) (hc : ¬ 0 < x) (k : Go p e below K (T.setTop (mkF m pt L S))) : Go p e below K (T.setTop (mkF m pc L (.int x :: S))) :=
  k.of (fun _ q => XS.ifYes X.X.here X.hx rfl rfl (X.d hd) rfl ((if0 _ _).trans ((flt hc).2.2.2)) (ho ▸ Int.natCast_nonneg _) (by rw [ho]; rfl) q)
theorem g_if_le_f (X : St Z n0 p l e R s vm0 m args below meth c own nm bytes ml ret T locs cells slots h) {x : Int32} {o : Int} (hd : decode bytes pc = .ok (.ifCond .le o, 3)) (hp : pc + 3 = pc') (hc : 0 < x) (k : Go p e below K (T.setTop (mkF m pc' L S))) : Go p e below K (T.setTop (mkF m pc L (.int x :: S))) := by
  subst hp; exact k.of (fun _ q => XS.ifNo X.X.here X.hx rfl (X.d hd) rfl ((if0 _ _).trans ((tlt hc).2.2.2)) q)
theorem g_if_le (X : St Z n0 p l e R s vm0 m args below meth c own nm bytes ml ret T locs cells slots h) {x : Int32} {o : Int} (hd : decode bytes pc = .ok (.ifCond .le o, 3)) (ho : (pc : Int) + o = (pt : Int)) (hp : pc + 3 = pc') (yes : ¬ 0 < x → Go p e below K (T.setTop (mkF m pt L S))) (no : 0 < x → Go p e below K (T.setTop (mkF m pc' L S))) : Go p e below K (T.setTop (mkF m pc L (.int x :: S))) := by
  by_cases hc : 0 < x
  · exact g_if_le_f X hd hp hc (no hc)
  · exact g_if_le_t X hd ho hc (yes hc)
theorem g_lcmp_eq (X : St Z n0 p l e R s vm0 m args below meth c own nm bytes ml ret T locs cells slots h) {x y : Int64} {o : Int} (hd : decode bytes pc = .ok (.lcmp, 1)) (hd' : decode bytes (pc + 1) = .ok (.ifCond .eq o, 3)) (ho : ((pc + 1 : Nat) : Int) + o = (pt : Int)) (hp : pc + 1 + 3 = pc') (yes : x = y → Go p e below K (T.setTop (mkF m pt L S))) (no : ¬ x = y → Go p e below K (T.setTop (mkF m pc' L S))) : Go p e below K (T.setTop (mkF m pc L (.long y :: .long x :: S))) := by
  refine g_lcmp X hd rfl ?_
  refine g_if_eq X hd' ho hp (fun q => yes ?_) (fun q => no ?_)
  · rwa [lw_eq] at q
  · rwa [lw_eq] at q
theorem g_lcmp_ne (X : St Z n0 p l e R s vm0 m args below meth c own nm bytes ml ret T locs cells slots h) {x y : Int64} {o : Int} (hd : decode bytes pc = .ok (.lcmp, 1)) (hd' : decode bytes (pc + 1) = .ok (.ifCond .ne o, 3)) (ho : ((pc + 1 : Nat) : Int) + o = (pt : Int)) (hp : pc + 1 + 3 = pc') (yes : ¬ x = y → Go p e below K (T.setTop (mkF m pt L S))) (no : x = y → Go p e below K (T.setTop (mkF m pc' L S))) : Go p e below K (T.setTop (mkF m pc L (.long y :: .long x :: S))) := by
  refine g_lcmp X hd rfl ?_
  refine g_if_ne X hd' ho hp (fun q => yes ?_) (fun q => no ?_)
  · rwa [lw_eq] at q
  · rwa [lw_eq] at q
theorem g_lcmp_lt (X : St Z n0 p l e R s vm0 m args below meth c own nm bytes ml ret T locs cells slots h) {x y : Int64} {o : Int} (hd : decode bytes pc = .ok (.lcmp, 1)) (hd' : decode bytes (pc + 1) = .ok (.ifCond .lt o, 3)) (ho : ((pc + 1 : Nat) : Int) + o = (pt : Int)) (hp : pc + 1 + 3 = pc') (yes : x < y → Go p e below K (T.setTop (mkF m pt L S))) (no : ¬ x < y → Go p e below K (T.setTop (mkF m pc' L S))) : Go p e below K (T.setTop (mkF m pc L (.long y :: .long x :: S))) := by
  refine g_lcmp X hd rfl ?_
  refine g_if_lt X hd' ho hp (fun q => yes ?_) (fun q => no ?_)
  · rwa [lw_lt] at q
  · rwa [lw_lt] at q
theorem g_lcmp_ge (X : St Z n0 p l e R s vm0 m args below meth c own nm bytes ml ret T locs cells slots h) {x y : Int64} {o : Int} (hd : decode bytes pc = .ok (.lcmp, 1)) (hd' : decode bytes (pc + 1) = .ok (.ifCond .ge o, 3)) (ho : ((pc + 1 : Nat) : Int) + o = (pt : Int)) (hp : pc + 1 + 3 = pc') (yes : ¬ x < y → Go p e below K (T.setTop (mkF m pt L S))) (no : x < y → Go p e below K (T.setTop (mkF m pc' L S))) : Go p e below K (T.setTop (mkF m pc L (.long y :: .long x :: S))) := by
  refine g_lcmp X hd rfl ?_
  refine g_if_ge X hd' ho hp (fun q => yes ?_) (fun q => no ?_)
  · rwa [lw_lt] at q
  · rwa [lw_lt] at q
theorem g_lcmp_gt (X : St Z n0 p l e R s vm0 m args below meth c own nm bytes ml ret T locs cells slots h) {x y : Int64} {o : Int} (hd : decode bytes pc = .ok (.lcmp, 1)) (hd' : decode bytes (pc + 1) = .ok (.ifCond .gt o, 3)) (ho : ((pc + 1 : Nat) : Int) + o = (pt : Int)) (hp : pc + 1 + 3 = pc') (yes : y < x → Go p e below K (T.setTop (mkF m pt L S))) (no : ¬ y < x → Go p e below K (T.setTop (mkF m pc' L S))) : Go p e below K (T.setTop (mkF m pc L (.long y :: .long x :: S))) := by
  refine g_lcmp X hd rfl ?_
  refine g_if_gt X hd' ho hp (fun q => yes ?_) (fun q => no ?_)
  · rwa [lw_gt] at q
  · rwa [lw_gt] at q
theorem g_lcmp_le (X : St Z n0 p l e R s vm0 m args below meth c own nm bytes ml ret T locs cells slots h) {x y : Int64} {o : Int} (hd : decode bytes pc = .ok (.lcmp, 1)) (hd' : decode bytes (pc + 1) = .ok (.ifCond .le o, 3)) (ho : ((pc + 1 : Nat) : Int) + o = (pt : Int)) (hp : pc + 1 + 3 = pc') (yes : ¬ y < x → Go p e below K (T.setTop (mkF m pt L S))) (no : y < x → Go p e below K (T.setTop (mkF m pc' L S))) : Go p e below K (T.setTop (mkF m pc L (.long y :: .long x :: S))) := by
  refine g_lcmp X hd rfl ?_
  refine g_if_le X hd' ho hp (fun q => yes ?_) (fun q => no ?_)
  · rwa [lw_gt] at q
  · rwa [lw_gt] at q
theorem g_ifnull_t (X : St Z n0 p l e R s vm0 m args below meth c own nm bytes ml ret T locs cells slots h) {o : Int} (hd : decode bytes pc = .ok (.ifnull o, 3)) (ho : (pc : Int) + o = (pt : Int)) (k : Go p e below K (T.setTop (mkF m pt L S))) : Go p e below K (T.setTop (mkF m pc L (.null :: S))) :=
  k.of (fun _ q => XS.ifnullYes X.X.here X.hx rfl rfl (X.d hd) rfl (ho ▸ Int.natCast_nonneg _) (by rw [ho]; rfl) q)
theorem g_ifnull_f (X : St Z n0 p l e R s vm0 m args below meth c own nm bytes ml ret T locs cells slots h) {o : Int} {a : Addr} (hd : decode bytes pc = .ok (.ifnull o, 3)) (hp : pc + 3 = pc') (k : Go p e below K (T.setTop (mkF m pc' L S))) : Go p e below K (T.setTop (mkF m pc L (.ref a :: S))) := by
  subst hp; exact k.of (fun _ q => XS.ifnullNo X.X.here X.hx rfl (X.d hd) rfl q)
theorem g_ifnonnull_t (X : St Z n0 p l e R s vm0 m args below meth c own nm bytes ml ret T locs cells slots h) {o : Int} {a : Addr} (hd : decode bytes pc = .ok (.ifnonnull o, 3)) (ho : (pc : Int) + o = (pt : Int)) (k : Go p e below K (T.setTop (mkF m pt L S))) : Go p e below K (T.setTop (mkF m pc L (.ref a :: S))) :=
  k.of (fun _ q => XS.ifnonnullYes X.X.here X.hx rfl rfl (X.d hd) rfl (ho ▸ Int.natCast_nonneg _) (by rw [ho]; rfl) q)
theorem g_ifnonnull_f (X : St Z n0 p l e R s vm0 m args below meth c own nm bytes ml ret T locs cells slots h) {o : Int} (hd : decode bytes pc = .ok (.ifnonnull o, 3)) (hp : pc + 3 = pc') (k : Go p e below K (T.setTop (mkF m pc' L S))) : Go p e below K (T.setTop (mkF m pc L (.null :: S))) := by
  subst hp; exact k.of (fun _ q => XS.ifnonnullNo X.X.here X.hx rfl (X.d hd) rfl q)
theorem g_acmp (X : St Z n0 p l e R s vm0 m args below meth c own nm bytes ml ret T locs cells slots h) {cd : ACond} {x y : Value} {o : Int} {same : Bool} (h1 : x.isRef = true) (h2 : y.isRef = true) (hd : decode bytes pc = .ok (.if_acmp cd o, 3)) (ho : (pc : Int) + o = (pt : Int)) (hq : decide (x = y) = same) (hp : pc' = if acV cd same = true then pt else pc + 3) (k : Go p e below K (T.setTop (mkF m pc' L S))) : Go p e below K (T.setTop (mkF m pc L (y :: x :: S))) :=
  k.of (fun _ q => Jvm.RoadKit.acmp X.X X.hx rfl h1 h2 rfl (X.d hd) rfl hq (ho ▸ Int.natCast_nonneg _) (by rw [hp, ho]; rfl) q)
theorem g_acmp_eq (X : St Z n0 p l e R s vm0 m args below meth c own nm bytes ml ret T locs cells slots h) {a b : Addr} {o : Int} (hd : decode bytes pc = .ok (.if_acmp .eq o, 3)) (ho : (pc : Int) + o = (pt : Int)) (hp : pc + 3 = pc') (yes : a = b → Go p e below K (T.setTop (mkF m pt L S))) (no : ¬ a = b → Go p e below K (T.setTop (mkF m pc' L S))) : Go p e below K (T.setTop (mkF m pc L (.ref b :: .ref a :: S))) := by
  subst hp
  by_cases hc : a = b
  · exact g_acmp X (same := true) rfl rfl hd ho (decide_eq_true (congrArg Value.ref hc)) rfl (yes hc)
  · exact g_acmp X (same := false) rfl rfl hd ho (decide_eq_false fun q => hc (Value.ref.inj q)) rfl (no hc)
theorem g_acmp_ne (X : St Z n0 p l e R s vm0 m args below meth c own nm bytes ml ret T locs cells slots h) {a b : Addr} {o : Int} (hd : decode bytes pc = .ok (.if_acmp .ne o, 3)) (ho : (pc : Int) + o = (pt : Int)) (hp : pc + 3 = pc') (yes : ¬ a = b → Go p e below K (T.setTop (mkF m pt L S))) (no : a = b → Go p e below K (T.setTop (mkF m pc' L S))) : Go p e below K (T.setTop (mkF m pc L (.ref b :: .ref a :: S))) := by
  subst hp
  by_cases hc : a = b
  · exact g_acmp X (same := true) rfl rfl hd ho (decide_eq_true (congrArg Value.ref hc)) rfl (no hc)
  · exact g_acmp X (same := false) rfl rfl hd ho (decide_eq_false fun q => hc (Value.ref.inj q)) rfl (yes hc)
theorem g_ldc (X : St Z n0 p l e R s vm0 m args below meth c own nm bytes ml ret T locs cells slots h) {i : Nat} {v : Int32} (w : (Jvm.Cond.constant own i v).before a0 Z = true) (hd : decode bytes pc = .ok (.ldc i, 2)) (hp : pc + 2 = pc') (k : Go p e below K (T.setTop (mkF m pc' L (.int v :: S)))) : Go p e below K (T.setTop (mkF m pc L S)) := by
  subst hp; exact k.of (X.X.ldcInt X.hx X.own_ (mvT X.hZ w) (g := mkF m pc L S) rfl (X.d hd))
theorem g_ldc2 (X : St Z n0 p l e R s vm0 m args below meth c own nm bytes ml ret T locs cells slots h) {i : Nat} {v : Int64} (w : (Jvm.Cond.constantLong own i v).before a0 Z = true) (hd : decode bytes pc = .ok (.ldc2_w i, 3)) (hp : pc + 3 = pc') (k : Go p e below K (T.setTop (mkF m pc' L (.long v :: S)))) : Go p e below K (T.setTop (mkF m pc L S)) := by
  subst hp; exact k.of (X.X.ldc2Long X.hx X.own_ (mvT X.hZ w) (g := mkF m pc L S) rfl (X.d hd))
theorem g_getF (X : St Z n0 p l e R s vm0 m args below meth c own nm bytes ml ret T locs cells slots h) {R0 O n d host : String} {i : Nat} {a : Addr} {v : Value} (w : (Jvm.Cond.fieldLink own i R0 n d).before a0 Z = true ∨ (Jvm.Cond.fieldLinkNest own i R0 n d host).before a0 Z = true) (via : Via Z R0 O n d) (F : Fld Z h a O n d v) (hd : decode bytes pc = .ok (.getfield i, 3)) (hp : pc + 3 = pc') (k : ∀ T', St Z n0 p l e R s vm0 m args below meth c own nm bytes ml ret T' locs cells slots h → Go p e below K (T'.setTop (mkF m pc' L (v :: S)))) : Go p e below K (T.setTop (mkF m pc L (.ref a :: S))) := by
  obtain ⟨T', X', e', st'⟩ := getF X.X X.hx X.hZ X.own_ w via X.eT F (g := mkF m pc L (.ref a :: S)) rfl rfl (X.d hd)
  subst hp; exact (k T' (X.to X' e' X.fr X.old (Nat.le_refl _))).of st'
theorem g_getS (X : St Z n0 p l e R s vm0 m args below meth c own nm bytes ml ret T locs cells slots h) {O n d : String} {i : Nat} {v : Value} (w : (Jvm.Cond.fieldLink own i O n d).before a0 Z = true) (F : Sta Z h O n d v) (hd : decode bytes pc = .ok (.getstatic i, 3)) (hp : pc + 3 = pc') (k : ∀ T', St Z n0 p l e R s vm0 m args below meth c own nm bytes ml ret T' locs cells slots h → Go p e below K (T'.setTop (mkF m pc' L (v :: S)))) : Go p e below K (T.setTop (mkF m pc L S)) := by
  obtain ⟨T', X', e', st'⟩ := getS X.X X.hx X.hZ (host := "") X.own_ w Via.refl X.eT F (g := mkF m pc L S) rfl (X.d hd)
  subst hp; exact (k T' (X.to X' e' X.fr X.old (Nat.le_refl _))).of st'
theorem g_putF (X : St Z n0 p l e R s vm0 m args below meth c own nm bytes ml ret T locs cells slots h) {R0 O n d host C : String} {i kk : Nat} {ty : FieldType} {a : Addr} {v old : Value} (w : (Jvm.Cond.fieldLink own i R0 n d).before a0 Z = true ∨ (Jvm.Cond.fieldLinkNest own i R0 n d host).before a0 Z = true) (via : Via Z R0 O n d) (F : Fld Z h a O n d old) (E : Exa Z h a C)
    (La : (Jvm.Cond.lays C O n d).before a0 Z = true ∨ ((Jvm.Cond.laysFinal C O n d).before a0 Z = true ∧ own = O ∧ nm = "<init>")) (wi : (Jvm.Cond.instantiable C kk).before a0 Z = true) (hty : parseFieldDescriptor d = some ty) (hn : narrow ty v = v) (hf : fits ty v = true) (ga : n0 ≤ a) (hd : decode bytes pc = .ok (.putfield i, 3)) (hp : pc + 3 = pc') (k : ∀ T' h', St Z n0 p l e R s vm0 m args below meth c own nm bytes ml ret T' (locs ++ [⟨a, Jvm.RoadKit.slotOf Z O n d⟩]) cells slots h' → Wr h h' a (Jvm.RoadKit.slotOf Z O n d) v → Go p e below K (T'.setTop (mkF m pc' L S))) : Go p e below K (T.setTop (mkF m pc L (v :: .ref a :: S))) := by
  obtain ⟨T', h', X', e', W, st'⟩ := putF X.X X.hx X.hZ X.own_ w via X.eT F E (La.imp id fun q => ⟨q.1, q.2.1, X.nm_.trans q.2.2⟩) wi hty hn hf (g := mkF m pc L (v :: .ref a :: S)) rfl rfl (X.d hd)
  subst hp; exact (k T' h' (X.to X' e' (Fr.snoc X' X.fr ga) (X.old.wr W ga) (Nat.le_of_eq W.size.symm)) W).of st'
theorem g_putFN (X : St Z n0 p l e R s vm0 m args below meth c own nm bytes ml ret T locs cells slots h) {R0 O n d C : String} {i kk : Nat} {ty : FieldType} {a : Addr} {v v' old : Value} (w : (Jvm.Cond.fieldLink own i R0 n d).before a0 Z = true) (via : Via Z R0 O n d) (F : Fld Z h a O n d old) (E : Exa Z h a C)
    (La : (Jvm.Cond.lays C O n d).before a0 Z = true ∨ ((Jvm.Cond.laysFinal C O n d).before a0 Z = true ∧ own = O ∧ nm = "<init>")) (wi : (Jvm.Cond.instantiable C kk).before a0 Z = true) (hty : parseFieldDescriptor d = some ty) (hn : narrow ty v = v') (hf : fits ty v' = true) (ga : n0 ≤ a) (hd : decode bytes pc = .ok (.putfield i, 3)) (hp : pc + 3 = pc') (k : ∀ T' h', St Z n0 p l e R s vm0 m args below meth c own nm bytes ml ret T' (locs ++ [⟨a, Jvm.RoadKit.slotOf Z O n d⟩]) cells slots h' → Wr h h' a (Jvm.RoadKit.slotOf Z O n d) v' → Go p e below K (T'.setTop (mkF m pc' L S))) : Go p e below K (T.setTop (mkF m pc L (v :: .ref a :: S))) := by
  obtain ⟨T', h', X', e', W, st'⟩ := putFN X.X X.hx X.hZ X.own_ w via X.eT F E (La.imp id fun q => ⟨q.1, q.2.1, X.nm_.trans q.2.2⟩) wi hty hn hf (g := mkF m pc L (v :: .ref a :: S)) rfl rfl (X.d hd)
  subst hp; exact (k T' h' (X.to X' e' (Fr.snoc X' X.fr ga) (X.old.wr W ga) (Nat.le_of_eq W.size.symm)) W).of st'
theorem g_new (X : St Z n0 p l e R s vm0 m args below meth c own nm bytes ml ret T locs cells slots h) {C : String} {i n : Nat} (w : (Jvm.Cond.classLink own i C).before a0 Z = true) (wi : (Jvm.Cond.instantiable C n).before a0 Z = true) (wz : (Jvm.Cond.initialized C).before a0 Z = true) (hd : decode bytes pc = .ok (.new i, 3)) (hp : pc + 3 = pc') (hc : cells + 1 ≤ R.cells) (hl : slots + n ≤ R.slots)
    (k : ∀ T' h' a, St Z n0 p l e R s vm0 m args below meth c own nm bytes ml ret T' locs (cells + 1) (slots + n) h' → a = h.size → Ext h h' → Exa Z h' a C → (∀ {O nm d : String} {ty : FieldType}, Laid Z a0 C O nm d → parseFieldDescriptor d = some ty → Fld Z h' a O nm d (defaultValue ty)) → n0 ≤ a → Go p e below K (T'.setTop (mkF m pc' L (.ref a :: S)))) : Go p e below K (T.setTop (mkF m pc L S)) := by
  obtain ⟨T', h', X', e', E, A, D, -, st'⟩ := newO X.X X.hx X.hZ X.own_ w wi wz X.eT (g := mkF m pc L S) rfl (X.d hd) hc hl
  subst hp; exact (k T' h' _ (X.to X' e' X.fr (X.old.ext E) E.1) rfl E A D X.sz).of st'
theorem g_initO (X : St Z n0 p l e R s vm0 m args below meth c own nm bytes ml ret T locs cells slots h) {i : Nat} {a : Addr} (w1 : (Jvm.Cond.methodLink own i Lib.objectInit).before a0 Z = true) (w2 : (Jvm.Cond.instanceMethod Lib.objectInit).before a0 Z = true) (w3 : (Jvm.Cond.code Lib.objectInit ⟨#[0xb1]⟩ 1 none).before a0 Z = true) (hL : L.size = ml) (hd : decode bytes pc = .ok (.invokespecial i, 3)) (hp : pc + 3 = pc') (hf : 1 ≤ R.frames) {W : Nat} (hW : (S.map fun v => v.category).sum = W) (hl : W + 12 ≤ R.locals) (k : ∀ T', St Z n0 p l e R s vm0 m args below meth c own nm bytes ml ret T' locs cells slots h → Go p e below K (T'.setTop (mkF m pc' L S))) : Go p e below K (T.setTop (mkF m pc L (.ref a :: S))) := by
  obtain ⟨T', X', e', st'⟩ := initO X.X X.hx X.hZ X.own_ w1 w2 w3 X.eT (g := mkF m pc L (.ref a :: S)) rfl (by rw [X.ml_]; exact hL) rfl (X.d hd) hf (W := W) (by show 2 * 0 + _ ≤ _; rw [hW, Nat.mul_zero, Nat.zero_add]; exact Nat.le_refl _) hl
  subst hp; exact (k T' (X.to X' e' X.fr X.old (Nat.le_refl _))).of st'
theorem g_castNull (X : St Z n0 p l e R s vm0 m args below meth c own nm bytes ml ret T locs cells slots h) {i : Nat} (hd : decode bytes pc = .ok (.checkcast i, 3)) (hp : pc + 3 = pc') (k : Go p e below K (T.setTop (mkF m pc' L (.null :: S)))) : Go p e below K (T.setTop (mkF m pc L (.null :: S))) := by
  subst hp; exact k.of (fun _ q => X.X.checkcastNull X.hx (g := mkF m pc L (.null :: S)) rfl rfl (X.d hd) _ q)
theorem g_instNull (X : St Z n0 p l e R s vm0 m args below meth c own nm bytes ml ret T locs cells slots h) {i : Nat} (hd : decode bytes pc = .ok (.instanceof i, 3)) (hp : pc + 3 = pc') (k : Go p e below K (T.setTop (mkF m pc' L (.int 0 :: S)))) : Go p e below K (T.setTop (mkF m pc L (.null :: S))) := by
  subst hp; exact k.of (fun _ q => X.X.instanceofNull X.hx (g := mkF m pc L (.null :: S)) rfl rfl (X.d hd) _ q)
theorem g_cast (X : St Z n0 p l e R s vm0 m args below meth c own nm bytes ml ret T locs cells slots h) {k0 : String} {i : Nat} {a : Addr} (w : (Jvm.Cond.classLink own i k0).before a0 Z = true) (F : Ins Z h a k0 true) (hd : decode bytes pc = .ok (.checkcast i, 3)) (hp : pc + 3 = pc') (k : ∀ T', St Z n0 p l e R s vm0 m args below meth c own nm bytes ml ret T' locs cells slots h → Go p e below K (T'.setTop (mkF m pc' L (.ref a :: S)))) : Go p e below K (T.setTop (mkF m pc L (.ref a :: S))) := by
  obtain ⟨T', X', e', st'⟩ := castY X.X X.hx X.hZ X.own_ w X.eT F (g := mkF m pc L (.ref a :: S)) rfl rfl (X.d hd)
  subst hp; exact (k T' (X.to X' e' X.fr X.old (Nat.le_refl _))).of st'
theorem g_inst (X : St Z n0 p l e R s vm0 m args below meth c own nm bytes ml ret T locs cells slots h) {k0 : String} {i : Nat} {a : Addr} (w : (Jvm.Cond.classLink own i k0).before a0 Z = true) (F : Ins Z h a k0 true) (hd : decode bytes pc = .ok (.instanceof i, 3)) (hp : pc + 3 = pc') (k : ∀ T', St Z n0 p l e R s vm0 m args below meth c own nm bytes ml ret T' locs cells slots h → Go p e below K (T'.setTop (mkF m pc' L (.int 1 :: S)))) : Go p e below K (T.setTop (mkF m pc L (.ref a :: S))) := by
  obtain ⟨T', X', e', st'⟩ := instY X.X X.hx X.hZ X.own_ w X.eT F (g := mkF m pc L (.ref a :: S)) rfl rfl (X.d hd)
  subst hp; exact (k T' (X.to X' e' X.fr X.old (Nat.le_refl _))).of st'
theorem g_instN (X : St Z n0 p l e R s vm0 m args below meth c own nm bytes ml ret T locs cells slots h) {k0 c0 : String} {i : Nat} {a : Addr} (w : (Jvm.Cond.classLink own i k0).before a0 Z = true) (F : Ins Z s.heap a k0 false) (E : Exa Z s.heap a c0) (hd : decode bytes pc = .ok (.instanceof i, 3)) (hp : pc + 3 = pc') (k : ∀ T', St Z n0 p l e R s vm0 m args below meth c own nm bytes ml ret T' locs cells slots h → Go p e below K (T'.setTop (mkF m pc' L (.int 0 :: S)))) : Go p e below K (T.setTop (mkF m pc L (.ref a :: S))) := by
  obtain ⟨T', X', e', st'⟩ := instN X.X X.hx X.hZ X.own_ w X.eT F E (g := mkF m pc L (.ref a :: S)) rfl rfl (X.d hd)
  subst hp; exact (k T' (X.to X' e' X.fr X.old (Nat.le_refl _))).of st'
theorem g_iaload (X : St Z n0 p l e R s vm0 m args below meth c own nm bytes ml ret T locs cells slots h) {a : Addr} {j : Int32} {i : Nat} {v : Value} {vs : List Value} (A : Arx Z h a .int vs) (hj : j.toInt = (i : Int)) (hv : vs[i]? = some v) (hd : decode bytes pc = .ok (.iaload, 1)) (hp : pc + 1 = pc') (k : Go p e below K (T.setTop (mkF m pc' L (v :: S)))) : Go p e below K (T.setTop (mkF m pc L (.int j :: .ref a :: S))) := by
  obtain ⟨cl, A, q, -⟩ := A
  obtain ⟨hin, hi⟩ := arx_in q hj (List.getElem?_eq_some_iff.mp hv).1
  subst hp; exact k.of (fun _ z => X.X.iaload X.hx (by rw [X.eT]; exact A.1) (State.isArrayOf_alike X.hZ.alike A.2.1) A.2.2 hin (by rw [hi]; exact arx_at q hv) (g := mkF m pc L (.int j :: .ref a :: S)) rfl rfl (X.d hd) _ z)
theorem g_laload (X : St Z n0 p l e R s vm0 m args below meth c own nm bytes ml ret T locs cells slots h) {a : Addr} {j : Int32} {i : Nat} {v : Value} {vs : List Value} (A : Arx Z h a .long vs) (hj : j.toInt = (i : Int)) (hv : vs[i]? = some v) (hd : decode bytes pc = .ok (.laload, 1)) (hp : pc + 1 = pc') (k : Go p e below K (T.setTop (mkF m pc' L (v :: S)))) : Go p e below K (T.setTop (mkF m pc L (.int j :: .ref a :: S))) := by
  obtain ⟨cl, A, q, -⟩ := A
  obtain ⟨hin, hi⟩ := arx_in q hj (List.getElem?_eq_some_iff.mp hv).1
  subst hp; exact k.of (fun _ z => X.X.laload X.hx (by rw [X.eT]; exact A.1) (State.isArrayOf_alike X.hZ.alike A.2.1) A.2.2 hin (by rw [hi]; exact arx_at q hv) (g := mkF m pc L (.int j :: .ref a :: S)) rfl rfl (X.d hd) _ z)
theorem g_caload (X : St Z n0 p l e R s vm0 m args below meth c own nm bytes ml ret T locs cells slots h) {a : Addr} {j : Int32} {i : Nat} {v : Value} {vs : List Value} (A : Arx Z h a .char vs) (hj : j.toInt = (i : Int)) (hv : vs[i]? = some v) (hd : decode bytes pc = .ok (.caload, 1)) (hp : pc + 1 = pc') (k : Go p e below K (T.setTop (mkF m pc' L (v :: S)))) : Go p e below K (T.setTop (mkF m pc L (.int j :: .ref a :: S))) := by
  obtain ⟨cl, A, q, -⟩ := A
  obtain ⟨hin, hi⟩ := arx_in q hj (List.getElem?_eq_some_iff.mp hv).1
  subst hp; exact k.of (fun _ z => X.X.caload X.hx (by rw [X.eT]; exact A.1) (State.isArrayOf_alike X.hZ.alike A.2.1) A.2.2 hin (by rw [hi]; exact arx_at q hv) (g := mkF m pc L (.int j :: .ref a :: S)) rfl rfl (X.d hd) _ z)
theorem g_baload (X : St Z n0 p l e R s vm0 m args below meth c own nm bytes ml ret T locs cells slots h) {a : Addr} {j : Int32} {i : Nat} {v : Value} {vs : List Value} (A : Arx Z h a .byte vs) (hj : j.toInt = (i : Int)) (hv : vs[i]? = some v) (hd : decode bytes pc = .ok (.baload, 1)) (hp : pc + 1 = pc') (k : Go p e below K (T.setTop (mkF m pc' L (v :: S)))) : Go p e below K (T.setTop (mkF m pc L (.int j :: .ref a :: S))) := by
  obtain ⟨cl, A, q, -⟩ := A
  obtain ⟨hin, hi⟩ := arx_in q hj (List.getElem?_eq_some_iff.mp hv).1
  subst hp; exact k.of (fun _ z => X.X.baloadBytes X.hx (by rw [X.eT]; exact A.1) (State.isArrayOf_alike X.hZ.alike A.2.1) A.2.2 hin (by rw [hi]; exact arx_at q hv) (g := mkF m pc L (.int j :: .ref a :: S)) rfl rfl (X.d hd) _ z)
theorem g_daload (X : St Z n0 p l e R s vm0 m args below meth c own nm bytes ml ret T locs cells slots h) {a : Addr} {j : Int32} {i : Nat} {v : Value} {vs : List Value} (A : Arx Z h a .double vs) (hj : j.toInt = (i : Int)) (hv : vs[i]? = some v) (hd : decode bytes pc = .ok (.daload, 1)) (hp : pc + 1 = pc') (k : Go p e below K (T.setTop (mkF m pc' L (v :: S)))) : Go p e below K (T.setTop (mkF m pc L (.int j :: .ref a :: S))) := by
  obtain ⟨cl, A, q, -⟩ := A
  obtain ⟨hin, hi⟩ := arx_in q hj (List.getElem?_eq_some_iff.mp hv).1
  subst hp; exact k.of (fun _ z => X.X.daload X.hx (by rw [X.eT]; exact A.1) (State.isArrayOf_alike X.hZ.alike A.2.1) A.2.2 hin (by rw [hi]; exact arx_at q hv) (g := mkF m pc L (.int j :: .ref a :: S)) rfl rfl (X.d hd) _ z)
theorem g_aaload (X : St Z n0 p l e R s vm0 m args below meth c own nm bytes ml ret T locs cells slots h) {a : Addr} {j : Int32} {i : Nat} {v : Value} {ty : FieldType} {vs : List Value} (A : Arx Z h a ty vs) (hty : ty.isReference = true) (hj : j.toInt = (i : Int)) (hv : vs[i]? = some v) (hd : decode bytes pc = .ok (.aaload, 1)) (hp : pc + 1 = pc') (k : Go p e below K (T.setTop (mkF m pc' L (v :: S)))) : Go p e below K (T.setTop (mkF m pc L (.int j :: .ref a :: S))) := by
  obtain ⟨cl, A, q, -⟩ := A
  obtain ⟨hin, hi⟩ := arx_in q hj (List.getElem?_eq_some_iff.mp hv).1
  subst hp; exact k.of (fun _ z => X.X.aaload X.hx (by rw [X.eT]; exact A.1) (State.isArrayOf_alike X.hZ.alike A.2.1) hty A.2.2 hin (by rw [hi]; exact arx_at q hv) (g := mkF m pc L (.int j :: .ref a :: S)) rfl rfl (X.d hd) _ z)
theorem g_arraylength (X : St Z n0 p l e R s vm0 m args below meth c own nm bytes ml ret T locs cells slots h) {a : Addr} {ty : FieldType} {vs : List Value} {n : Int32} (A : Arx Z h a ty vs) (hn : vs.length.toInt32 = n) (hd : decode bytes pc = .ok (.arraylength, 1)) (hp : pc + 1 = pc') (k : Go p e below K (T.setTop (mkF m pc' L (.int n :: S)))) : Go p e below K (T.setTop (mkF m pc L (.ref a :: S))) := by
  obtain ⟨cl, A, q, -⟩ := A
  have e2 : cl.slots.size.toInt32 = n := by rw [← hn, ← q]; simp
  subst hp; exact k.of (fun _ z => X.X.arraylength X.hx (by rw [X.eT]; exact A.1) (State.isArrayOf_alike X.hZ.alike A.2.1) (g := mkF m pc L (.ref a :: S)) rfl rfl (X.d hd) _ (by rw [e2]; exact z))
theorem g_iastore (X : St Z n0 p l e R s vm0 m args below meth c own nm bytes ml ret T locs cells slots h) {a : Addr} {j : Int32} {i : Nat} {x : Int32} {vs : List Value} (A : Arx Z h a .int vs) (hj : j.toInt = (i : Int)) (hi : i < vs.length) (ga : n0 ≤ a) (hd : decode bytes pc = .ok (.iastore, 1)) (hp : pc + 1 = pc') (k : ∀ T' h', St Z n0 p l e R s vm0 m args below meth c own nm bytes ml ret T' (locs ++ [⟨a, i⟩]) cells slots h' → Wr h h' a i (.int x) → Arx Z h' a .int (vs.set i (.int x)) → Go p e below K (T'.setTop (mkF m pc' L S))) : Go p e below K (T.setTop (mkF m pc L (.int x :: .int j :: .ref a :: S))) := by
  obtain ⟨cl, A, q, hl⟩ := A
  obtain ⟨hin, hn⟩ := arx_in q hj hi
  obtain ⟨T', h', X', e', W, st'⟩ := stI X.X X.hx X.hZ X.eT A hin (g := mkF m pc L (.int x :: .int j :: .ref a :: S)) rfl rfl (X.d hd)
  rw [hn] at W X'
  subst hp; exact (k T' h' (X.to X' e' (Fr.snoc X' X.fr ga) (X.old.wr W ga) (Nat.le_of_eq W.size.symm)) W ⟨_, A.same W, by rw [← q]; simp [Cell.setSlot], by simpa using hl⟩).of st'
theorem g_lastore (X : St Z n0 p l e R s vm0 m args below meth c own nm bytes ml ret T locs cells slots h) {a : Addr} {j : Int32} {i : Nat} {x : Int64} {vs : List Value} (A : Arx Z h a .long vs) (hj : j.toInt = (i : Int)) (hi : i < vs.length) (ga : n0 ≤ a) (hd : decode bytes pc = .ok (.lastore, 1)) (hp : pc + 1 = pc') (k : ∀ T' h', St Z n0 p l e R s vm0 m args below meth c own nm bytes ml ret T' (locs ++ [⟨a, i⟩]) cells slots h' → Wr h h' a i (.long x) → Arx Z h' a .long (vs.set i (.long x)) → Go p e below K (T'.setTop (mkF m pc' L S))) : Go p e below K (T.setTop (mkF m pc L (.long x :: .int j :: .ref a :: S))) := by
  obtain ⟨cl, A, q, hl⟩ := A
  obtain ⟨hin, hn⟩ := arx_in q hj hi
  obtain ⟨T', h', X', e', W, st'⟩ := stJ X.X X.hx X.hZ X.eT A hin (g := mkF m pc L (.long x :: .int j :: .ref a :: S)) rfl rfl (X.d hd)
  rw [hn] at W X'
  subst hp; exact (k T' h' (X.to X' e' (Fr.snoc X' X.fr ga) (X.old.wr W ga) (Nat.le_of_eq W.size.symm)) W ⟨_, A.same W, by rw [← q]; simp [Cell.setSlot], by simpa using hl⟩).of st'
theorem g_castore (X : St Z n0 p l e R s vm0 m args below meth c own nm bytes ml ret T locs cells slots h) {a : Addr} {j : Int32} {i : Nat} {x : Int32} {vs : List Value} (A : Arx Z h a .char vs) (hj : j.toInt = (i : Int)) (hi : i < vs.length) (ga : n0 ≤ a) (hd : decode bytes pc = .ok (.castore, 1)) (hp : pc + 1 = pc') (k : ∀ T' h', St Z n0 p l e R s vm0 m args below meth c own nm bytes ml ret T' (locs ++ [⟨a, i⟩]) cells slots h' → Wr h h' a i (.int (nar .char x)) → Arx Z h' a .char (vs.set i (.int (nar .char x))) → Go p e below K (T'.setTop (mkF m pc' L S))) : Go p e below K (T.setTop (mkF m pc L (.int x :: .int j :: .ref a :: S))) := by
  obtain ⟨cl, A, q, hl⟩ := A
  obtain ⟨hin, hn⟩ := arx_in q hj hi
  obtain ⟨T', h', X', e', W, st'⟩ := stC X.X X.hx X.hZ X.eT A hin (g := mkF m pc L (.int x :: .int j :: .ref a :: S)) rfl rfl (X.d hd)
  rw [hn] at W X'
  subst hp; exact (k T' h' (X.to X' e' (Fr.snoc X' X.fr ga) (X.old.wr W ga) (Nat.le_of_eq W.size.symm)) W ⟨_, A.same W, by rw [← q]; simp [Cell.setSlot], by simpa using hl⟩).of st'
theorem g_bastore (X : St Z n0 p l e R s vm0 m args below meth c own nm bytes ml ret T locs cells slots h) {a : Addr} {j : Int32} {i : Nat} {x : Int32} {vs : List Value} (A : Arx Z h a .byte vs) (hj : j.toInt = (i : Int)) (hi : i < vs.length) (ga : n0 ≤ a) (hd : decode bytes pc = .ok (.bastore, 1)) (hp : pc + 1 = pc') (k : ∀ T' h', St Z n0 p l e R s vm0 m args below meth c own nm bytes ml ret T' (locs ++ [⟨a, i⟩]) cells slots h' → Wr h h' a i (.int (nar .byte x)) → Arx Z h' a .byte (vs.set i (.int (nar .byte x))) → Go p e below K (T'.setTop (mkF m pc' L S))) : Go p e below K (T.setTop (mkF m pc L (.int x :: .int j :: .ref a :: S))) := by
  obtain ⟨cl, A, q, hl⟩ := A
  obtain ⟨hin, hn⟩ := arx_in q hj hi
  obtain ⟨T', h', X', e', W, st'⟩ := stB X.X X.hx X.hZ X.eT A hin (g := mkF m pc L (.int x :: .int j :: .ref a :: S)) rfl rfl (X.d hd)
  rw [hn] at W X'
  subst hp; exact (k T' h' (X.to X' e' (Fr.snoc X' X.fr ga) (X.old.wr W ga) (Nat.le_of_eq W.size.symm)) W ⟨_, A.same W, by rw [← q]; simp [Cell.setSlot], by simpa using hl⟩).of st'
theorem g_dastore (X : St Z n0 p l e R s vm0 m args below meth c own nm bytes ml ret T locs cells slots h) {a : Addr} {j : Int32} {i : Nat} {x : UInt64} {vs : List Value} (A : Arx Z h a .double vs) (hj : j.toInt = (i : Int)) (hi : i < vs.length) (ga : n0 ≤ a) (hd : decode bytes pc = .ok (.dastore, 1)) (hp : pc + 1 = pc') (k : ∀ T' h', St Z n0 p l e R s vm0 m args below meth c own nm bytes ml ret T' (locs ++ [⟨a, i⟩]) cells slots h' → Wr h h' a i (.double x) → Arx Z h' a .double (vs.set i (.double x)) → Go p e below K (T'.setTop (mkF m pc' L S))) : Go p e below K (T.setTop (mkF m pc L (.double x :: .int j :: .ref a :: S))) := by
  obtain ⟨cl, A, q, hl⟩ := A
  obtain ⟨hin, hn⟩ := arx_in q hj hi
  obtain ⟨T', h', X', e', W, st'⟩ := stD X.X X.hx X.hZ X.eT A hin (g := mkF m pc L (.double x :: .int j :: .ref a :: S)) rfl rfl (X.d hd)
  rw [hn] at W X'
  subst hp; exact (k T' h' (X.to X' e' (Fr.snoc X' X.fr ga) (X.old.wr W ga) (Nat.le_of_eq W.size.symm)) W ⟨_, A.same W, by rw [← q]; simp [Cell.setSlot], by simpa using hl⟩).of st'
theorem g_newarray (X : St Z n0 p l e R s vm0 m args below meth c own nm bytes ml ret T locs cells slots h) {aty : ArrayType} {n : Int32} {cap : Nat} {vs : List Value} (w : (Jvm.Cond.arrayClass (newarray.typeOf aty)).before a0 Z = true) (hn : ¬ n < 0) (hcap : n.toNatClampNeg ≤ cap) (hvs : List.replicate n.toNatClampNeg (defaultValue (newarray.typeOf aty)) = vs) (hb : cap * 8 ≤ 536870912) (hd : decode bytes pc = .ok (.newarray aty, 2)) (hp : pc + 2 = pc') (hc : cells + 1 ≤ R.cells) (hl : slots + cap ≤ R.slots)
    (k : ∀ T' h' a, St Z n0 p l e R s vm0 m args below meth c own nm bytes ml ret T' locs (cells + 1) (slots + cap) h' → a = h.size → Ext h h' → Arx Z h' a (newarray.typeOf aty) vs → n0 ≤ a → Go p e below K (T'.setTop (mkF m pc' L (.ref a :: S)))) : Go p e below K (T.setTop (mkF m pc L (.int n :: S))) := by
  obtain ⟨T', h', cA, X', e', E, A, st'⟩ := newP X.X X.hx X.hZ w X.eT (g := mkF m pc L (.int n :: S)) rfl (X.d hd) rfl hn hcap hb hc hl
  subst hp; exact (k T' h' _ (X.to X' e' X.fr (X.old.ext E) E.1) rfl E ⟨_, A, (arx_new _ _ _).trans hvs, by rw [← hvs, List.length_replicate]; omega⟩ X.sz).of st'
theorem St.afterS (X : St Z n0 p l e R s vm0 m args below meth c own nm bytes ml ret T locs cells slots h) {T' : State} {locs' : List Loc} {cells' slots' : Nat} (Y : Stand p l e R ((s.setVm vm0).setVm T'.vm) m args below meth c T' locs' cells' slots') (h2 : (s.setVm vm0).Since T'.vm T'.heap.size) (g : h.size ≤ T'.heap.size) (N : Fr n0 locs') (z : Old Z n0 T'.heap) : St Z n0 p l e R s T'.vm m args below meth c own nm bytes ml ret T' locs' cells' slots' T'.heap := by
  obtain ⟨k0, hS, hk⟩ := X.2.2.2.2.2
  obtain ⟨Y1, Y2, Y3, Y4⟩ := rebS hS hk Y h2 g X.hZ X.own_
  exact ⟨Y1, ⟨X.hx, X.by_, X.ml_, Y4, Y3, X.ret_, X.lk, X.nm_⟩, rfl, N, z, _, Y2, Nat.le_refl _⟩
theorem g_ldcS (X : St Z n0 p l e R s vm0 m args below meth c own nm bytes ml ret T locs cells slots h) {text : String} {i n : Nat} (w : (Jvm.Cond.stringLink own i text).before a0 Z = true) (wS : ∀ a ∈ Bundle.stringAtoms, a.before a0 Z = true) (hn : 4 * text.toList.length ≤ n) (hbig : n ≤ 536870912) (hc : cells + 2 ≤ R.cells) (hl : slots + (n + 4) ≤ R.slots) (hd : decode bytes pc = .ok (.ldc i, 2)) (hp : pc + 2 = pc') (k : ∀ T' h' a, St Z n0 p l e R s T'.vm m args below meth c own nm bytes ml ret T' locs (cells + 2) (slots + (n + 4)) h' → Ext h h' → Go p e below K (T'.setTop (mkF m pc' L (.ref a :: S)))) : Go p e below K (T.setTop (mkF m pc L S)) := by
  obtain ⟨k0, hS, hk⟩ := X.2.2.2.2.2
  obtain ⟨a, T', h', k1, Y, e', E, Y2, hk1, Y3, Y4, st'⟩ := ldcS X.X X.hx X.hZ X.own_ w wS X.eT hS hk (g := mkF m pc L S) rfl (X.d hd) hn hbig hc hl
  subst hp; exact (k T' h' a ⟨Y, ⟨X.hx, X.by_, X.ml_, Y4, Y3, X.ret_, X.lk, X.nm_⟩, e', X.fr, X.old.ext E, k1, Y2, hk1⟩ E).of st'
theorem g_callSB (X : St Z n0 p l e R s vm0 m args below meth c own nm bytes ml ret T locs cells slots h) {i : Nat} {y : MethodName} {b' : ByteArray} {ml' : Nat} {ret' : Option FieldType} {cc ss : Nat} {Q : Option Value → Heap → List Loc → Prop} {ps : List FieldType} {r : Option FieldType} {W : Nat} {S0 rest : List Value} (argsL : List Value) (w1 : (Jvm.Cond.methodLink own i y).before a0 Z = true) (w2 : (Jvm.Cond.static y).before a0 Z = true) (w0 : (Jvm.Cond.initialized y.cls).before a0 Z = true) (w4 : (Jvm.Cond.code y b' ml' ret').before a0 Z = true) (Bk : BackS l R p e below (s.setVm vm0) args y 3 W (fun A a' => a' = argsL.toArray ∧ A.U.heap = h ∧ A.cells + cc ≤ R.cells ∧ A.slots + ss ≤ R.slots) (fun A _ v B => ∃ L, Q v B.U.heap L ∧ B.locs = A.locs ++ L ∧ B.cells = A.cells + cc ∧ B.slots = A.slots + ss)) (hy : y.cls ≠ "java/lang/invoke/MethodHandle" ∧ y.cls ≠ "java/lang/invoke/VarHandle") (hc : cells + cc ≤ R.cells) (hs : slots + ss ≤ R.slots) (hL : L.size = ml) (hps : parseMethodDescriptor y.desc = some ⟨ps, r⟩) (hlen : argsL.length = ps.length) (hS : S0 = argsL.reverse ++ rest) (hW : (rest.map fun v => v.category).sum = W) (hd : decode bytes pc = .ok (.invokestatic i, 3)) (hp : pc + 3 = pc') (k : ∀ v T' h' L'', (Old Z n0 h' → Fr n0 L'' → St Z n0 p l e R s T'.vm m args below meth c own nm bytes ml ret T' (locs ++ L'') (cells + cc) (slots + ss) h') → Q v h' L'' → Go p e below K (T'.setTop (mkF m pc' L (v.toList ++ rest)))) : Go p e below K (T.setTop (mkF m pc L S0)) := by
  subst hS hp
  obtain ⟨v, _, ⟨T', L'', k', n'⟩, -, X', hS2, hgr, ⟨Lc, hQ, l', y', z'⟩, st'⟩ := callSS X.X X.hx (y := y) X.own_ (mvT X.hZ w1) (mvT X.hZ w2) (mvT X.hZ w0) (mvT X.hZ w4) hy Bk (g := mkF m pc L (argsL.reverse ++ rest)) rfl (by rw [X.ml_]; exact hL) (argsL := argsL) (rest := rest) (lenOf hps hlen) rfl (by show 2 * 0 + _ ≤ _; rw [hW, Nat.mul_zero, Nat.zero_add]; exact Nat.le_refl _) (X.d hd) (fun _ _ => ⟨rfl, X.eT, hc, hs⟩)
  dsimp only [Pt.U, Pt.locs, Pt.cells, Pt.slots] at X' hS2 hgr l' y' z' st' hQ
  subst l' y' z'
  exact (k v T' T'.heap Lc (fun hz hF => X.afterS X' hS2 (X.eT ▸ hgr) (X.fr.app hF) hz) hQ).of (fun _ q => st'.trans q)
theorem g_callS (X : St Z n0 p l e R s vm0 m args below meth c own nm bytes ml ret T locs cells slots h) {i : Nat} {y : MethodName} {b' : ByteArray} {ml' : Nat} {ret' : Option FieldType} {rm : Room} {Q : Option Value → Heap → List Loc → Prop} {ps : List FieldType} {r : Option FieldType} {W : Nat} {S0 rest : List Value} (argsL : List Value) (w1 : (Jvm.Cond.methodLink own i y).before a0 Z = true) (w2 : (Jvm.Cond.static y).before a0 Z = true) (w0 : (Jvm.Cond.initialized y.cls).before a0 Z = true) (w4 : (Jvm.Cond.code y b' ml' ret').before a0 Z = true) (w3 : (Jvm.Cond.initialized y.cls).before a0 Z = true) (C : Con l Z y b' ml' ret' [] rm rm.cells rm.slots argsL.toArray h Q) (hy : y.cls ≠ "java/lang/invoke/MethodHandle" ∧ y.cls ≠ "java/lang/invoke/VarHandle") (hf : rm.frames + 1 ≤ R.frames) (hl : W + (ml' + 11) + rm.locals ≤ R.locals) (hc : cells + rm.cells ≤ R.cells) (hs : slots + rm.slots ≤ R.slots) (hL : L.size = ml) (hps : parseMethodDescriptor y.desc = some ⟨ps, r⟩) (hlen : argsL.length = ps.length) (hS : S0 = argsL.reverse ++ rest) (hW : (rest.map fun v => v.category).sum = W) (hd : decode bytes pc = .ok (.invokestatic i, 3)) (hp : pc + 3 = pc') (k : ∀ v T' h' L'', (Old Z n0 h' → Fr n0 L'' → St Z n0 p l e R s T'.vm m args below meth c own nm bytes ml ret T' (locs ++ L'') (cells + rm.cells) (slots + rm.slots) h') → Q v h' L'' → Go p e below K (T'.setTop (mkF m pc' L (v.toList ++ rest)))) : Go p e below K (T.setTop (mkF m pc L S0)) :=
  g_callSB X argsL w1 w2 w0 w4 (backOfS (W := W) C X.hZ w4 w3 hf hl) hy hc hs hL hps hlen hS hW hd hp k
theorem g_callIB (X : St Z n0 p l e R s vm0 m args below meth c own nm bytes ml ret T locs cells slots h) {i : Nat} {y : MethodName} {b' : ByteArray} {ml' : Nat} {ret' : Option FieldType} {cc ss : Nat} {Q : Option Value → Heap → List Loc → Prop} {ps : List FieldType} {r : Option FieldType} {W : Nat} {S0 rest : List Value} (argsL : List Value) {a : Addr} (hinit : y.name = "<init>") (w1 : (Jvm.Cond.methodLink own i y).before a0 Z = true) (w2 : (Jvm.Cond.instanceMethod y).before a0 Z = true) (hr : ret' = none) (w4 : (Jvm.Cond.code y b' ml' ret').before a0 Z = true) (Bk : BackS l R p e below (s.setVm vm0) args y 3 W (fun A a' => a' = (.ref a :: argsL).toArray ∧ A.U.heap = h ∧ A.cells + cc ≤ R.cells ∧ A.slots + ss ≤ R.slots) (fun A _ v B => ∃ L, Q v B.U.heap L ∧ B.locs = A.locs ++ L ∧ B.cells = A.cells + cc ∧ B.slots = A.slots + ss)) (hy : y.cls ≠ "java/lang/invoke/MethodHandle" ∧ y.cls ≠ "java/lang/invoke/VarHandle") (hc : cells + cc ≤ R.cells) (hs : slots + ss ≤ R.slots) (hL : L.size = ml) (hps : parseMethodDescriptor y.desc = some ⟨ps, r⟩) (hlen : argsL.length = ps.length) (hS : S0 = argsL.reverse ++ .ref a :: rest) (hW : (rest.map fun v => v.category).sum = W) (hd : decode bytes pc = .ok (.invokespecial i, 3)) (hp : pc + 3 = pc') (k : ∀ v T' h' L'', (Old Z n0 h' → Fr n0 L'' → St Z n0 p l e R s T'.vm m args below meth c own nm bytes ml ret T' (locs ++ L'') (cells + cc) (slots + ss) h') → Q v h' L'' → Go p e below K (T'.setTop (mkF m pc' L (v.toList ++ rest)))) : Go p e below K (T.setTop (mkF m pc L S0)) := by
  subst hS hp
  subst hr
  obtain ⟨v, _, ⟨T', L'', k', n'⟩, -, X', hS2, hgr, ⟨Lc, hQ, l', y', z'⟩, st'⟩ := X.X.specialBackS X.hx (y := y) hinit X.own_ (mvT X.hZ w1) (mvT X.hZ w2) (mvT X.hZ w4) hy Bk (g := mkF m pc L (argsL.reverse ++ .ref a :: rest)) rfl (by rw [X.ml_]; exact hL) (Steps.refl _) (a := a) (argsL := argsL) (rest := rest) (lenOf hps hlen) rfl (by show 2 * 0 + _ ≤ _; rw [hW, Nat.mul_zero, Nat.zero_add]; exact Nat.le_refl _) (X.d hd) (fun _ _ => ⟨rfl, X.eT, hc, hs⟩)
  dsimp only [Pt.U, Pt.locs, Pt.cells, Pt.slots] at X' hS2 hgr l' y' z' st' hQ
  subst l' y' z'
  exact (k v T' T'.heap Lc (fun hz hF => X.afterS X' hS2 (X.eT ▸ hgr) (X.fr.app hF) hz) hQ).of (fun _ q => st'.trans q)
theorem g_callI (X : St Z n0 p l e R s vm0 m args below meth c own nm bytes ml ret T locs cells slots h) {i : Nat} {y : MethodName} {b' : ByteArray} {ml' : Nat} {ret' : Option FieldType} {rm : Room} {Q : Option Value → Heap → List Loc → Prop} {ps : List FieldType} {r : Option FieldType} {W : Nat} {S0 rest : List Value} (argsL : List Value) {a : Addr} (hinit : y.name = "<init>") (w1 : (Jvm.Cond.methodLink own i y).before a0 Z = true) (w2 : (Jvm.Cond.instanceMethod y).before a0 Z = true) (hr : ret' = none) (w4 : (Jvm.Cond.code y b' ml' ret').before a0 Z = true) (w3 : (Jvm.Cond.initialized y.cls).before a0 Z = true) (C : Con l Z y b' ml' ret' [] rm rm.cells rm.slots (.ref a :: argsL).toArray h Q) (hy : y.cls ≠ "java/lang/invoke/MethodHandle" ∧ y.cls ≠ "java/lang/invoke/VarHandle") (hf : rm.frames + 1 ≤ R.frames) (hl : W + (ml' + 11) + rm.locals ≤ R.locals) (hc : cells + rm.cells ≤ R.cells) (hs : slots + rm.slots ≤ R.slots) (hL : L.size = ml) (hps : parseMethodDescriptor y.desc = some ⟨ps, r⟩) (hlen : argsL.length = ps.length) (hS : S0 = argsL.reverse ++ .ref a :: rest) (hW : (rest.map fun v => v.category).sum = W) (hd : decode bytes pc = .ok (.invokespecial i, 3)) (hp : pc + 3 = pc') (k : ∀ v T' h' L'', (Old Z n0 h' → Fr n0 L'' → St Z n0 p l e R s T'.vm m args below meth c own nm bytes ml ret T' (locs ++ L'') (cells + rm.cells) (slots + rm.slots) h') → Q v h' L'' → Go p e below K (T'.setTop (mkF m pc' L (v.toList ++ rest)))) : Go p e below K (T.setTop (mkF m pc L S0)) :=
  g_callIB X argsL hinit w1 w2 hr w4 (backOfS (W := W) C X.hZ w4 w3 hf hl) hy hc hs hL hps hlen hS hW hd hp k
theorem g_callVB (X : St Z n0 p l e R s vm0 m args below meth c own nm bytes ml ret T locs cells slots h) {i : Nat} {y : MethodName} {b' : ByteArray} {ml' : Nat} {ret' : Option FieldType} {cc ss : Nat} {Q : Option Value → Heap → List Loc → Prop} {ps : List FieldType} {r : Option FieldType} {W : Nat} {S0 rest : List Value} (argsL : List Value) {C0 : String} {z : MethodName} {a : Addr} (w1 : (Jvm.Cond.methodLink own i y).before a0 Z = true) (w2 : (Jvm.Cond.declares y).before a0 Z = true) (nf : NotFace (s.setVm vm0) y) (w5 : (Jvm.Cond.selects C0 y z).before a0 Z = true) (w6 : (Jvm.Cond.instanceMethod z).before a0 Z = true) (E : Exa Z h a C0) (w4 : (Jvm.Cond.code z b' ml' ret').before a0 Z = true) (Bk : BackS l R p e below (s.setVm vm0) args z 3 W (fun A a' => a' = (.ref a :: argsL).toArray ∧ A.U.heap = h ∧ A.cells + cc ≤ R.cells ∧ A.slots + ss ≤ R.slots) (fun A _ v B => ∃ L, Q v B.U.heap L ∧ B.locs = A.locs ++ L ∧ B.cells = A.cells + cc ∧ B.slots = A.slots + ss)) (hy : y.cls ≠ "java/lang/invoke/MethodHandle" ∧ y.cls ≠ "java/lang/invoke/VarHandle") (hc : cells + cc ≤ R.cells) (hs : slots + ss ≤ R.slots) (hL : L.size = ml) (hps : parseMethodDescriptor y.desc = some ⟨ps, r⟩) (hlen : argsL.length = ps.length) (hS : S0 = argsL.reverse ++ .ref a :: rest) (hW : (rest.map fun v => v.category).sum = W) (hd : decode bytes pc = .ok (.invokevirtual i, 3)) (hp : pc + 3 = pc') (k : ∀ v T' h' L'', (Old Z n0 h' → Fr n0 L'' → St Z n0 p l e R s T'.vm m args below meth c own nm bytes ml ret T' (locs ++ L'') (cells + cc) (slots + ss) h') → Q v h' L'' → Go p e below K (T'.setTop (mkF m pc' L (v.toList ++ rest)))) : Go p e below K (T.setTop (mkF m pc L S0)) := by
  subst hS hp
  obtain ⟨cq, kq, q1, q2, q3⟩ := isOf X.hZ X.eT E
  obtain ⟨v, _, ⟨T', L'', k', n'⟩, -, X', hS2, hgr, ⟨Lc, hQ, l', y', z'⟩, st'⟩ := X.X.virtualBackS X.hx (y := y) (z := z) X.own_ (mvT X.hZ w1) (mvT X.hZ w2) nf (mvT X.hZ w5) (mvT X.hZ w6) hy Bk q1 q3 (g := mkF m pc L (argsL.reverse ++ .ref a :: rest)) rfl (by rw [X.ml_]; exact hL) (Steps.refl _) (argsL := argsL) (rest := rest) (lenOf hps hlen) rfl (by show 2 * 0 + _ ≤ _; rw [hW, Nat.mul_zero, Nat.zero_add]; exact Nat.le_refl _) (X.d hd) (fun _ _ => ⟨rfl, X.eT, hc, hs⟩)
  dsimp only [Pt.U, Pt.locs, Pt.cells, Pt.slots] at X' hS2 hgr l' y' z' st' hQ
  subst l' y' z'
  exact (k v T' T'.heap Lc (fun hz hF => X.afterS X' hS2 (X.eT ▸ hgr) (X.fr.app hF) hz) hQ).of (fun _ q => st'.trans q)
theorem g_callV (X : St Z n0 p l e R s vm0 m args below meth c own nm bytes ml ret T locs cells slots h) {i : Nat} {y : MethodName} {b' : ByteArray} {ml' : Nat} {ret' : Option FieldType} {rm : Room} {Q : Option Value → Heap → List Loc → Prop} {ps : List FieldType} {r : Option FieldType} {W : Nat} {S0 rest : List Value} (argsL : List Value) {C0 : String} {z : MethodName} {a : Addr} (w1 : (Jvm.Cond.methodLink own i y).before a0 Z = true) (w2 : (Jvm.Cond.declares y).before a0 Z = true) (nf : NotFace (s.setVm vm0) y) (w5 : (Jvm.Cond.selects C0 y z).before a0 Z = true) (w6 : (Jvm.Cond.instanceMethod z).before a0 Z = true) (E : Exa Z h a C0) (w4 : (Jvm.Cond.code z b' ml' ret').before a0 Z = true) (w3 : (Jvm.Cond.initialized z.cls).before a0 Z = true) (C : Con l Z z b' ml' ret' [] rm rm.cells rm.slots (.ref a :: argsL).toArray h Q) (hy : y.cls ≠ "java/lang/invoke/MethodHandle" ∧ y.cls ≠ "java/lang/invoke/VarHandle") (hf : rm.frames + 1 ≤ R.frames) (hl : W + (ml' + 11) + rm.locals ≤ R.locals) (hc : cells + rm.cells ≤ R.cells) (hs : slots + rm.slots ≤ R.slots) (hL : L.size = ml) (hps : parseMethodDescriptor y.desc = some ⟨ps, r⟩) (hlen : argsL.length = ps.length) (hS : S0 = argsL.reverse ++ .ref a :: rest) (hW : (rest.map fun v => v.category).sum = W) (hd : decode bytes pc = .ok (.invokevirtual i, 3)) (hp : pc + 3 = pc') (k : ∀ v T' h' L'', (Old Z n0 h' → Fr n0 L'' → St Z n0 p l e R s T'.vm m args below meth c own nm bytes ml ret T' (locs ++ L'') (cells + rm.cells) (slots + rm.slots) h') → Q v h' L'' → Go p e below K (T'.setTop (mkF m pc' L (v.toList ++ rest)))) : Go p e below K (T.setTop (mkF m pc L S0)) :=
  g_callVB X argsL w1 w2 nf w5 w6 E w4 (backOfS (W := W) C X.hZ w4 w3 hf hl) hy hc hs hL hps hlen hS hW hd hp k
theorem g_callPB (X : St Z n0 p l e R s vm0 m args below meth c own nm bytes ml ret T locs cells slots h) {i : Nat} {y : MethodName} {b' : ByteArray} {ml' : Nat} {ret' : Option FieldType} {cc ss : Nat} {Q : Option Value → Heap → List Loc → Prop} {ps : List FieldType} {r : Option FieldType} {W : Nat} {S0 rest : List Value} (argsL : List Value) {C0 : String} {kk : Nat} {a : Addr} (w1 : (Jvm.Cond.methodLink own i y).before a0 Z = true) (w2 : (Jvm.Cond.instanceMethod y).before a0 Z = true) (wp : (Jvm.Cond.privateMethod y).before a0 Z = true) (wi : (Jvm.Cond.instantiable y.cls kk).before a0 Z = true) (E : Exa Z h a C0) (w4 : (Jvm.Cond.code y b' ml' ret').before a0 Z = true) (Bk : BackS l R p e below (s.setVm vm0) args y 3 W (fun A a' => a' = (.ref a :: argsL).toArray ∧ A.U.heap = h ∧ A.cells + cc ≤ R.cells ∧ A.slots + ss ≤ R.slots) (fun A _ v B => ∃ L, Q v B.U.heap L ∧ B.locs = A.locs ++ L ∧ B.cells = A.cells + cc ∧ B.slots = A.slots + ss)) (hy : y.cls ≠ "java/lang/invoke/MethodHandle" ∧ y.cls ≠ "java/lang/invoke/VarHandle") (hc : cells + cc ≤ R.cells) (hs : slots + ss ≤ R.slots) (hL : L.size = ml) (hps : parseMethodDescriptor y.desc = some ⟨ps, r⟩) (hlen : argsL.length = ps.length) (hS : S0 = argsL.reverse ++ .ref a :: rest) (hW : (rest.map fun v => v.category).sum = W) (hd : decode bytes pc = .ok (.invokevirtual i, 3)) (hp : pc + 3 = pc') (k : ∀ v T' h' L'', (Old Z n0 h' → Fr n0 L'' → St Z n0 p l e R s T'.vm m args below meth c own nm bytes ml ret T' (locs ++ L'') (cells + cc) (slots + ss) h') → Q v h' L'' → Go p e below K (T'.setTop (mkF m pc' L (v.toList ++ rest)))) : Go p e below K (T.setTop (mkF m pc L S0)) := by
  subst hS hp
  obtain ⟨cq, q1, q2⟩ := E.cell
  have hpr : State.PrivateAt (s.setVm vm0) y := Cond.privateMethod_at (mvP X.hZ wp (args := #[]))
  obtain ⟨c1, k1, f1, f2, f3, f4, -, -⟩ := Cond.instantiable_spec (show (Jvm.Cond.instantiable y.cls kk).holds #[] (s.setVm vm0) none (s.setVm vm0) [] = true from mvT X.hZ wi)
  obtain ⟨v, _, ⟨T', L'', k', n'⟩, -, X', hS2, hgr, ⟨Lc, hQ, l', y', z'⟩, st'⟩ := X.X.privateBackS X.hx (y := y) X.own_ (mvT X.hZ w1) (mvT X.hZ w2) (selects_self_of_private f1 f2 (by cases hq : k1.isInterface with | false => rfl | true => rw [hq] at f4; simp at f4) hpr (mvT X.hZ w2) hy) hpr (mvT X.hZ w4) hy Bk (g := mkF m pc L (argsL.reverse ++ .ref a :: rest)) rfl (by rw [X.ml_]; exact hL) (Steps.refl _) (a := a) (by rw [X.eT]; exact q1) q2 (argsL := argsL) (rest := rest) (lenOf hps hlen) rfl (by show 2 * 0 + _ ≤ _; rw [hW, Nat.mul_zero, Nat.zero_add]; exact Nat.le_refl _) (X.d hd) (fun _ _ => ⟨rfl, X.eT, hc, hs⟩)
  dsimp only [Pt.U, Pt.locs, Pt.cells, Pt.slots] at X' hS2 hgr l' y' z' st' hQ
  subst l' y' z'
  exact (k v T' T'.heap Lc (fun hz hF => X.afterS X' hS2 (X.eT ▸ hgr) (X.fr.app hF) hz) hQ).of (fun _ q => st'.trans q)
theorem g_callP (X : St Z n0 p l e R s vm0 m args below meth c own nm bytes ml ret T locs cells slots h) {i : Nat} {y : MethodName} {b' : ByteArray} {ml' : Nat} {ret' : Option FieldType} {rm : Room} {Q : Option Value → Heap → List Loc → Prop} {ps : List FieldType} {r : Option FieldType} {W : Nat} {S0 rest : List Value} (argsL : List Value) {C0 : String} {kk : Nat} {a : Addr} (w1 : (Jvm.Cond.methodLink own i y).before a0 Z = true) (w2 : (Jvm.Cond.instanceMethod y).before a0 Z = true) (wp : (Jvm.Cond.privateMethod y).before a0 Z = true) (wi : (Jvm.Cond.instantiable y.cls kk).before a0 Z = true) (E : Exa Z h a C0) (w4 : (Jvm.Cond.code y b' ml' ret').before a0 Z = true) (w3 : (Jvm.Cond.initialized y.cls).before a0 Z = true) (C : Con l Z y b' ml' ret' [] rm rm.cells rm.slots (.ref a :: argsL).toArray h Q) (hy : y.cls ≠ "java/lang/invoke/MethodHandle" ∧ y.cls ≠ "java/lang/invoke/VarHandle") (hf : rm.frames + 1 ≤ R.frames) (hl : W + (ml' + 11) + rm.locals ≤ R.locals) (hc : cells + rm.cells ≤ R.cells) (hs : slots + rm.slots ≤ R.slots) (hL : L.size = ml) (hps : parseMethodDescriptor y.desc = some ⟨ps, r⟩) (hlen : argsL.length = ps.length) (hS : S0 = argsL.reverse ++ .ref a :: rest) (hW : (rest.map fun v => v.category).sum = W) (hd : decode bytes pc = .ok (.invokevirtual i, 3)) (hp : pc + 3 = pc') (k : ∀ v T' h' L'', (Old Z n0 h' → Fr n0 L'' → St Z n0 p l e R s T'.vm m args below meth c own nm bytes ml ret T' (locs ++ L'') (cells + rm.cells) (slots + rm.slots) h') → Q v h' L'' → Go p e below K (T'.setTop (mkF m pc' L (v.toList ++ rest)))) : Go p e below K (T.setTop (mkF m pc L S0)) :=
  g_callPB X argsL w1 w2 wp wi E w4 (backOfS (W := W) C X.hZ w4 w3 hf hl) hy hc hs hL hps hlen hS hW hd hp k
theorem g_callQB (X : St Z n0 p l e R s vm0 m args below meth c own nm bytes ml ret T locs cells slots h) {i : Nat} {y : MethodName} {b' : ByteArray} {ml' : Nat} {ret' : Option FieldType} {cc ss : Nat} {Q : Option Value → Heap → List Loc → Prop} {ps : List FieldType} {r : Option FieldType} {W : Nat} {S0 rest : List Value} (argsL : List Value) {C0 C1 : String} {a : Addr} (w1 : (Jvm.Cond.methodLink own i y).before a0 Z = true) (w2 : (Jvm.Cond.instanceMethod y).before a0 Z = true) (wp : (Jvm.Cond.privateMethod y).before a0 Z = true) (w5 : (Jvm.Cond.selects C1 y y).before a0 Z = true) (E : Exa Z h a C0) (w4 : (Jvm.Cond.code y b' ml' ret').before a0 Z = true) (Bk : BackS l R p e below (s.setVm vm0) args y 3 W (fun A a' => a' = (.ref a :: argsL).toArray ∧ A.U.heap = h ∧ A.cells + cc ≤ R.cells ∧ A.slots + ss ≤ R.slots) (fun A _ v B => ∃ L, Q v B.U.heap L ∧ B.locs = A.locs ++ L ∧ B.cells = A.cells + cc ∧ B.slots = A.slots + ss)) (hy : y.cls ≠ "java/lang/invoke/MethodHandle" ∧ y.cls ≠ "java/lang/invoke/VarHandle") (hc : cells + cc ≤ R.cells) (hs : slots + ss ≤ R.slots) (hL : L.size = ml) (hps : parseMethodDescriptor y.desc = some ⟨ps, r⟩) (hlen : argsL.length = ps.length) (hS : S0 = argsL.reverse ++ .ref a :: rest) (hW : (rest.map fun v => v.category).sum = W) (hd : decode bytes pc = .ok (.invokevirtual i, 3)) (hp : pc + 3 = pc') (k : ∀ v T' h' L'', (Old Z n0 h' → Fr n0 L'' → St Z n0 p l e R s T'.vm m args below meth c own nm bytes ml ret T' (locs ++ L'') (cells + cc) (slots + ss) h') → Q v h' L'' → Go p e below K (T'.setTop (mkF m pc' L (v.toList ++ rest)))) : Go p e below K (T.setTop (mkF m pc L S0)) := by
  subst hS hp
  obtain ⟨cq, q1, q2⟩ := E.cell
  have hpr : State.PrivateAt (s.setVm vm0) y := Cond.privateMethod_at (mvP X.hZ wp (args := #[]))
  obtain ⟨v, _, ⟨T', L'', k', n'⟩, -, X', hS2, hgr, ⟨Lc, hQ, l', y', z'⟩, st'⟩ := X.X.privateBackS X.hx (y := y) X.own_ (mvT X.hZ w1) (mvT X.hZ w2) (mvT X.hZ (own_selP w2 wp w5 hy)) hpr (mvT X.hZ w4) hy Bk (g := mkF m pc L (argsL.reverse ++ .ref a :: rest)) rfl (by rw [X.ml_]; exact hL) (Steps.refl _) (a := a) (by rw [X.eT]; exact q1) q2 (argsL := argsL) (rest := rest) (lenOf hps hlen) rfl (by show 2 * 0 + _ ≤ _; rw [hW, Nat.mul_zero, Nat.zero_add]; exact Nat.le_refl _) (X.d hd) (fun _ _ => ⟨rfl, X.eT, hc, hs⟩)
  dsimp only [Pt.U, Pt.locs, Pt.cells, Pt.slots] at X' hS2 hgr l' y' z' st' hQ
  subst l' y' z'
  exact (k v T' T'.heap Lc (fun hz hF => X.afterS X' hS2 (X.eT ▸ hgr) (X.fr.app hF) hz) hQ).of (fun _ q => st'.trans q)
theorem g_callQ (X : St Z n0 p l e R s vm0 m args below meth c own nm bytes ml ret T locs cells slots h) {i : Nat} {y : MethodName} {b' : ByteArray} {ml' : Nat} {ret' : Option FieldType} {rm : Room} {Q : Option Value → Heap → List Loc → Prop} {ps : List FieldType} {r : Option FieldType} {W : Nat} {S0 rest : List Value} (argsL : List Value) {C0 C1 : String} {a : Addr} (w1 : (Jvm.Cond.methodLink own i y).before a0 Z = true) (w2 : (Jvm.Cond.instanceMethod y).before a0 Z = true) (wp : (Jvm.Cond.privateMethod y).before a0 Z = true) (w5 : (Jvm.Cond.selects C1 y y).before a0 Z = true) (E : Exa Z h a C0) (w4 : (Jvm.Cond.code y b' ml' ret').before a0 Z = true) (w3 : (Jvm.Cond.initialized y.cls).before a0 Z = true) (C : Con l Z y b' ml' ret' [] rm rm.cells rm.slots (.ref a :: argsL).toArray h Q) (hy : y.cls ≠ "java/lang/invoke/MethodHandle" ∧ y.cls ≠ "java/lang/invoke/VarHandle") (hf : rm.frames + 1 ≤ R.frames) (hl : W + (ml' + 11) + rm.locals ≤ R.locals) (hc : cells + rm.cells ≤ R.cells) (hs : slots + rm.slots ≤ R.slots) (hL : L.size = ml) (hps : parseMethodDescriptor y.desc = some ⟨ps, r⟩) (hlen : argsL.length = ps.length) (hS : S0 = argsL.reverse ++ .ref a :: rest) (hW : (rest.map fun v => v.category).sum = W) (hd : decode bytes pc = .ok (.invokevirtual i, 3)) (hp : pc + 3 = pc') (k : ∀ v T' h' L'', (Old Z n0 h' → Fr n0 L'' → St Z n0 p l e R s T'.vm m args below meth c own nm bytes ml ret T' (locs ++ L'') (cells + rm.cells) (slots + rm.slots) h') → Q v h' L'' → Go p e below K (T'.setTop (mkF m pc' L (v.toList ++ rest)))) : Go p e below K (T.setTop (mkF m pc L S0)) :=
  g_callQB X argsL w1 w2 wp w5 E w4 (backOfS (W := W) C X.hZ w4 w3 hf hl) hy hc hs hL hps hlen hS hW hd hp k
theorem g_callUB (X : St Z n0 p l e R s vm0 m args below meth c own nm bytes ml ret T locs cells slots h) {i : Nat} {y : MethodName} {b' : ByteArray} {ml' : Nat} {ret' : Option FieldType} {cc ss : Nat} {Q : Option Value → Heap → List Loc → Prop} {ps : List FieldType} {r : Option FieldType} {W : Nat} {S0 rest : List Value} (argsL : List Value) {C1 : String} {y' : MethodName} {a : Addr} (w1 : (Jvm.Cond.methodLink own i y).before a0 Z = true) (w2 : (Jvm.Cond.instanceMethod y).before a0 Z = true) (w5 : (Jvm.Cond.selects C1 y' y').before a0 Z = true) (hyc : y'.cls = y.cls) (w6 : (Jvm.Cond.superclass own y.cls).before a0 Z = true) (hni : y.name ≠ "<init>") (E : Exa Z h a own) (w4 : (Jvm.Cond.code y b' ml' ret').before a0 Z = true) (Bk : BackS l R p e below (s.setVm vm0) args y 3 W (fun A a' => a' = (.ref a :: argsL).toArray ∧ A.U.heap = h ∧ A.cells + cc ≤ R.cells ∧ A.slots + ss ≤ R.slots) (fun A _ v B => ∃ L, Q v B.U.heap L ∧ B.locs = A.locs ++ L ∧ B.cells = A.cells + cc ∧ B.slots = A.slots + ss)) (hy : y.cls ≠ "java/lang/invoke/MethodHandle" ∧ y.cls ≠ "java/lang/invoke/VarHandle") (hc : cells + cc ≤ R.cells) (hs : slots + ss ≤ R.slots) (hL : L.size = ml) (hps : parseMethodDescriptor y.desc = some ⟨ps, r⟩) (hlen : argsL.length = ps.length) (hS : S0 = argsL.reverse ++ .ref a :: rest) (hW : (rest.map fun v => v.category).sum = W) (hd : decode bytes pc = .ok (.invokespecial i, 3)) (hp : pc + 3 = pc') (k : ∀ v T' h' L'', (Old Z n0 h' → Fr n0 L'' → St Z n0 p l e R s T'.vm m args below meth c own nm bytes ml ret T' (locs ++ L'') (cells + cc) (slots + ss) h') → Q v h' L'' → Go p e below K (T'.setTop (mkF m pc' L (v.toList ++ rest)))) : Go p e below K (T.setTop (mkF m pc L S0)) := by
  subst hS hp
  obtain ⟨v, _, ⟨T', L'', k', n'⟩, -, X', hS2, hgr, ⟨Lc, hQ, l', y', z'⟩, st'⟩ := superBackS X.X X.hx X.hZ (y := y) X.own_ w1 (own_sameM w2 w5 hyc hy) w2 w6 hni Bk X.eT (Ins.self E) (g := mkF m pc L (argsL.reverse ++ .ref a :: rest)) rfl (by rw [X.ml_]; exact hL) w4 (argsL := argsL) (rest := rest) (lenOf hps hlen) rfl (by show 2 * 0 + _ ≤ _; rw [hW, Nat.mul_zero, Nat.zero_add]; exact Nat.le_refl _) (X.d hd) (fun _ _ => ⟨rfl, X.eT, hc, hs⟩)
  dsimp only [Pt.U, Pt.locs, Pt.cells, Pt.slots] at X' hS2 hgr l' y' z' st' hQ
  subst l' y' z'
  exact (k v T' T'.heap Lc (fun hz hF => X.afterS X' hS2 (X.eT ▸ hgr) (X.fr.app hF) hz) hQ).of (fun _ q => st'.trans q)
theorem g_callU (X : St Z n0 p l e R s vm0 m args below meth c own nm bytes ml ret T locs cells slots h) {i : Nat} {y : MethodName} {b' : ByteArray} {ml' : Nat} {ret' : Option FieldType} {rm : Room} {Q : Option Value → Heap → List Loc → Prop} {ps : List FieldType} {r : Option FieldType} {W : Nat} {S0 rest : List Value} (argsL : List Value) {C1 : String} {y' : MethodName} {a : Addr} (w1 : (Jvm.Cond.methodLink own i y).before a0 Z = true) (w2 : (Jvm.Cond.instanceMethod y).before a0 Z = true) (w5 : (Jvm.Cond.selects C1 y' y').before a0 Z = true) (hyc : y'.cls = y.cls) (w6 : (Jvm.Cond.superclass own y.cls).before a0 Z = true) (hni : y.name ≠ "<init>") (E : Exa Z h a own) (w4 : (Jvm.Cond.code y b' ml' ret').before a0 Z = true) (w3 : (Jvm.Cond.initialized y.cls).before a0 Z = true) (C : Con l Z y b' ml' ret' [] rm rm.cells rm.slots (.ref a :: argsL).toArray h Q) (hy : y.cls ≠ "java/lang/invoke/MethodHandle" ∧ y.cls ≠ "java/lang/invoke/VarHandle") (hf : rm.frames + 1 ≤ R.frames) (hl : W + (ml' + 11) + rm.locals ≤ R.locals) (hc : cells + rm.cells ≤ R.cells) (hs : slots + rm.slots ≤ R.slots) (hL : L.size = ml) (hps : parseMethodDescriptor y.desc = some ⟨ps, r⟩) (hlen : argsL.length = ps.length) (hS : S0 = argsL.reverse ++ .ref a :: rest) (hW : (rest.map fun v => v.category).sum = W) (hd : decode bytes pc = .ok (.invokespecial i, 3)) (hp : pc + 3 = pc') (k : ∀ v T' h' L'', (Old Z n0 h' → Fr n0 L'' → St Z n0 p l e R s T'.vm m args below meth c own nm bytes ml ret T' (locs ++ L'') (cells + rm.cells) (slots + rm.slots) h') → Q v h' L'' → Go p e below K (T'.setTop (mkF m pc' L (v.toList ++ rest)))) : Go p e below K (T.setTop (mkF m pc L S0)) :=
  g_callUB X argsL w1 w2 w5 hyc w6 hni E w4 (backOfS (W := W) C X.hZ w4 w3 hf hl) hy hc hs hL hps hlen hS hW hd hp k
theorem g_callSNB (X : St Z n0 p l e R s vm0 m args below meth c own nm bytes ml ret T locs cells slots h) {i : Nat} {y : MethodName} {b' : ByteArray} {ml' : Nat} {ret' : Option FieldType} {cc ss : Nat} {Q : Option Value → Heap → List Loc → Prop} {ps : List FieldType} {r : Option FieldType} {W : Nat} {S0 rest : List Value} (argsL : List Value) {host : String} (w1 : (Jvm.Cond.methodLinkNest own i y host).before a0 Z = true) (w2 : (Jvm.Cond.static y).before a0 Z = true) (w0 : (Jvm.Cond.initialized y.cls).before a0 Z = true) (w4 : (Jvm.Cond.code y b' ml' ret').before a0 Z = true) (Bk : BackS l R p e below (s.setVm vm0) args y 3 W (fun A a' => a' = argsL.toArray ∧ A.U.heap = h ∧ A.cells + cc ≤ R.cells ∧ A.slots + ss ≤ R.slots) (fun A _ v B => ∃ L, Q v B.U.heap L ∧ B.locs = A.locs ++ L ∧ B.cells = A.cells + cc ∧ B.slots = A.slots + ss)) (hy : y.cls ≠ "java/lang/invoke/MethodHandle" ∧ y.cls ≠ "java/lang/invoke/VarHandle") (hc : cells + cc ≤ R.cells) (hs : slots + ss ≤ R.slots) (hL : L.size = ml) (hps : parseMethodDescriptor y.desc = some ⟨ps, r⟩) (hlen : argsL.length = ps.length) (hS : S0 = argsL.reverse ++ rest) (hW : (rest.map fun v => v.category).sum = W) (hd : decode bytes pc = .ok (.invokestatic i, 3)) (hp : pc + 3 = pc') (k : ∀ v T' h' L'', (Old Z n0 h' → Fr n0 L'' → St Z n0 p l e R s T'.vm m args below meth c own nm bytes ml ret T' (locs ++ L'') (cells + cc) (slots + ss) h') → Q v h' L'' → Go p e below K (T'.setTop (mkF m pc' L (v.toList ++ rest)))) : Go p e below K (T.setTop (mkF m pc L S0)) := by
  subst hS hp
  obtain ⟨v, _, ⟨T', L'', k', n'⟩, -, X', hS2, hgr, ⟨Lc, hQ, l', y', z'⟩, st'⟩ := callSNS X.X X.hx (y := y) X.own_ (Cond.methodLinkNest_wide X.hZ w1) (mvT X.hZ w2) (mvT X.hZ w0) (mvT X.hZ w4) hy Bk (g := mkF m pc L (argsL.reverse ++ rest)) rfl (by rw [X.ml_]; exact hL) (argsL := argsL) (rest := rest) (lenOf hps hlen) rfl (by show 2 * 0 + _ ≤ _; rw [hW, Nat.mul_zero, Nat.zero_add]; exact Nat.le_refl _) (X.d hd) (fun _ _ => ⟨rfl, X.eT, hc, hs⟩)
  dsimp only [Pt.U, Pt.locs, Pt.cells, Pt.slots] at X' hS2 hgr l' y' z' st' hQ
  subst l' y' z'
  exact (k v T' T'.heap Lc (fun hz hF => X.afterS X' hS2 (X.eT ▸ hgr) (X.fr.app hF) hz) hQ).of (fun _ q => st'.trans q)
theorem g_callSN (X : St Z n0 p l e R s vm0 m args below meth c own nm bytes ml ret T locs cells slots h) {i : Nat} {y : MethodName} {b' : ByteArray} {ml' : Nat} {ret' : Option FieldType} {rm : Room} {Q : Option Value → Heap → List Loc → Prop} {ps : List FieldType} {r : Option FieldType} {W : Nat} {S0 rest : List Value} (argsL : List Value) {host : String} (w1 : (Jvm.Cond.methodLinkNest own i y host).before a0 Z = true) (w2 : (Jvm.Cond.static y).before a0 Z = true) (w0 : (Jvm.Cond.initialized y.cls).before a0 Z = true) (w4 : (Jvm.Cond.code y b' ml' ret').before a0 Z = true) (w3 : (Jvm.Cond.initialized y.cls).before a0 Z = true) (C : Con l Z y b' ml' ret' [] rm rm.cells rm.slots argsL.toArray h Q) (hy : y.cls ≠ "java/lang/invoke/MethodHandle" ∧ y.cls ≠ "java/lang/invoke/VarHandle") (hf : rm.frames + 1 ≤ R.frames) (hl : W + (ml' + 11) + rm.locals ≤ R.locals) (hc : cells + rm.cells ≤ R.cells) (hs : slots + rm.slots ≤ R.slots) (hL : L.size = ml) (hps : parseMethodDescriptor y.desc = some ⟨ps, r⟩) (hlen : argsL.length = ps.length) (hS : S0 = argsL.reverse ++ rest) (hW : (rest.map fun v => v.category).sum = W) (hd : decode bytes pc = .ok (.invokestatic i, 3)) (hp : pc + 3 = pc') (k : ∀ v T' h' L'', (Old Z n0 h' → Fr n0 L'' → St Z n0 p l e R s T'.vm m args below meth c own nm bytes ml ret T' (locs ++ L'') (cells + rm.cells) (slots + rm.slots) h') → Q v h' L'' → Go p e below K (T'.setTop (mkF m pc' L (v.toList ++ rest)))) : Go p e below K (T.setTop (mkF m pc L S0)) :=
  g_callSNB X argsL w1 w2 w0 w4 (backOfS (W := W) C X.hZ w4 w3 hf hl) hy hc hs hL hps hlen hS hW hd hp k
theorem g_ncallSB (X : St Z n0 p l e R s vm0 m args below meth c own nm bytes ml ret T locs cells slots h) {i : Nat} {y : MethodName} {b' : ByteArray} {ml' : Nat} {ret' : Option FieldType} {cc ss : Nat} {Q : Option Value → Heap → List Loc → Prop} {ps : List FieldType} {r : Option FieldType} {W : Nat} {S0 rest : List Value} (argsL : List Value) (w1 : (Jvm.Cond.methodLink own i y).before a0 Z = true) (w2 : (Jvm.Cond.static y).before a0 Z = true) (w0 : (Jvm.Cond.initialized y.cls).before a0 Z = true) (w4 : (Jvm.Cond.code y b' ml' ret').before a0 Z = true) (Bk : Back l R p e below (s.setVm vm0) args y 3 W (fun A a' => a' = argsL.toArray ∧ A.U.heap = h ∧ A.cells + cc ≤ R.cells ∧ A.slots + ss ≤ R.slots) (fun A _ v B => ∃ L, Q v B.U.heap L ∧ B.locs = A.locs ++ L ∧ B.cells = A.cells + cc ∧ B.slots = A.slots + ss)) (hy : y.cls ≠ "java/lang/invoke/MethodHandle" ∧ y.cls ≠ "java/lang/invoke/VarHandle") (hc : cells + cc ≤ R.cells) (hs : slots + ss ≤ R.slots) (hL : L.size = ml) (hps : parseMethodDescriptor y.desc = some ⟨ps, r⟩) (hlen : argsL.length = ps.length) (hS : S0 = argsL.reverse ++ rest) (hW : (rest.map fun v => v.category).sum = W) (hd : decode bytes pc = .ok (.invokestatic i, 3)) (hp : pc + 3 = pc') (k : ∀ v T' h' L'', (Old Z n0 h' → Fr n0 L'' → h.size ≤ h'.size → St Z n0 p l e R s vm0 m args below meth c own nm bytes ml ret T' (locs ++ L'') (cells + cc) (slots + ss) h') → Q v h' L'' → Go p e below K (T'.setTop (mkF m pc' L (v.toList ++ rest)))) : Go p e below K (T.setTop (mkF m pc L S0)) := by
  subst hS hp
  obtain ⟨v, _, ⟨T', L'', k', n'⟩, -, X', ⟨Lc, hQ, l', y', z'⟩, st'⟩ := Jvm.LawKit.callS X.X X.hx (y := y) X.own_ (mvT X.hZ w1) (mvT X.hZ w2) (mvT X.hZ w0) (mvT X.hZ w4) hy Bk (g := mkF m pc L (argsL.reverse ++ rest)) rfl (by rw [X.ml_]; exact hL) (argsL := argsL) (rest := rest) (lenOf hps hlen) rfl (by show 2 * 0 + _ ≤ _; rw [hW, Nat.mul_zero, Nat.zero_add]; exact Nat.le_refl _) (X.d hd) (fun _ _ => ⟨rfl, X.eT, hc, hs⟩)
  dsimp only [Pt.U, Pt.locs, Pt.cells, Pt.slots] at X' l' y' z' st' hQ
  subst l' y' z'
  exact (k v T' T'.heap Lc (fun hz hF zz => X.to X' rfl (X.fr.app hF) hz zz) hQ).of st'
theorem g_ncallS (X : St Z n0 p l e R s vm0 m args below meth c own nm bytes ml ret T locs cells slots h) {i : Nat} {y : MethodName} {b' : ByteArray} {ml' : Nat} {ret' : Option FieldType} {rm : Room} {Q : Option Value → Heap → List Loc → Prop} {ps : List FieldType} {r : Option FieldType} {W : Nat} {S0 rest : List Value} (argsL : List Value) (w1 : (Jvm.Cond.methodLink own i y).before a0 Z = true) (w2 : (Jvm.Cond.static y).before a0 Z = true) (w0 : (Jvm.Cond.initialized y.cls).before a0 Z = true) (w4 : (Jvm.Cond.code y b' ml' ret').before a0 Z = true) (w3 : (Jvm.Cond.initialized y.cls).before a0 Z = true) (C : Nar.Con l Z y b' ml' ret' [] rm rm.cells rm.slots argsL.toArray h Q) (hy : y.cls ≠ "java/lang/invoke/MethodHandle" ∧ y.cls ≠ "java/lang/invoke/VarHandle") (hf : rm.frames + 1 ≤ R.frames) (hl : W + (ml' + 11) + rm.locals ≤ R.locals) (hc : cells + rm.cells ≤ R.cells) (hs : slots + rm.slots ≤ R.slots) (hL : L.size = ml) (hps : parseMethodDescriptor y.desc = some ⟨ps, r⟩) (hlen : argsL.length = ps.length) (hS : S0 = argsL.reverse ++ rest) (hW : (rest.map fun v => v.category).sum = W) (hd : decode bytes pc = .ok (.invokestatic i, 3)) (hp : pc + 3 = pc') (k : ∀ v T' h' L'', (Old Z n0 h' → Fr n0 L'' → h.size ≤ h'.size → St Z n0 p l e R s vm0 m args below meth c own nm bytes ml ret T' (locs ++ L'') (cells + rm.cells) (slots + rm.slots) h') → Q v h' L'' → Go p e below K (T'.setTop (mkF m pc' L (v.toList ++ rest)))) : Go p e below K (T.setTop (mkF m pc L S0)) :=
  g_ncallSB X argsL w1 w2 w0 w4 (backOf (W := W) C X.hZ w4 w3 hf hl) hy hc hs hL hps hlen hS hW hd hp k
theorem g_ncallIB (X : St Z n0 p l e R s vm0 m args below meth c own nm bytes ml ret T locs cells slots h) {i : Nat} {y : MethodName} {b' : ByteArray} {ml' : Nat} {ret' : Option FieldType} {cc ss : Nat} {Q : Option Value → Heap → List Loc → Prop} {ps : List FieldType} {r : Option FieldType} {W : Nat} {S0 rest : List Value} (argsL : List Value) {a : Addr} (hinit : y.name = "<init>") (w1 : (Jvm.Cond.methodLink own i y).before a0 Z = true) (w2 : (Jvm.Cond.instanceMethod y).before a0 Z = true) (hr : ret' = none) (w4 : (Jvm.Cond.code y b' ml' ret').before a0 Z = true) (Bk : Back l R p e below (s.setVm vm0) args y 3 W (fun A a' => a' = (.ref a :: argsL).toArray ∧ A.U.heap = h ∧ A.cells + cc ≤ R.cells ∧ A.slots + ss ≤ R.slots) (fun A _ v B => ∃ L, Q v B.U.heap L ∧ B.locs = A.locs ++ L ∧ B.cells = A.cells + cc ∧ B.slots = A.slots + ss)) (hy : y.cls ≠ "java/lang/invoke/MethodHandle" ∧ y.cls ≠ "java/lang/invoke/VarHandle") (hc : cells + cc ≤ R.cells) (hs : slots + ss ≤ R.slots) (hL : L.size = ml) (hps : parseMethodDescriptor y.desc = some ⟨ps, r⟩) (hlen : argsL.length = ps.length) (hS : S0 = argsL.reverse ++ .ref a :: rest) (hW : (rest.map fun v => v.category).sum = W) (hd : decode bytes pc = .ok (.invokespecial i, 3)) (hp : pc + 3 = pc') (k : ∀ v T' h' L'', (Old Z n0 h' → Fr n0 L'' → h.size ≤ h'.size → St Z n0 p l e R s vm0 m args below meth c own nm bytes ml ret T' (locs ++ L'') (cells + cc) (slots + ss) h') → Q v h' L'' → Go p e below K (T'.setTop (mkF m pc' L (v.toList ++ rest)))) : Go p e below K (T.setTop (mkF m pc L S0)) := by
  subst hS hp
  subst hr
  obtain ⟨v, _, ⟨T', L'', k', n'⟩, -, X', ⟨Lc, hQ, l', y', z'⟩, st'⟩ := X.X.specialBack X.hx (y := y) hinit X.own_ (mvT X.hZ w1) (mvT X.hZ w2) (mvT X.hZ w4) hy Bk (g := mkF m pc L (argsL.reverse ++ .ref a :: rest)) rfl (by rw [X.ml_]; exact hL) (Steps.refl _) (a := a) (argsL := argsL) (rest := rest) (lenOf hps hlen) rfl (by show 2 * 0 + _ ≤ _; rw [hW, Nat.mul_zero, Nat.zero_add]; exact Nat.le_refl _) (X.d hd) (fun _ _ => ⟨rfl, X.eT, hc, hs⟩)
  dsimp only [Pt.U, Pt.locs, Pt.cells, Pt.slots] at X' l' y' z' st' hQ
  subst l' y' z'
  exact (k v T' T'.heap Lc (fun hz hF zz => X.to X' rfl (X.fr.app hF) hz zz) hQ).of (fun _ q => st'.trans q)
theorem g_ncallI (X : St Z n0 p l e R s vm0 m args below meth c own nm bytes ml ret T locs cells slots h) {i : Nat} {y : MethodName} {b' : ByteArray} {ml' : Nat} {ret' : Option FieldType} {rm : Room} {Q : Option Value → Heap → List Loc → Prop} {ps : List FieldType} {r : Option FieldType} {W : Nat} {S0 rest : List Value} (argsL : List Value) {a : Addr} (hinit : y.name = "<init>") (w1 : (Jvm.Cond.methodLink own i y).before a0 Z = true) (w2 : (Jvm.Cond.instanceMethod y).before a0 Z = true) (hr : ret' = none) (w4 : (Jvm.Cond.code y b' ml' ret').before a0 Z = true) (w3 : (Jvm.Cond.initialized y.cls).before a0 Z = true) (C : Nar.Con l Z y b' ml' ret' [] rm rm.cells rm.slots (.ref a :: argsL).toArray h Q) (hy : y.cls ≠ "java/lang/invoke/MethodHandle" ∧ y.cls ≠ "java/lang/invoke/VarHandle") (hf : rm.frames + 1 ≤ R.frames) (hl : W + (ml' + 11) + rm.locals ≤ R.locals) (hc : cells + rm.cells ≤ R.cells) (hs : slots + rm.slots ≤ R.slots) (hL : L.size = ml) (hps : parseMethodDescriptor y.desc = some ⟨ps, r⟩) (hlen : argsL.length = ps.length) (hS : S0 = argsL.reverse ++ .ref a :: rest) (hW : (rest.map fun v => v.category).sum = W) (hd : decode bytes pc = .ok (.invokespecial i, 3)) (hp : pc + 3 = pc') (k : ∀ v T' h' L'', (Old Z n0 h' → Fr n0 L'' → h.size ≤ h'.size → St Z n0 p l e R s vm0 m args below meth c own nm bytes ml ret T' (locs ++ L'') (cells + rm.cells) (slots + rm.slots) h') → Q v h' L'' → Go p e below K (T'.setTop (mkF m pc' L (v.toList ++ rest)))) : Go p e below K (T.setTop (mkF m pc L S0)) :=
  g_ncallIB X argsL hinit w1 w2 hr w4 (backOf (W := W) C X.hZ w4 w3 hf hl) hy hc hs hL hps hlen hS hW hd hp k
theorem g_ncallVB (X : St Z n0 p l e R s vm0 m args below meth c own nm bytes ml ret T locs cells slots h) {i : Nat} {y : MethodName} {b' : ByteArray} {ml' : Nat} {ret' : Option FieldType} {cc ss : Nat} {Q : Option Value → Heap → List Loc → Prop} {ps : List FieldType} {r : Option FieldType} {W : Nat} {S0 rest : List Value} (argsL : List Value) {C0 : String} {z : MethodName} {a : Addr} (w1 : (Jvm.Cond.methodLink own i y).before a0 Z = true) (w2 : (Jvm.Cond.declares y).before a0 Z = true) (nf : NotFace (s.setVm vm0) y) (w5 : (Jvm.Cond.selects C0 y z).before a0 Z = true) (w6 : (Jvm.Cond.instanceMethod z).before a0 Z = true) (E : Exa Z h a C0) (w4 : (Jvm.Cond.code z b' ml' ret').before a0 Z = true) (Bk : Back l R p e below (s.setVm vm0) args z 3 W (fun A a' => a' = (.ref a :: argsL).toArray ∧ A.U.heap = h ∧ A.cells + cc ≤ R.cells ∧ A.slots + ss ≤ R.slots) (fun A _ v B => ∃ L, Q v B.U.heap L ∧ B.locs = A.locs ++ L ∧ B.cells = A.cells + cc ∧ B.slots = A.slots + ss)) (hy : y.cls ≠ "java/lang/invoke/MethodHandle" ∧ y.cls ≠ "java/lang/invoke/VarHandle") (hc : cells + cc ≤ R.cells) (hs : slots + ss ≤ R.slots) (hL : L.size = ml) (hps : parseMethodDescriptor y.desc = some ⟨ps, r⟩) (hlen : argsL.length = ps.length) (hS : S0 = argsL.reverse ++ .ref a :: rest) (hW : (rest.map fun v => v.category).sum = W) (hd : decode bytes pc = .ok (.invokevirtual i, 3)) (hp : pc + 3 = pc') (k : ∀ v T' h' L'', (Old Z n0 h' → Fr n0 L'' → h.size ≤ h'.size → St Z n0 p l e R s vm0 m args below meth c own nm bytes ml ret T' (locs ++ L'') (cells + cc) (slots + ss) h') → Q v h' L'' → Go p e below K (T'.setTop (mkF m pc' L (v.toList ++ rest)))) : Go p e below K (T.setTop (mkF m pc L S0)) := by
  subst hS hp
  obtain ⟨cq, kq, q1, q2, q3⟩ := isOf X.hZ X.eT E
  obtain ⟨v, _, ⟨T', L'', k', n'⟩, -, X', ⟨Lc, hQ, l', y', z'⟩, st'⟩ := X.X.virtualBack X.hx (y := y) (z := z) X.own_ (mvT X.hZ w1) (mvT X.hZ w2) nf (mvT X.hZ w5) (mvT X.hZ w6) hy Bk q1 q3 (g := mkF m pc L (argsL.reverse ++ .ref a :: rest)) rfl (by rw [X.ml_]; exact hL) (Steps.refl _) (argsL := argsL) (rest := rest) (lenOf hps hlen) rfl (by show 2 * 0 + _ ≤ _; rw [hW, Nat.mul_zero, Nat.zero_add]; exact Nat.le_refl _) (X.d hd) (fun _ _ => ⟨rfl, X.eT, hc, hs⟩)
  dsimp only [Pt.U, Pt.locs, Pt.cells, Pt.slots] at X' l' y' z' st' hQ
  subst l' y' z'
  exact (k v T' T'.heap Lc (fun hz hF zz => X.to X' rfl (X.fr.app hF) hz zz) hQ).of (fun _ q => st'.trans q)
theorem g_ncallV (X : St Z n0 p l e R s vm0 m args below meth c own nm bytes ml ret T locs cells slots h) {i : Nat} {y : MethodName} {b' : ByteArray} {ml' : Nat} {ret' : Option FieldType} {rm : Room} {Q : Option Value → Heap → List Loc → Prop} {ps : List FieldType} {r : Option FieldType} {W : Nat} {S0 rest : List Value} (argsL : List Value) {C0 : String} {z : MethodName} {a : Addr} (w1 : (Jvm.Cond.methodLink own i y).before a0 Z = true) (w2 : (Jvm.Cond.declares y).before a0 Z = true) (nf : NotFace (s.setVm vm0) y) (w5 : (Jvm.Cond.selects C0 y z).before a0 Z = true) (w6 : (Jvm.Cond.instanceMethod z).before a0 Z = true) (E : Exa Z h a C0) (w4 : (Jvm.Cond.code z b' ml' ret').before a0 Z = true) (w3 : (Jvm.Cond.initialized z.cls).before a0 Z = true) (C : Nar.Con l Z z b' ml' ret' [] rm rm.cells rm.slots (.ref a :: argsL).toArray h Q) (hy : y.cls ≠ "java/lang/invoke/MethodHandle" ∧ y.cls ≠ "java/lang/invoke/VarHandle") (hf : rm.frames + 1 ≤ R.frames) (hl : W + (ml' + 11) + rm.locals ≤ R.locals) (hc : cells + rm.cells ≤ R.cells) (hs : slots + rm.slots ≤ R.slots) (hL : L.size = ml) (hps : parseMethodDescriptor y.desc = some ⟨ps, r⟩) (hlen : argsL.length = ps.length) (hS : S0 = argsL.reverse ++ .ref a :: rest) (hW : (rest.map fun v => v.category).sum = W) (hd : decode bytes pc = .ok (.invokevirtual i, 3)) (hp : pc + 3 = pc') (k : ∀ v T' h' L'', (Old Z n0 h' → Fr n0 L'' → h.size ≤ h'.size → St Z n0 p l e R s vm0 m args below meth c own nm bytes ml ret T' (locs ++ L'') (cells + rm.cells) (slots + rm.slots) h') → Q v h' L'' → Go p e below K (T'.setTop (mkF m pc' L (v.toList ++ rest)))) : Go p e below K (T.setTop (mkF m pc L S0)) :=
  g_ncallVB X argsL w1 w2 nf w5 w6 E w4 (backOf (W := W) C X.hZ w4 w3 hf hl) hy hc hs hL hps hlen hS hW hd hp k
theorem g_ncallPB (X : St Z n0 p l e R s vm0 m args below meth c own nm bytes ml ret T locs cells slots h) {i : Nat} {y : MethodName} {b' : ByteArray} {ml' : Nat} {ret' : Option FieldType} {cc ss : Nat} {Q : Option Value → Heap → List Loc → Prop} {ps : List FieldType} {r : Option FieldType} {W : Nat} {S0 rest : List Value} (argsL : List Value) {C0 : String} {kk : Nat} {a : Addr} (w1 : (Jvm.Cond.methodLink own i y).before a0 Z = true) (w2 : (Jvm.Cond.instanceMethod y).before a0 Z = true) (wp : (Jvm.Cond.privateMethod y).before a0 Z = true) (wi : (Jvm.Cond.instantiable y.cls kk).before a0 Z = true) (E : Exa Z h a C0) (w4 : (Jvm.Cond.code y b' ml' ret').before a0 Z = true) (Bk : Back l R p e below (s.setVm vm0) args y 3 W (fun A a' => a' = (.ref a :: argsL).toArray ∧ A.U.heap = h ∧ A.cells + cc ≤ R.cells ∧ A.slots + ss ≤ R.slots) (fun A _ v B => ∃ L, Q v B.U.heap L ∧ B.locs = A.locs ++ L ∧ B.cells = A.cells + cc ∧ B.slots = A.slots + ss)) (hy : y.cls ≠ "java/lang/invoke/MethodHandle" ∧ y.cls ≠ "java/lang/invoke/VarHandle") (hc : cells + cc ≤ R.cells) (hs : slots + ss ≤ R.slots) (hL : L.size = ml) (hps : parseMethodDescriptor y.desc = some ⟨ps, r⟩) (hlen : argsL.length = ps.length) (hS : S0 = argsL.reverse ++ .ref a :: rest) (hW : (rest.map fun v => v.category).sum = W) (hd : decode bytes pc = .ok (.invokevirtual i, 3)) (hp : pc + 3 = pc') (k : ∀ v T' h' L'', (Old Z n0 h' → Fr n0 L'' → h.size ≤ h'.size → St Z n0 p l e R s vm0 m args below meth c own nm bytes ml ret T' (locs ++ L'') (cells + cc) (slots + ss) h') → Q v h' L'' → Go p e below K (T'.setTop (mkF m pc' L (v.toList ++ rest)))) : Go p e below K (T.setTop (mkF m pc L S0)) := by
  subst hS hp
  obtain ⟨cq, q1, q2⟩ := E.cell
  have hpr : State.PrivateAt (s.setVm vm0) y := Cond.privateMethod_at (mvP X.hZ wp (args := #[]))
  obtain ⟨c1, k1, f1, f2, f3, f4, -, -⟩ := Cond.instantiable_spec (show (Jvm.Cond.instantiable y.cls kk).holds #[] (s.setVm vm0) none (s.setVm vm0) [] = true from mvT X.hZ wi)
  obtain ⟨v, _, ⟨T', L'', k', n'⟩, -, X', ⟨Lc, hQ, l', y', z'⟩, st'⟩ := X.X.privateBack X.hx (y := y) X.own_ (mvT X.hZ w1) (mvT X.hZ w2) (selects_self_of_private f1 f2 (by cases hq : k1.isInterface with | false => rfl | true => rw [hq] at f4; simp at f4) hpr (mvT X.hZ w2) hy) hpr (mvT X.hZ w4) hy Bk (g := mkF m pc L (argsL.reverse ++ .ref a :: rest)) rfl (by rw [X.ml_]; exact hL) (Steps.refl _) (a := a) (by rw [X.eT]; exact q1) q2 (argsL := argsL) (rest := rest) (lenOf hps hlen) rfl (by show 2 * 0 + _ ≤ _; rw [hW, Nat.mul_zero, Nat.zero_add]; exact Nat.le_refl _) (X.d hd) (fun _ _ => ⟨rfl, X.eT, hc, hs⟩)
  dsimp only [Pt.U, Pt.locs, Pt.cells, Pt.slots] at X' l' y' z' st' hQ
  subst l' y' z'
  exact (k v T' T'.heap Lc (fun hz hF zz => X.to X' rfl (X.fr.app hF) hz zz) hQ).of (fun _ q => st'.trans q)
theorem g_ncallP (X : St Z n0 p l e R s vm0 m args below meth c own nm bytes ml ret T locs cells slots h) {i : Nat} {y : MethodName} {b' : ByteArray} {ml' : Nat} {ret' : Option FieldType} {rm : Room} {Q : Option Value → Heap → List Loc → Prop} {ps : List FieldType} {r : Option FieldType} {W : Nat} {S0 rest : List Value} (argsL : List Value) {C0 : String} {kk : Nat} {a : Addr} (w1 : (Jvm.Cond.methodLink own i y).before a0 Z = true) (w2 : (Jvm.Cond.instanceMethod y).before a0 Z = true) (wp : (Jvm.Cond.privateMethod y).before a0 Z = true) (wi : (Jvm.Cond.instantiable y.cls kk).before a0 Z = true) (E : Exa Z h a C0) (w4 : (Jvm.Cond.code y b' ml' ret').before a0 Z = true) (w3 : (Jvm.Cond.initialized y.cls).before a0 Z = true) (C : Nar.Con l Z y b' ml' ret' [] rm rm.cells rm.slots (.ref a :: argsL).toArray h Q) (hy : y.cls ≠ "java/lang/invoke/MethodHandle" ∧ y.cls ≠ "java/lang/invoke/VarHandle") (hf : rm.frames + 1 ≤ R.frames) (hl : W + (ml' + 11) + rm.locals ≤ R.locals) (hc : cells + rm.cells ≤ R.cells) (hs : slots + rm.slots ≤ R.slots) (hL : L.size = ml) (hps : parseMethodDescriptor y.desc = some ⟨ps, r⟩) (hlen : argsL.length = ps.length) (hS : S0 = argsL.reverse ++ .ref a :: rest) (hW : (rest.map fun v => v.category).sum = W) (hd : decode bytes pc = .ok (.invokevirtual i, 3)) (hp : pc + 3 = pc') (k : ∀ v T' h' L'', (Old Z n0 h' → Fr n0 L'' → h.size ≤ h'.size → St Z n0 p l e R s vm0 m args below meth c own nm bytes ml ret T' (locs ++ L'') (cells + rm.cells) (slots + rm.slots) h') → Q v h' L'' → Go p e below K (T'.setTop (mkF m pc' L (v.toList ++ rest)))) : Go p e below K (T.setTop (mkF m pc L S0)) :=
  g_ncallPB X argsL w1 w2 wp wi E w4 (backOf (W := W) C X.hZ w4 w3 hf hl) hy hc hs hL hps hlen hS hW hd hp k
theorem g_ncallQB (X : St Z n0 p l e R s vm0 m args below meth c own nm bytes ml ret T locs cells slots h) {i : Nat} {y : MethodName} {b' : ByteArray} {ml' : Nat} {ret' : Option FieldType} {cc ss : Nat} {Q : Option Value → Heap → List Loc → Prop} {ps : List FieldType} {r : Option FieldType} {W : Nat} {S0 rest : List Value} (argsL : List Value) {C0 C1 : String} {a : Addr} (w1 : (Jvm.Cond.methodLink own i y).before a0 Z = true) (w2 : (Jvm.Cond.instanceMethod y).before a0 Z = true) (wp : (Jvm.Cond.privateMethod y).before a0 Z = true) (w5 : (Jvm.Cond.selects C1 y y).before a0 Z = true) (E : Exa Z h a C0) (w4 : (Jvm.Cond.code y b' ml' ret').before a0 Z = true) (Bk : Back l R p e below (s.setVm vm0) args y 3 W (fun A a' => a' = (.ref a :: argsL).toArray ∧ A.U.heap = h ∧ A.cells + cc ≤ R.cells ∧ A.slots + ss ≤ R.slots) (fun A _ v B => ∃ L, Q v B.U.heap L ∧ B.locs = A.locs ++ L ∧ B.cells = A.cells + cc ∧ B.slots = A.slots + ss)) (hy : y.cls ≠ "java/lang/invoke/MethodHandle" ∧ y.cls ≠ "java/lang/invoke/VarHandle") (hc : cells + cc ≤ R.cells) (hs : slots + ss ≤ R.slots) (hL : L.size = ml) (hps : parseMethodDescriptor y.desc = some ⟨ps, r⟩) (hlen : argsL.length = ps.length) (hS : S0 = argsL.reverse ++ .ref a :: rest) (hW : (rest.map fun v => v.category).sum = W) (hd : decode bytes pc = .ok (.invokevirtual i, 3)) (hp : pc + 3 = pc') (k : ∀ v T' h' L'', (Old Z n0 h' → Fr n0 L'' → h.size ≤ h'.size → St Z n0 p l e R s vm0 m args below meth c own nm bytes ml ret T' (locs ++ L'') (cells + cc) (slots + ss) h') → Q v h' L'' → Go p e below K (T'.setTop (mkF m pc' L (v.toList ++ rest)))) : Go p e below K (T.setTop (mkF m pc L S0)) := by
  subst hS hp
  obtain ⟨cq, q1, q2⟩ := E.cell
  have hpr : State.PrivateAt (s.setVm vm0) y := Cond.privateMethod_at (mvP X.hZ wp (args := #[]))
  obtain ⟨v, _, ⟨T', L'', k', n'⟩, -, X', ⟨Lc, hQ, l', y', z'⟩, st'⟩ := X.X.privateBack X.hx (y := y) X.own_ (mvT X.hZ w1) (mvT X.hZ w2) (mvT X.hZ (own_selP w2 wp w5 hy)) hpr (mvT X.hZ w4) hy Bk (g := mkF m pc L (argsL.reverse ++ .ref a :: rest)) rfl (by rw [X.ml_]; exact hL) (Steps.refl _) (a := a) (by rw [X.eT]; exact q1) q2 (argsL := argsL) (rest := rest) (lenOf hps hlen) rfl (by show 2 * 0 + _ ≤ _; rw [hW, Nat.mul_zero, Nat.zero_add]; exact Nat.le_refl _) (X.d hd) (fun _ _ => ⟨rfl, X.eT, hc, hs⟩)
  dsimp only [Pt.U, Pt.locs, Pt.cells, Pt.slots] at X' l' y' z' st' hQ
  subst l' y' z'
  exact (k v T' T'.heap Lc (fun hz hF zz => X.to X' rfl (X.fr.app hF) hz zz) hQ).of (fun _ q => st'.trans q)
theorem g_ncallQ (X : St Z n0 p l e R s vm0 m args below meth c own nm bytes ml ret T locs cells slots h) {i : Nat} {y : MethodName} {b' : ByteArray} {ml' : Nat} {ret' : Option FieldType} {rm : Room} {Q : Option Value → Heap → List Loc → Prop} {ps : List FieldType} {r : Option FieldType} {W : Nat} {S0 rest : List Value} (argsL : List Value) {C0 C1 : String} {a : Addr} (w1 : (Jvm.Cond.methodLink own i y).before a0 Z = true) (w2 : (Jvm.Cond.instanceMethod y).before a0 Z = true) (wp : (Jvm.Cond.privateMethod y).before a0 Z = true) (w5 : (Jvm.Cond.selects C1 y y).before a0 Z = true) (E : Exa Z h a C0) (w4 : (Jvm.Cond.code y b' ml' ret').before a0 Z = true) (w3 : (Jvm.Cond.initialized y.cls).before a0 Z = true) (C : Nar.Con l Z y b' ml' ret' [] rm rm.cells rm.slots (.ref a :: argsL).toArray h Q) (hy : y.cls ≠ "java/lang/invoke/MethodHandle" ∧ y.cls ≠ "java/lang/invoke/VarHandle") (hf : rm.frames + 1 ≤ R.frames) (hl : W + (ml' + 11) + rm.locals ≤ R.locals) (hc : cells + rm.cells ≤ R.cells) (hs : slots + rm.slots ≤ R.slots) (hL : L.size = ml) (hps : parseMethodDescriptor y.desc = some ⟨ps, r⟩) (hlen : argsL.length = ps.length) (hS : S0 = argsL.reverse ++ .ref a :: rest) (hW : (rest.map fun v => v.category).sum = W) (hd : decode bytes pc = .ok (.invokevirtual i, 3)) (hp : pc + 3 = pc') (k : ∀ v T' h' L'', (Old Z n0 h' → Fr n0 L'' → h.size ≤ h'.size → St Z n0 p l e R s vm0 m args below meth c own nm bytes ml ret T' (locs ++ L'') (cells + rm.cells) (slots + rm.slots) h') → Q v h' L'' → Go p e below K (T'.setTop (mkF m pc' L (v.toList ++ rest)))) : Go p e below K (T.setTop (mkF m pc L S0)) :=
  g_ncallQB X argsL w1 w2 wp w5 E w4 (backOf (W := W) C X.hZ w4 w3 hf hl) hy hc hs hL hps hlen hS hW hd hp k
theorem g_ncallUB (X : St Z n0 p l e R s vm0 m args below meth c own nm bytes ml ret T locs cells slots h) {i : Nat} {y : MethodName} {b' : ByteArray} {ml' : Nat} {ret' : Option FieldType} {cc ss : Nat} {Q : Option Value → Heap → List Loc → Prop} {ps : List FieldType} {r : Option FieldType} {W : Nat} {S0 rest : List Value} (argsL : List Value) {C1 : String} {y' : MethodName} {a : Addr} (w1 : (Jvm.Cond.methodLink own i y).before a0 Z = true) (w2 : (Jvm.Cond.instanceMethod y).before a0 Z = true) (w5 : (Jvm.Cond.selects C1 y' y').before a0 Z = true) (hyc : y'.cls = y.cls) (w6 : (Jvm.Cond.superclass own y.cls).before a0 Z = true) (hni : y.name ≠ "<init>") (E : Exa Z h a own) (w4 : (Jvm.Cond.code y b' ml' ret').before a0 Z = true) (Bk : Back l R p e below (s.setVm vm0) args y 3 W (fun A a' => a' = (.ref a :: argsL).toArray ∧ A.U.heap = h ∧ A.cells + cc ≤ R.cells ∧ A.slots + ss ≤ R.slots) (fun A _ v B => ∃ L, Q v B.U.heap L ∧ B.locs = A.locs ++ L ∧ B.cells = A.cells + cc ∧ B.slots = A.slots + ss)) (hy : y.cls ≠ "java/lang/invoke/MethodHandle" ∧ y.cls ≠ "java/lang/invoke/VarHandle") (hc : cells + cc ≤ R.cells) (hs : slots + ss ≤ R.slots) (hL : L.size = ml) (hps : parseMethodDescriptor y.desc = some ⟨ps, r⟩) (hlen : argsL.length = ps.length) (hS : S0 = argsL.reverse ++ .ref a :: rest) (hW : (rest.map fun v => v.category).sum = W) (hd : decode bytes pc = .ok (.invokespecial i, 3)) (hp : pc + 3 = pc') (k : ∀ v T' h' L'', (Old Z n0 h' → Fr n0 L'' → h.size ≤ h'.size → St Z n0 p l e R s vm0 m args below meth c own nm bytes ml ret T' (locs ++ L'') (cells + cc) (slots + ss) h') → Q v h' L'' → Go p e below K (T'.setTop (mkF m pc' L (v.toList ++ rest)))) : Go p e below K (T.setTop (mkF m pc L S0)) := by
  subst hS hp
  obtain ⟨v, _, ⟨T', L'', k', n'⟩, -, X', ⟨Lc, hQ, l', y', z'⟩, st'⟩ := superBack X.X X.hx X.hZ (y := y) X.own_ w1 (own_sameM w2 w5 hyc hy) w2 w6 hni Bk X.eT (Ins.self E) (g := mkF m pc L (argsL.reverse ++ .ref a :: rest)) rfl (by rw [X.ml_]; exact hL) w4 (argsL := argsL) (rest := rest) (lenOf hps hlen) rfl (by show 2 * 0 + _ ≤ _; rw [hW, Nat.mul_zero, Nat.zero_add]; exact Nat.le_refl _) (X.d hd) (fun _ _ => ⟨rfl, X.eT, hc, hs⟩)
  dsimp only [Pt.U, Pt.locs, Pt.cells, Pt.slots] at X' l' y' z' st' hQ
  subst l' y' z'
  exact (k v T' T'.heap Lc (fun hz hF zz => X.to X' rfl (X.fr.app hF) hz zz) hQ).of (fun _ q => st'.trans q)
theorem g_ncallU (X : St Z n0 p l e R s vm0 m args below meth c own nm bytes ml ret T locs cells slots h) {i : Nat} {y : MethodName} {b' : ByteArray} {ml' : Nat} {ret' : Option FieldType} {rm : Room} {Q : Option Value → Heap → List Loc → Prop} {ps : List FieldType} {r : Option FieldType} {W : Nat} {S0 rest : List Value} (argsL : List Value) {C1 : String} {y' : MethodName} {a : Addr} (w1 : (Jvm.Cond.methodLink own i y).before a0 Z = true) (w2 : (Jvm.Cond.instanceMethod y).before a0 Z = true) (w5 : (Jvm.Cond.selects C1 y' y').before a0 Z = true) (hyc : y'.cls = y.cls) (w6 : (Jvm.Cond.superclass own y.cls).before a0 Z = true) (hni : y.name ≠ "<init>") (E : Exa Z h a own) (w4 : (Jvm.Cond.code y b' ml' ret').before a0 Z = true) (w3 : (Jvm.Cond.initialized y.cls).before a0 Z = true) (C : Nar.Con l Z y b' ml' ret' [] rm rm.cells rm.slots (.ref a :: argsL).toArray h Q) (hy : y.cls ≠ "java/lang/invoke/MethodHandle" ∧ y.cls ≠ "java/lang/invoke/VarHandle") (hf : rm.frames + 1 ≤ R.frames) (hl : W + (ml' + 11) + rm.locals ≤ R.locals) (hc : cells + rm.cells ≤ R.cells) (hs : slots + rm.slots ≤ R.slots) (hL : L.size = ml) (hps : parseMethodDescriptor y.desc = some ⟨ps, r⟩) (hlen : argsL.length = ps.length) (hS : S0 = argsL.reverse ++ .ref a :: rest) (hW : (rest.map fun v => v.category).sum = W) (hd : decode bytes pc = .ok (.invokespecial i, 3)) (hp : pc + 3 = pc') (k : ∀ v T' h' L'', (Old Z n0 h' → Fr n0 L'' → h.size ≤ h'.size → St Z n0 p l e R s vm0 m args below meth c own nm bytes ml ret T' (locs ++ L'') (cells + rm.cells) (slots + rm.slots) h') → Q v h' L'' → Go p e below K (T'.setTop (mkF m pc' L (v.toList ++ rest)))) : Go p e below K (T.setTop (mkF m pc L S0)) :=
  g_ncallUB X argsL w1 w2 w5 hyc w6 hni E w4 (backOf (W := W) C X.hZ w4 w3 hf hl) hy hc hs hL hps hlen hS hW hd hp k
theorem g_ncallSNB (X : St Z n0 p l e R s vm0 m args below meth c own nm bytes ml ret T locs cells slots h) {i : Nat} {y : MethodName} {b' : ByteArray} {ml' : Nat} {ret' : Option FieldType} {cc ss : Nat} {Q : Option Value → Heap → List Loc → Prop} {ps : List FieldType} {r : Option FieldType} {W : Nat} {S0 rest : List Value} (argsL : List Value) {host : String} (w1 : (Jvm.Cond.methodLinkNest own i y host).before a0 Z = true) (w2 : (Jvm.Cond.static y).before a0 Z = true) (w0 : (Jvm.Cond.initialized y.cls).before a0 Z = true) (w4 : (Jvm.Cond.code y b' ml' ret').before a0 Z = true) (Bk : Back l R p e below (s.setVm vm0) args y 3 W (fun A a' => a' = argsL.toArray ∧ A.U.heap = h ∧ A.cells + cc ≤ R.cells ∧ A.slots + ss ≤ R.slots) (fun A _ v B => ∃ L, Q v B.U.heap L ∧ B.locs = A.locs ++ L ∧ B.cells = A.cells + cc ∧ B.slots = A.slots + ss)) (hy : y.cls ≠ "java/lang/invoke/MethodHandle" ∧ y.cls ≠ "java/lang/invoke/VarHandle") (hc : cells + cc ≤ R.cells) (hs : slots + ss ≤ R.slots) (hL : L.size = ml) (hps : parseMethodDescriptor y.desc = some ⟨ps, r⟩) (hlen : argsL.length = ps.length) (hS : S0 = argsL.reverse ++ rest) (hW : (rest.map fun v => v.category).sum = W) (hd : decode bytes pc = .ok (.invokestatic i, 3)) (hp : pc + 3 = pc') (k : ∀ v T' h' L'', (Old Z n0 h' → Fr n0 L'' → h.size ≤ h'.size → St Z n0 p l e R s vm0 m args below meth c own nm bytes ml ret T' (locs ++ L'') (cells + cc) (slots + ss) h') → Q v h' L'' → Go p e below K (T'.setTop (mkF m pc' L (v.toList ++ rest)))) : Go p e below K (T.setTop (mkF m pc L S0)) := by
  subst hS hp
  obtain ⟨v, _, ⟨T', L'', k', n'⟩, -, X', ⟨Lc, hQ, l', y', z'⟩, st'⟩ := callSN X.X X.hx (y := y) X.own_ (Cond.methodLinkNest_wide X.hZ w1) (mvT X.hZ w2) (mvT X.hZ w0) (mvT X.hZ w4) hy Bk (g := mkF m pc L (argsL.reverse ++ rest)) rfl (by rw [X.ml_]; exact hL) (argsL := argsL) (rest := rest) (lenOf hps hlen) rfl (by show 2 * 0 + _ ≤ _; rw [hW, Nat.mul_zero, Nat.zero_add]; exact Nat.le_refl _) (X.d hd) (fun _ _ => ⟨rfl, X.eT, hc, hs⟩)
  dsimp only [Pt.U, Pt.locs, Pt.cells, Pt.slots] at X' l' y' z' st' hQ
  subst l' y' z'
  exact (k v T' T'.heap Lc (fun hz hF zz => X.to X' rfl (X.fr.app hF) hz zz) hQ).of (fun _ q => st'.trans q)
theorem g_ncallSN (X : St Z n0 p l e R s vm0 m args below meth c own nm bytes ml ret T locs cells slots h) {i : Nat} {y : MethodName} {b' : ByteArray} {ml' : Nat} {ret' : Option FieldType} {rm : Room} {Q : Option Value → Heap → List Loc → Prop} {ps : List FieldType} {r : Option FieldType} {W : Nat} {S0 rest : List Value} (argsL : List Value) {host : String} (w1 : (Jvm.Cond.methodLinkNest own i y host).before a0 Z = true) (w2 : (Jvm.Cond.static y).before a0 Z = true) (w0 : (Jvm.Cond.initialized y.cls).before a0 Z = true) (w4 : (Jvm.Cond.code y b' ml' ret').before a0 Z = true) (w3 : (Jvm.Cond.initialized y.cls).before a0 Z = true) (C : Nar.Con l Z y b' ml' ret' [] rm rm.cells rm.slots argsL.toArray h Q) (hy : y.cls ≠ "java/lang/invoke/MethodHandle" ∧ y.cls ≠ "java/lang/invoke/VarHandle") (hf : rm.frames + 1 ≤ R.frames) (hl : W + (ml' + 11) + rm.locals ≤ R.locals) (hc : cells + rm.cells ≤ R.cells) (hs : slots + rm.slots ≤ R.slots) (hL : L.size = ml) (hps : parseMethodDescriptor y.desc = some ⟨ps, r⟩) (hlen : argsL.length = ps.length) (hS : S0 = argsL.reverse ++ rest) (hW : (rest.map fun v => v.category).sum = W) (hd : decode bytes pc = .ok (.invokestatic i, 3)) (hp : pc + 3 = pc') (k : ∀ v T' h' L'', (Old Z n0 h' → Fr n0 L'' → h.size ≤ h'.size → St Z n0 p l e R s vm0 m args below meth c own nm bytes ml ret T' (locs ++ L'') (cells + rm.cells) (slots + rm.slots) h') → Q v h' L'' → Go p e below K (T'.setTop (mkF m pc' L (v.toList ++ rest)))) : Go p e below K (T.setTop (mkF m pc L S0)) :=
  g_ncallSNB X argsL w1 w2 w0 w4 (backOf (W := W) C X.hZ w4 w3 hf hl) hy hc hs hL hps hlen hS hW hd hp k
theorem g_arraycopy (X : St Z n0 p l e R s vm0 m args below meth c own nm bytes ml ret T locs cells slots h) {i : Nat} {a b : Addr} {sp dp nn : Int32} {si di ni : Nat} {ty : FieldType} {vs vd : List Value} {W : Nat} (w1 : (Jvm.Cond.methodLink own i Jvm.Stand.acN).before a0 Z = true) (w2 : (Jvm.Cond.native Jvm.Stand.acN).before a0 Z = true) (w3 : (Jvm.Cond.static Jvm.Stand.acN).before a0 Z = true) (w4 : (Jvm.Cond.initialized "java/lang/System").before a0 Z = true) (A : Arx Z h a ty vs) (B : Arx Z h b ty vd) (hty : refKind ty = false) (fs : ∀ v ∈ vs, fits ty v = true) (fd : ∀ v ∈ vd, fits ty v = true) (h1 : sp.toInt = (si : Int)) (h2 : dp.toInt = (di : Int)) (h3 : nn.toInt = (ni : Int)) (h4 : si + ni ≤ vs.length) (h5 : di + ni ≤ vd.length) (ge : n0 ≤ b) (hL : L.size = ml) (hW : (S.map fun v => v.category).sum = W) (hf : 1 ≤ R.frames) (hl : W + (nativeFrameWords "java/lang/System" "arraycopy" 5 + 11) ≤ R.locals) (hd : decode bytes pc = .ok (.invokestatic i, 3)) (hp : pc + 3 = pc')
    (k : ∀ T' h' locs', St Z n0 p l e R s vm0 m args below meth c own nm bytes ml ret T' locs' cells slots h' → Keep h h' [b] → Arx Z h' b ty (vd.take di ++ (vs.drop si).take ni ++ vd.drop (di + ni)) → Go p e below K (T'.setTop (mkF m pc' L S))) : Go p e below K (T.setTop (mkF m pc L (.int nn :: .int dp :: .ref b :: .int sp :: .ref a :: S))) := by
  have q1 := own_clampN h1; have q2 := own_clampN h2; have q3 := own_clampN h3
  obtain ⟨ka, VA⟩ := arx_arv (n := Int32.ofNat vs.length) (d := .int 0) A (Int32.toInt_ofNat_small A.le) fs
  obtain ⟨kb, VB⟩ := arx_arv (n := Int32.ofNat vd.length) (d := .int 0) B (Int32.toInt_ofNat_small B.le) fd
  have c1 := (own_clampN (Int32.toInt_ofNat_small A.le)).2; have c2 := (own_clampN (Int32.toInt_ofNat_small B.le)).2
  have hus : (vs.drop si).take ni = (List.range nn.toNatClampNeg).map fun i => vs.getD (sp.toNatClampNeg + i) (.int 0) := by
    rw [q1.2, q3.2]
    apply List.ext_getElem?
    intro j
    by_cases hj : j < ni
    · rw [List.getElem?_take_of_lt hj, List.getElem?_drop, List.getElem?_map, List.getElem?_range hj]
      simp [List.getElem?_eq_getElem (show si + j < vs.length by omega)]
    · rw [List.getElem?_eq_none (by rw [List.length_take, List.length_drop]; omega), List.getElem?_eq_none (by simp; omega)]
  obtain ⟨T', h', L', X', e', N', K', B', st'⟩ := cpA X.X X.hx X.hZ X.own_ w1 w2 w3 w4 X.eT VA VB (Or.inl ⟨rfl, hty⟩) q1.1 q2.1 q3.1 (by rw [q1.2, q3.2, c1]; exact h4) (by rw [q2.2, q3.2, c2]; exact h5) hus (by rw [q2.2, q3.2]; exact h5) X.fr ge (g := mkF m pc L (.int nn :: .int dp :: .ref b :: .int sp :: .ref a :: S)) rfl (by rw [X.ml_]; exact hL) rfl (X.d hd) hf (W := W) (by show 2 * 0 + _ ≤ _; rw [hW, Nat.mul_zero, Nat.zero_add]; exact Nat.le_refl _) hl
  rw [q2.2, q3.2] at B'
  subst hp; exact (k T' h' L' (X.to X' e' N' (X.old.keep K' (allS ge all0)) K'.1) K' (arv_arx B' (by rw [Int32.toInt_ofNat_small B.le]; simp only [List.length_append, List.length_take, List.length_drop]; omega))).of st'
theorem g_rawbits (X : St Z n0 p l e R s vm0 m args below meth c own nm bytes ml ret T locs cells slots h) {i : Nat} {b : UInt64} {W : Nat} (w1 : (Jvm.Cond.methodLink own i doubleToRawLongBitsName).before a0 Z = true) (w2 : (Jvm.Cond.native doubleToRawLongBitsName).before a0 Z = true) (w3 : (Jvm.Cond.static doubleToRawLongBitsName).before a0 Z = true) (w4 : (Jvm.Cond.initialized "java/lang/Double").before a0 Z = true) (hL : L.size = ml) (hW : (S.map fun v => v.category).sum = W) (hf : 1 ≤ R.frames) (hl : W + (nativeFrameWords "java/lang/Double" "doubleToRawLongBits" 2 + 11) ≤ R.locals) (hd : decode bytes pc = .ok (.invokestatic i, 3)) (hp : pc + 3 = pc') (k : ∀ T', St Z n0 p l e R s vm0 m args below meth c own nm bytes ml ret T' locs cells slots h → Go p e below K (T'.setTop (mkF m pc' L (.long b.toInt64 :: S)))) : Go p e below K (T.setTop (mkF m pc L (.double b :: S))) := by
  obtain ⟨vm', X', st'⟩ := X.X.doubleToRawLongBits X.hx X.own_ (mvT X.hZ w1) (mvT X.hZ w2) (mvT X.hZ w3) (mvT X.hZ w4) (g := mkF m pc L (.double b :: S)) rfl (by rw [X.ml_]; exact hL) rfl (X.d hd) hf (by show 2 * 0 + _ + _ ≤ _; rw [hW, Nat.mul_zero, Nat.zero_add]; exact hl)
  subst hp; exact (k _ (X.to X' X.eT X.fr X.old (Nat.le_refl _))).of st'
theorem g_retI (X : St Z n0 p l e R s vm0 m args below meth c own nm bytes ml ret T locs cells slots h) {C N : Nat} {Q : Option Value → Heap → List Loc → Prop} {z : Int32} (hr : ret = some .int) (hd : decode bytes pc = .ok (.ireturn, 1)) (hc : cells ≤ C) (hs : slots ≤ N) (q : Q (some (.int z)) h locs) : Go p e below (Kq s C N Q) (T.setTop (mkF m pc L (.int z :: S))) := by
  obtain ⟨k0, hS, hk⟩ := X.2.2.2.2.2
  obtain ⟨fs, hl, hrun, hended, q1, q2, q3, hsame⟩ := X.X.leaveW hS (X.eT.symm ▸ hk) (v := (some (.int z))) (fun h => by rw [X.ret_, hr] at h; cases h) X.lk
  exact ⟨_, _, retOut X.X X.hx (t := .int) (X.ret_.trans hr) rfl (Or.inl ⟨rfl, Or.inl rfl, _, rfl⟩) (X.d hd) hl, hrun, hended, _, _, rfl, (show Q _ T.heap _ by rw [X.eT]; exact q), q1, q2, q3, hsame.mono hc hs⟩
theorem g_retL (X : St Z n0 p l e R s vm0 m args below meth c own nm bytes ml ret T locs cells slots h) {C N : Nat} {Q : Option Value → Heap → List Loc → Prop} {z : Int64} (hr : ret = some .long) (hd : decode bytes pc = .ok (.lreturn, 1)) (hc : cells ≤ C) (hs : slots ≤ N) (q : Q (some (.long z)) h locs) : Go p e below (Kq s C N Q) (T.setTop (mkF m pc L (.long z :: S))) := by
  obtain ⟨k0, hS, hk⟩ := X.2.2.2.2.2
  obtain ⟨fs, hl, hrun, hended, q1, q2, q3, hsame⟩ := X.X.leaveW hS (X.eT.symm ▸ hk) (v := (some (.long z))) (fun h => by rw [X.ret_, hr] at h; cases h) X.lk
  exact ⟨_, _, retOut X.X X.hx (t := .long) (X.ret_.trans hr) rfl (Or.inr (Or.inl ⟨rfl, rfl, _, rfl⟩)) (X.d hd) hl, hrun, hended, _, _, rfl, (show Q _ T.heap _ by rw [X.eT]; exact q), q1, q2, q3, hsame.mono hc hs⟩
theorem g_retD (X : St Z n0 p l e R s vm0 m args below meth c own nm bytes ml ret T locs cells slots h) {C N : Nat} {Q : Option Value → Heap → List Loc → Prop} {z : UInt64} (hr : ret = some .double) (hd : decode bytes pc = .ok (.dreturn, 1)) (hc : cells ≤ C) (hs : slots ≤ N) (q : Q (some (.double z)) h locs) : Go p e below (Kq s C N Q) (T.setTop (mkF m pc L (.double z :: S))) := by
  obtain ⟨k0, hS, hk⟩ := X.2.2.2.2.2
  obtain ⟨fs, hl, hrun, hended, q1, q2, q3, hsame⟩ := X.X.leaveW hS (X.eT.symm ▸ hk) (v := (some (.double z))) (fun h => by rw [X.ret_, hr] at h; cases h) X.lk
  exact ⟨_, _, retOut X.X X.hx (t := .double) (X.ret_.trans hr) rfl (Or.inr (Or.inr (Or.inl ⟨rfl, rfl, _, rfl⟩))) (X.d hd) hl, hrun, hended, _, _, rfl, (show Q _ T.heap _ by rw [X.eT]; exact q), q1, q2, q3, hsame.mono hc hs⟩
theorem g_retA (X : St Z n0 p l e R s vm0 m args below meth c own nm bytes ml ret T locs cells slots h) {C N : Nat} {Q : Option Value → Heap → List Loc → Prop} {z : Value} {t : FieldType} (hz : z.isRef = true) (ht : t.isReference = true) (hr : ret = some t) (hd : decode bytes pc = .ok (.areturn, 1)) (hc : cells ≤ C) (hs : slots ≤ N) (q : Q (some z) h locs) : Go p e below (Kq s C N Q) (T.setTop (mkF m pc L (z :: S))) := by
  obtain ⟨k0, hS, hk⟩ := X.2.2.2.2.2
  obtain ⟨fs, hl, hrun, hended, q1, q2, q3, hsame⟩ := X.X.leaveW hS (X.eT.symm ▸ hk) (v := (some z)) (fun h => by rw [X.ret_, hr] at h; cases h) X.lk
  exact ⟨_, _, retOut X.X X.hx (t := t) (X.ret_.trans hr) (by cases z <;> cases t <;> simp [Value.isRef, FieldType.isReference, narrow] at hz ht ⊢) (Or.inr (Or.inr (Or.inr (Or.inr ⟨rfl, ht, hz⟩)))) (X.d hd) hl, hrun, hended, _, _, rfl, (show Q _ T.heap _ by rw [X.eT]; exact q), q1, q2, q3, hsame.mono hc hs⟩
theorem g_retN (X : St Z n0 p l e R s vm0 m args below meth c own nm bytes ml ret T locs cells slots h) {C N : Nat} {Q : Option Value → Heap → List Loc → Prop} {z : Int32} {t : FieldType} (ht : t = .boolean ∨ t = .byte ∨ t = .char ∨ t = .short) (hr : ret = some t) (hd : decode bytes pc = .ok (.ireturn, 1)) (hc : cells ≤ C) (hs : slots ≤ N) (q : Q (some (.int (nar t z))) h locs) : Go p e below (Kq s C N Q) (T.setTop (mkF m pc L (.int z :: S))) := by
  obtain ⟨k0, hS, hk⟩ := X.2.2.2.2.2
  obtain ⟨fs, hl, hrun, hended, q1, q2, q3, hsame⟩ := X.X.leaveW hS (X.eT.symm ▸ hk) (v := (some (.int (nar t z)))) (fun h => by rw [X.ret_, hr] at h; cases h) X.lk
  exact ⟨_, _, retN X.X X.hx (t := t) (X.ret_.trans hr) ht (X.d hd) hl, hrun, hended, _, _, rfl, (show Q _ T.heap _ by rw [X.eT]; exact q), q1, q2, q3, hsame.mono hc hs⟩
theorem g_ret (X : St Z n0 p l e R s vm0 m args below meth c own nm bytes ml ret T locs cells slots h) {C N : Nat} {Q : Option Value → Heap → List Loc → Prop} (hr : ret = none) (hd : decode bytes pc = .ok (.return_, 1)) (hc : cells ≤ C) (hs : slots ≤ N) (q : Q none h locs) : Go p e below (Kq s C N Q) (T.setTop (mkF m pc L [])) := by
  obtain ⟨k0, hS, hk⟩ := X.2.2.2.2.2
  obtain ⟨fs, hl, hrun, hended, q1, q2, q3, hsame⟩ := X.X.leaveW hS (X.eT.symm ▸ hk) (v := none) (fun _ => rfl) X.lk
  exact ⟨_, _, X.X.returnOut X.hx (X.ret_.trans hr) (X.d hd) hl, hrun, hended, _, _, rfl, (show Q _ T.heap _ by rw [X.eT]; exact q), q1, q2, q3, hsame.mono hc hs⟩

end Own
end Wid

theorem m0 : (Jvm.Cond.constantLong "com/example/freshet/freshet/CacheCountsToStringPinLaw" (7 : Nat) (9223372036854775807 : Int64)) ∈ tables_1 := List.mem_of_getElem? (i := 0) rfl
theorem m1 : (Jvm.Cond.constantLong "com/example/freshet/freshet/CacheCountsToStringPinLaw" (9 : Nat) (4 : Int64)) ∈ tables_1 := List.mem_of_getElem? (i := 1) rfl
theorem m2 : (Jvm.Cond.constantLong "com/example/freshet/freshet/CacheCountsToStringPinLaw" (11 : Nat) (10 : Int64)) ∈ tables_1 := List.mem_of_getElem? (i := 2) rfl
theorem m3 : (Jvm.Cond.arrayClass Jvm.ClassFile.FieldType.char) ∈ tables_1 := List.mem_of_getElem? (i := 3) rfl
theorem m4 : (Jvm.Cond.methodLink "com/example/freshet/freshet/CacheCountsToStringPinLaw" (13 : Nat) ({ cls := "com/example/freshet/freshet/CacheCountsToStringPinLaw", name := "d", desc := "(J)C" } : Jvm.MethodName)) ∈ tables_1 := List.mem_of_getElem? (i := 4) rfl
theorem m5 : (Jvm.Cond.static ({ cls := "com/example/freshet/freshet/CacheCountsToStringPinLaw", name := "d", desc := "(J)C" } : Jvm.MethodName)) ∈ tables_1 := List.mem_of_getElem? (i := 5) rfl
theorem m6 : (Jvm.Cond.initialized "com/example/freshet/freshet/CacheCountsToStringPinLaw") ∈ tables_1 := List.mem_of_getElem? (i := 6) rfl
theorem m7 : (Jvm.Cond.code ({ cls := "com/example/freshet/freshet/CacheCountsToStringPinLaw", name := "d", desc := "(J)C" } : Jvm.MethodName) method_2_code (2 : Nat) (Option.some Jvm.ClassFile.FieldType.char)) ∈ tables_1 := List.mem_of_getElem? (i := 7) rfl
theorem m8 : (Jvm.Cond.classLink "com/example/freshet/freshet/CacheCountsToStringPinLaw" (19 : Nat) "com/example/freshet/freshet/CacheCounts") ∈ tables_1 := List.mem_of_getElem? (i := 8) rfl
theorem m9 : (Jvm.Cond.instantiable "com/example/freshet/freshet/CacheCounts" (6 : Nat)) ∈ tables_1 := List.mem_of_getElem? (i := 9) rfl
theorem m10 : (Jvm.Cond.initialized "com/example/freshet/freshet/CacheCounts") ∈ tables_1 := List.mem_of_getElem? (i := 10) rfl
theorem m11 : (Jvm.Cond.methodLink "com/example/freshet/freshet/CacheCountsToStringPinLaw" (21 : Nat) ({ cls := "com/example/freshet/freshet/CacheCounts", name := "<init>", desc := "(JJJJJJ)V" } : Jvm.MethodName)) ∈ tables_1 := List.mem_of_getElem? (i := 11) rfl
theorem m12 : (Jvm.Cond.instanceMethod ({ cls := "com/example/freshet/freshet/CacheCounts", name := "<init>", desc := "(JJJJJJ)V" } : Jvm.MethodName)) ∈ tables_1 := List.mem_of_getElem? (i := 12) rfl
theorem m13 : (Jvm.Cond.code ({ cls := "com/example/freshet/freshet/CacheCounts", name := "<init>", desc := "(JJJJJJ)V" } : Jvm.MethodName) prog_4_method_1_code (13 : Nat) (Option.none : Option Jvm.ClassFile.FieldType)) ∈ tables_1 := List.mem_of_getElem? (i := 13) rfl
theorem m14 : (Jvm.Cond.methodLink "com/example/freshet/freshet/CacheCounts" (1 : Nat) ({ cls := "java/lang/Object", name := "<init>", desc := "()V" } : Jvm.MethodName)) ∈ tables_1 := List.mem_of_getElem? (i := 14) rfl
theorem m15 : (Jvm.Cond.instanceMethod ({ cls := "java/lang/Object", name := "<init>", desc := "()V" } : Jvm.MethodName)) ∈ tables_1 := List.mem_of_getElem? (i := 15) rfl
theorem m16 : (Jvm.Cond.code ({ cls := "java/lang/Object", name := "<init>", desc := "()V" } : Jvm.MethodName) object_method_1_code (1 : Nat) (Option.none : Option Jvm.ClassFile.FieldType)) ∈ tables_1 := List.mem_of_getElem? (i := 16) rfl
theorem m17 : (Jvm.Cond.fieldLink "com/example/freshet/freshet/CacheCounts" (7 : Nat) "com/example/freshet/freshet/CacheCounts" "freshHits" "J") ∈ tables_1 := List.mem_of_getElem? (i := 17) rfl
theorem m18 : (Jvm.Cond.laysFinal "com/example/freshet/freshet/CacheCounts" "com/example/freshet/freshet/CacheCounts" "freshHits" "J") ∈ tables_1 := List.mem_of_getElem? (i := 18) rfl
theorem m19 : (Jvm.Cond.fieldLink "com/example/freshet/freshet/CacheCounts" (13 : Nat) "com/example/freshet/freshet/CacheCounts" "staleHits" "J") ∈ tables_1 := List.mem_of_getElem? (i := 19) rfl
theorem m20 : (Jvm.Cond.laysFinal "com/example/freshet/freshet/CacheCounts" "com/example/freshet/freshet/CacheCounts" "staleHits" "J") ∈ tables_1 := List.mem_of_getElem? (i := 20) rfl
theorem m21 : (Jvm.Cond.fieldLink "com/example/freshet/freshet/CacheCounts" (16 : Nat) "com/example/freshet/freshet/CacheCounts" "misses" "J") ∈ tables_1 := List.mem_of_getElem? (i := 21) rfl
theorem m22 : (Jvm.Cond.laysFinal "com/example/freshet/freshet/CacheCounts" "com/example/freshet/freshet/CacheCounts" "misses" "J") ∈ tables_1 := List.mem_of_getElem? (i := 22) rfl
theorem m23 : (Jvm.Cond.fieldLink "com/example/freshet/freshet/CacheCounts" (19 : Nat) "com/example/freshet/freshet/CacheCounts" "sourceCalls" "J") ∈ tables_1 := List.mem_of_getElem? (i := 23) rfl
theorem m24 : (Jvm.Cond.laysFinal "com/example/freshet/freshet/CacheCounts" "com/example/freshet/freshet/CacheCounts" "sourceCalls" "J") ∈ tables_1 := List.mem_of_getElem? (i := 24) rfl
theorem m25 : (Jvm.Cond.fieldLink "com/example/freshet/freshet/CacheCounts" (22 : Nat) "com/example/freshet/freshet/CacheCounts" "sourceFailures" "J") ∈ tables_1 := List.mem_of_getElem? (i := 25) rfl
theorem m26 : (Jvm.Cond.laysFinal "com/example/freshet/freshet/CacheCounts" "com/example/freshet/freshet/CacheCounts" "sourceFailures" "J") ∈ tables_1 := List.mem_of_getElem? (i := 26) rfl
theorem m27 : (Jvm.Cond.fieldLink "com/example/freshet/freshet/CacheCounts" (25 : Nat) "com/example/freshet/freshet/CacheCounts" "evictions" "J") ∈ tables_1 := List.mem_of_getElem? (i := 27) rfl
theorem m28 : (Jvm.Cond.laysFinal "com/example/freshet/freshet/CacheCounts" "com/example/freshet/freshet/CacheCounts" "evictions" "J") ∈ tables_1 := List.mem_of_getElem? (i := 28) rfl
theorem m29 : (Jvm.Cond.methodLink "com/example/freshet/freshet/CacheCountsToStringPinLaw" (24 : Nat) ({ cls := "com/example/freshet/freshet/CacheCounts", name := "toString", desc := "()Ljava/lang/String;" } : Jvm.MethodName)) ∈ tables_1 := List.mem_of_getElem? (i := 29) rfl
theorem m30 : (Jvm.Cond.declares ({ cls := "com/example/freshet/freshet/CacheCounts", name := "toString", desc := "()Ljava/lang/String;" } : Jvm.MethodName)) ∈ tables_1 := List.mem_of_getElem? (i := 30) rfl
theorem m31 : (Jvm.Cond.instanceMethod ({ cls := "com/example/freshet/freshet/CacheCounts", name := "toString", desc := "()Ljava/lang/String;" } : Jvm.MethodName)) ∈ tables_1 := List.mem_of_getElem? (i := 31) rfl
theorem m32 : (Jvm.Cond.selects "com/example/freshet/freshet/CacheCounts" ({ cls := "com/example/freshet/freshet/CacheCounts", name := "toString", desc := "()Ljava/lang/String;" } : Jvm.MethodName) ({ cls := "com/example/freshet/freshet/CacheCounts", name := "toString", desc := "()Ljava/lang/String;" } : Jvm.MethodName)) ∈ tables_1 := List.mem_of_getElem? (i := 32) rfl
theorem m33 : (Jvm.Cond.code ({ cls := "com/example/freshet/freshet/CacheCounts", name := "toString", desc := "()Ljava/lang/String;" } : Jvm.MethodName) prog_4_method_9_code (1 : Nat) (Option.some (Jvm.ClassFile.FieldType.object "java/lang/String"))) ∈ tables_1 := List.mem_of_getElem? (i := 33) rfl
theorem m34 : (Jvm.Cond.classLink "com/example/freshet/freshet/CacheCounts" (28 : Nat) "java/lang/StringBuilder") ∈ tables_1 := List.mem_of_getElem? (i := 34) rfl
theorem m35 : (Jvm.Cond.instantiable "java/lang/StringBuilder" (4 : Nat)) ∈ tables_1 := List.mem_of_getElem? (i := 35) rfl
theorem m36 : (Jvm.Cond.initialized "java/lang/StringBuilder") ∈ tables_1 := List.mem_of_getElem? (i := 36) rfl
theorem m37 : (Jvm.Cond.methodLink "com/example/freshet/freshet/CacheCounts" (30 : Nat) ({ cls := "java/lang/StringBuilder", name := "<init>", desc := "()V" } : Jvm.MethodName)) ∈ tables_1 := List.mem_of_getElem? (i := 37) rfl
theorem m38 : (Jvm.Cond.instanceMethod ({ cls := "java/lang/StringBuilder", name := "<init>", desc := "()V" } : Jvm.MethodName)) ∈ tables_1 := List.mem_of_getElem? (i := 38) rfl
theorem m39 : (Jvm.Cond.code ({ cls := "java/lang/StringBuilder", name := "<init>", desc := "()V" } : Jvm.MethodName) jdk_67_method_1_code (1 : Nat) (Option.none : Option Jvm.ClassFile.FieldType)) ∈ tables_1 := List.mem_of_getElem? (i := 39) rfl
theorem m40 : (Jvm.Cond.methodLink "java/lang/StringBuilder" (1 : Nat) ({ cls := "java/lang/AbstractStringBuilder", name := "<init>", desc := "(I)V" } : Jvm.MethodName)) ∈ tables_1 := List.mem_of_getElem? (i := 40) rfl
theorem m41 : (Jvm.Cond.instanceMethod ({ cls := "java/lang/AbstractStringBuilder", name := "<init>", desc := "(I)V" } : Jvm.MethodName)) ∈ tables_1 := List.mem_of_getElem? (i := 41) rfl
theorem m44 : (Jvm.Cond.initialized "java/lang/AbstractStringBuilder") ∈ tables_1 := List.mem_of_getElem? (i := 44) rfl
theorem m45 : (Jvm.Cond.code ({ cls := "java/lang/AbstractStringBuilder", name := "<init>", desc := "(I)V" } : Jvm.MethodName) jdk_68_method_2_code (2 : Nat) (Option.none : Option Jvm.ClassFile.FieldType)) ∈ tables_1 := List.mem_of_getElem? (i := 45) rfl
theorem m46 : (Jvm.Cond.methodLink "java/lang/AbstractStringBuilder" (3 : Nat) ({ cls := "java/lang/Object", name := "<init>", desc := "()V" } : Jvm.MethodName)) ∈ tables_1 := List.mem_of_getElem? (i := 46) rfl
theorem m47 : (Jvm.Cond.fieldLink "java/lang/AbstractStringBuilder" (18 : Nat) "java/lang/String" "COMPACT_STRINGS" "Z") ∈ tables_1 := List.mem_of_getElem? (i := 47) rfl
theorem m48 : (Jvm.Cond.initialized "java/lang/String") ∈ tables_1 := List.mem_of_getElem? (i := 48) rfl
theorem m49 : (Jvm.Cond.arrayClass Jvm.ClassFile.FieldType.byte) ∈ tables_1 := List.mem_of_getElem? (i := 49) rfl
theorem m50 : (Jvm.Cond.fieldLink "java/lang/AbstractStringBuilder" (15 : Nat) "java/lang/AbstractStringBuilder" "value" "[B") ∈ tables_1 := List.mem_of_getElem? (i := 50) rfl
theorem m51 : (Jvm.Cond.lays "java/lang/StringBuilder" "java/lang/AbstractStringBuilder" "value" "[B") ∈ tables_1 := List.mem_of_getElem? (i := 51) rfl
theorem m52 : (Jvm.Cond.fieldLink "java/lang/AbstractStringBuilder" (22 : Nat) "java/lang/AbstractStringBuilder" "coder" "B") ∈ tables_1 := List.mem_of_getElem? (i := 52) rfl
theorem m53 : (Jvm.Cond.lays "java/lang/StringBuilder" "java/lang/AbstractStringBuilder" "coder" "B") ∈ tables_1 := List.mem_of_getElem? (i := 53) rfl
theorem m54 : (Jvm.Cond.stringLink "com/example/freshet/freshet/CacheCounts" (31 : Nat) "requests ") ∈ tables_1 := List.mem_of_getElem? (i := 54) rfl
theorem m55 : (Jvm.Cond.instantiable "java/lang/String" (4 : Nat)) ∈ tables_1 := List.mem_of_getElem? (i := 55) rfl
theorem m56 : (Jvm.Cond.laysFinal "java/lang/String" "java/lang/String" "value" "[B") ∈ tables_1 := List.mem_of_getElem? (i := 56) rfl
theorem m57 : (Jvm.Cond.laysFinal "java/lang/String" "java/lang/String" "coder" "B") ∈ tables_1 := List.mem_of_getElem? (i := 57) rfl
theorem m60 : (Jvm.Cond.methodLink "com/example/freshet/freshet/CacheCounts" (33 : Nat) ({ cls := "java/lang/StringBuilder", name := "append", desc := "(Ljava/lang/String;)Ljava/lang/StringBuilder;" } : Jvm.MethodName)) ∈ tables_1 := List.mem_of_getElem? (i := 60) rfl
theorem m61 : (Jvm.Cond.declares ({ cls := "java/lang/StringBuilder", name := "append", desc := "(Ljava/lang/String;)Ljava/lang/StringBuilder;" } : Jvm.MethodName)) ∈ tables_1 := List.mem_of_getElem? (i := 61) rfl
theorem m62 : (Jvm.Cond.instanceMethod ({ cls := "java/lang/StringBuilder", name := "append", desc := "(Ljava/lang/String;)Ljava/lang/StringBuilder;" } : Jvm.MethodName)) ∈ tables_1 := List.mem_of_getElem? (i := 62) rfl
theorem m63 : (Jvm.Cond.selects "java/lang/StringBuilder" ({ cls := "java/lang/StringBuilder", name := "append", desc := "(Ljava/lang/String;)Ljava/lang/StringBuilder;" } : Jvm.MethodName) ({ cls := "java/lang/StringBuilder", name := "append", desc := "(Ljava/lang/String;)Ljava/lang/StringBuilder;" } : Jvm.MethodName)) ∈ tables_1 := List.mem_of_getElem? (i := 63) rfl
theorem m64 : (Jvm.Cond.code ({ cls := "java/lang/StringBuilder", name := "append", desc := "(Ljava/lang/String;)Ljava/lang/StringBuilder;" } : Jvm.MethodName) jdk_67_method_7_code (2 : Nat) (Option.some (Jvm.ClassFile.FieldType.object "java/lang/StringBuilder"))) ∈ tables_1 := List.mem_of_getElem? (i := 64) rfl
theorem m65 : (Jvm.Cond.methodLink "java/lang/StringBuilder" (29 : Nat) ({ cls := "java/lang/AbstractStringBuilder", name := "append", desc := "(Ljava/lang/String;)Ljava/lang/AbstractStringBuilder;" } : Jvm.MethodName)) ∈ tables_1 := List.mem_of_getElem? (i := 65) rfl
theorem m66 : (Jvm.Cond.instanceMethod ({ cls := "java/lang/AbstractStringBuilder", name := "append", desc := "(Ljava/lang/String;)Ljava/lang/AbstractStringBuilder;" } : Jvm.MethodName)) ∈ tables_1 := List.mem_of_getElem? (i := 66) rfl
theorem m67 : (Jvm.Cond.superclass "java/lang/StringBuilder" "java/lang/AbstractStringBuilder") ∈ tables_1 := List.mem_of_getElem? (i := 67) rfl
theorem m69 : (Jvm.Cond.code ({ cls := "java/lang/AbstractStringBuilder", name := "append", desc := "(Ljava/lang/String;)Ljava/lang/AbstractStringBuilder;" } : Jvm.MethodName) jdk_68_method_22_code (3 : Nat) (Option.some (Jvm.ClassFile.FieldType.object "java/lang/AbstractStringBuilder"))) ∈ tables_1 := List.mem_of_getElem? (i := 69) rfl
theorem m70 : (Jvm.Cond.methodLink "java/lang/AbstractStringBuilder" (32 : Nat) ({ cls := "java/lang/String", name := "length", desc := "()I" } : Jvm.MethodName)) ∈ tables_1 := List.mem_of_getElem? (i := 70) rfl
theorem m71 : (Jvm.Cond.declares ({ cls := "java/lang/String", name := "length", desc := "()I" } : Jvm.MethodName)) ∈ tables_1 := List.mem_of_getElem? (i := 71) rfl
theorem m72 : (Jvm.Cond.instanceMethod ({ cls := "java/lang/String", name := "length", desc := "()I" } : Jvm.MethodName)) ∈ tables_1 := List.mem_of_getElem? (i := 72) rfl
theorem m73 : (Jvm.Cond.selects "java/lang/String" ({ cls := "java/lang/String", name := "length", desc := "()I" } : Jvm.MethodName) ({ cls := "java/lang/String", name := "length", desc := "()I" } : Jvm.MethodName)) ∈ tables_1 := List.mem_of_getElem? (i := 73) rfl
theorem m74 : (Jvm.Cond.code ({ cls := "java/lang/String", name := "length", desc := "()I" } : Jvm.MethodName) jdk_42_method_54_code (1 : Nat) (Option.some Jvm.ClassFile.FieldType.int)) ∈ tables_1 := List.mem_of_getElem? (i := 74) rfl
theorem m75 : (Jvm.Cond.fieldLink "java/lang/String" (9 : Nat) "java/lang/String" "value" "[B") ∈ tables_1 := List.mem_of_getElem? (i := 75) rfl
theorem m76 : (Jvm.Cond.methodLink "java/lang/String" (335 : Nat) ({ cls := "java/lang/String", name := "coder", desc := "()B" } : Jvm.MethodName)) ∈ tables_1 := List.mem_of_getElem? (i := 76) rfl
theorem m77 : (Jvm.Cond.declares ({ cls := "java/lang/String", name := "coder", desc := "()B" } : Jvm.MethodName)) ∈ tables_1 := List.mem_of_getElem? (i := 77) rfl
theorem m78 : (Jvm.Cond.instanceMethod ({ cls := "java/lang/String", name := "coder", desc := "()B" } : Jvm.MethodName)) ∈ tables_1 := List.mem_of_getElem? (i := 78) rfl
theorem m79 : (Jvm.Cond.selects "java/lang/String" ({ cls := "java/lang/String", name := "coder", desc := "()B" } : Jvm.MethodName) ({ cls := "java/lang/String", name := "coder", desc := "()B" } : Jvm.MethodName)) ∈ tables_1 := List.mem_of_getElem? (i := 79) rfl
theorem m80 : (Jvm.Cond.code ({ cls := "java/lang/String", name := "coder", desc := "()B" } : Jvm.MethodName) jdk_42_method_152_code (1 : Nat) (Option.some Jvm.ClassFile.FieldType.byte)) ∈ tables_1 := List.mem_of_getElem? (i := 80) rfl
theorem m81 : (Jvm.Cond.fieldLink "java/lang/String" (38 : Nat) "java/lang/String" "COMPACT_STRINGS" "Z") ∈ tables_1 := List.mem_of_getElem? (i := 81) rfl
theorem m82 : (Jvm.Cond.fieldLink "java/lang/String" (15 : Nat) "java/lang/String" "coder" "B") ∈ tables_1 := List.mem_of_getElem? (i := 82) rfl
theorem m83 : (Jvm.Cond.fieldLink "java/lang/AbstractStringBuilder" (79 : Nat) "java/lang/AbstractStringBuilder" "count" "I") ∈ tables_1 := List.mem_of_getElem? (i := 83) rfl
theorem m84 : (Jvm.Cond.lays "java/lang/StringBuilder" "java/lang/AbstractStringBuilder" "count" "I") ∈ tables_1 := List.mem_of_getElem? (i := 84) rfl
theorem m85 : (Jvm.Cond.methodLink "java/lang/AbstractStringBuilder" (100 : Nat) ({ cls := "java/lang/AbstractStringBuilder", name := "ensureCapacityInternal", desc := "(I)V" } : Jvm.MethodName)) ∈ tables_1 := List.mem_of_getElem? (i := 85) rfl
theorem m86 : (Jvm.Cond.instanceMethod ({ cls := "java/lang/AbstractStringBuilder", name := "ensureCapacityInternal", desc := "(I)V" } : Jvm.MethodName)) ∈ tables_1 := List.mem_of_getElem? (i := 86) rfl
theorem m87 : (Jvm.Cond.privateMethod ({ cls := "java/lang/AbstractStringBuilder", name := "ensureCapacityInternal", desc := "(I)V" } : Jvm.MethodName)) ∈ tables_1 := List.mem_of_getElem? (i := 87) rfl
theorem m88 : (Jvm.Cond.selects "java/lang/StringBuilder" ({ cls := "java/lang/AbstractStringBuilder", name := "ensureCapacityInternal", desc := "(I)V" } : Jvm.MethodName) ({ cls := "java/lang/AbstractStringBuilder", name := "ensureCapacityInternal", desc := "(I)V" } : Jvm.MethodName)) ∈ tables_1 := List.mem_of_getElem? (i := 88) rfl
theorem m89 : (Jvm.Cond.code ({ cls := "java/lang/AbstractStringBuilder", name := "ensureCapacityInternal", desc := "(I)V" } : Jvm.MethodName) jdk_68_method_9_code (3 : Nat) (Option.none : Option Jvm.ClassFile.FieldType)) ∈ tables_1 := List.mem_of_getElem? (i := 89) rfl
theorem m90 : (Jvm.Cond.methodLink "java/lang/AbstractStringBuilder" (208 : Nat) ({ cls := "java/lang/AbstractStringBuilder", name := "putStringAt", desc := "(ILjava/lang/String;)V" } : Jvm.MethodName)) ∈ tables_1 := List.mem_of_getElem? (i := 90) rfl
theorem m91 : (Jvm.Cond.instanceMethod ({ cls := "java/lang/AbstractStringBuilder", name := "putStringAt", desc := "(ILjava/lang/String;)V" } : Jvm.MethodName)) ∈ tables_1 := List.mem_of_getElem? (i := 91) rfl
theorem m92 : (Jvm.Cond.privateMethod ({ cls := "java/lang/AbstractStringBuilder", name := "putStringAt", desc := "(ILjava/lang/String;)V" } : Jvm.MethodName)) ∈ tables_1 := List.mem_of_getElem? (i := 92) rfl
theorem m93 : (Jvm.Cond.selects "java/lang/StringBuilder" ({ cls := "java/lang/AbstractStringBuilder", name := "putStringAt", desc := "(ILjava/lang/String;)V" } : Jvm.MethodName) ({ cls := "java/lang/AbstractStringBuilder", name := "putStringAt", desc := "(ILjava/lang/String;)V" } : Jvm.MethodName)) ∈ tables_1 := List.mem_of_getElem? (i := 93) rfl
theorem m94 : (Jvm.Cond.code ({ cls := "java/lang/AbstractStringBuilder", name := "putStringAt", desc := "(ILjava/lang/String;)V" } : Jvm.MethodName) jdk_68_method_73_code (3 : Nat) (Option.none : Option Jvm.ClassFile.FieldType)) ∈ tables_1 := List.mem_of_getElem? (i := 94) rfl
theorem m95 : (Jvm.Cond.methodLink "java/lang/AbstractStringBuilder" (397 : Nat) ({ cls := "java/lang/AbstractStringBuilder", name := "inflateIfNeededFor", desc := "(Ljava/lang/String;)V" } : Jvm.MethodName)) ∈ tables_1 := List.mem_of_getElem? (i := 95) rfl
theorem m96 : (Jvm.Cond.instanceMethod ({ cls := "java/lang/AbstractStringBuilder", name := "inflateIfNeededFor", desc := "(Ljava/lang/String;)V" } : Jvm.MethodName)) ∈ tables_1 := List.mem_of_getElem? (i := 96) rfl
theorem m97 : (Jvm.Cond.privateMethod ({ cls := "java/lang/AbstractStringBuilder", name := "inflateIfNeededFor", desc := "(Ljava/lang/String;)V" } : Jvm.MethodName)) ∈ tables_1 := List.mem_of_getElem? (i := 97) rfl
theorem m98 : (Jvm.Cond.selects "java/lang/StringBuilder" ({ cls := "java/lang/AbstractStringBuilder", name := "inflateIfNeededFor", desc := "(Ljava/lang/String;)V" } : Jvm.MethodName) ({ cls := "java/lang/AbstractStringBuilder", name := "inflateIfNeededFor", desc := "(Ljava/lang/String;)V" } : Jvm.MethodName)) ∈ tables_1 := List.mem_of_getElem? (i := 98) rfl
theorem m99 : (Jvm.Cond.code ({ cls := "java/lang/AbstractStringBuilder", name := "inflateIfNeededFor", desc := "(Ljava/lang/String;)V" } : Jvm.MethodName) jdk_68_method_71_code (2 : Nat) (Option.none : Option Jvm.ClassFile.FieldType)) ∈ tables_1 := List.mem_of_getElem? (i := 99) rfl
theorem m100 : (Jvm.Cond.methodLink "java/lang/AbstractStringBuilder" (40 : Nat) ({ cls := "java/lang/String", name := "coder", desc := "()B" } : Jvm.MethodName)) ∈ tables_1 := List.mem_of_getElem? (i := 100) rfl
theorem m101 : (Jvm.Cond.methodLink "java/lang/AbstractStringBuilder" (399 : Nat) ({ cls := "java/lang/String", name := "getBytes", desc := "([BIB)V" } : Jvm.MethodName)) ∈ tables_1 := List.mem_of_getElem? (i := 101) rfl
theorem m102 : (Jvm.Cond.declares ({ cls := "java/lang/String", name := "getBytes", desc := "([BIB)V" } : Jvm.MethodName)) ∈ tables_1 := List.mem_of_getElem? (i := 102) rfl
theorem m103 : (Jvm.Cond.instanceMethod ({ cls := "java/lang/String", name := "getBytes", desc := "([BIB)V" } : Jvm.MethodName)) ∈ tables_1 := List.mem_of_getElem? (i := 103) rfl
theorem m104 : (Jvm.Cond.selects "java/lang/String" ({ cls := "java/lang/String", name := "getBytes", desc := "([BIB)V" } : Jvm.MethodName) ({ cls := "java/lang/String", name := "getBytes", desc := "([BIB)V" } : Jvm.MethodName)) ∈ tables_1 := List.mem_of_getElem? (i := 104) rfl
theorem m105 : (Jvm.Cond.code ({ cls := "java/lang/String", name := "getBytes", desc := "([BIB)V" } : Jvm.MethodName) jdk_42_method_147_code (4 : Nat) (Option.none : Option Jvm.ClassFile.FieldType)) ∈ tables_1 := List.mem_of_getElem? (i := 105) rfl
theorem m106 : (Jvm.Cond.methodLink "java/lang/String" (212 : Nat) ({ cls := "java/lang/System", name := "arraycopy", desc := "(Ljava/lang/Object;ILjava/lang/Object;II)V" } : Jvm.MethodName)) ∈ tables_1 := List.mem_of_getElem? (i := 106) rfl
theorem m107 : (Jvm.Cond.static ({ cls := "java/lang/System", name := "arraycopy", desc := "(Ljava/lang/Object;ILjava/lang/Object;II)V" } : Jvm.MethodName)) ∈ tables_1 := List.mem_of_getElem? (i := 107) rfl
theorem m108 : (Jvm.Cond.initialized "java/lang/System") ∈ tables_1 := List.mem_of_getElem? (i := 108) rfl
theorem m109 : (Jvm.Cond.native ({ cls := "java/lang/System", name := "arraycopy", desc := "(Ljava/lang/Object;ILjava/lang/Object;II)V" } : Jvm.MethodName)) ∈ tables_1 := List.mem_of_getElem? (i := 109) rfl
theorem m110 : (Jvm.Cond.methodLink "com/example/freshet/freshet/CacheCounts" (37 : Nat) ({ cls := "com/example/freshet/freshet/CacheCounts", name := "requests", desc := "()J" } : Jvm.MethodName)) ∈ tables_1 := List.mem_of_getElem? (i := 110) rfl
theorem m111 : (Jvm.Cond.declares ({ cls := "com/example/freshet/freshet/CacheCounts", name := "requests", desc := "()J" } : Jvm.MethodName)) ∈ tables_1 := List.mem_of_getElem? (i := 111) rfl
theorem m112 : (Jvm.Cond.instanceMethod ({ cls := "com/example/freshet/freshet/CacheCounts", name := "requests", desc := "()J" } : Jvm.MethodName)) ∈ tables_1 := List.mem_of_getElem? (i := 112) rfl
theorem m113 : (Jvm.Cond.selects "com/example/freshet/freshet/CacheCounts" ({ cls := "com/example/freshet/freshet/CacheCounts", name := "requests", desc := "()J" } : Jvm.MethodName) ({ cls := "com/example/freshet/freshet/CacheCounts", name := "requests", desc := "()J" } : Jvm.MethodName)) ∈ tables_1 := List.mem_of_getElem? (i := 113) rfl
theorem m114 : (Jvm.Cond.code ({ cls := "com/example/freshet/freshet/CacheCounts", name := "requests", desc := "()J" } : Jvm.MethodName) prog_4_method_2_code (1 : Nat) (Option.some Jvm.ClassFile.FieldType.long)) ∈ tables_1 := List.mem_of_getElem? (i := 114) rfl
theorem m115 : (Jvm.Cond.methodLink "com/example/freshet/freshet/CacheCounts" (41 : Nat) ({ cls := "java/lang/StringBuilder", name := "append", desc := "(J)Ljava/lang/StringBuilder;" } : Jvm.MethodName)) ∈ tables_1 := List.mem_of_getElem? (i := 115) rfl
theorem m116 : (Jvm.Cond.declares ({ cls := "java/lang/StringBuilder", name := "append", desc := "(J)Ljava/lang/StringBuilder;" } : Jvm.MethodName)) ∈ tables_1 := List.mem_of_getElem? (i := 116) rfl
theorem m117 : (Jvm.Cond.instanceMethod ({ cls := "java/lang/StringBuilder", name := "append", desc := "(J)Ljava/lang/StringBuilder;" } : Jvm.MethodName)) ∈ tables_1 := List.mem_of_getElem? (i := 117) rfl
theorem m118 : (Jvm.Cond.selects "java/lang/StringBuilder" ({ cls := "java/lang/StringBuilder", name := "append", desc := "(J)Ljava/lang/StringBuilder;" } : Jvm.MethodName) ({ cls := "java/lang/StringBuilder", name := "append", desc := "(J)Ljava/lang/StringBuilder;" } : Jvm.MethodName)) ∈ tables_1 := List.mem_of_getElem? (i := 118) rfl
theorem m119 : (Jvm.Cond.code ({ cls := "java/lang/StringBuilder", name := "append", desc := "(J)Ljava/lang/StringBuilder;" } : Jvm.MethodName) jdk_67_method_16_code (3 : Nat) (Option.some (Jvm.ClassFile.FieldType.object "java/lang/StringBuilder"))) ∈ tables_1 := List.mem_of_getElem? (i := 119) rfl
theorem m120 : (Jvm.Cond.methodLink "java/lang/StringBuilder" (56 : Nat) ({ cls := "java/lang/AbstractStringBuilder", name := "append", desc := "(J)Ljava/lang/AbstractStringBuilder;" } : Jvm.MethodName)) ∈ tables_1 := List.mem_of_getElem? (i := 120) rfl
theorem m121 : (Jvm.Cond.instanceMethod ({ cls := "java/lang/AbstractStringBuilder", name := "append", desc := "(J)Ljava/lang/AbstractStringBuilder;" } : Jvm.MethodName)) ∈ tables_1 := List.mem_of_getElem? (i := 121) rfl
theorem m123 : (Jvm.Cond.code ({ cls := "java/lang/AbstractStringBuilder", name := "append", desc := "(J)Ljava/lang/AbstractStringBuilder;" } : Jvm.MethodName) jdk_68_method_33_code (5 : Nat) (Option.some (Jvm.ClassFile.FieldType.object "java/lang/AbstractStringBuilder"))) ∈ tables_1 := List.mem_of_getElem? (i := 123) rfl
theorem m124 : (Jvm.Cond.methodLink "java/lang/AbstractStringBuilder" (254 : Nat) ({ cls := "java/lang/Long", name := "stringSize", desc := "(J)I" } : Jvm.MethodName)) ∈ tables_1 := List.mem_of_getElem? (i := 124) rfl
theorem m125 : (Jvm.Cond.static ({ cls := "java/lang/Long", name := "stringSize", desc := "(J)I" } : Jvm.MethodName)) ∈ tables_1 := List.mem_of_getElem? (i := 125) rfl
theorem m126 : (Jvm.Cond.initialized "java/lang/Long") ∈ tables_1 := List.mem_of_getElem? (i := 126) rfl
theorem m127 : (Jvm.Cond.code ({ cls := "java/lang/Long", name := "stringSize", desc := "(J)I" } : Jvm.MethodName) jdk_35_method_15_code (6 : Nat) (Option.some Jvm.ClassFile.FieldType.int)) ∈ tables_1 := List.mem_of_getElem? (i := 127) rfl
theorem m128 : (Jvm.Cond.constantLong "java/lang/Long" (140 : Nat) (-10 : Int64)) ∈ tables_1 := List.mem_of_getElem? (i := 128) rfl
theorem m129 : (Jvm.Cond.methodLink "java/lang/AbstractStringBuilder" (83 : Nat) ({ cls := "java/lang/AbstractStringBuilder", name := "isLatin1", desc := "()Z" } : Jvm.MethodName)) ∈ tables_1 := List.mem_of_getElem? (i := 129) rfl
theorem m130 : (Jvm.Cond.declares ({ cls := "java/lang/AbstractStringBuilder", name := "isLatin1", desc := "()Z" } : Jvm.MethodName)) ∈ tables_1 := List.mem_of_getElem? (i := 130) rfl
theorem m131 : (Jvm.Cond.instanceMethod ({ cls := "java/lang/AbstractStringBuilder", name := "isLatin1", desc := "()Z" } : Jvm.MethodName)) ∈ tables_1 := List.mem_of_getElem? (i := 131) rfl
theorem m132 : (Jvm.Cond.selects "java/lang/StringBuilder" ({ cls := "java/lang/AbstractStringBuilder", name := "isLatin1", desc := "()Z" } : Jvm.MethodName) ({ cls := "java/lang/AbstractStringBuilder", name := "isLatin1", desc := "()Z" } : Jvm.MethodName)) ∈ tables_1 := List.mem_of_getElem? (i := 132) rfl
theorem m133 : (Jvm.Cond.code ({ cls := "java/lang/AbstractStringBuilder", name := "isLatin1", desc := "()Z" } : Jvm.MethodName) jdk_68_method_68_code (1 : Nat) (Option.some Jvm.ClassFile.FieldType.boolean)) ∈ tables_1 := List.mem_of_getElem? (i := 133) rfl
theorem m134 : (Jvm.Cond.methodLink "java/lang/AbstractStringBuilder" (259 : Nat) ({ cls := "java/lang/Long", name := "getChars", desc := "(JI[B)I" } : Jvm.MethodName)) ∈ tables_1 := List.mem_of_getElem? (i := 134) rfl
theorem m135 : (Jvm.Cond.static ({ cls := "java/lang/Long", name := "getChars", desc := "(JI[B)I" } : Jvm.MethodName)) ∈ tables_1 := List.mem_of_getElem? (i := 135) rfl
theorem m136 : (Jvm.Cond.code ({ cls := "java/lang/Long", name := "getChars", desc := "(JI[B)I" } : Jvm.MethodName) jdk_35_method_14_code (11 : Nat) (Option.some Jvm.ClassFile.FieldType.int)) ∈ tables_1 := List.mem_of_getElem? (i := 136) rfl
theorem m137 : (Jvm.Cond.constantLong "java/lang/Long" (129 : Nat) (-2147483648 : Int64)) ∈ tables_1 := List.mem_of_getElem? (i := 137) rfl
theorem m138 : (Jvm.Cond.fieldLink "java/lang/Long" (133 : Nat) "java/lang/Integer" "DigitOnes" "[B") ∈ tables_1 := List.mem_of_getElem? (i := 138) rfl
theorem m140 : (Jvm.Cond.stringLink "com/example/freshet/freshet/CacheCounts" (44 : Nat) ", fresh hits ") ∈ tables_1 := List.mem_of_getElem? (i := 140) rfl
theorem m141 : (Jvm.Cond.methodLink "java/lang/AbstractStringBuilder" (104 : Nat) ({ cls := "java/lang/AbstractStringBuilder", name := "newCapacity", desc := "(I)I" } : Jvm.MethodName)) ∈ tables_1 := List.mem_of_getElem? (i := 141) rfl
theorem m142 : (Jvm.Cond.instanceMethod ({ cls := "java/lang/AbstractStringBuilder", name := "newCapacity", desc := "(I)I" } : Jvm.MethodName)) ∈ tables_1 := List.mem_of_getElem? (i := 142) rfl
theorem m143 : (Jvm.Cond.privateMethod ({ cls := "java/lang/AbstractStringBuilder", name := "newCapacity", desc := "(I)I" } : Jvm.MethodName)) ∈ tables_1 := List.mem_of_getElem? (i := 143) rfl
theorem m144 : (Jvm.Cond.selects "java/lang/StringBuilder" ({ cls := "java/lang/AbstractStringBuilder", name := "newCapacity", desc := "(I)I" } : Jvm.MethodName) ({ cls := "java/lang/AbstractStringBuilder", name := "newCapacity", desc := "(I)I" } : Jvm.MethodName)) ∈ tables_1 := List.mem_of_getElem? (i := 144) rfl
theorem m145 : (Jvm.Cond.code ({ cls := "java/lang/AbstractStringBuilder", name := "newCapacity", desc := "(I)I" } : Jvm.MethodName) jdk_68_method_10_code (6 : Nat) (Option.some Jvm.ClassFile.FieldType.int)) ∈ tables_1 := List.mem_of_getElem? (i := 145) rfl
theorem m146 : (Jvm.Cond.methodLink "java/lang/AbstractStringBuilder" (114 : Nat) ({ cls := "jdk/internal/util/ArraysSupport", name := "newLength", desc := "(III)I" } : Jvm.MethodName)) ∈ tables_1 := List.mem_of_getElem? (i := 146) rfl
theorem m147 : (Jvm.Cond.static ({ cls := "jdk/internal/util/ArraysSupport", name := "newLength", desc := "(III)I" } : Jvm.MethodName)) ∈ tables_1 := List.mem_of_getElem? (i := 147) rfl
theorem m148 : (Jvm.Cond.initialized "jdk/internal/util/ArraysSupport") ∈ tables_1 := List.mem_of_getElem? (i := 148) rfl
theorem m149 : (Jvm.Cond.code ({ cls := "jdk/internal/util/ArraysSupport", name := "newLength", desc := "(III)I" } : Jvm.MethodName) jdk_48_method_27_code (4 : Nat) (Option.some Jvm.ClassFile.FieldType.int)) ∈ tables_1 := List.mem_of_getElem? (i := 149) rfl
theorem m150 : (Jvm.Cond.methodLink "jdk/internal/util/ArraysSupport" (194 : Nat) ({ cls := "java/lang/Math", name := "max", desc := "(II)I" } : Jvm.MethodName)) ∈ tables_1 := List.mem_of_getElem? (i := 150) rfl
theorem m151 : (Jvm.Cond.static ({ cls := "java/lang/Math", name := "max", desc := "(II)I" } : Jvm.MethodName)) ∈ tables_1 := List.mem_of_getElem? (i := 151) rfl
theorem m152 : (Jvm.Cond.initialized "java/lang/Math") ∈ tables_1 := List.mem_of_getElem? (i := 152) rfl
theorem m153 : (Jvm.Cond.code ({ cls := "java/lang/Math", name := "max", desc := "(II)I" } : Jvm.MethodName) jdk_29_method_65_code (2 : Nat) (Option.some Jvm.ClassFile.FieldType.int)) ∈ tables_1 := List.mem_of_getElem? (i := 153) rfl
theorem m154 : (Jvm.Cond.constant "jdk/internal/util/ArraysSupport" (200 : Nat) (2147483639 : Int32)) ∈ tables_1 := List.mem_of_getElem? (i := 154) rfl
theorem m155 : (Jvm.Cond.constant "java/lang/AbstractStringBuilder" (39 : Nat) (2147483647 : Int32)) ∈ tables_1 := List.mem_of_getElem? (i := 155) rfl
theorem m156 : (Jvm.Cond.methodLink "java/lang/AbstractStringBuilder" (108 : Nat) ({ cls := "java/util/Arrays", name := "copyOf", desc := "([BI)[B" } : Jvm.MethodName)) ∈ tables_1 := List.mem_of_getElem? (i := 156) rfl
theorem m157 : (Jvm.Cond.static ({ cls := "java/util/Arrays", name := "copyOf", desc := "([BI)[B" } : Jvm.MethodName)) ∈ tables_1 := List.mem_of_getElem? (i := 157) rfl
theorem m158 : (Jvm.Cond.initialized "java/util/Arrays") ∈ tables_1 := List.mem_of_getElem? (i := 158) rfl
theorem m159 : (Jvm.Cond.code ({ cls := "java/util/Arrays", name := "copyOf", desc := "([BI)[B" } : Jvm.MethodName) jdk_65_method_121_code (3 : Nat) (Option.some (Jvm.ClassFile.FieldType.array Jvm.ClassFile.FieldType.byte))) ∈ tables_1 := List.mem_of_getElem? (i := 159) rfl
theorem m160 : (Jvm.Cond.methodLink "java/util/Arrays" (304 : Nat) ({ cls := "java/lang/Math", name := "min", desc := "(II)I" } : Jvm.MethodName)) ∈ tables_1 := List.mem_of_getElem? (i := 160) rfl
theorem m161 : (Jvm.Cond.static ({ cls := "java/lang/Math", name := "min", desc := "(II)I" } : Jvm.MethodName)) ∈ tables_1 := List.mem_of_getElem? (i := 161) rfl
theorem m162 : (Jvm.Cond.code ({ cls := "java/lang/Math", name := "min", desc := "(II)I" } : Jvm.MethodName) jdk_29_method_69_code (2 : Nat) (Option.some Jvm.ClassFile.FieldType.int)) ∈ tables_1 := List.mem_of_getElem? (i := 162) rfl
theorem m163 : (Jvm.Cond.methodLink "java/util/Arrays" (150 : Nat) ({ cls := "java/lang/System", name := "arraycopy", desc := "(Ljava/lang/Object;ILjava/lang/Object;II)V" } : Jvm.MethodName)) ∈ tables_1 := List.mem_of_getElem? (i := 163) rfl
theorem m164 : (Jvm.Cond.stringLink "com/example/freshet/freshet/CacheCounts" (46 : Nat) ", stale hits ") ∈ tables_1 := List.mem_of_getElem? (i := 164) rfl
theorem m165 : (Jvm.Cond.stringLink "com/example/freshet/freshet/CacheCounts" (48 : Nat) ", misses ") ∈ tables_1 := List.mem_of_getElem? (i := 165) rfl
theorem m166 : (Jvm.Cond.stringLink "com/example/freshet/freshet/CacheCounts" (50 : Nat) ", source calls ") ∈ tables_1 := List.mem_of_getElem? (i := 166) rfl
theorem m167 : (Jvm.Cond.stringLink "com/example/freshet/freshet/CacheCounts" (52 : Nat) ", source failures ") ∈ tables_1 := List.mem_of_getElem? (i := 167) rfl
theorem m168 : (Jvm.Cond.stringLink "com/example/freshet/freshet/CacheCounts" (54 : Nat) ", evictions ") ∈ tables_1 := List.mem_of_getElem? (i := 168) rfl
theorem m169 : (Jvm.Cond.methodLink "com/example/freshet/freshet/CacheCounts" (56 : Nat) ({ cls := "java/lang/StringBuilder", name := "toString", desc := "()Ljava/lang/String;" } : Jvm.MethodName)) ∈ tables_1 := List.mem_of_getElem? (i := 169) rfl
theorem m170 : (Jvm.Cond.declares ({ cls := "java/lang/StringBuilder", name := "toString", desc := "()Ljava/lang/String;" } : Jvm.MethodName)) ∈ tables_1 := List.mem_of_getElem? (i := 170) rfl
theorem m171 : (Jvm.Cond.instanceMethod ({ cls := "java/lang/StringBuilder", name := "toString", desc := "()Ljava/lang/String;" } : Jvm.MethodName)) ∈ tables_1 := List.mem_of_getElem? (i := 171) rfl
theorem m172 : (Jvm.Cond.selects "java/lang/StringBuilder" ({ cls := "java/lang/StringBuilder", name := "toString", desc := "()Ljava/lang/String;" } : Jvm.MethodName) ({ cls := "java/lang/StringBuilder", name := "toString", desc := "()Ljava/lang/String;" } : Jvm.MethodName)) ∈ tables_1 := List.mem_of_getElem? (i := 172) rfl
theorem m173 : (Jvm.Cond.code ({ cls := "java/lang/StringBuilder", name := "toString", desc := "()Ljava/lang/String;" } : Jvm.MethodName) jdk_67_method_42_code (1 : Nat) (Option.some (Jvm.ClassFile.FieldType.object "java/lang/String"))) ∈ tables_1 := List.mem_of_getElem? (i := 173) rfl
theorem m174 : (Jvm.Cond.classLink "java/lang/StringBuilder" (18 : Nat) "java/lang/String") ∈ tables_1 := List.mem_of_getElem? (i := 174) rfl
theorem m175 : (Jvm.Cond.methodLink "java/lang/StringBuilder" (137 : Nat) ({ cls := "java/lang/String", name := "<init>", desc := "(Ljava/lang/StringBuilder;)V" } : Jvm.MethodName)) ∈ tables_1 := List.mem_of_getElem? (i := 175) rfl
theorem m176 : (Jvm.Cond.instanceMethod ({ cls := "java/lang/String", name := "<init>", desc := "(Ljava/lang/StringBuilder;)V" } : Jvm.MethodName)) ∈ tables_1 := List.mem_of_getElem? (i := 176) rfl
theorem m178 : (Jvm.Cond.code ({ cls := "java/lang/String", name := "<init>", desc := "(Ljava/lang/StringBuilder;)V" } : Jvm.MethodName) jdk_42_method_53_code (2 : Nat) (Option.none : Option Jvm.ClassFile.FieldType)) ∈ tables_1 := List.mem_of_getElem? (i := 178) rfl
theorem m179 : (Jvm.Cond.methodLink "java/lang/String" (489 : Nat) ({ cls := "java/lang/String", name := "<init>", desc := "(Ljava/lang/AbstractStringBuilder;Ljava/lang/Void;)V" } : Jvm.MethodName)) ∈ tables_1 := List.mem_of_getElem? (i := 179) rfl
theorem m180 : (Jvm.Cond.instanceMethod ({ cls := "java/lang/String", name := "<init>", desc := "(Ljava/lang/AbstractStringBuilder;Ljava/lang/Void;)V" } : Jvm.MethodName)) ∈ tables_1 := List.mem_of_getElem? (i := 180) rfl
theorem m181 : (Jvm.Cond.code ({ cls := "java/lang/String", name := "<init>", desc := "(Ljava/lang/AbstractStringBuilder;Ljava/lang/Void;)V" } : Jvm.MethodName) jdk_42_method_150_code (5 : Nat) (Option.none : Option Jvm.ClassFile.FieldType)) ∈ tables_1 := List.mem_of_getElem? (i := 181) rfl
theorem m182 : (Jvm.Cond.methodLink "java/lang/String" (1 : Nat) ({ cls := "java/lang/Object", name := "<init>", desc := "()V" } : Jvm.MethodName)) ∈ tables_1 := List.mem_of_getElem? (i := 182) rfl
theorem m183 : (Jvm.Cond.methodLink "java/lang/String" (552 : Nat) ({ cls := "java/lang/AbstractStringBuilder", name := "getValue", desc := "()[B" } : Jvm.MethodName)) ∈ tables_1 := List.mem_of_getElem? (i := 183) rfl
theorem m184 : (Jvm.Cond.declares ({ cls := "java/lang/AbstractStringBuilder", name := "getValue", desc := "()[B" } : Jvm.MethodName)) ∈ tables_1 := List.mem_of_getElem? (i := 184) rfl
theorem m185 : (Jvm.Cond.instanceMethod ({ cls := "java/lang/AbstractStringBuilder", name := "getValue", desc := "()[B" } : Jvm.MethodName)) ∈ tables_1 := List.mem_of_getElem? (i := 185) rfl
theorem m186 : (Jvm.Cond.selects "java/lang/StringBuilder" ({ cls := "java/lang/AbstractStringBuilder", name := "getValue", desc := "()[B" } : Jvm.MethodName) ({ cls := "java/lang/AbstractStringBuilder", name := "getValue", desc := "()[B" } : Jvm.MethodName)) ∈ tables_1 := List.mem_of_getElem? (i := 186) rfl
theorem m187 : (Jvm.Cond.code ({ cls := "java/lang/AbstractStringBuilder", name := "getValue", desc := "()[B" } : Jvm.MethodName) jdk_68_method_64_code (1 : Nat) (Option.some (Jvm.ClassFile.FieldType.array Jvm.ClassFile.FieldType.byte))) ∈ tables_1 := List.mem_of_getElem? (i := 187) rfl
theorem m188 : (Jvm.Cond.methodLink "java/lang/String" (549 : Nat) ({ cls := "java/lang/AbstractStringBuilder", name := "length", desc := "()I" } : Jvm.MethodName)) ∈ tables_1 := List.mem_of_getElem? (i := 188) rfl
theorem m189 : (Jvm.Cond.declares ({ cls := "java/lang/AbstractStringBuilder", name := "length", desc := "()I" } : Jvm.MethodName)) ∈ tables_1 := List.mem_of_getElem? (i := 189) rfl
theorem m190 : (Jvm.Cond.instanceMethod ({ cls := "java/lang/AbstractStringBuilder", name := "length", desc := "()I" } : Jvm.MethodName)) ∈ tables_1 := List.mem_of_getElem? (i := 190) rfl
theorem m191 : (Jvm.Cond.selects "java/lang/StringBuilder" ({ cls := "java/lang/AbstractStringBuilder", name := "length", desc := "()I" } : Jvm.MethodName) ({ cls := "java/lang/StringBuilder", name := "length", desc := "()I" } : Jvm.MethodName)) ∈ tables_1 := List.mem_of_getElem? (i := 191) rfl
theorem m192 : (Jvm.Cond.instanceMethod ({ cls := "java/lang/StringBuilder", name := "length", desc := "()I" } : Jvm.MethodName)) ∈ tables_1 := List.mem_of_getElem? (i := 192) rfl
theorem m193 : (Jvm.Cond.code ({ cls := "java/lang/StringBuilder", name := "length", desc := "()I" } : Jvm.MethodName) jdk_67_method_93_code (1 : Nat) (Option.some Jvm.ClassFile.FieldType.int)) ∈ tables_1 := List.mem_of_getElem? (i := 193) rfl
theorem m194 : (Jvm.Cond.methodLink "java/lang/StringBuilder" (343 : Nat) ({ cls := "java/lang/AbstractStringBuilder", name := "length", desc := "()I" } : Jvm.MethodName)) ∈ tables_1 := List.mem_of_getElem? (i := 194) rfl
theorem m195 : (Jvm.Cond.code ({ cls := "java/lang/AbstractStringBuilder", name := "length", desc := "()I" } : Jvm.MethodName) jdk_68_method_6_code (1 : Nat) (Option.some Jvm.ClassFile.FieldType.int)) ∈ tables_1 := List.mem_of_getElem? (i := 195) rfl
theorem m196 : (Jvm.Cond.methodLink "java/lang/String" (1047 : Nat) ({ cls := "java/lang/AbstractStringBuilder", name := "isLatin1", desc := "()Z" } : Jvm.MethodName)) ∈ tables_1 := List.mem_of_getElem? (i := 196) rfl
theorem m197 : (Jvm.Cond.methodLink "java/lang/String" (54 : Nat) ({ cls := "java/util/Arrays", name := "copyOfRange", desc := "([BII)[B" } : Jvm.MethodName)) ∈ tables_1 := List.mem_of_getElem? (i := 197) rfl
theorem m198 : (Jvm.Cond.static ({ cls := "java/util/Arrays", name := "copyOfRange", desc := "([BII)[B" } : Jvm.MethodName)) ∈ tables_1 := List.mem_of_getElem? (i := 198) rfl
theorem m199 : (Jvm.Cond.code ({ cls := "java/util/Arrays", name := "copyOfRange", desc := "([BII)[B" } : Jvm.MethodName) jdk_65_method_132_code (3 : Nat) (Option.some (Jvm.ClassFile.FieldType.array Jvm.ClassFile.FieldType.byte))) ∈ tables_1 := List.mem_of_getElem? (i := 199) rfl
theorem m200 : (Jvm.Cond.methodLink "java/util/Arrays" (339 : Nat) ({ cls := "java/util/Arrays", name := "copyOfRangeByte", desc := "([BII)[B" } : Jvm.MethodName)) ∈ tables_1 := List.mem_of_getElem? (i := 200) rfl
theorem m201 : (Jvm.Cond.static ({ cls := "java/util/Arrays", name := "copyOfRangeByte", desc := "([BII)[B" } : Jvm.MethodName)) ∈ tables_1 := List.mem_of_getElem? (i := 201) rfl
theorem m202 : (Jvm.Cond.code ({ cls := "java/util/Arrays", name := "copyOfRangeByte", desc := "([BII)[B" } : Jvm.MethodName) jdk_65_method_133_code (5 : Nat) (Option.some (Jvm.ClassFile.FieldType.array Jvm.ClassFile.FieldType.byte))) ∈ tables_1 := List.mem_of_getElem? (i := 202) rfl
theorem m203 : (Jvm.Cond.methodLink "java/util/Arrays" (343 : Nat) ({ cls := "java/util/Arrays", name := "checkLength", desc := "(II)V" } : Jvm.MethodName)) ∈ tables_1 := List.mem_of_getElem? (i := 203) rfl
theorem m204 : (Jvm.Cond.static ({ cls := "java/util/Arrays", name := "checkLength", desc := "(II)V" } : Jvm.MethodName)) ∈ tables_1 := List.mem_of_getElem? (i := 204) rfl
theorem m205 : (Jvm.Cond.code ({ cls := "java/util/Arrays", name := "checkLength", desc := "(II)V" } : Jvm.MethodName) jdk_65_method_131_code (2 : Nat) (Option.none : Option Jvm.ClassFile.FieldType)) ∈ tables_1 := List.mem_of_getElem? (i := 205) rfl
theorem m206 : (Jvm.Cond.classLink "com/example/freshet/freshet/CacheCountsToStringPinLaw" (28 : Nat) "java/lang/String") ∈ tables_1 := List.mem_of_getElem? (i := 206) rfl
theorem m207 : (Jvm.Cond.methodLink "com/example/freshet/freshet/CacheCountsToStringPinLaw" (30 : Nat) ({ cls := "java/lang/String", name := "<init>", desc := "([C)V" } : Jvm.MethodName)) ∈ tables_1 := List.mem_of_getElem? (i := 207) rfl
theorem m208 : (Jvm.Cond.instanceMethod ({ cls := "java/lang/String", name := "<init>", desc := "([C)V" } : Jvm.MethodName)) ∈ tables_1 := List.mem_of_getElem? (i := 208) rfl
theorem m209 : (Jvm.Cond.code ({ cls := "java/lang/String", name := "<init>", desc := "([C)V" } : Jvm.MethodName) jdk_42_method_3_code (2 : Nat) (Option.none : Option Jvm.ClassFile.FieldType)) ∈ tables_1 := List.mem_of_getElem? (i := 209) rfl
theorem m223 : (Jvm.Cond.methodLink "com/example/freshet/freshet/CacheCountsToStringPinLaw" (33 : Nat) ({ cls := "java/lang/String", name := "equals", desc := "(Ljava/lang/Object;)Z" } : Jvm.MethodName)) ∈ tables_1 := List.mem_of_getElem? (i := 223) rfl
theorem m224 : (Jvm.Cond.declares ({ cls := "java/lang/String", name := "equals", desc := "(Ljava/lang/Object;)Z" } : Jvm.MethodName)) ∈ tables_1 := List.mem_of_getElem? (i := 224) rfl
theorem m225 : (Jvm.Cond.instanceMethod ({ cls := "java/lang/String", name := "equals", desc := "(Ljava/lang/Object;)Z" } : Jvm.MethodName)) ∈ tables_1 := List.mem_of_getElem? (i := 225) rfl
theorem m226 : (Jvm.Cond.selects "java/lang/String" ({ cls := "java/lang/String", name := "equals", desc := "(Ljava/lang/Object;)Z" } : Jvm.MethodName) ({ cls := "java/lang/String", name := "equals", desc := "(Ljava/lang/Object;)Z" } : Jvm.MethodName)) ∈ tables_1 := List.mem_of_getElem? (i := 226) rfl
theorem m227 : (Jvm.Cond.code ({ cls := "java/lang/String", name := "equals", desc := "(Ljava/lang/Object;)Z" } : Jvm.MethodName) jdk_42_method_66_code (3 : Nat) (Option.some Jvm.ClassFile.FieldType.boolean)) ∈ tables_1 := List.mem_of_getElem? (i := 227) rfl
theorem m228 : (Jvm.Cond.classLink "java/lang/String" (10 : Nat) "java/lang/String") ∈ tables_1 := List.mem_of_getElem? (i := 228) rfl
theorem m229 : (Jvm.Cond.methodLink "java/lang/String" (541 : Nat) ({ cls := "java/lang/StringLatin1", name := "equals", desc := "([B[B)Z" } : Jvm.MethodName)) ∈ tables_1 := List.mem_of_getElem? (i := 229) rfl
theorem m230 : (Jvm.Cond.static ({ cls := "java/lang/StringLatin1", name := "equals", desc := "([B[B)Z" } : Jvm.MethodName)) ∈ tables_1 := List.mem_of_getElem? (i := 230) rfl
theorem m231 : (Jvm.Cond.initialized "java/lang/StringLatin1") ∈ tables_1 := List.mem_of_getElem? (i := 231) rfl
theorem m232 : (Jvm.Cond.code ({ cls := "java/lang/StringLatin1", name := "equals", desc := "([B[B)Z" } : Jvm.MethodName) jdk_43_method_13_code (3 : Nat) (Option.some Jvm.ClassFile.FieldType.boolean)) ∈ tables_1 := List.mem_of_getElem? (i := 232) rfl
theorem pd_0 : parseMethodDescriptor "()B" = some ⟨[], some .byte⟩ := by decide +kernel
theorem pd_1 : parseMethodDescriptor "(II)I" = some ⟨[.int, .int], some .int⟩ := by decide +kernel
theorem pd_2 : parseMethodDescriptor "(III)I" = some ⟨[.int, .int, .int], some .int⟩ := by decide +kernel
theorem pd_3 : parseMethodDescriptor "(II)V" = some ⟨[.int, .int], none⟩ := by decide +kernel
theorem pd_4 : parseMethodDescriptor "([BII)[B" = some ⟨[(.array .byte), .int, .int], some (.array .byte)⟩ := by decide +kernel
theorem pd_5 : parseMethodDescriptor "(I)I" = some ⟨[.int], some .int⟩ := by decide +kernel
theorem pd_6 : parseMethodDescriptor "([BI)[B" = some ⟨[(.array .byte), .int], some (.array .byte)⟩ := by decide +kernel
theorem pd_7 : parseMethodDescriptor "(Ljava/lang/String;)V" = some ⟨[(.object "java/lang/String")], none⟩ := by decide +kernel
theorem pd_8 : parseMethodDescriptor "([BIB)V" = some ⟨[(.array .byte), .int, .byte], none⟩ := by decide +kernel
theorem pd_9 : parseMethodDescriptor "()I" = some ⟨[], some .int⟩ := by decide +kernel
theorem pd_10 : parseMethodDescriptor "(I)V" = some ⟨[.int], none⟩ := by decide +kernel
theorem pd_11 : parseMethodDescriptor "(ILjava/lang/String;)V" = some ⟨[.int, (.object "java/lang/String")], none⟩ := by decide +kernel
theorem pd_12 : parseMethodDescriptor "(Ljava/lang/String;)Ljava/lang/AbstractStringBuilder;" = some ⟨[(.object "java/lang/String")], some (.object "java/lang/AbstractStringBuilder")⟩ := by decide +kernel
theorem pd_13 : parseMethodDescriptor "(J)I" = some ⟨[.long], some .int⟩ := by decide +kernel
theorem pd_14 : parseMethodDescriptor "()Z" = some ⟨[], some .boolean⟩ := by decide +kernel
theorem pd_15 : parseMethodDescriptor "(JI[B)I" = some ⟨[.long, .int, (.array .byte)], some .int⟩ := by decide +kernel
theorem pd_16 : parseMethodDescriptor "(J)Ljava/lang/AbstractStringBuilder;" = some ⟨[.long], some (.object "java/lang/AbstractStringBuilder")⟩ := by decide +kernel
theorem pd_17 : parseMethodDescriptor "()[B" = some ⟨[], some (.array .byte)⟩ := by decide +kernel
theorem pd_18 : parseMethodDescriptor "(Ljava/lang/AbstractStringBuilder;Ljava/lang/Void;)V" = some ⟨[(.object "java/lang/AbstractStringBuilder"), (.object "java/lang/Void")], none⟩ := by decide +kernel
theorem pd_19 : parseMethodDescriptor "(Ljava/lang/StringBuilder;)V" = some ⟨[(.object "java/lang/StringBuilder")], none⟩ := by decide +kernel
theorem pd_20 : parseMethodDescriptor "([B[B)Z" = some ⟨[(.array .byte), (.array .byte)], some .boolean⟩ := by decide +kernel
theorem pd_21 : parseMethodDescriptor "()V" = some ⟨[], none⟩ := by decide +kernel
theorem pd_22 : parseMethodDescriptor "(Ljava/lang/String;)Ljava/lang/StringBuilder;" = some ⟨[(.object "java/lang/String")], some (.object "java/lang/StringBuilder")⟩ := by decide +kernel
theorem pd_23 : parseMethodDescriptor "()J" = some ⟨[], some .long⟩ := by decide +kernel
theorem pd_24 : parseMethodDescriptor "(J)Ljava/lang/StringBuilder;" = some ⟨[.long], some (.object "java/lang/StringBuilder")⟩ := by decide +kernel
theorem pd_25 : parseMethodDescriptor "()Ljava/lang/String;" = some ⟨[], some (.object "java/lang/String")⟩ := by decide +kernel
theorem pd_26 : parseMethodDescriptor "(J)C" = some ⟨[.long], some .char⟩ := by decide +kernel
theorem pd_27 : parseMethodDescriptor "(JJJJJJ)V" = some ⟨[.long, .long, .long, .long, .long, .long], none⟩ := by decide +kernel
theorem pd_28 : parseMethodDescriptor "([C)V" = some ⟨[(.array .char)], none⟩ := by decide +kernel
theorem pd_29 : parseMethodDescriptor "(Ljava/lang/Object;)Z" = some ⟨[(.object "java/lang/Object")], some .boolean⟩ := by decide +kernel
theorem pn_0 : plainName "java/lang/String" = true := by first | (simp [plainName, overriddenIn]; done) | decide +kernel
theorem pn_1 : plainName "jdk/internal/util/ArraysSupport" = true := by first | (simp [plainName, overriddenIn]; done) | decide +kernel
theorem pn_2 : plainName "java/lang/AbstractStringBuilder" = true := by first | (simp [plainName, overriddenIn]; done) | decide +kernel
theorem pn_3 : plainName "java/util/Arrays" = true := by first | (simp [plainName, overriddenIn]; done) | decide +kernel
theorem pn_4 : plainName "java/lang/StringBuilder" = true := by first | (simp [plainName, overriddenIn]; done) | decide +kernel
theorem pn_5 : plainName "java/lang/Long" = true := by first | (simp [plainName, overriddenIn]; done) | decide +kernel
theorem pn_6 : plainName "java/lang/StringLatin1" = true := by first | (simp [plainName, overriddenIn]; done) | decide +kernel
theorem pn_7 : plainName "com/example/freshet/freshet/CacheCountsToStringPinLaw" = true := by first | (simp [plainName, overriddenIn]; done) | decide +kernel
theorem pn_8 : plainName "com/example/freshet/freshet/CacheCounts" = true := by first | (simp [plainName, overriddenIn]; done) | decide +kernel
namespace Nar
def own_bs (zs : List Int32) : List Value := zs.map Value.int
def BY (z : Int32) : Prop := fits .byte (.int z) = true
def own_put (ws : List Int32) (p : Nat) (zs : List Int32) : List Int32 := ws.take p ++ zs ++ ws.drop (p + zs.length)
theorem own_bs_len (zs : List Int32) : (own_bs zs).length = zs.length := by simp [own_bs]
theorem own_bs_at {zs : List Int32} {j : Nat} (h : j < zs.length) : (own_bs zs)[j]? = some (.int (zs[j])) := by simp [own_bs, h]
theorem own_fb {zs : List Int32} (h : ∀ z ∈ zs, BY z) : ∀ v ∈ own_bs zs, fits .byte v = true := by
  intro v hv
  obtain ⟨z, hz, rfl⟩ := List.mem_map.mp hv
  exact h z hz
theorem own_small {j : Nat} (h : j < 2 ^ 31) : (Int32.ofNat j).toInt = (j : Int) := Int32.toInt_ofNat_small h
theorem own_ltN {i j : Nat} (hi : i < 2 ^ 31) (hj : j < 2 ^ 31) : Int32.ofNat i < Int32.ofNat j ↔ i < j := by
  rw [Int32.lt_iff_toInt_lt, own_small hi, own_small hj]; omega
theorem own_inj {i j : Nat} (hi : i < 2 ^ 31) (hj : j < 2 ^ 31) : Int32.ofNat i = Int32.ofNat j ↔ i = j := by
  rw [← Int32.toInt_inj, own_small hi, own_small hj]; omega
theorem own_add (i j : Nat) : Int32.ofNat i + Int32.ofNat j = Int32.ofNat (i + j) := (Int32.ofNat_add i j).symm
theorem own_succ (j : Nat) : Int32.ofNat j + (1 : Int32) = Int32.ofNat (j + 1) := by rw [Int32.ofNat_add]; rfl
theorem own_subN {i j : Nat} (hj : j ≤ i) : Int32.ofNat i - Int32.ofNat j = Int32.ofNat (i - j) := by
  have e : Int32.ofNat i = Int32.ofNat (i - j) + Int32.ofNat j := by rw [own_add]; congr 1; omega
  rw [e, Int32.add_sub_cancel]
theorem own_shl0 (y : Int32) : y <<< ((0 : Int32) &&& 31) = y := by rw [show (0 : Int32) &&& 31 = 0 from rfl]; exact Int32.shiftLeft_zero
theorem own_shr0 (y : Int32) : y >>> ((0 : Int32) &&& 31) = y := by rw [show (0 : Int32) &&& 31 = 0 from rfl]; exact Int32.shiftRight_zero
theorem own_nb0 : nar .byte (0 : Int32) = (0 : Int32) := by decide +kernel
theorem own_copy (ws zs : List Int32) (p si ni : Nat) : (own_bs ws).take p ++ ((own_bs zs).drop si).take ni ++ (own_bs ws).drop (p + ni) = own_bs (ws.take p ++ (zs.drop si).take ni ++ ws.drop (p + ni)) := by
  simp [own_bs, List.map_take, List.map_drop]
theorem own_put_len {ws zs : List Int32} {p : Nat} (h : p + zs.length ≤ ws.length) : (own_put ws p zs).length = ws.length := by
  simp only [own_put, List.length_append, List.length_take, List.length_drop]; omega
theorem own_put_by {ws zs : List Int32} {p : Nat} (h : ∀ z ∈ ws, BY z) (g : ∀ z ∈ zs, BY z) : ∀ z ∈ own_put ws p zs, BY z := by
  intro z hz
  simp only [own_put, List.mem_append] at hz
  rcases hz with (hz | hz) | hz
  · exact h z (List.mem_of_mem_take hz)
  · exact g z hz
  · exact h z (List.mem_of_mem_drop hz)
theorem own_put_take {ws zs : List Int32} {p : Nat} (h : p + zs.length ≤ ws.length) : (own_put ws p zs).take (p + zs.length) = ws.take p ++ zs := by
  have e : (ws.take p ++ zs).length = p + zs.length := by rw [List.length_append, List.length_take]; omega
  unfold own_put
  rw [← e]; exact List.take_left
theorem own_rep0 {n : Nat} (h : n < 2 ^ 31) : List.replicate (Int32.ofNat n).toNatClampNeg (Value.int (0 : Int32)) = own_bs (List.replicate n (0 : Int32)) := by
  rw [(own_clampN (own_small h)).2]; simp [own_bs]
theorem own_by0 (n : Nat) : ∀ z ∈ List.replicate n (0 : Int32), BY z := by
  intro z hz; rw [List.eq_of_mem_replicate hz]; unfold BY; decide
theorem own_byA {ws us : List Int32} (h : ∀ z ∈ ws, BY z) (g : ∀ z ∈ us, BY z) : ∀ z ∈ ws ++ us, BY z := by
  intro z hz; rcases List.mem_append.mp hz with q | q
  · exact h z q
  · exact g z q
theorem own_grow {ws : List Int32} {n : Nat} (h : ws.length < n) : List.take 0 (List.replicate n (0 : Int32)) ++ (List.drop 0 ws).take ws.length ++ List.drop (0 + ws.length) (List.replicate n (0 : Int32)) = ws ++ List.replicate (n - ws.length) 0 := by
  simp [List.drop_replicate]
theorem own_cut (ws : List Int32) (k : Nat) : List.take 0 (List.replicate k (0 : Int32)) ++ (List.drop 0 ws).take k ++ List.drop (0 + k) (List.replicate k (0 : Int32)) = ws.take k := by
  simp
/-- the string a, whose bytes are zs, in the array u -/
def SS (Z : State) (h : Heap) (a u : Addr) (zs : List Int32) : Prop := Exa Z h a "java/lang/String" ∧ Fld Z h a "java/lang/String" "coder" "B" (.int (0 : Int32)) ∧ Fld Z h a "java/lang/String" "value" "[B" (.ref u) ∧ Arx Z h u .byte (own_bs zs)
/-- the builder b, its array v of the bytes ws, k of them taken -/
def SBP (Z : State) (n0 : Nat) (h : Heap) (b v : Addr) (k : Nat) (ws : List Int32) : Prop := Exa Z h b "java/lang/StringBuilder" ∧ Fld Z h b "java/lang/AbstractStringBuilder" "value" "[B" (.ref v) ∧ Fld Z h b "java/lang/AbstractStringBuilder" "coder" "B" (.int (0 : Int32)) ∧ Fld Z h b "java/lang/AbstractStringBuilder" "count" "I" (.int (Int32.ofNat k)) ∧ Arx Z h v .byte (own_bs ws) ∧ n0 ≤ b ∧ n0 ≤ v ∧ v ≠ b ∧ k ≤ ws.length ∧ ∀ z ∈ ws, BY z
/-- what an append promises -/
def AQ (Z : State) (n0 : Nat) (h0 : Heap) (b v : Addr) (cs : List Int32) (cap : Nat) (r : Option Value) (h : Heap) (L : List Loc) : Prop := ∃ (v' : Addr) (ws' : List Int32), r = some (.ref b) ∧ Fr n0 L ∧ Keep h0 h [b, v] ∧ (v' = v ∨ h0.size ≤ v') ∧ SBP Z n0 h b v' cs.length ws' ∧ ws'.length = cap ∧ ws'.take cs.length = cs
theorem own_len1 {ws : List Int32} {k : Nat} (h : k ≤ ws.length) (zs : List Int32) : (ws.take k ++ zs).length = k + zs.length := by rw [List.length_append, List.length_take]; omega
theorem own_ncA {m n : Nat} (h0 : n < m) (h1 : m < 2 * n + 2) (hn : n < 1000) : Int32.ofNat m - Int32.ofNat n < Int32.ofNat n + (2 : Int32) := by
  rw [own_subN (Nat.le_of_lt h0), show (2 : Int32) = Int32.ofNat 2 from rfl, own_add]; exact (own_ltN (by omega) (by omega)).mpr (by omega)
theorem own_ncS (n : Nat) : Int32.ofNat n + (Int32.ofNat n + (2 : Int32)) = Int32.ofNat (2 * n + 2) := by
  rw [show (2 : Int32) = Int32.ofNat 2 from rfl, own_add, own_add]; congr 1; omega
theorem own_ncB {n : Nat} (hn : n < 1000) : (0 : Int32) < Int32.ofNat n + (Int32.ofNat n + (2 : Int32)) := by
  rw [own_ncS, show (0 : Int32) = Int32.ofNat 0 from rfl]; exact (own_ltN (by omega) (by omega)).mpr (by omega)
theorem own_ncC {n : Nat} (hn : n < 1000) : ¬ (2147483639 : Int32) < Int32.ofNat n + (Int32.ofNat n + (2 : Int32)) := by
  rw [own_ncS, show (2147483639 : Int32) = Int32.ofNat 2147483639 from rfl, own_ltN (by omega) (by omega)]; omega
theorem own_ncD {n : Nat} (hn : n < 1000) : ¬ Int32.ofNat n = (2147483647 : Int32) := by
  rw [show (2147483647 : Int32) = Int32.ofNat 2147483647 from rfl, own_inj (by omega) (by omega)]; omega
theorem own_posN {n : Nat} (h : n < 2 ^ 31) : ¬ Int32.ofNat n < 0 := (own_clampN (own_small h)).1
theorem own_fitN {m n : Nat} (h : m ≤ n) (hn : n < 2 ^ 31) : ¬ (0 : Int32) < Int32.ofNat m - Int32.ofNat n := by
  have q : Int32.ofNat n = Int32.ofNat m + Int32.ofNat (n - m) := by rw [own_add]; congr 1; omega
  have e1 : (Int32.ofNat m - Int32.ofNat n).toInt = (m : Int) - n := by
    rw [Jvm.Kit.i32_sub (by rw [own_small (by omega), own_small (by omega)]; omega) (by rw [own_small (by omega), own_small (by omega)]; omega), own_small (by omega), own_small (by omega)]
  rw [Int32.lt_iff_toInt_lt, e1]; have : (0 : Int32).toInt = 0 := rfl
  omega
theorem own_overN {m n : Nat} (h : n < m) (hn : m < 2 ^ 31) : (0 : Int32) < Int32.ofNat m - Int32.ofNat n := by
  rw [own_subN (Nat.le_of_lt h), show (0 : Int32) = Int32.ofNat 0 from rfl]; exact (own_ltN (by omega) (by omega)).mpr (by omega)
theorem own_fold (f : Nat → Option Bool) : ∀ (l : List Nat) (a : Option Bool), l.foldl (fun acc i => match acc with | some true => f i | x => x) a = some true → a = some true ∧ ∀ i ∈ l, f i = some true
  | [], a, h => ⟨h, fun i hi => by cases hi⟩
  | x :: l, a, h => by
    rw [List.foldl_cons] at h
    obtain ⟨h1, h2⟩ := own_fold f l _ h
    split at h1
    · refine ⟨rfl, fun i hi => ?_⟩
      rcases List.mem_cons.mp hi with rfl | q
      · exact h1
      · exact h2 i q
    · rename_i hn; exact absurd h1 (fun q => hn q)
theorem own_digits {Z : State} {args a0 : Array Value} {C n d : String} (wA : (Cond.arrayClass .byte).before a0 Z = true) (hx : (Cond.exactly (Term.static C n d) "[B").value args Z none Z [] = some true) (hl : (Cond.eq (Term.length (Term.static C n d)) (Term.int (100 : Int32))).value args Z none Z [] = some true)
    (ha : (Cond.all (Term.static C n d) (Cond.eq (Term.elem (Term.static C n d) (Term.index 0)) (Term.add (Term.int (48 : Int32)) (Term.rem (Term.index 0) (Term.int (10 : Int32)))))).value args Z none Z [] = some true) :
    ∃ (dg : Addr) (tb : List Int32), (Term.static C n d).eval args Z none [] Z = some (.ref dg) ∧ Arx Z Z.heap dg .byte (own_bs tb) ∧ ∀ i, i < 10 → (own_bs tb)[i]? = some (.int (Int32.ofNat (48 + i))) := by
  obtain ⟨dg, ev⟩ := exa_v hx
  obtain ⟨cell, k, h1, h2, h3, h4, -⟩ := Exa.start ev hx
  obtain ⟨c2, k2, comp, g1, g2, g3⟩ := Cond.arrayClass_spec wA
  have e2 : c2 = cell.cls := by
    have : ("[" ++ FieldType.byte.toString) = "[B" := by decide
    rw [this] at g1; exact Option.some.inj (g1.symm.trans h2)
  subst e2
  have hcd : ∃ cl, Z.arrayAt? dg = some cl := by
    simp only [Cond.value, ev] at ha
    cases hq : Z.arrayAt? dg with
    | none => rw [hq] at ha; cases ha
    | some cl => exact ⟨cl, rfl⟩
  obtain ⟨cl, hcl⟩ := hcd
  have hun : cell.vm ≠ .unknown ∧ cl = cell := by
    have h := hcl
    simp only [State.arrayAt?, h1, h3, Option.bind_eq_bind, Option.bind_some] at h
    split at h
    · cases h
    · rename_i hn
      split at h
      · exact ⟨fun q => hn (Or.inl q), (Option.some.inj h).symm⟩
      · cases h
  obtain ⟨hun, rfl⟩ := hun
  have evi : ∀ i : Nat, (Term.static C n d).eval args Z none [i] Z = some (.ref dg) := fun i => by
    have := ev; simp only [Term.eval] at this ⊢; exact this
  have hsz : cl.slots.size < 2 ^ 31 ∧ cl.slots.size.toInt32 = (100 : Int32) := by
    simp only [Cond.value, Term.eval] at hl
    have ev' := ev
    simp only [Term.eval] at ev'
    rw [ev'] at hl
    simp only [Option.bind_eq_bind, Option.bind_some, hcl] at hl
    by_cases q : cl.slots.size < 2 ^ 31
    · simp [q] at hl; exact ⟨q, hl⟩
    · simp [q] at hl
  have h100 : cl.slots.size = 100 := by
    have := congrArg Int32.toInt hsz.2; rw [len_toInt hsz.1] at this; have e : (100 : Int32).toInt = 100 := rfl
    omega
  have hall : ∀ i, i < 100 → cl.slots[i]? = some (.int ((48 : Int32) + Int32.ofNat i % 10)) := fun i hi => by
    simp only [Cond.value, ev, hcl] at ha
    have q := (own_fold _ _ _ ha).2 i (by rw [h100]; exact List.mem_range.mpr hi)
    have hj : (Term.index 0).eval args Z none [i] Z = some (.int (Int32.ofNat i)) := by simp [Term.eval]
    have h10 : ¬ Int32.ofNat i < 0 := by rw [Int32.lt_iff_toInt_lt, Int32.toInt_ofNat_small (by omega)]; have : (0 : Int32).toInt = 0 := rfl; omega
    have hel := elem_f (a := Term.index 0) (evi i) hj hcl h10
    have hcn : (Int32.ofNat i).toNatClampNeg = i := by simp only [Int32.toNatClampNeg]; rw [Int32.toInt_ofNat_small (by omega)]; omega
    rw [hcn] at hel
    have hrm : (Term.add (Term.int (48 : Int32)) (Term.rem (Term.index 0) (Term.int (10 : Int32)))).eval args Z none [i] Z = some (.int ((48 : Int32) + Int32.ofNat i % 10)) := by
      simp [Term.eval]
    rw [hel, hrm] at q
    revert q
    cases cl.slots[i]? with
    | none => intro q; simp at q
    | some v => intro q; cases v <;> first | (simp at q; done) | (simp at q; rw [q])
  refine ⟨dg, (List.range 100).map (fun i => (48 : Int32) + Int32.ofNat i % 10), ev, ⟨cl, ⟨h1, ⟨fun q e => (by rw [e] at h4; cases h4), k2, g2, comp, g3⟩, hun⟩, ?_, by simp [own_bs]⟩, fun i hi => ?_⟩
  · apply List.ext_getElem?
    intro i
    by_cases q : i < 100
    · rw [Array.getElem?_toList, hall i q]; simp [own_bs, q]
    · rw [List.getElem?_eq_none (by simp [h100]; omega), List.getElem?_eq_none (by simp [own_bs]; omega)]
  · simp only [own_bs, List.map_map, List.getElem?_map, List.getElem?_range (show i < 100 by omega)]
    have : i = 0 ∨ i = 1 ∨ i = 2 ∨ i = 3 ∨ i = 4 ∨ i = 5 ∨ i = 6 ∨ i = 7 ∨ i = 8 ∨ i = 9 := by omega
    rcases this with rfl | rfl | rfl | rfl | rfl | rfl | rfl | rfl | rfl | rfl <;> rfl

theorem d10_0 : decode jdk_42_method_152_code 0 = .ok (.getstatic 38, 3) := by decide +kernel
theorem d10_3 : decode jdk_42_method_152_code 3 = .ok (.ifCond .eq 10, 3) := by decide +kernel
theorem d10_6 : decode jdk_42_method_152_code 6 = .ok (.aload_n 0, 1) := by decide +kernel
theorem d10_7 : decode jdk_42_method_152_code 7 = .ok (.getfield 15, 3) := by decide +kernel
theorem d10_10 : decode jdk_42_method_152_code 10 = .ok (.goto 4, 3) := by decide +kernel
theorem d10_14 : decode jdk_42_method_152_code 14 = .ok (.ireturn, 1) := by decide +kernel
theorem ef_10 (m : MethodId) (a : Addr) : entryFrame m #[(.ref a)] 1 = mkF m 0 #[.val (.ref a)] [] := by first | (simp [entryFrame, mkF, argsToLocals, Value.category]; done) | rfl
def R10 : Room := ({ frames := 0, cells := 0, slots := 0, locals := 0 } : Room)
set_option maxRecDepth 65536 in
set_option maxHeartbeats 40000000 in
theorem rm10 (l : Launch) (Z : State) (a0 : Array Value) (hw : ∀ d ∈ tables_1, d.before a0 Z = true) (a : Addr) (h0 : Heap) (n0 : Nat) (hO : Old Z n0 h0) (u : Addr) (zs : List Int32) (HS : SS Z h0 a u zs) (G1 : Int32) (O2 : Sta Z Z.heap "java/lang/String" "COMPACT_STRINGS" "Z" (.int G1)) (P5 : ¬ G1 = (0 : Int32)) :
    Con l Z (⟨"java/lang/String", "coder", "()B"⟩ : MethodName) jdk_42_method_152_code 1 (some .byte) [] R10 R10.cells R10.slots #[(.ref a)] h0 (fun v h L => v = some (.int (0 : Int32)) ∧ h0 = h ∧ L = []) := by
  refine Con.intro (n0 := n0) (plainFor_of_name pn_0) (fun m => ef_10 m a) hO ?_
  intro p e s m below meth cc T hs0 X0
  obtain ⟨E_a, Fc_a, Fv_a, A_u⟩ := id HS
  refine g_getS X0 (hw _ m81) (O2.ext X0.old.2) d10_0 (pc' := 3) rfl (fun T1 X1 => ?_)
  refine g_if_eq_f X1 d10_3 (pc' := 6) rfl P5 ?_
  refine g_aloadN X1 d10_6 (pc' := 7) rfl rfl rfl ?_
  refine g_getF X1 (host := "") (Or.inl (hw _ m82)) Via.refl Fc_a d10_7 (pc' := 10) rfl (fun T2 X2 => ?_)
  refine g_goto X2 d10_10 (pt := 14) (by decide) ?_
  exact g_retN X2 (by decide) rfl d10_14 (by decide) (by decide) ⟨by rw [own_nb0], rfl, rfl⟩

theorem d9_0 : decode jdk_42_method_54_code 0 = .ok (.aload_n 0, 1) := by decide +kernel
theorem d9_1 : decode jdk_42_method_54_code 1 = .ok (.getfield 9, 3) := by decide +kernel
theorem d9_4 : decode jdk_42_method_54_code 4 = .ok (.arraylength, 1) := by decide +kernel
theorem d9_5 : decode jdk_42_method_54_code 5 = .ok (.aload_n 0, 1) := by decide +kernel
theorem d9_6 : decode jdk_42_method_54_code 6 = .ok (.invokevirtual 335, 3) := by decide +kernel
theorem d9_9 : decode jdk_42_method_54_code 9 = .ok (.ishr, 1) := by decide +kernel
theorem d9_10 : decode jdk_42_method_54_code 10 = .ok (.ireturn, 1) := by decide +kernel
theorem ef_9 (m : MethodId) (a : Addr) : entryFrame m #[(.ref a)] 1 = mkF m 0 #[.val (.ref a)] [] := by first | (simp [entryFrame, mkF, argsToLocals, Value.category]; done) | rfl
def R9 : Room := ({ frames := 1, cells := 0, slots := 0, locals := 13 } : Room)
set_option maxRecDepth 65536 in
set_option maxHeartbeats 40000000 in
theorem rm9 (l : Launch) (Z : State) (a0 : Array Value) (hw : ∀ d ∈ tables_1, d.before a0 Z = true) (a : Addr) (h0 : Heap) (n0 : Nat) (hO : Old Z n0 h0) (u : Addr) (zs : List Int32) (HS : SS Z h0 a u zs) (G1 : Int32) (O2 : Sta Z Z.heap "java/lang/String" "COMPACT_STRINGS" "Z" (.int G1)) (P5 : ¬ G1 = (0 : Int32)) :
    Con l Z (⟨"java/lang/String", "length", "()I"⟩ : MethodName) jdk_42_method_54_code 1 (some .int) [] R9 R9.cells R9.slots #[(.ref a)] h0 (fun v h L => v = some (.int (Int32.ofNat zs.length)) ∧ h0 = h ∧ L = []) := by
  refine Con.intro (n0 := n0) (plainFor_of_name pn_0) (fun m => ef_9 m a) hO ?_
  intro p e s m below meth cc T hs0 X0
  obtain ⟨E_a, Fc_a, Fv_a, A_u⟩ := id HS
  refine g_aloadN X0 d9_0 (pc' := 1) rfl rfl rfl ?_
  refine g_getF X0 (host := "") (Or.inl (hw _ m75)) Via.refl Fv_a d9_1 (pc' := 4) rfl (fun T3 X3 => ?_)
  refine g_arraylength X3 (n := (Int32.ofNat zs.length)) A_u (by rw [own_bs_len]) d9_4 (pc' := 5) rfl ?_
  refine g_aloadN X3 d9_5 (pc' := 6) rfl rfl rfl ?_
  refine g_callV X3 (y := (⟨"java/lang/String", "coder", "()B"⟩ : MethodName)) (z := (⟨"java/lang/String", "coder", "()B"⟩ : MethodName)) (a := a) [] (hw _ m76) (hw _ m77) (notFace_of_selects (args := #[]) (mvT X3.hZ (hw _ m79))) (hw _ m79) (hw _ m78) E_a (hw _ m80) (hw _ m48) (rm10 l Z a0 hw a h0 n0 X3.old u zs ⟨E_a, Fc_a, Fv_a, A_u⟩ G1 O2 P5) (by decide) (by decide) (by decide) (by decide) (by decide) rfl pd_0 rfl (rest := [(.int (Int32.ofNat zs.length))]) rfl (W := 1) rfl d9_6 (pc' := 9) rfl ?_
  rintro _ T4 _ _ Y4 ⟨rfl, rfl, rfl⟩
  have X4 := Y4 X3.old (Fr.nil _)
  show Go p e below _ (State.setTop _ (mkF m 9 #[.val (.ref a)] [(.int (0 : Int32)), (.int (Int32.ofNat zs.length))]))
  refine g_ishr X4 d9_9 (pc' := 10) rfl ?_
  rw [own_shr0]
  exact g_retI X4 rfl d9_10 (by decide) (by decide) ⟨rfl, rfl, rfl⟩

theorem d23_0 : decode jdk_29_method_65_code 0 = .ok (.iload_n 0, 1) := by decide +kernel
theorem d23_1 : decode jdk_29_method_65_code 1 = .ok (.iload_n 1, 1) := by decide +kernel
theorem d23_2 : decode jdk_29_method_65_code 2 = .ok (.if_icmp .lt 7, 3) := by decide +kernel
theorem d23_9 : decode jdk_29_method_65_code 9 = .ok (.iload_n 1, 1) := by decide +kernel
theorem d23_10 : decode jdk_29_method_65_code 10 = .ok (.ireturn, 1) := by decide +kernel
theorem ef_23 (m : MethodId) (a : Int32) (b : Int32) : entryFrame m #[(.int a), (.int b)] 2 = mkF m 0 #[.val (.int a), .val (.int b)] [] := by first | (simp [entryFrame, mkF, argsToLocals, Value.category]; done) | rfl
def R23 : Room := ({ frames := 0, cells := 0, slots := 0, locals := 0 } : Room)
set_option maxRecDepth 65536 in
set_option maxHeartbeats 40000000 in
theorem rm23 (l : Launch) (Z : State) (a0 : Array Value) (hw : ∀ d ∈ tables_1, d.before a0 Z = true) (a : Int32) (b : Int32) (h0 : Heap) (n0 : Nat) (hO : Old Z n0 h0) (h1 : a < b) :
    Con l Z (⟨"java/lang/Math", "max", "(II)I"⟩ : MethodName) jdk_29_method_65_code 2 (some .int) [] R23 R23.cells R23.slots #[(.int a), (.int b)] h0 (fun v h L => v = some (.int b) ∧ h0 = h ∧ L = []) := by
  refine Con.intro (n0 := n0) (Jvm.Free.JP.mathPlain rfl (by decide +kernel)) (fun m => ef_23 m a b) hO ?_
  intro p e s m below meth cc T hs0 X0
  refine g_iloadN X0 d23_0 (pc' := 1) rfl rfl ?_
  refine g_iloadN X0 d23_1 (pc' := 2) rfl rfl ?_
  refine g_icmp_lt_t X0 d23_2 (pt := 9) (by decide) h1 ?_
  refine g_iloadN X0 d23_9 (pc' := 10) rfl rfl ?_
  exact g_retI X0 rfl d23_10 (by decide) (by decide) ⟨rfl, rfl, rfl⟩

theorem d25_0 : decode jdk_29_method_69_code 0 = .ok (.iload_n 0, 1) := by decide +kernel
theorem d25_1 : decode jdk_29_method_69_code 1 = .ok (.iload_n 1, 1) := by decide +kernel
theorem d25_2 : decode jdk_29_method_69_code 2 = .ok (.if_icmp .gt 7, 3) := by decide +kernel
theorem d25_5 : decode jdk_29_method_69_code 5 = .ok (.iload_n 0, 1) := by decide +kernel
theorem d25_6 : decode jdk_29_method_69_code 6 = .ok (.goto 4, 3) := by decide +kernel
theorem d25_10 : decode jdk_29_method_69_code 10 = .ok (.ireturn, 1) := by decide +kernel
theorem ef_25 (m : MethodId) (a : Int32) (b : Int32) : entryFrame m #[(.int a), (.int b)] 2 = mkF m 0 #[.val (.int a), .val (.int b)] [] := by first | (simp [entryFrame, mkF, argsToLocals, Value.category]; done) | rfl
def R25 : Room := ({ frames := 0, cells := 0, slots := 0, locals := 0 } : Room)
set_option maxRecDepth 65536 in
set_option maxHeartbeats 40000000 in
theorem rm25 (l : Launch) (Z : State) (a0 : Array Value) (hw : ∀ d ∈ tables_1, d.before a0 Z = true) (a : Int32) (b : Int32) (h0 : Heap) (n0 : Nat) (hO : Old Z n0 h0) (h1 : ¬ b < a) :
    Con l Z (⟨"java/lang/Math", "min", "(II)I"⟩ : MethodName) jdk_29_method_69_code 2 (some .int) [] R25 R25.cells R25.slots #[(.int a), (.int b)] h0 (fun v h L => v = some (.int a) ∧ h0 = h ∧ L = []) := by
  refine Con.intro (n0 := n0) (Jvm.Free.JP.mathPlain rfl (by decide +kernel)) (fun m => ef_25 m a b) hO ?_
  intro p e s m below meth cc T hs0 X0
  refine g_iloadN X0 d25_0 (pc' := 1) rfl rfl ?_
  refine g_iloadN X0 d25_1 (pc' := 2) rfl rfl ?_
  refine g_icmp_gt_f X0 d25_2 (pc' := 5) rfl h1 ?_
  refine g_iloadN X0 d25_5 (pc' := 6) rfl rfl ?_
  refine g_goto X0 d25_6 (pt := 10) (by decide) ?_
  exact g_retI X0 rfl d25_10 (by decide) (by decide) ⟨rfl, rfl, rfl⟩

theorem d25_9 : decode jdk_29_method_69_code 9 = .ok (.iload_n 1, 1) := by decide +kernel
theorem ef_25b (m : MethodId) (a : Int32) (b : Int32) : entryFrame m #[(.int a), (.int b)] 2 = mkF m 0 #[.val (.int a), .val (.int b)] [] := by first | (simp [entryFrame, mkF, argsToLocals, Value.category]; done) | rfl
def R25b : Room := ({ frames := 0, cells := 0, slots := 0, locals := 0 } : Room)
set_option maxRecDepth 65536 in
set_option maxHeartbeats 40000000 in
theorem rm25b (l : Launch) (Z : State) (a0 : Array Value) (hw : ∀ d ∈ tables_1, d.before a0 Z = true) (a : Int32) (b : Int32) (h0 : Heap) (n0 : Nat) (hO : Old Z n0 h0) (h1 : b < a) :
    Con l Z (⟨"java/lang/Math", "min", "(II)I"⟩ : MethodName) jdk_29_method_69_code 2 (some .int) [] R25b R25b.cells R25b.slots #[(.int a), (.int b)] h0 (fun v h L => v = some (.int b) ∧ h0 = h ∧ L = []) := by
  refine Con.intro (n0 := n0) (Jvm.Free.JP.mathPlain rfl (by decide +kernel)) (fun m => ef_25b m a b) hO ?_
  intro p e s m below meth cc T hs0 X0
  refine g_iloadN X0 d25_0 (pc' := 1) rfl rfl ?_
  refine g_iloadN X0 d25_1 (pc' := 2) rfl rfl ?_
  refine g_icmp_gt_t X0 d25_2 (pt := 9) (by decide) h1 ?_
  refine g_iloadN X0 d25_9 (pc' := 10) rfl rfl ?_
  exact g_retI X0 rfl d25_10 (by decide) (by decide) ⟨rfl, rfl, rfl⟩

theorem d22_0 : decode jdk_48_method_27_code 0 = .ok (.iload_n 0, 1) := by decide +kernel
theorem d22_1 : decode jdk_48_method_27_code 1 = .ok (.iload_n 1, 1) := by decide +kernel
theorem d22_2 : decode jdk_48_method_27_code 2 = .ok (.iload_n 2, 1) := by decide +kernel
theorem d22_3 : decode jdk_48_method_27_code 3 = .ok (.invokestatic 194, 3) := by decide +kernel
theorem d22_6 : decode jdk_48_method_27_code 6 = .ok (.iadd, 1) := by decide +kernel
theorem d22_7 : decode jdk_48_method_27_code 7 = .ok (.istore_n 3, 1) := by decide +kernel
theorem d22_8 : decode jdk_48_method_27_code 8 = .ok (.iconst 0, 1) := by decide +kernel
theorem d22_9 : decode jdk_48_method_27_code 9 = .ok (.iload_n 3, 1) := by decide +kernel
theorem d22_10 : decode jdk_48_method_27_code 10 = .ok (.if_icmp .ge 11, 3) := by decide +kernel
theorem d22_13 : decode jdk_48_method_27_code 13 = .ok (.iload_n 3, 1) := by decide +kernel
theorem d22_14 : decode jdk_48_method_27_code 14 = .ok (.ldc 200, 2) := by decide +kernel
theorem d22_16 : decode jdk_48_method_27_code 16 = .ok (.if_icmp .gt 5, 3) := by decide +kernel
theorem d22_19 : decode jdk_48_method_27_code 19 = .ok (.iload_n 3, 1) := by decide +kernel
theorem d22_20 : decode jdk_48_method_27_code 20 = .ok (.ireturn, 1) := by decide +kernel
theorem ef_22 (m : MethodId) (a : Int32) (b : Int32) (c' : Int32) : entryFrame m #[(.int a), (.int b), (.int c')] 4 = mkF m 0 #[.val (.int a), .val (.int b), .val (.int c'), .unset] [] := by first | (simp [entryFrame, mkF, argsToLocals, Value.category]; done) | rfl
def R22 : Room := ({ frames := 1, cells := 0, slots := 0, locals := 14 } : Room)
set_option maxRecDepth 65536 in
set_option maxHeartbeats 40000000 in
theorem rm22 (l : Launch) (Z : State) (a0 : Array Value) (hw : ∀ d ∈ tables_1, d.before a0 Z = true) (a : Int32) (b : Int32) (c' : Int32) (h0 : Heap) (n0 : Nat) (hO : Old Z n0 h0) (h1 : b < c') (h2 : (0 : Int32) < a + c') (h3 : ¬ (2147483639 : Int32) < a + c') :
    Con l Z (⟨"jdk/internal/util/ArraysSupport", "newLength", "(III)I"⟩ : MethodName) jdk_48_method_27_code 4 (some .int) [] R22 R22.cells R22.slots #[(.int a), (.int b), (.int c')] h0 (fun v h L => v = some (.int (a + c')) ∧ h0 = h ∧ L = []) := by
  refine Con.intro (n0 := n0) (plainFor_of_name pn_1) (fun m => ef_22 m a b c') hO ?_
  intro p e s m below meth cc T hs0 X0
  refine g_iloadN X0 d22_0 (pc' := 1) rfl rfl ?_
  refine g_iloadN X0 d22_1 (pc' := 2) rfl rfl ?_
  refine g_iloadN X0 d22_2 (pc' := 3) rfl rfl ?_
  refine g_callS X0 (y := (⟨"java/lang/Math", "max", "(II)I"⟩ : MethodName)) [(.int b), (.int c')] (hw _ m150) (hw _ m151) (hw _ m152) (hw _ m153) (hw _ m152) (rm23 l Z a0 hw b c' h0 n0 X0.old h1) (by decide) (by decide) (by decide) (by decide) (by decide) rfl pd_1 rfl (rest := [(.int a)]) rfl (W := 1) rfl d22_3 (pc' := 6) rfl ?_
  rintro _ T5 _ _ Y5 ⟨rfl, rfl, rfl⟩
  have X5 := Y5 X0.old (Fr.nil _)
  show Go p e below _ (State.setTop _ (mkF m 6 #[.val (.int a), .val (.int b), .val (.int c'), .unset] [(.int c'), (.int a)]))
  refine g_iadd X5 d22_6 (pc' := 7) rfl ?_
  refine g_istoreN X5 d22_7 (pc' := 8) rfl (L' := #[.val (.int a), .val (.int b), .val (.int c'), .val (.int (a + c'))]) rfl ?_
  refine g_iconst X5 d22_8 (pc' := 9) rfl (v := (0 : Int32)) rfl ?_
  refine g_iloadN X5 d22_9 (pc' := 10) rfl rfl ?_
  refine g_icmp_ge_f X5 d22_10 (pc' := 13) rfl h2 ?_
  refine g_iloadN X5 d22_13 (pc' := 14) rfl rfl ?_
  refine g_ldc X5 (hw _ m154) d22_14 (pc' := 16) rfl ?_
  refine g_icmp_gt_f X5 d22_16 (pc' := 19) rfl h3 ?_
  refine g_iloadN X5 d22_19 (pc' := 20) rfl rfl ?_
  exact g_retI X5 rfl d22_20 (by decide) (by decide) ⟨rfl, rfl, rfl⟩

theorem own_ncDx {n : Nat} (hn : n < 1000) : ¬ Int32.ofNat (2 * n + 2) = (2147483647 : Int32) := by
  rw [show (2147483647 : Int32) = Int32.ofNat 2147483647 from rfl, own_inj (by omega) (by omega)]; omega
theorem d21_0 : decode jdk_68_method_10_code 0 = .ok (.aload_n 0, 1) := by decide +kernel
theorem d21_1 : decode jdk_68_method_10_code 1 = .ok (.getfield 15, 3) := by decide +kernel
theorem d21_4 : decode jdk_68_method_10_code 4 = .ok (.arraylength, 1) := by decide +kernel
theorem d21_5 : decode jdk_68_method_10_code 5 = .ok (.istore_n 2, 1) := by decide +kernel
theorem d21_6 : decode jdk_68_method_10_code 6 = .ok (.iload_n 1, 1) := by decide +kernel
theorem d21_7 : decode jdk_68_method_10_code 7 = .ok (.aload_n 0, 1) := by decide +kernel
theorem d21_8 : decode jdk_68_method_10_code 8 = .ok (.getfield 22, 3) := by decide +kernel
theorem d21_11 : decode jdk_68_method_10_code 11 = .ok (.ishl, 1) := by decide +kernel
theorem d21_12 : decode jdk_68_method_10_code 12 = .ok (.istore_n 3, 1) := by decide +kernel
theorem d21_13 : decode jdk_68_method_10_code 13 = .ok (.iload_n 3, 1) := by decide +kernel
theorem d21_14 : decode jdk_68_method_10_code 14 = .ok (.iload_n 2, 1) := by decide +kernel
theorem d21_15 : decode jdk_68_method_10_code 15 = .ok (.isub, 1) := by decide +kernel
theorem d21_16 : decode jdk_68_method_10_code 16 = .ok (.istore 4, 2) := by decide +kernel
theorem d21_18 : decode jdk_68_method_10_code 18 = .ok (.iload_n 2, 1) := by decide +kernel
theorem d21_19 : decode jdk_68_method_10_code 19 = .ok (.iload 4, 2) := by decide +kernel
theorem d21_21 : decode jdk_68_method_10_code 21 = .ok (.iload_n 2, 1) := by decide +kernel
theorem d21_22 : decode jdk_68_method_10_code 22 = .ok (.iconst 2, 1) := by decide +kernel
theorem d21_23 : decode jdk_68_method_10_code 23 = .ok (.aload_n 0, 1) := by decide +kernel
theorem d21_24 : decode jdk_68_method_10_code 24 = .ok (.getfield 22, 3) := by decide +kernel
theorem d21_27 : decode jdk_68_method_10_code 27 = .ok (.ishl, 1) := by decide +kernel
theorem d21_28 : decode jdk_68_method_10_code 28 = .ok (.iadd, 1) := by decide +kernel
theorem d21_29 : decode jdk_68_method_10_code 29 = .ok (.invokestatic 114, 3) := by decide +kernel
theorem d21_32 : decode jdk_68_method_10_code 32 = .ok (.istore 5, 2) := by decide +kernel
theorem d21_34 : decode jdk_68_method_10_code 34 = .ok (.iload 5, 2) := by decide +kernel
theorem d21_36 : decode jdk_68_method_10_code 36 = .ok (.ldc 39, 2) := by decide +kernel
theorem d21_38 : decode jdk_68_method_10_code 38 = .ok (.if_icmp .ne 13, 3) := by decide +kernel
theorem d21_51 : decode jdk_68_method_10_code 51 = .ok (.iload 5, 2) := by decide +kernel
theorem d21_53 : decode jdk_68_method_10_code 53 = .ok (.aload_n 0, 1) := by decide +kernel
theorem d21_54 : decode jdk_68_method_10_code 54 = .ok (.getfield 22, 3) := by decide +kernel
theorem d21_57 : decode jdk_68_method_10_code 57 = .ok (.ishr, 1) := by decide +kernel
theorem d21_58 : decode jdk_68_method_10_code 58 = .ok (.ireturn, 1) := by decide +kernel
theorem ef_21 (m : MethodId) (b : Addr) (m' : Nat) : entryFrame m #[(.ref b), (.int (Int32.ofNat m'))] 6 = mkF m 0 #[.val (.ref b), .val (.int (Int32.ofNat m')), .unset, .unset, .unset, .unset] [] := by first | (simp [entryFrame, mkF, argsToLocals, Value.category]; done) | rfl
def R21 : Room := ({ frames := 2, cells := 0, slots := 0, locals := 29 } : Room)
set_option maxRecDepth 65536 in
set_option maxHeartbeats 40000000 in
theorem rm21 (l : Launch) (Z : State) (a0 : Array Value) (hw : ∀ d ∈ tables_1, d.before a0 Z = true) (b : Addr) (m' : Nat) (h0 : Heap) (n0 : Nat) (hO : Old Z n0 h0) (v : Addr) (k : Nat) (ws : List Int32) (HB : SBP Z n0 h0 b v k ws) (h0_ : ws.length < m') (h1_ : m' < 2 * ws.length + 2) (h2_ : ws.length < 1000) :
    Con l Z (⟨"java/lang/AbstractStringBuilder", "newCapacity", "(I)I"⟩ : MethodName) jdk_68_method_10_code 6 (some .int) [] R21 R21.cells R21.slots #[(.ref b), (.int (Int32.ofNat m'))] h0 (fun v h L => v = some (.int (Int32.ofNat (2 * ws.length + 2))) ∧ h0 = h ∧ L = []) := by
  refine Con.intro (n0 := n0) (plainFor_of_name pn_2) (fun m => ef_21 m b m') hO ?_
  intro p e s m below meth cc T hs0 X0
  obtain ⟨E_b, Fvalue_b, Fcoder_b, Fcount_b, A_v, g_b, g_v, n_v_b, hk_b, hy_b⟩ := id HB
  refine g_aloadN X0 d21_0 (pc' := 1) rfl rfl rfl ?_
  refine g_getF X0 (host := "") (Or.inl (hw _ m50)) Via.refl Fvalue_b d21_1 (pc' := 4) rfl (fun T6 X6 => ?_)
  refine g_arraylength X6 (n := (Int32.ofNat ws.length)) A_v (by rw [own_bs_len]) d21_4 (pc' := 5) rfl ?_
  refine g_istoreN X6 d21_5 (pc' := 6) rfl (L' := #[.val (.ref b), .val (.int (Int32.ofNat m')), .val (.int (Int32.ofNat ws.length)), .unset, .unset, .unset]) rfl ?_
  refine g_iloadN X6 d21_6 (pc' := 7) rfl rfl ?_
  refine g_aloadN X6 d21_7 (pc' := 8) rfl rfl rfl ?_
  refine g_getF X6 (host := "") (Or.inl (hw _ m52)) Via.refl Fcoder_b d21_8 (pc' := 11) rfl (fun T7 X7 => ?_)
  refine g_ishl X7 d21_11 (pc' := 12) rfl ?_
  rw [own_shl0]
  refine g_istoreN X7 d21_12 (pc' := 13) rfl (L' := #[.val (.ref b), .val (.int (Int32.ofNat m')), .val (.int (Int32.ofNat ws.length)), .val (.int (Int32.ofNat m')), .unset, .unset]) rfl ?_
  refine g_iloadN X7 d21_13 (pc' := 14) rfl rfl ?_
  refine g_iloadN X7 d21_14 (pc' := 15) rfl rfl ?_
  refine g_isub X7 d21_15 (pc' := 16) rfl ?_
  refine g_istore X7 d21_16 (pc' := 18) rfl (L' := #[.val (.ref b), .val (.int (Int32.ofNat m')), .val (.int (Int32.ofNat ws.length)), .val (.int (Int32.ofNat m')), .val (.int ((Int32.ofNat m') - (Int32.ofNat ws.length))), .unset]) rfl ?_
  refine g_iloadN X7 d21_18 (pc' := 19) rfl rfl ?_
  refine g_iload X7 d21_19 (pc' := 21) rfl rfl ?_
  refine g_iloadN X7 d21_21 (pc' := 22) rfl rfl ?_
  refine g_iconst X7 d21_22 (pc' := 23) rfl (v := (2 : Int32)) rfl ?_
  refine g_aloadN X7 d21_23 (pc' := 24) rfl rfl rfl ?_
  refine g_getF X7 (host := "") (Or.inl (hw _ m52)) Via.refl Fcoder_b d21_24 (pc' := 27) rfl (fun T8 X8 => ?_)
  refine g_ishl X8 d21_27 (pc' := 28) rfl ?_
  rw [own_shl0]
  refine g_iadd X8 d21_28 (pc' := 29) rfl ?_
  refine g_callS X8 (y := (⟨"jdk/internal/util/ArraysSupport", "newLength", "(III)I"⟩ : MethodName)) [(.int (Int32.ofNat ws.length)), (.int ((Int32.ofNat m') - (Int32.ofNat ws.length))), (.int ((Int32.ofNat ws.length) + (2 : Int32)))] (hw _ m146) (hw _ m147) (hw _ m148) (hw _ m149) (hw _ m148) (rm22 l Z a0 hw (Int32.ofNat ws.length) ((Int32.ofNat m') - (Int32.ofNat ws.length)) ((Int32.ofNat ws.length) + (2 : Int32)) h0 n0 X8.old (own_ncA h0_ h1_ h2_) (own_ncB h2_) (own_ncC h2_)) (by decide) (by decide) (by decide) (by decide) (by decide) rfl pd_2 rfl (rest := []) rfl (W := 0) rfl d21_29 (pc' := 32) rfl ?_
  rintro _ T9 _ _ Y9 ⟨rfl, rfl, rfl⟩
  have X9 := Y9 X8.old (Fr.nil _)
  show Go p e below _ (State.setTop _ (mkF m 32 #[.val (.ref b), .val (.int (Int32.ofNat m')), .val (.int (Int32.ofNat ws.length)), .val (.int (Int32.ofNat m')), .val (.int ((Int32.ofNat m') - (Int32.ofNat ws.length))), .unset] [(.int ((Int32.ofNat ws.length) + ((Int32.ofNat ws.length) + (2 : Int32))))]))
  rw [own_ncS]
  refine g_istore X9 d21_32 (pc' := 34) rfl (L' := #[.val (.ref b), .val (.int (Int32.ofNat m')), .val (.int (Int32.ofNat ws.length)), .val (.int (Int32.ofNat m')), .val (.int ((Int32.ofNat m') - (Int32.ofNat ws.length))), .val (.int (Int32.ofNat (2 * ws.length + 2)))]) rfl ?_
  refine g_iload X9 d21_34 (pc' := 36) rfl rfl ?_
  refine g_ldc X9 (hw _ m155) d21_36 (pc' := 38) rfl ?_
  refine g_icmp_ne_t X9 d21_38 (pt := 51) (by decide) (own_ncDx h2_) ?_
  refine g_iload X9 d21_51 (pc' := 53) rfl rfl ?_
  refine g_aloadN X9 d21_53 (pc' := 54) rfl rfl rfl ?_
  refine g_getF X9 (host := "") (Or.inl (hw _ m52)) Via.refl Fcoder_b d21_54 (pc' := 57) rfl (fun T10 X10 => ?_)
  refine g_ishr X10 d21_57 (pc' := 58) rfl ?_
  rw [own_shr0]
  exact g_retI X10 rfl d21_58 (by decide) (by decide) ⟨rfl, rfl, rfl⟩

theorem d24_0 : decode jdk_65_method_121_code 0 = .ok (.iload_n 1, 1) := by decide +kernel
theorem d24_1 : decode jdk_65_method_121_code 1 = .ok (.aload_n 0, 1) := by decide +kernel
theorem d24_2 : decode jdk_65_method_121_code 2 = .ok (.arraylength, 1) := by decide +kernel
theorem d24_3 : decode jdk_65_method_121_code 3 = .ok (.if_icmp .ne 11, 3) := by decide +kernel
theorem d24_14 : decode jdk_65_method_121_code 14 = .ok (.iload_n 1, 1) := by decide +kernel
theorem d24_15 : decode jdk_65_method_121_code 15 = .ok (.newarray .byte, 2) := by decide +kernel
theorem d24_17 : decode jdk_65_method_121_code 17 = .ok (.astore_n 2, 1) := by decide +kernel
theorem d24_18 : decode jdk_65_method_121_code 18 = .ok (.aload_n 0, 1) := by decide +kernel
theorem d24_19 : decode jdk_65_method_121_code 19 = .ok (.iconst 0, 1) := by decide +kernel
theorem d24_20 : decode jdk_65_method_121_code 20 = .ok (.aload_n 2, 1) := by decide +kernel
theorem d24_21 : decode jdk_65_method_121_code 21 = .ok (.iconst 0, 1) := by decide +kernel
theorem d24_22 : decode jdk_65_method_121_code 22 = .ok (.aload_n 0, 1) := by decide +kernel
theorem d24_23 : decode jdk_65_method_121_code 23 = .ok (.arraylength, 1) := by decide +kernel
theorem d24_24 : decode jdk_65_method_121_code 24 = .ok (.iload_n 1, 1) := by decide +kernel
theorem d24_25 : decode jdk_65_method_121_code 25 = .ok (.invokestatic 304, 3) := by decide +kernel
theorem d24_28 : decode jdk_65_method_121_code 28 = .ok (.invokestatic 150, 3) := by decide +kernel
theorem d24_31 : decode jdk_65_method_121_code 31 = .ok (.aload_n 2, 1) := by decide +kernel
theorem d24_32 : decode jdk_65_method_121_code 32 = .ok (.areturn, 1) := by decide +kernel
theorem ef_24 (m : MethodId) (a : Addr) (m' : Nat) : entryFrame m #[(.ref a), (.int (Int32.ofNat m'))] 3 = mkF m 0 #[.val (.ref a), .val (.int (Int32.ofNat m')), .unset] [] := by first | (simp [entryFrame, mkF, argsToLocals, Value.category]; done) | rfl
def R24 : Room := ({ frames := 1, cells := 1, slots := 142, locals := 40 } : Room)
set_option maxRecDepth 65536 in
set_option maxHeartbeats 40000000 in
theorem rm24 (l : Launch) (Z : State) (a0 : Array Value) (hw : ∀ d ∈ tables_1, d.before a0 Z = true) (a : Addr) (m' : Nat) (h0 : Heap) (n0 : Nat) (hO : Old Z n0 h0) (ws : List Int32) (A_a : Arx Z h0 a .byte (own_bs ws)) (hy : ∀ z ∈ ws, BY z) (hlt : ws.length < m') (hm : m' ≤ 142) :
    Con l Z (⟨"java/util/Arrays", "copyOf", "([BI)[B"⟩ : MethodName) jdk_65_method_121_code 3 (some (.array .byte)) [] R24 R24.cells R24.slots #[(.ref a), (.int (Int32.ofNat m'))] h0 (fun v h L => ∃ b : Addr, v = some (.ref b) ∧ Fr n0 L ∧ Keep h0 h [] ∧ h0.size ≤ b ∧ Arx Z h b .byte (own_bs (ws ++ List.replicate (m' - ws.length) 0))) := by
  refine Con.intro (n0 := n0) (plainFor_of_name pn_3) (fun m => ef_24 m a m') hO ?_
  intro p e s m below meth cc T hs0 X0
  refine g_iloadN X0 d24_0 (pc' := 1) rfl rfl ?_
  refine g_aloadN X0 d24_1 (pc' := 2) rfl rfl rfl ?_
  refine g_arraylength X0 (n := (Int32.ofNat ws.length)) A_a (by rw [own_bs_len]) d24_2 (pc' := 3) rfl ?_
  refine g_icmp_ne_t X0 d24_3 (pt := 14) (by decide) (by rw [own_inj (by omega) (by omega)]; omega) ?_
  refine g_iloadN X0 d24_14 (pc' := 15) rfl rfl ?_
  refine g_newarray X0 (aty := .byte) (cap := 142) (vs := (own_bs (List.replicate m' (0 : Int32)))) (hw _ m49) (own_posN (by omega)) (by rw [(own_clampN (own_small (by omega))).2]; exact hm) (own_rep0 (by omega)) (by decide) d24_15 (pc' := 17) rfl (by decide) (by decide) (fun T11 h11 b11 X11 g11 E11 A11 l11 => ?_)
  have ne12 : a ≠ b11 := ne_new A_a.lt g11
  refine g_astoreN X11 d24_17 (pc' := 18) rfl rfl (L' := #[.val (.ref a), .val (.int (Int32.ofNat m')), .val (.ref b11)]) rfl ?_
  refine g_aloadN X11 d24_18 (pc' := 19) rfl rfl rfl ?_
  refine g_iconst X11 d24_19 (pc' := 20) rfl (v := (0 : Int32)) rfl ?_
  refine g_aloadN X11 d24_20 (pc' := 21) rfl rfl rfl ?_
  refine g_iconst X11 d24_21 (pc' := 22) rfl (v := (0 : Int32)) rfl ?_
  refine g_aloadN X11 d24_22 (pc' := 23) rfl rfl rfl ?_
  have f13 := (A_a.ext E11)
  refine g_arraylength X11 (n := (Int32.ofNat ws.length)) f13 (by rw [own_bs_len]) d24_23 (pc' := 24) rfl ?_
  refine g_iloadN X11 d24_24 (pc' := 25) rfl rfl ?_
  refine g_callS X11 (y := (⟨"java/lang/Math", "min", "(II)I"⟩ : MethodName)) [(.int (Int32.ofNat ws.length)), (.int (Int32.ofNat m'))] (hw _ m160) (hw _ m161) (hw _ m152) (hw _ m162) (hw _ m152) (rm25 l Z a0 hw (Int32.ofNat ws.length) (Int32.ofNat m') h11 n0 X11.old (by rw [own_ltN (by omega) (by omega)]; omega)) (by decide) (by decide) (by decide) (by decide) (by decide) rfl pd_1 rfl (rest := [(.int (0 : Int32)), (.ref b11), (.int (0 : Int32)), (.ref a)]) rfl (W := 4) rfl d24_25 (pc' := 28) rfl ?_
  rintro _ T14 _ _ Y14 ⟨rfl, rfl, rfl⟩
  have X14 := Y14 X11.old (Fr.nil _)
  show Go p e below _ (State.setTop _ (mkF m 28 #[.val (.ref a), .val (.int (Int32.ofNat m')), .val (.ref b11)] [(.int (Int32.ofNat ws.length)), (.int (0 : Int32)), (.ref b11), (.int (0 : Int32)), (.ref a)]))
  refine g_arraycopy X14 (si := 0) (di := 0) (ni := ws.length) (W := 0) (hw _ m163) (hw _ m109) (hw _ m107) (hw _ m108) f13 A11 (by decide) (own_fb hy) (own_fb (own_by0 _)) rfl rfl (own_small (by omega)) (by rw [own_bs_len]; omega) (by rw [own_bs_len, List.length_replicate]; omega) l11 rfl rfl (by decide) (by decide) d24_28 (pc' := 31) rfl (fun T15 h15 l15 X15 K15 A15 => ?_)
  rw [own_copy, own_grow hlt] at A15
  refine g_aloadN X15 d24_31 (pc' := 32) rfl rfl rfl ?_
  have k16 := (Keep.refl h0 []).ext E11
  have k17 := k16.trans K15 (allS (Or.inr (Nat.le_trans (Keep.refl h0 []).1 (Nat.le_of_eq g11.symm))) all0)
  exact g_retA X15 rfl rfl rfl d24_32 (by decide) (by decide) ⟨b11, rfl, X15.fr, k17, (Nat.le_trans (Keep.refl h0 []).1 (Nat.le_of_eq g11.symm)), A15⟩

theorem d34_0 : decode jdk_65_method_131_code 0 = .ok (.iload_n 1, 1) := by decide +kernel
theorem d34_1 : decode jdk_65_method_131_code 1 = .ok (.iload_n 0, 1) := by decide +kernel
theorem d34_2 : decode jdk_65_method_131_code 2 = .ok (.if_icmp .ge 35, 3) := by decide +kernel
theorem d34_37 : decode jdk_65_method_131_code 37 = .ok (.return_, 1) := by decide +kernel
theorem ef_34 (m : MethodId) (a : Int32) (b : Int32) : entryFrame m #[(.int a), (.int b)] 2 = mkF m 0 #[.val (.int a), .val (.int b)] [] := by first | (simp [entryFrame, mkF, argsToLocals, Value.category]; done) | rfl
def R34 : Room := ({ frames := 0, cells := 0, slots := 0, locals := 0 } : Room)
set_option maxRecDepth 65536 in
set_option maxHeartbeats 40000000 in
theorem rm34 (l : Launch) (Z : State) (a0 : Array Value) (hw : ∀ d ∈ tables_1, d.before a0 Z = true) (a : Int32) (b : Int32) (h0 : Heap) (n0 : Nat) (hO : Old Z n0 h0) (h1 : ¬ b < a) :
    Con l Z (⟨"java/util/Arrays", "checkLength", "(II)V"⟩ : MethodName) jdk_65_method_131_code 2 none [] R34 R34.cells R34.slots #[(.int a), (.int b)] h0 (fun v h L => v = none ∧ h0 = h ∧ L = []) := by
  refine Con.intro (n0 := n0) (plainFor_of_name pn_3) (fun m => ef_34 m a b) hO ?_
  intro p e s m below meth cc T hs0 X0
  refine g_iloadN X0 d34_0 (pc' := 1) rfl rfl ?_
  refine g_iloadN X0 d34_1 (pc' := 2) rfl rfl ?_
  refine g_icmp_ge_t X0 d34_2 (pt := 37) (by decide) h1 ?_
  exact g_ret X0 rfl d34_37 (by decide) (by decide) ⟨rfl, rfl, rfl⟩

theorem d33_0 : decode jdk_65_method_133_code 0 = .ok (.iload_n 1, 1) := by decide +kernel
theorem d33_1 : decode jdk_65_method_133_code 1 = .ok (.iload_n 2, 1) := by decide +kernel
theorem d33_2 : decode jdk_65_method_133_code 2 = .ok (.invokestatic 343, 3) := by decide +kernel
theorem d33_5 : decode jdk_65_method_133_code 5 = .ok (.iload_n 2, 1) := by decide +kernel
theorem d33_6 : decode jdk_65_method_133_code 6 = .ok (.iload_n 1, 1) := by decide +kernel
theorem d33_7 : decode jdk_65_method_133_code 7 = .ok (.isub, 1) := by decide +kernel
theorem d33_8 : decode jdk_65_method_133_code 8 = .ok (.istore_n 3, 1) := by decide +kernel
theorem d33_9 : decode jdk_65_method_133_code 9 = .ok (.iload_n 3, 1) := by decide +kernel
theorem d33_10 : decode jdk_65_method_133_code 10 = .ok (.newarray .byte, 2) := by decide +kernel
theorem d33_12 : decode jdk_65_method_133_code 12 = .ok (.astore 4, 2) := by decide +kernel
theorem d33_14 : decode jdk_65_method_133_code 14 = .ok (.aload_n 0, 1) := by decide +kernel
theorem d33_15 : decode jdk_65_method_133_code 15 = .ok (.iload_n 1, 1) := by decide +kernel
theorem d33_16 : decode jdk_65_method_133_code 16 = .ok (.aload 4, 2) := by decide +kernel
theorem d33_18 : decode jdk_65_method_133_code 18 = .ok (.iconst 0, 1) := by decide +kernel
theorem d33_19 : decode jdk_65_method_133_code 19 = .ok (.aload_n 0, 1) := by decide +kernel
theorem d33_20 : decode jdk_65_method_133_code 20 = .ok (.arraylength, 1) := by decide +kernel
theorem d33_21 : decode jdk_65_method_133_code 21 = .ok (.iload_n 1, 1) := by decide +kernel
theorem d33_22 : decode jdk_65_method_133_code 22 = .ok (.isub, 1) := by decide +kernel
theorem d33_23 : decode jdk_65_method_133_code 23 = .ok (.iload_n 3, 1) := by decide +kernel
theorem d33_24 : decode jdk_65_method_133_code 24 = .ok (.invokestatic 304, 3) := by decide +kernel
theorem d33_27 : decode jdk_65_method_133_code 27 = .ok (.invokestatic 150, 3) := by decide +kernel
theorem d33_30 : decode jdk_65_method_133_code 30 = .ok (.aload 4, 2) := by decide +kernel
theorem d33_32 : decode jdk_65_method_133_code 32 = .ok (.areturn, 1) := by decide +kernel
theorem ef_33 (m : MethodId) (a : Addr) (k : Nat) : entryFrame m #[(.ref a), (.int (0 : Int32)), (.int (Int32.ofNat k))] 5 = mkF m 0 #[.val (.ref a), .val (.int (0 : Int32)), .val (.int (Int32.ofNat k)), .unset, .unset] [] := by first | (simp [entryFrame, mkF, argsToLocals, Value.category]; done) | rfl
def R33 : Room := ({ frames := 1, cells := 1, slots := 142, locals := 40 } : Room)
set_option maxRecDepth 65536 in
set_option maxHeartbeats 40000000 in
theorem rm33 (l : Launch) (Z : State) (a0 : Array Value) (hw : ∀ d ∈ tables_1, d.before a0 Z = true) (a : Addr) (k : Nat) (h0 : Heap) (n0 : Nat) (hO : Old Z n0 h0) (ws : List Int32) (A_a : Arx Z h0 a .byte (own_bs ws)) (hy : ∀ z ∈ ws, BY z) (hlt : k < ws.length) (hm : ws.length ≤ 142) :
    Con l Z (⟨"java/util/Arrays", "copyOfRangeByte", "([BII)[B"⟩ : MethodName) jdk_65_method_133_code 5 (some (.array .byte)) [] R33 R33.cells R33.slots #[(.ref a), (.int (0 : Int32)), (.int (Int32.ofNat k))] h0 (fun v h L => ∃ b : Addr, v = some (.ref b) ∧ Fr n0 L ∧ Keep h0 h [] ∧ h0.size ≤ b ∧ Arx Z h b .byte (own_bs (ws.take k))) := by
  refine Con.intro (n0 := n0) (plainFor_of_name pn_3) (fun m => ef_33 m a k) hO ?_
  intro p e s m below meth cc T hs0 X0
  refine g_iloadN X0 d33_0 (pc' := 1) rfl rfl ?_
  refine g_iloadN X0 d33_1 (pc' := 2) rfl rfl ?_
  refine g_callS X0 (y := (⟨"java/util/Arrays", "checkLength", "(II)V"⟩ : MethodName)) [(.int (0 : Int32)), (.int (Int32.ofNat k))] (hw _ m203) (hw _ m204) (hw _ m158) (hw _ m205) (hw _ m158) (rm34 l Z a0 hw (0 : Int32) (Int32.ofNat k) h0 n0 X0.old (own_posN (by omega))) (by decide) (by decide) (by decide) (by decide) (by decide) rfl pd_3 rfl (rest := []) rfl (W := 0) rfl d33_2 (pc' := 5) rfl ?_
  rintro _ T18 _ _ Y18 ⟨rfl, rfl, rfl⟩
  have X18 := Y18 X0.old (Fr.nil _)
  show Go p e below _ (State.setTop _ (mkF m 5 #[.val (.ref a), .val (.int (0 : Int32)), .val (.int (Int32.ofNat k)), .unset, .unset] []))
  refine g_iloadN X18 d33_5 (pc' := 6) rfl rfl ?_
  refine g_iloadN X18 d33_6 (pc' := 7) rfl rfl ?_
  refine g_isub X18 d33_7 (pc' := 8) rfl ?_
  rw [Int32.sub_zero]
  refine g_istoreN X18 d33_8 (pc' := 9) rfl (L' := #[.val (.ref a), .val (.int (0 : Int32)), .val (.int (Int32.ofNat k)), .val (.int (Int32.ofNat k)), .unset]) rfl ?_
  refine g_iloadN X18 d33_9 (pc' := 10) rfl rfl ?_
  refine g_newarray X18 (aty := .byte) (cap := 142) (vs := (own_bs (List.replicate k (0 : Int32)))) (hw _ m49) (own_posN (by omega)) (by rw [(own_clampN (own_small (by omega))).2]; omega) (own_rep0 (by omega)) (by decide) d33_10 (pc' := 12) rfl (by decide) (by decide) (fun T19 h19 b19 X19 g19 E19 A19 l19 => ?_)
  have ne20 : a ≠ b19 := ne_new A_a.lt g19
  refine g_astore X19 d33_12 (pc' := 14) rfl rfl (L' := #[.val (.ref a), .val (.int (0 : Int32)), .val (.int (Int32.ofNat k)), .val (.int (Int32.ofNat k)), .val (.ref b19)]) rfl ?_
  refine g_aloadN X19 d33_14 (pc' := 15) rfl rfl rfl ?_
  refine g_iloadN X19 d33_15 (pc' := 16) rfl rfl ?_
  refine g_aload X19 d33_16 (pc' := 18) rfl rfl rfl ?_
  refine g_iconst X19 d33_18 (pc' := 19) rfl (v := (0 : Int32)) rfl ?_
  refine g_aloadN X19 d33_19 (pc' := 20) rfl rfl rfl ?_
  have f21 := (A_a.ext E19)
  refine g_arraylength X19 (n := (Int32.ofNat ws.length)) f21 (by rw [own_bs_len]) d33_20 (pc' := 21) rfl ?_
  refine g_iloadN X19 d33_21 (pc' := 22) rfl rfl ?_
  refine g_isub X19 d33_22 (pc' := 23) rfl ?_
  rw [Int32.sub_zero]
  refine g_iloadN X19 d33_23 (pc' := 24) rfl rfl ?_
  refine g_callS X19 (y := (⟨"java/lang/Math", "min", "(II)I"⟩ : MethodName)) [(.int (Int32.ofNat ws.length)), (.int (Int32.ofNat k))] (hw _ m160) (hw _ m161) (hw _ m152) (hw _ m162) (hw _ m152) (rm25b l Z a0 hw (Int32.ofNat ws.length) (Int32.ofNat k) h19 n0 X19.old ((own_ltN (by omega) (by omega)).mpr hlt)) (by decide) (by decide) (by decide) (by decide) (by decide) rfl pd_1 rfl (rest := [(.int (0 : Int32)), (.ref b19), (.int (0 : Int32)), (.ref a)]) rfl (W := 4) rfl d33_24 (pc' := 27) rfl ?_
  rintro _ T22 _ _ Y22 ⟨rfl, rfl, rfl⟩
  have X22 := Y22 X19.old (Fr.nil _)
  show Go p e below _ (State.setTop _ (mkF m 27 #[.val (.ref a), .val (.int (0 : Int32)), .val (.int (Int32.ofNat k)), .val (.int (Int32.ofNat k)), .val (.ref b19)] [(.int (Int32.ofNat k)), (.int (0 : Int32)), (.ref b19), (.int (0 : Int32)), (.ref a)]))
  refine g_arraycopy X22 (si := 0) (di := 0) (ni := k) (W := 0) (hw _ m163) (hw _ m109) (hw _ m107) (hw _ m108) f21 A19 (by decide) (own_fb hy) (own_fb (own_by0 _)) rfl rfl (own_small (by omega)) (by rw [own_bs_len]; omega) (by rw [own_bs_len, List.length_replicate]; omega) l19 rfl rfl (by decide) (by decide) d33_27 (pc' := 30) rfl (fun T23 h23 l23 X23 K23 A23 => ?_)
  rw [own_copy, own_cut] at A23
  refine g_aload X23 d33_30 (pc' := 32) rfl rfl rfl ?_
  have k24 := (Keep.refl h0 []).ext E19
  have k25 := k24.trans K23 (allS (Or.inr (Nat.le_trans (Keep.refl h0 []).1 (Nat.le_of_eq g19.symm))) all0)
  exact g_retA X23 rfl rfl rfl d33_32 (by decide) (by decide) ⟨b19, rfl, X23.fr, k25, (Nat.le_trans (Keep.refl h0 []).1 (Nat.le_of_eq g19.symm)), A23⟩

theorem d32_0 : decode jdk_65_method_132_code 0 = .ok (.iload_n 1, 1) := by decide +kernel
theorem d32_1 : decode jdk_65_method_132_code 1 = .ok (.ifCond .ne 9, 3) := by decide +kernel
theorem d32_4 : decode jdk_65_method_132_code 4 = .ok (.iload_n 2, 1) := by decide +kernel
theorem d32_5 : decode jdk_65_method_132_code 5 = .ok (.aload_n 0, 1) := by decide +kernel
theorem d32_6 : decode jdk_65_method_132_code 6 = .ok (.arraylength, 1) := by decide +kernel
theorem d32_7 : decode jdk_65_method_132_code 7 = .ok (.if_icmp .eq 10, 3) := by decide +kernel
theorem d32_10 : decode jdk_65_method_132_code 10 = .ok (.aload_n 0, 1) := by decide +kernel
theorem d32_11 : decode jdk_65_method_132_code 11 = .ok (.iload_n 1, 1) := by decide +kernel
theorem d32_12 : decode jdk_65_method_132_code 12 = .ok (.iload_n 2, 1) := by decide +kernel
theorem d32_13 : decode jdk_65_method_132_code 13 = .ok (.invokestatic 339, 3) := by decide +kernel
theorem d32_16 : decode jdk_65_method_132_code 16 = .ok (.areturn, 1) := by decide +kernel
theorem ef_32 (m : MethodId) (a : Addr) (k : Nat) : entryFrame m #[(.ref a), (.int (0 : Int32)), (.int (Int32.ofNat k))] 3 = mkF m 0 #[.val (.ref a), .val (.int (0 : Int32)), .val (.int (Int32.ofNat k))] [] := by first | (simp [entryFrame, mkF, argsToLocals, Value.category]; done) | rfl
def R32 : Room := ({ frames := 2, cells := 1, slots := 142, locals := 56 } : Room)
set_option maxRecDepth 65536 in
set_option maxHeartbeats 40000000 in
theorem rm32 (l : Launch) (Z : State) (a0 : Array Value) (hw : ∀ d ∈ tables_1, d.before a0 Z = true) (a : Addr) (k : Nat) (h0 : Heap) (n0 : Nat) (hO : Old Z n0 h0) (ws : List Int32) (A_a : Arx Z h0 a .byte (own_bs ws)) (hy : ∀ z ∈ ws, BY z) (hlt : k < ws.length) (hm : ws.length ≤ 142) :
    Con l Z (⟨"java/util/Arrays", "copyOfRange", "([BII)[B"⟩ : MethodName) jdk_65_method_132_code 3 (some (.array .byte)) [] R32 R32.cells R32.slots #[(.ref a), (.int (0 : Int32)), (.int (Int32.ofNat k))] h0 (fun v h L => ∃ b : Addr, v = some (.ref b) ∧ Fr n0 L ∧ Keep h0 h [] ∧ h0.size ≤ b ∧ Arx Z h b .byte (own_bs (ws.take k))) := by
  refine Con.intro (n0 := n0) (plainFor_of_name pn_3) (fun m => ef_32 m a k) hO ?_
  intro p e s m below meth cc T hs0 X0
  refine g_iloadN X0 d32_0 (pc' := 1) rfl rfl ?_
  refine g_if_ne_f X0 d32_1 (pc' := 4) rfl (by decide) ?_
  refine g_iloadN X0 d32_4 (pc' := 5) rfl rfl ?_
  refine g_aloadN X0 d32_5 (pc' := 6) rfl rfl rfl ?_
  refine g_arraylength X0 (n := (Int32.ofNat ws.length)) A_a (by rw [own_bs_len]) d32_6 (pc' := 7) rfl ?_
  refine g_icmp_eq_f X0 d32_7 (pc' := 10) rfl (by rw [own_inj (by omega) (by omega)]; omega) ?_
  refine g_aloadN X0 d32_10 (pc' := 11) rfl rfl rfl ?_
  refine g_iloadN X0 d32_11 (pc' := 12) rfl rfl ?_
  refine g_iloadN X0 d32_12 (pc' := 13) rfl rfl ?_
  refine g_callS X0 (y := (⟨"java/util/Arrays", "copyOfRangeByte", "([BII)[B"⟩ : MethodName)) [(.ref a), (.int (0 : Int32)), (.int (Int32.ofNat k))] (hw _ m200) (hw _ m201) (hw _ m158) (hw _ m202) (hw _ m158) (rm33 l Z a0 hw a k h0 n0 X0.old ws A_a hy hlt hm) (by decide) (by decide) (by decide) (by decide) (by decide) rfl pd_4 rfl (rest := []) rfl (W := 0) rfl d32_13 (pc' := 16) rfl ?_
  rintro _ T26 h26 L26 Y26 ⟨b26, rfl, N26, K26, q26, A26x⟩
  have X26 := Y26 (X0.old.keep K26 all0) N26
  have g_b26 : n0 ≤ b26 := Nat.le_trans X0.sz q26
  have ne27 : a ≠ b26 := Nat.ne_of_lt (Nat.lt_of_lt_of_le A_a.lt q26)
  show Go p e below _ (State.setTop _ (mkF m 16 #[.val (.ref a), .val (.int (0 : Int32)), .val (.int (Int32.ofNat k))] [(.ref b26)]))
  have k28 := (Keep.refl h0 []).trans K26 (fun x hx => by simp at hx)
  exact g_retA X26 rfl rfl rfl d32_16 (by decide) (by decide) ⟨b26, rfl, X26.fr, k28, q26, A26x⟩

theorem own_putE (ws zs : List Int32) (p : Nat) : ws.take p ++ (zs.drop 0).take zs.length ++ ws.drop (p + zs.length) = own_put ws p zs := by simp [own_put]
theorem own_aq {Z : State} {n0 : Nat} {h0 h : Heap} {b v v' : Addr} {k cap : Nat} {ws0 ws' zs : List Int32} {r : Option Value} {L : List Loc} (hk : k ≤ ws0.length) (e : r = some (.ref b)) (N : Fr n0 L) (K : Keep h0 h [b, v]) (q : v' = v ∨ h0.size ≤ v') (H : SBP Z n0 h b v' (k + zs.length) (own_put ws' k zs)) (hw : ws'.take k = ws0.take k) (hl : k + zs.length ≤ ws'.length) (hc : ws'.length = cap) : AQ Z n0 h0 b v (ws0.take k ++ zs) cap r h L :=
  ⟨v', own_put ws' k zs, e, N, K, q, by rw [own_len1 hk]; exact H, by rw [own_put_len hl, hc], by rw [own_len1 hk, own_put_take hl, hw]⟩
theorem own_keep2 {h h' : Heap} {a b : Addr} (K : Keep h h' [a]) : Keep h h' [a, b] := (Keep.refl h [a, b]).trans K (allS (Or.inl (by simp)) all0)
theorem own_j0 {d : Nat} (hd : d < 10) : (Int64.ofNat d).toInt = (d : Int) := Int64.toInt_ofNat_of_lt (by omega)
theorem own_jneg {d : Nat} (hd : d < 10) : (-(Int64.ofNat d)).toInt = -(d : Int) := by
  rw [Int64.toInt_neg, own_j0 hd]; exact Int.bmod_eq_of_le (by omega) (by omega)
theorem own_ja {d : Nat} (hd : d < 10) : ¬ Int64.ofNat d < (0 : Int64) := by
  rw [Int64.lt_iff_toInt_lt, own_j0 hd]; have : (0 : Int64).toInt = 0 := rfl
  omega
theorem own_jb {d : Nat} (hd : d < 10) : (-2147483648 : Int64) < -(Int64.ofNat d) := by
  rw [Int64.lt_iff_toInt_lt, own_jneg hd]; have : (-2147483648 : Int64).toInt = -2147483648 := rfl
  omega
theorem own_jc {d : Nat} (hd : d < 10) : (-10 : Int64) < -(Int64.ofNat d) := by
  rw [Int64.lt_iff_toInt_lt, own_jneg hd]; have : (-10 : Int64).toInt = -10 := rfl
  omega
theorem own_jd {d : Nat} (hd : d < 10) : (-(Int64.ofNat d)).toInt32 = -(Int32.ofNat d) := by
  apply Int32.toInt_inj.mp
  rw [Int64.toInt_toInt32, own_jneg hd, Int32.toInt_neg, own_small (by omega), Int.bmod_eq_of_le (by omega) (by omega)]
theorem own_jn {d : Nat} (hd : d < 10) : (-(Int32.ofNat d)).toInt = -(d : Int) := by
  rw [Int32.toInt_neg, own_small (by omega)]; exact Int.bmod_eq_of_le (by omega) (by omega)
theorem own_je {d : Nat} (hd : d < 10) : (-100 : Int32) < -(Int32.ofNat d) := by
  rw [Int32.lt_iff_toInt_lt, own_jn hd]; have : (-100 : Int32).toInt = -100 := rfl
  omega
theorem own_jf {d : Nat} (hd : d < 10) : ¬ -(Int32.ofNat d) < (-9 : Int32) := by
  rw [Int32.lt_iff_toInt_lt, own_jn hd]; have : (-9 : Int32).toInt = -9 := rfl
  omega
theorem own_pred (k : Nat) : Int32.ofNat (k + 1) + (-1 : Int32) = Int32.ofNat k := by
  rw [← own_succ, show (-1 : Int32) = -(1 : Int32) from rfl, ← Int32.sub_eq_add_neg, Int32.add_sub_cancel]
theorem own_set1 {ws : List Int32} {k : Nat} (z : Int32) (h : k < ws.length) : (own_bs ws).set k (.int z) = own_bs (own_put ws k [z]) := by
  rw [own_bs, own_bs, ← List.map_set]
  congr 1
  rw [List.set_eq_take_append_cons_drop, if_pos h]; simp [own_put]
theorem own_nbd {d : Nat} (hd : d < 10) : nar .byte (Int32.ofNat (48 + d)) = Int32.ofNat (48 + d) := by
  have : d = 0 ∨ d = 1 ∨ d = 2 ∨ d = 3 ∨ d = 4 ∨ d = 5 ∨ d = 6 ∨ d = 7 ∨ d = 8 ∨ d = 9 := by omega
  rcases this with rfl | rfl | rfl | rfl | rfl | rfl | rfl | rfl | rfl | rfl <;> decide +kernel
theorem own_byd {d : Nat} (hd : d < 10) : ∀ z ∈ [Int32.ofNat (48 + d)], BY z := by
  have : d = 0 ∨ d = 1 ∨ d = 2 ∨ d = 3 ∨ d = 4 ∨ d = 5 ∨ d = 6 ∨ d = 7 ∨ d = 8 ∨ d = 9 := by omega
  intro z hz; rw [List.mem_singleton.mp hz]; unfold BY
  rcases this with rfl | rfl | rfl | rfl | rfl | rfl | rfl | rfl | rfl | rfl <;> decide +kernel
theorem d11_0 : decode jdk_68_method_9_code 0 = .ok (.aload_n 0, 1) := by decide +kernel
theorem d11_1 : decode jdk_68_method_9_code 1 = .ok (.getfield 15, 3) := by decide +kernel
theorem d11_4 : decode jdk_68_method_9_code 4 = .ok (.arraylength, 1) := by decide +kernel
theorem d11_5 : decode jdk_68_method_9_code 5 = .ok (.aload_n 0, 1) := by decide +kernel
theorem d11_6 : decode jdk_68_method_9_code 6 = .ok (.getfield 22, 3) := by decide +kernel
theorem d11_9 : decode jdk_68_method_9_code 9 = .ok (.ishr, 1) := by decide +kernel
theorem d11_10 : decode jdk_68_method_9_code 10 = .ok (.istore_n 2, 1) := by decide +kernel
theorem d11_11 : decode jdk_68_method_9_code 11 = .ok (.iload_n 1, 1) := by decide +kernel
theorem d11_12 : decode jdk_68_method_9_code 12 = .ok (.iload_n 2, 1) := by decide +kernel
theorem d11_13 : decode jdk_68_method_9_code 13 = .ok (.isub, 1) := by decide +kernel
theorem d11_14 : decode jdk_68_method_9_code 14 = .ok (.ifCond .le 24, 3) := by decide +kernel
theorem d11_38 : decode jdk_68_method_9_code 38 = .ok (.return_, 1) := by decide +kernel
theorem ef_11 (m : MethodId) (b : Addr) (m' : Nat) : entryFrame m #[(.ref b), (.int (Int32.ofNat m'))] 3 = mkF m 0 #[.val (.ref b), .val (.int (Int32.ofNat m')), .unset] [] := by first | (simp [entryFrame, mkF, argsToLocals, Value.category]; done) | rfl
def R11 : Room := ({ frames := 0, cells := 0, slots := 0, locals := 0 } : Room)
set_option maxRecDepth 65536 in
set_option maxHeartbeats 40000000 in
theorem rm11 (l : Launch) (Z : State) (a0 : Array Value) (hw : ∀ d ∈ tables_1, d.before a0 Z = true) (b : Addr) (m' : Nat) (h0 : Heap) (n0 : Nat) (hO : Old Z n0 h0) (v : Addr) (k : Nat) (ws : List Int32) (HB : SBP Z n0 h0 b v k ws) (hfit : m' ≤ ws.length) (hcap : ws.length ≤ 142) :
    Con l Z (⟨"java/lang/AbstractStringBuilder", "ensureCapacityInternal", "(I)V"⟩ : MethodName) jdk_68_method_9_code 3 none [] R11 R11.cells R11.slots #[(.ref b), (.int (Int32.ofNat m'))] h0 (fun v h L => v = none ∧ h0 = h ∧ L = []) := by
  refine Con.intro (n0 := n0) (plainFor_of_name pn_2) (fun m => ef_11 m b m') hO ?_
  intro p e s m below meth cc T hs0 X0
  obtain ⟨E_b, Fvalue_b, Fcoder_b, Fcount_b, A_v, g_b, g_v, n_v_b, hk_b, hy_b⟩ := id HB
  refine g_aloadN X0 d11_0 (pc' := 1) rfl rfl rfl ?_
  refine g_getF X0 (host := "") (Or.inl (hw _ m50)) Via.refl Fvalue_b d11_1 (pc' := 4) rfl (fun T29 X29 => ?_)
  refine g_arraylength X29 (n := (Int32.ofNat ws.length)) A_v (by rw [own_bs_len]) d11_4 (pc' := 5) rfl ?_
  refine g_aloadN X29 d11_5 (pc' := 6) rfl rfl rfl ?_
  refine g_getF X29 (host := "") (Or.inl (hw _ m52)) Via.refl Fcoder_b d11_6 (pc' := 9) rfl (fun T30 X30 => ?_)
  refine g_ishr X30 d11_9 (pc' := 10) rfl ?_
  rw [own_shr0]
  refine g_istoreN X30 d11_10 (pc' := 11) rfl (L' := #[.val (.ref b), .val (.int (Int32.ofNat m')), .val (.int (Int32.ofNat ws.length))]) rfl ?_
  refine g_iloadN X30 d11_11 (pc' := 12) rfl rfl ?_
  refine g_iloadN X30 d11_12 (pc' := 13) rfl rfl ?_
  refine g_isub X30 d11_13 (pc' := 14) rfl ?_
  refine g_if_le_t X30 d11_14 (pt := 38) (by decide) (own_fitN hfit (by omega)) ?_
  exact g_ret X30 rfl d11_38 (by decide) (by decide) ⟨rfl, rfl, rfl⟩

theorem d11_17 : decode jdk_68_method_9_code 17 = .ok (.aload_n 0, 1) := by decide +kernel
theorem d11_18 : decode jdk_68_method_9_code 18 = .ok (.aload_n 0, 1) := by decide +kernel
theorem d11_19 : decode jdk_68_method_9_code 19 = .ok (.getfield 15, 3) := by decide +kernel
theorem d11_22 : decode jdk_68_method_9_code 22 = .ok (.aload_n 0, 1) := by decide +kernel
theorem d11_23 : decode jdk_68_method_9_code 23 = .ok (.iload_n 1, 1) := by decide +kernel
theorem d11_24 : decode jdk_68_method_9_code 24 = .ok (.invokevirtual 104, 3) := by decide +kernel
theorem d11_27 : decode jdk_68_method_9_code 27 = .ok (.aload_n 0, 1) := by decide +kernel
theorem d11_28 : decode jdk_68_method_9_code 28 = .ok (.getfield 22, 3) := by decide +kernel
theorem d11_31 : decode jdk_68_method_9_code 31 = .ok (.ishl, 1) := by decide +kernel
theorem d11_32 : decode jdk_68_method_9_code 32 = .ok (.invokestatic 108, 3) := by decide +kernel
theorem d11_35 : decode jdk_68_method_9_code 35 = .ok (.putfield 15, 3) := by decide +kernel
theorem ef_11g (m : MethodId) (b : Addr) (m' : Nat) : entryFrame m #[(.ref b), (.int (Int32.ofNat m'))] 3 = mkF m 0 #[.val (.ref b), .val (.int (Int32.ofNat m')), .unset] [] := by first | (simp [entryFrame, mkF, argsToLocals, Value.category]; done) | rfl
def R11g : Room := ({ frames := 3, cells := 1, slots := 142, locals := 55 } : Room)
set_option maxRecDepth 65536 in
set_option maxHeartbeats 40000000 in
theorem rm11g (l : Launch) (Z : State) (a0 : Array Value) (hw : ∀ d ∈ tables_1, d.before a0 Z = true) (b : Addr) (m' : Nat) (h0 : Heap) (n0 : Nat) (hO : Old Z n0 h0) (v : Addr) (k : Nat) (ws : List Int32) (HB : SBP Z n0 h0 b v k ws) (h0_ : ws.length < m') (h1_ : m' < 2 * ws.length + 2) (h2_ : ws.length < 1000) (hcap : 2 * ws.length + 2 ≤ 142) :
    Con l Z (⟨"java/lang/AbstractStringBuilder", "ensureCapacityInternal", "(I)V"⟩ : MethodName) jdk_68_method_9_code 3 none [] R11g R11g.cells R11g.slots #[(.ref b), (.int (Int32.ofNat m'))] h0 (fun r h L => ∃ v' : Addr, r = none ∧ Fr n0 L ∧ Keep h0 h [b] ∧ h0.size ≤ v' ∧ SBP Z n0 h b v' k (ws ++ List.replicate (2 * ws.length + 2 - ws.length) 0)) := by
  refine Con.intro (n0 := n0) (plainFor_of_name pn_2) (fun m => ef_11g m b m') hO ?_
  intro p e s m below meth cc T hs0 X0
  obtain ⟨E_b, Fvalue_b, Fcoder_b, Fcount_b, A_v, g_b, g_v, n_v_b, hk_b, hy_b⟩ := id HB
  refine g_aloadN X0 d11_0 (pc' := 1) rfl rfl rfl ?_
  refine g_getF X0 (host := "") (Or.inl (hw _ m50)) Via.refl Fvalue_b d11_1 (pc' := 4) rfl (fun T31 X31 => ?_)
  refine g_arraylength X31 (n := (Int32.ofNat ws.length)) A_v (by rw [own_bs_len]) d11_4 (pc' := 5) rfl ?_
  refine g_aloadN X31 d11_5 (pc' := 6) rfl rfl rfl ?_
  refine g_getF X31 (host := "") (Or.inl (hw _ m52)) Via.refl Fcoder_b d11_6 (pc' := 9) rfl (fun T32 X32 => ?_)
  refine g_ishr X32 d11_9 (pc' := 10) rfl ?_
  rw [own_shr0]
  refine g_istoreN X32 d11_10 (pc' := 11) rfl (L' := #[.val (.ref b), .val (.int (Int32.ofNat m')), .val (.int (Int32.ofNat ws.length))]) rfl ?_
  refine g_iloadN X32 d11_11 (pc' := 12) rfl rfl ?_
  refine g_iloadN X32 d11_12 (pc' := 13) rfl rfl ?_
  refine g_isub X32 d11_13 (pc' := 14) rfl ?_
  refine g_if_le_f X32 d11_14 (pc' := 17) rfl (own_overN h0_ (by omega)) ?_
  refine g_aloadN X32 d11_17 (pc' := 18) rfl rfl rfl ?_
  refine g_aloadN X32 d11_18 (pc' := 19) rfl rfl rfl ?_
  refine g_getF X32 (host := "") (Or.inl (hw _ m50)) Via.refl Fvalue_b d11_19 (pc' := 22) rfl (fun T33 X33 => ?_)
  refine g_aloadN X33 d11_22 (pc' := 23) rfl rfl rfl ?_
  refine g_iloadN X33 d11_23 (pc' := 24) rfl rfl ?_
  refine g_callQ X33 (y := (⟨"java/lang/AbstractStringBuilder", "newCapacity", "(I)I"⟩ : MethodName)) (a := b) [(.int (Int32.ofNat m'))] (hw _ m141) (hw _ m142) (hw _ m143) (hw _ m144) E_b (hw _ m145) (hw _ m44) (rm21 l Z a0 hw b m' h0 n0 X33.old v k ws ⟨E_b, Fvalue_b, Fcoder_b, Fcount_b, A_v, g_b, g_v, n_v_b, hk_b, hy_b⟩ h0_ h1_ h2_) (by decide) (by decide) (by decide) (by decide) (by decide) rfl pd_5 rfl (rest := [(.ref v), (.ref b)]) rfl (W := 2) rfl d11_24 (pc' := 27) rfl ?_
  rintro _ T34 _ _ Y34 ⟨rfl, rfl, rfl⟩
  have X34 := Y34 X33.old (Fr.nil _)
  show Go p e below _ (State.setTop _ (mkF m 27 #[.val (.ref b), .val (.int (Int32.ofNat m')), .val (.int (Int32.ofNat ws.length))] [(.int (Int32.ofNat (2 * ws.length + 2))), (.ref v), (.ref b)]))
  refine g_aloadN X34 d11_27 (pc' := 28) rfl rfl rfl ?_
  refine g_getF X34 (host := "") (Or.inl (hw _ m52)) Via.refl Fcoder_b d11_28 (pc' := 31) rfl (fun T35 X35 => ?_)
  refine g_ishl X35 d11_31 (pc' := 32) rfl ?_
  rw [own_shl0]
  refine g_callS X35 (y := (⟨"java/util/Arrays", "copyOf", "([BI)[B"⟩ : MethodName)) [(.ref v), (.int (Int32.ofNat (2 * ws.length + 2)))] (hw _ m156) (hw _ m157) (hw _ m158) (hw _ m159) (hw _ m158) (rm24 l Z a0 hw v (2 * ws.length + 2) h0 n0 X35.old ws A_v hy_b (by omega) hcap) (by decide) (by decide) (by decide) (by decide) (by decide) rfl pd_6 rfl (rest := [(.ref b)]) rfl (W := 1) rfl d11_32 (pc' := 35) rfl ?_
  rintro _ T36 h36 L36 Y36 ⟨b36, rfl, N36, K36, q36, A36x⟩
  have X36 := Y36 (X35.old.keep K36 all0) N36
  have g_b36 : n0 ≤ b36 := Nat.le_trans X35.sz q36
  have ne37 : b ≠ b36 := Nat.ne_of_lt (Nat.lt_of_lt_of_le Fcount_b.lt q36)
  have ne38 : v ≠ b36 := Nat.ne_of_lt (Nat.lt_of_lt_of_le A_v.lt q36)
  show Go p e below _ (State.setTop _ (mkF m 35 #[.val (.ref b), .val (.int (Int32.ofNat m')), .val (.int (Int32.ofNat ws.length))] [(.ref b36), (.ref b)]))
  have f39 := (Fvalue_b.keep K36 nm0)
  have f40 := (E_b.keep K36)
  refine g_putF X36 (host := "") (Or.inl (hw _ m50)) Via.refl f39 f40 (Or.inl (hw _ m51)) (hw _ m35) (ty := (.array .byte)) (by decide) rfl rfl g_b d11_35 (pc' := 38) rfl (fun T41 h41 X41 W41 => ?_)
  have F41 := f39.same W41
  have k42 := (Keep.refl h0 [b]).trans K36 (fun x hx => by simp at hx)
  have k43 := k42.wr W41 (Or.inl (by simp))
  have f44 := (f40.wr W41)
  have f45 := ((Fcoder_b.keep K36 nm0).other W41 (Or.inr (slot_ne (Or.inl (hw _ m53)) (Or.inl (hw _ m51)) (by decide) (t := .byte) (t' := (.array .byte)) (by decide) (by decide))))
  have f46 := ((Fcount_b.keep K36 nm0).other W41 (Or.inr (slot_ne (Or.inl (hw _ m84)) (Or.inl (hw _ m51)) (by decide) (t := .int) (t' := (.array .byte)) (by decide) (by decide))))
  have f47 := (A36x.other W41 (Ne.symm ne37))
  exact g_ret X41 rfl d11_38 (by decide) (by decide) ⟨b36, rfl, X41.fr, k43, q36, ⟨f44, F41, f45, f46, f47, g_b, g_b36, (Ne.symm ne37), (Nat.le_trans hk_b (by rw [List.length_append]; omega)), (own_byA hy_b (own_by0 _))⟩⟩

theorem d13_0 : decode jdk_68_method_71_code 0 = .ok (.getstatic 18, 3) := by decide +kernel
theorem d13_3 : decode jdk_68_method_71_code 3 = .ok (.ifCond .eq 18, 3) := by decide +kernel
theorem d13_6 : decode jdk_68_method_71_code 6 = .ok (.aload_n 0, 1) := by decide +kernel
theorem d13_7 : decode jdk_68_method_71_code 7 = .ok (.getfield 22, 3) := by decide +kernel
theorem d13_10 : decode jdk_68_method_71_code 10 = .ok (.aload_n 1, 1) := by decide +kernel
theorem d13_11 : decode jdk_68_method_71_code 11 = .ok (.invokevirtual 40, 3) := by decide +kernel
theorem d13_14 : decode jdk_68_method_71_code 14 = .ok (.if_icmp .eq 7, 3) := by decide +kernel
theorem d13_21 : decode jdk_68_method_71_code 21 = .ok (.return_, 1) := by decide +kernel
theorem ef_13 (m : MethodId) (b : Addr) (a : Addr) : entryFrame m #[(.ref b), (.ref a)] 2 = mkF m 0 #[.val (.ref b), .val (.ref a)] [] := by first | (simp [entryFrame, mkF, argsToLocals, Value.category]; done) | rfl
def R13 : Room := ({ frames := 1, cells := 0, slots := 0, locals := 13 } : Room)
set_option maxRecDepth 65536 in
set_option maxHeartbeats 40000000 in
theorem rm13 (l : Launch) (Z : State) (a0 : Array Value) (hw : ∀ d ∈ tables_1, d.before a0 Z = true) (b : Addr) (a : Addr) (h0 : Heap) (n0 : Nat) (hO : Old Z n0 h0) (v : Addr) (k : Nat) (ws : List Int32) (HB : SBP Z n0 h0 b v k ws) (u : Addr) (zs : List Int32) (HS : SS Z h0 a u zs) (G1 : Int32) (O2 : Sta Z Z.heap "java/lang/String" "COMPACT_STRINGS" "Z" (.int G1)) (P5 : ¬ G1 = (0 : Int32)) :
    Con l Z (⟨"java/lang/AbstractStringBuilder", "inflateIfNeededFor", "(Ljava/lang/String;)V"⟩ : MethodName) jdk_68_method_71_code 2 none [] R13 R13.cells R13.slots #[(.ref b), (.ref a)] h0 (fun v h L => v = none ∧ h0 = h ∧ L = []) := by
  refine Con.intro (n0 := n0) (plainFor_of_name pn_2) (fun m => ef_13 m b a) hO ?_
  intro p e s m below meth cc T hs0 X0
  obtain ⟨E_b, Fvalue_b, Fcoder_b, Fcount_b, A_v, g_b, g_v, n_v_b, hk_b, hy_b⟩ := id HB
  obtain ⟨E_a, Fc_a, Fv_a, A_u⟩ := id HS
  refine g_getS X0 (hw _ m47) (O2.ext X0.old.2) d13_0 (pc' := 3) rfl (fun T48 X48 => ?_)
  refine g_if_eq_f X48 d13_3 (pc' := 6) rfl P5 ?_
  refine g_aloadN X48 d13_6 (pc' := 7) rfl rfl rfl ?_
  refine g_getF X48 (host := "") (Or.inl (hw _ m52)) Via.refl Fcoder_b d13_7 (pc' := 10) rfl (fun T49 X49 => ?_)
  refine g_aloadN X49 d13_10 (pc' := 11) rfl rfl rfl ?_
  refine g_callV X49 (y := (⟨"java/lang/String", "coder", "()B"⟩ : MethodName)) (z := (⟨"java/lang/String", "coder", "()B"⟩ : MethodName)) (a := a) [] (hw _ m100) (hw _ m77) (notFace_of_selects (args := #[]) (mvT X49.hZ (hw _ m79))) (hw _ m79) (hw _ m78) E_a (hw _ m80) (hw _ m48) (rm10 l Z a0 hw a h0 n0 X49.old u zs ⟨E_a, Fc_a, Fv_a, A_u⟩ G1 O2 P5) (by decide) (by decide) (by decide) (by decide) (by decide) rfl pd_0 rfl (rest := [(.int (0 : Int32))]) rfl (W := 1) rfl d13_11 (pc' := 14) rfl ?_
  rintro _ T50 _ _ Y50 ⟨rfl, rfl, rfl⟩
  have X50 := Y50 X49.old (Fr.nil _)
  show Go p e below _ (State.setTop _ (mkF m 14 #[.val (.ref b), .val (.ref a)] [(.int (0 : Int32)), (.int (0 : Int32))]))
  refine g_icmp_eq_t X50 d13_14 (pt := 21) (by decide) (by decide) ?_
  exact g_ret X50 rfl d13_21 (by decide) (by decide) ⟨rfl, rfl, rfl⟩

theorem d14_0 : decode jdk_42_method_147_code 0 = .ok (.aload_n 0, 1) := by decide +kernel
theorem d14_1 : decode jdk_42_method_147_code 1 = .ok (.invokevirtual 335, 3) := by decide +kernel
theorem d14_4 : decode jdk_42_method_147_code 4 = .ok (.iload_n 3, 1) := by decide +kernel
theorem d14_5 : decode jdk_42_method_147_code 5 = .ok (.if_icmp .ne 23, 3) := by decide +kernel
theorem d14_8 : decode jdk_42_method_147_code 8 = .ok (.aload_n 0, 1) := by decide +kernel
theorem d14_9 : decode jdk_42_method_147_code 9 = .ok (.getfield 9, 3) := by decide +kernel
theorem d14_12 : decode jdk_42_method_147_code 12 = .ok (.iconst 0, 1) := by decide +kernel
theorem d14_13 : decode jdk_42_method_147_code 13 = .ok (.aload_n 1, 1) := by decide +kernel
theorem d14_14 : decode jdk_42_method_147_code 14 = .ok (.iload_n 2, 1) := by decide +kernel
theorem d14_15 : decode jdk_42_method_147_code 15 = .ok (.iload_n 3, 1) := by decide +kernel
theorem d14_16 : decode jdk_42_method_147_code 16 = .ok (.ishl, 1) := by decide +kernel
theorem d14_17 : decode jdk_42_method_147_code 17 = .ok (.aload_n 0, 1) := by decide +kernel
theorem d14_18 : decode jdk_42_method_147_code 18 = .ok (.getfield 9, 3) := by decide +kernel
theorem d14_21 : decode jdk_42_method_147_code 21 = .ok (.arraylength, 1) := by decide +kernel
theorem d14_22 : decode jdk_42_method_147_code 22 = .ok (.invokestatic 212, 3) := by decide +kernel
theorem d14_25 : decode jdk_42_method_147_code 25 = .ok (.goto 18, 3) := by decide +kernel
theorem d14_43 : decode jdk_42_method_147_code 43 = .ok (.return_, 1) := by decide +kernel
theorem ef_14 (m : MethodId) (a : Addr) (d : Addr) (k : Nat) : entryFrame m #[(.ref a), (.ref d), (.int (Int32.ofNat k)), (.int (0 : Int32))] 4 = mkF m 0 #[.val (.ref a), .val (.ref d), .val (.int (Int32.ofNat k)), .val (.int (0 : Int32))] [] := by first | (simp [entryFrame, mkF, argsToLocals, Value.category]; done) | rfl
def R14 : Room := ({ frames := 1, cells := 0, slots := 0, locals := 40 } : Room)
set_option maxRecDepth 65536 in
set_option maxHeartbeats 40000000 in
theorem rm14 (l : Launch) (Z : State) (a0 : Array Value) (hw : ∀ d ∈ tables_1, d.before a0 Z = true) (a : Addr) (d : Addr) (k : Nat) (h0 : Heap) (n0 : Nat) (hO : Old Z n0 h0) (u : Addr) (zs : List Int32) (HS : SS Z h0 a u zs) (hz : ∀ z ∈ zs, BY z) (ws : List Int32) (A_d : Arx Z h0 d .byte (own_bs ws)) (hw_ : ∀ z ∈ ws, BY z) (g_d : n0 ≤ d) (hfit : k + zs.length ≤ ws.length) (hcap : ws.length ≤ 142) (G1 : Int32) (O2 : Sta Z Z.heap "java/lang/String" "COMPACT_STRINGS" "Z" (.int G1)) (P5 : ¬ G1 = (0 : Int32)) :
    Con l Z (⟨"java/lang/String", "getBytes", "([BIB)V"⟩ : MethodName) jdk_42_method_147_code 4 none [] R14 R14.cells R14.slots #[(.ref a), (.ref d), (.int (Int32.ofNat k)), (.int (0 : Int32))] h0 (fun r h L => r = none ∧ Fr n0 L ∧ Keep h0 h [d] ∧ Arx Z h d .byte (own_bs (own_put ws k zs))) := by
  refine Con.intro (n0 := n0) (plainFor_of_name pn_0) (fun m => ef_14 m a d k) hO ?_
  intro p e s m below meth cc T hs0 X0
  obtain ⟨E_a, Fc_a, Fv_a, A_u⟩ := id HS
  refine g_aloadN X0 d14_0 (pc' := 1) rfl rfl rfl ?_
  refine g_callV X0 (y := (⟨"java/lang/String", "coder", "()B"⟩ : MethodName)) (z := (⟨"java/lang/String", "coder", "()B"⟩ : MethodName)) (a := a) [] (hw _ m76) (hw _ m77) (notFace_of_selects (args := #[]) (mvT X0.hZ (hw _ m79))) (hw _ m79) (hw _ m78) E_a (hw _ m80) (hw _ m48) (rm10 l Z a0 hw a h0 n0 X0.old u zs ⟨E_a, Fc_a, Fv_a, A_u⟩ G1 O2 P5) (by decide) (by decide) (by decide) (by decide) (by decide) rfl pd_0 rfl (rest := []) rfl (W := 0) rfl d14_1 (pc' := 4) rfl ?_
  rintro _ T51 _ _ Y51 ⟨rfl, rfl, rfl⟩
  have X51 := Y51 X0.old (Fr.nil _)
  show Go p e below _ (State.setTop _ (mkF m 4 #[.val (.ref a), .val (.ref d), .val (.int (Int32.ofNat k)), .val (.int (0 : Int32))] [(.int (0 : Int32))]))
  refine g_iloadN X51 d14_4 (pc' := 5) rfl rfl ?_
  refine g_icmp_ne_f X51 d14_5 (pc' := 8) rfl (by decide) ?_
  refine g_aloadN X51 d14_8 (pc' := 9) rfl rfl rfl ?_
  refine g_getF X51 (host := "") (Or.inl (hw _ m75)) Via.refl Fv_a d14_9 (pc' := 12) rfl (fun T52 X52 => ?_)
  refine g_iconst X52 d14_12 (pc' := 13) rfl (v := (0 : Int32)) rfl ?_
  refine g_aloadN X52 d14_13 (pc' := 14) rfl rfl rfl ?_
  refine g_iloadN X52 d14_14 (pc' := 15) rfl rfl ?_
  refine g_iloadN X52 d14_15 (pc' := 16) rfl rfl ?_
  refine g_ishl X52 d14_16 (pc' := 17) rfl ?_
  rw [own_shl0]
  refine g_aloadN X52 d14_17 (pc' := 18) rfl rfl rfl ?_
  refine g_getF X52 (host := "") (Or.inl (hw _ m75)) Via.refl Fv_a d14_18 (pc' := 21) rfl (fun T53 X53 => ?_)
  refine g_arraylength X53 (n := (Int32.ofNat zs.length)) A_u (by rw [own_bs_len]) d14_21 (pc' := 22) rfl ?_
  refine g_arraycopy X53 (si := 0) (di := k) (ni := zs.length) (W := 0) (hw _ m106) (hw _ m109) (hw _ m107) (hw _ m108) A_u A_d (by decide) (own_fb hz) (own_fb hw_) rfl (own_small (by omega)) (own_small (by omega)) (by rw [own_bs_len]; omega) (by rw [own_bs_len]; exact hfit) g_d rfl rfl (by decide) (by decide) d14_22 (pc' := 25) rfl (fun T54 h54 l54 X54 K54 A54 => ?_)
  rw [own_copy, own_putE] at A54
  refine g_goto X54 d14_25 (pt := 43) (by decide) ?_
  have k55 := (Keep.refl h0 [d]).trans K54 (allS (Or.inl (by simp)) all0)
  exact g_ret X54 rfl d14_43 (by decide) (by decide) ⟨rfl, X54.fr, k55, A54⟩

theorem d12_0 : decode jdk_68_method_73_code 0 = .ok (.aload_n 0, 1) := by decide +kernel
theorem d12_1 : decode jdk_68_method_73_code 1 = .ok (.aload_n 2, 1) := by decide +kernel
theorem d12_2 : decode jdk_68_method_73_code 2 = .ok (.invokevirtual 397, 3) := by decide +kernel
theorem d12_5 : decode jdk_68_method_73_code 5 = .ok (.aload_n 2, 1) := by decide +kernel
theorem d12_6 : decode jdk_68_method_73_code 6 = .ok (.aload_n 0, 1) := by decide +kernel
theorem d12_7 : decode jdk_68_method_73_code 7 = .ok (.getfield 15, 3) := by decide +kernel
theorem d12_10 : decode jdk_68_method_73_code 10 = .ok (.iload_n 1, 1) := by decide +kernel
theorem d12_11 : decode jdk_68_method_73_code 11 = .ok (.aload_n 0, 1) := by decide +kernel
theorem d12_12 : decode jdk_68_method_73_code 12 = .ok (.getfield 22, 3) := by decide +kernel
theorem d12_15 : decode jdk_68_method_73_code 15 = .ok (.invokevirtual 399, 3) := by decide +kernel
theorem d12_18 : decode jdk_68_method_73_code 18 = .ok (.return_, 1) := by decide +kernel
theorem ef_12 (m : MethodId) (b : Addr) (k : Nat) (a : Addr) : entryFrame m #[(.ref b), (.int (Int32.ofNat k)), (.ref a)] 3 = mkF m 0 #[.val (.ref b), .val (.int (Int32.ofNat k)), .val (.ref a)] [] := by first | (simp [entryFrame, mkF, argsToLocals, Value.category]; done) | rfl
def R12 : Room := ({ frames := 2, cells := 0, slots := 0, locals := 55 } : Room)
set_option maxRecDepth 65536 in
set_option maxHeartbeats 40000000 in
theorem rm12 (l : Launch) (Z : State) (a0 : Array Value) (hw : ∀ d ∈ tables_1, d.before a0 Z = true) (b : Addr) (k : Nat) (a : Addr) (h0 : Heap) (n0 : Nat) (hO : Old Z n0 h0) (v : Addr) (ws : List Int32) (HB : SBP Z n0 h0 b v k ws) (u : Addr) (zs : List Int32) (HS : SS Z h0 a u zs) (hz : ∀ z ∈ zs, BY z) (hfit : k + zs.length ≤ ws.length) (hcap : ws.length ≤ 142) (G1 : Int32) (O2 : Sta Z Z.heap "java/lang/String" "COMPACT_STRINGS" "Z" (.int G1)) (P5 : ¬ G1 = (0 : Int32)) :
    Con l Z (⟨"java/lang/AbstractStringBuilder", "putStringAt", "(ILjava/lang/String;)V"⟩ : MethodName) jdk_68_method_73_code 3 none [] R12 R12.cells R12.slots #[(.ref b), (.int (Int32.ofNat k)), (.ref a)] h0 (fun r h L => r = none ∧ Fr n0 L ∧ Keep h0 h [v] ∧ Arx Z h v .byte (own_bs (own_put ws k zs))) := by
  refine Con.intro (n0 := n0) (plainFor_of_name pn_2) (fun m => ef_12 m b k a) hO ?_
  intro p e s m below meth cc T hs0 X0
  obtain ⟨E_b, Fvalue_b, Fcoder_b, Fcount_b, A_v, g_b, g_v, n_v_b, hk_b, hy_b⟩ := id HB
  obtain ⟨E_a, Fc_a, Fv_a, A_u⟩ := id HS
  refine g_aloadN X0 d12_0 (pc' := 1) rfl rfl rfl ?_
  refine g_aloadN X0 d12_1 (pc' := 2) rfl rfl rfl ?_
  refine g_callQ X0 (y := (⟨"java/lang/AbstractStringBuilder", "inflateIfNeededFor", "(Ljava/lang/String;)V"⟩ : MethodName)) (a := b) [(.ref a)] (hw _ m95) (hw _ m96) (hw _ m97) (hw _ m98) E_b (hw _ m99) (hw _ m44) (rm13 l Z a0 hw b a h0 n0 X0.old v k ws ⟨E_b, Fvalue_b, Fcoder_b, Fcount_b, A_v, g_b, g_v, n_v_b, hk_b, hy_b⟩ u zs ⟨E_a, Fc_a, Fv_a, A_u⟩ G1 O2 P5) (by decide) (by decide) (by decide) (by decide) (by decide) rfl pd_7 rfl (rest := []) rfl (W := 0) rfl d12_2 (pc' := 5) rfl ?_
  rintro _ T56 _ _ Y56 ⟨rfl, rfl, rfl⟩
  have X56 := Y56 X0.old (Fr.nil _)
  show Go p e below _ (State.setTop _ (mkF m 5 #[.val (.ref b), .val (.int (Int32.ofNat k)), .val (.ref a)] []))
  refine g_aloadN X56 d12_5 (pc' := 6) rfl rfl rfl ?_
  refine g_aloadN X56 d12_6 (pc' := 7) rfl rfl rfl ?_
  refine g_getF X56 (host := "") (Or.inl (hw _ m50)) Via.refl Fvalue_b d12_7 (pc' := 10) rfl (fun T57 X57 => ?_)
  refine g_iloadN X57 d12_10 (pc' := 11) rfl rfl ?_
  refine g_aloadN X57 d12_11 (pc' := 12) rfl rfl rfl ?_
  refine g_getF X57 (host := "") (Or.inl (hw _ m52)) Via.refl Fcoder_b d12_12 (pc' := 15) rfl (fun T58 X58 => ?_)
  refine g_callV X58 (y := (⟨"java/lang/String", "getBytes", "([BIB)V"⟩ : MethodName)) (z := (⟨"java/lang/String", "getBytes", "([BIB)V"⟩ : MethodName)) (a := a) [(.ref v), (.int (Int32.ofNat k)), (.int (0 : Int32))] (hw _ m101) (hw _ m102) (notFace_of_selects (args := #[]) (mvT X58.hZ (hw _ m104))) (hw _ m104) (hw _ m103) E_a (hw _ m105) (hw _ m48) (rm14 l Z a0 hw a v k h0 n0 X58.old u zs ⟨E_a, Fc_a, Fv_a, A_u⟩ hz ws A_v hy_b g_v hfit hcap G1 O2 P5) (by decide) (by decide) (by decide) (by decide) (by decide) rfl pd_8 rfl (rest := []) rfl (W := 0) rfl d12_15 (pc' := 18) rfl ?_
  rintro _ T59 h59 L59 Y59 ⟨rfl, N59, K59, A59x⟩
  have X59 := Y59 (X58.old.keep K59 (allS g_v all0)) N59
  show Go p e below _ (State.setTop _ (mkF m 18 #[.val (.ref b), .val (.int (Int32.ofNat k)), .val (.ref a)] []))
  have k60 := (Keep.refl h0 [v]).trans K59 (allS (Or.inl (by simp)) all0)
  exact g_ret X59 rfl d12_18 (by decide) (by decide) ⟨rfl, X59.fr, k60, A59x⟩

theorem d8_0 : decode jdk_68_method_22_code 0 = .ok (.aload_n 1, 1) := by decide +kernel
theorem d8_1 : decode jdk_68_method_22_code 1 = .ok (.ifnonnull 8, 3) := by decide +kernel
theorem d8_9 : decode jdk_68_method_22_code 9 = .ok (.aload_n 1, 1) := by decide +kernel
theorem d8_10 : decode jdk_68_method_22_code 10 = .ok (.invokevirtual 32, 3) := by decide +kernel
theorem d8_13 : decode jdk_68_method_22_code 13 = .ok (.istore_n 2, 1) := by decide +kernel
theorem d8_14 : decode jdk_68_method_22_code 14 = .ok (.aload_n 0, 1) := by decide +kernel
theorem d8_15 : decode jdk_68_method_22_code 15 = .ok (.aload_n 0, 1) := by decide +kernel
theorem d8_16 : decode jdk_68_method_22_code 16 = .ok (.getfield 79, 3) := by decide +kernel
theorem d8_19 : decode jdk_68_method_22_code 19 = .ok (.iload_n 2, 1) := by decide +kernel
theorem d8_20 : decode jdk_68_method_22_code 20 = .ok (.iadd, 1) := by decide +kernel
theorem d8_21 : decode jdk_68_method_22_code 21 = .ok (.invokevirtual 100, 3) := by decide +kernel
theorem d8_24 : decode jdk_68_method_22_code 24 = .ok (.aload_n 0, 1) := by decide +kernel
theorem d8_25 : decode jdk_68_method_22_code 25 = .ok (.aload_n 0, 1) := by decide +kernel
theorem d8_26 : decode jdk_68_method_22_code 26 = .ok (.getfield 79, 3) := by decide +kernel
theorem d8_29 : decode jdk_68_method_22_code 29 = .ok (.aload_n 1, 1) := by decide +kernel
theorem d8_30 : decode jdk_68_method_22_code 30 = .ok (.invokevirtual 208, 3) := by decide +kernel
theorem d8_33 : decode jdk_68_method_22_code 33 = .ok (.aload_n 0, 1) := by decide +kernel
theorem d8_34 : decode jdk_68_method_22_code 34 = .ok (.dup, 1) := by decide +kernel
theorem d8_35 : decode jdk_68_method_22_code 35 = .ok (.getfield 79, 3) := by decide +kernel
theorem d8_38 : decode jdk_68_method_22_code 38 = .ok (.iload_n 2, 1) := by decide +kernel
theorem d8_39 : decode jdk_68_method_22_code 39 = .ok (.iadd, 1) := by decide +kernel
theorem d8_40 : decode jdk_68_method_22_code 40 = .ok (.putfield 79, 3) := by decide +kernel
theorem d8_43 : decode jdk_68_method_22_code 43 = .ok (.aload_n 0, 1) := by decide +kernel
theorem d8_44 : decode jdk_68_method_22_code 44 = .ok (.areturn, 1) := by decide +kernel
theorem ef_8 (m : MethodId) (b : Addr) (a : Addr) : entryFrame m #[(.ref b), (.ref a)] 3 = mkF m 0 #[.val (.ref b), .val (.ref a), .unset] [] := by first | (simp [entryFrame, mkF, argsToLocals, Value.category]; done) | rfl
def R8 : Room := ({ frames := 3, cells := 0, slots := 0, locals := 69 } : Room)
set_option maxRecDepth 65536 in
set_option maxHeartbeats 40000000 in
theorem rm8 (l : Launch) (Z : State) (a0 : Array Value) (hw : ∀ d ∈ tables_1, d.before a0 Z = true) (b : Addr) (a : Addr) (h0 : Heap) (n0 : Nat) (hO : Old Z n0 h0) (v : Addr) (k : Nat) (ws : List Int32) (HB : SBP Z n0 h0 b v k ws) (u : Addr) (zs : List Int32) (HS : SS Z h0 a u zs) (hz : ∀ z ∈ zs, BY z) (n_a_b : a ≠ b) (n_a_v : a ≠ v) (n_u_b : u ≠ b) (n_u_v : u ≠ v) (hfit : k + zs.length ≤ ws.length) (hcap : ws.length ≤ 142) (G1 : Int32) (O2 : Sta Z Z.heap "java/lang/String" "COMPACT_STRINGS" "Z" (.int G1)) (P5 : ¬ G1 = (0 : Int32)) :
    Con l Z (⟨"java/lang/AbstractStringBuilder", "append", "(Ljava/lang/String;)Ljava/lang/AbstractStringBuilder;"⟩ : MethodName) jdk_68_method_22_code 3 (some (.object "java/lang/AbstractStringBuilder")) [] R8 R8.cells R8.slots #[(.ref b), (.ref a)] h0 (AQ Z n0 h0 b v (ws.take k ++ zs) ws.length) := by
  refine Con.intro (n0 := n0) (plainFor_of_name pn_2) (fun m => ef_8 m b a) hO ?_
  intro p e s m below meth cc T hs0 X0
  obtain ⟨E_b, Fvalue_b, Fcoder_b, Fcount_b, A_v, g_b, g_v, n_v_b, hk_b, hy_b⟩ := id HB
  obtain ⟨E_a, Fc_a, Fv_a, A_u⟩ := id HS
  refine g_aloadN X0 d8_0 (pc' := 1) rfl rfl rfl ?_
  refine g_ifnonnull_t X0 d8_1 (pt := 9) (by decide) ?_
  refine g_aloadN X0 d8_9 (pc' := 10) rfl rfl rfl ?_
  refine g_callV X0 (y := (⟨"java/lang/String", "length", "()I"⟩ : MethodName)) (z := (⟨"java/lang/String", "length", "()I"⟩ : MethodName)) (a := a) [] (hw _ m70) (hw _ m71) (notFace_of_selects (args := #[]) (mvT X0.hZ (hw _ m73))) (hw _ m73) (hw _ m72) E_a (hw _ m74) (hw _ m48) (rm9 l Z a0 hw a h0 n0 X0.old u zs ⟨E_a, Fc_a, Fv_a, A_u⟩ G1 O2 P5) (by decide) (by decide) (by decide) (by decide) (by decide) rfl pd_9 rfl (rest := []) rfl (W := 0) rfl d8_10 (pc' := 13) rfl ?_
  rintro _ T61 _ _ Y61 ⟨rfl, rfl, rfl⟩
  have X61 := Y61 X0.old (Fr.nil _)
  show Go p e below _ (State.setTop _ (mkF m 13 #[.val (.ref b), .val (.ref a), .unset] [(.int (Int32.ofNat zs.length))]))
  refine g_istoreN X61 d8_13 (pc' := 14) rfl (L' := #[.val (.ref b), .val (.ref a), .val (.int (Int32.ofNat zs.length))]) rfl ?_
  refine g_aloadN X61 d8_14 (pc' := 15) rfl rfl rfl ?_
  refine g_aloadN X61 d8_15 (pc' := 16) rfl rfl rfl ?_
  refine g_getF X61 (host := "") (Or.inl (hw _ m83)) Via.refl Fcount_b d8_16 (pc' := 19) rfl (fun T62 X62 => ?_)
  refine g_iloadN X62 d8_19 (pc' := 20) rfl rfl ?_
  refine g_iadd X62 d8_20 (pc' := 21) rfl ?_
  rw [own_add]
  refine g_callQ X62 (y := (⟨"java/lang/AbstractStringBuilder", "ensureCapacityInternal", "(I)V"⟩ : MethodName)) (a := b) [(.int (Int32.ofNat (k + zs.length)))] (hw _ m85) (hw _ m86) (hw _ m87) (hw _ m88) E_b (hw _ m89) (hw _ m44) (rm11 l Z a0 hw b (k + zs.length) h0 n0 X62.old v k ws ⟨E_b, Fvalue_b, Fcoder_b, Fcount_b, A_v, g_b, g_v, n_v_b, hk_b, hy_b⟩ hfit hcap) (by decide) (by decide) (by decide) (by decide) (by decide) rfl pd_10 rfl (rest := []) rfl (W := 0) rfl d8_21 (pc' := 24) rfl ?_
  rintro _ T63 _ _ Y63 ⟨rfl, rfl, rfl⟩
  have X63 := Y63 X62.old (Fr.nil _)
  show Go p e below _ (State.setTop _ (mkF m 24 #[.val (.ref b), .val (.ref a), .val (.int (Int32.ofNat zs.length))] []))
  refine g_aloadN X63 d8_24 (pc' := 25) rfl rfl rfl ?_
  refine g_aloadN X63 d8_25 (pc' := 26) rfl rfl rfl ?_
  refine g_getF X63 (host := "") (Or.inl (hw _ m83)) Via.refl Fcount_b d8_26 (pc' := 29) rfl (fun T64 X64 => ?_)
  refine g_aloadN X64 d8_29 (pc' := 30) rfl rfl rfl ?_
  refine g_callQ X64 (y := (⟨"java/lang/AbstractStringBuilder", "putStringAt", "(ILjava/lang/String;)V"⟩ : MethodName)) (a := b) [(.int (Int32.ofNat k)), (.ref a)] (hw _ m90) (hw _ m91) (hw _ m92) (hw _ m93) E_b (hw _ m94) (hw _ m44) (rm12 l Z a0 hw b k a h0 n0 X64.old v ws ⟨E_b, Fvalue_b, Fcoder_b, Fcount_b, A_v, g_b, g_v, n_v_b, hk_b, hy_b⟩ u zs ⟨E_a, Fc_a, Fv_a, A_u⟩ hz hfit hcap G1 O2 P5) (by decide) (by decide) (by decide) (by decide) (by decide) rfl pd_11 rfl (rest := []) rfl (W := 0) rfl d8_30 (pc' := 33) rfl ?_
  rintro _ T65 h65 L65 Y65 ⟨rfl, N65, K65, A65x⟩
  have X65 := Y65 (X64.old.keep K65 (allS g_v all0)) N65
  show Go p e below _ (State.setTop _ (mkF m 33 #[.val (.ref b), .val (.ref a), .val (.int (Int32.ofNat zs.length))] []))
  refine g_aloadN X65 d8_33 (pc' := 34) rfl rfl rfl ?_
  refine g_dup X65 d8_34 (pc' := 35) rfl rfl ?_
  have f66 := (Fcount_b.keep K65 (nm1 (Ne.symm n_v_b)))
  refine g_getF X65 (host := "") (Or.inl (hw _ m83)) Via.refl f66 d8_35 (pc' := 38) rfl (fun T67 X67 => ?_)
  refine g_iloadN X67 d8_38 (pc' := 39) rfl rfl ?_
  refine g_iadd X67 d8_39 (pc' := 40) rfl ?_
  rw [own_add]
  have f68 := (E_b.keep K65)
  refine g_putF X67 (host := "") (Or.inl (hw _ m83)) Via.refl f66 f68 (Or.inl (hw _ m84)) (hw _ m35) (ty := .int) (by decide) rfl rfl g_b d8_40 (pc' := 43) rfl (fun T69 h69 X69 W69 => ?_)
  have F69 := f66.same W69
  refine g_aloadN X69 d8_43 (pc' := 44) rfl rfl rfl ?_
  have k70 := (Keep.refl h0 [b, v]).trans K65 (allS (Or.inl (by simp)) all0)
  have k71 := k70.wr W69 (Or.inl (by simp))
  have f72 := (f68.wr W69)
  have f73 := ((Fvalue_b.keep K65 (nm1 (Ne.symm n_v_b))).other W69 (Or.inr (slot_ne (Or.inl (hw _ m51)) (Or.inl (hw _ m84)) (by decide) (t := (.array .byte)) (t' := .int) (by decide) (by decide))))
  have f74 := ((Fcoder_b.keep K65 (nm1 (Ne.symm n_v_b))).other W69 (Or.inr (slot_ne (Or.inl (hw _ m53)) (Or.inl (hw _ m84)) (by decide) (t := .byte) (t' := .int) (by decide) (by decide))))
  have f75 := (A65x.other W69 n_v_b)
  exact g_retA X69 rfl rfl rfl d8_44 (by decide) (by decide) (own_aq (ws' := ws) hk_b rfl X69.fr k71 (Or.inl rfl) ⟨f72, f73, f74, F69, f75, g_b, g_v, n_v_b, (by rw [own_put_len hfit]; exact hfit), (own_put_by hy_b hz)⟩ rfl hfit rfl)

theorem d7_0 : decode jdk_67_method_7_code 0 = .ok (.aload_n 0, 1) := by decide +kernel
theorem d7_1 : decode jdk_67_method_7_code 1 = .ok (.aload_n 1, 1) := by decide +kernel
theorem d7_2 : decode jdk_67_method_7_code 2 = .ok (.invokespecial 29, 3) := by decide +kernel
theorem d7_5 : decode jdk_67_method_7_code 5 = .ok (.pop, 1) := by decide +kernel
theorem d7_6 : decode jdk_67_method_7_code 6 = .ok (.aload_n 0, 1) := by decide +kernel
theorem d7_7 : decode jdk_67_method_7_code 7 = .ok (.areturn, 1) := by decide +kernel
theorem ef_7 (m : MethodId) (b : Addr) (a : Addr) : entryFrame m #[(.ref b), (.ref a)] 2 = mkF m 0 #[.val (.ref b), .val (.ref a)] [] := by first | (simp [entryFrame, mkF, argsToLocals, Value.category]; done) | rfl
def R7 : Room := ({ frames := 4, cells := 0, slots := 0, locals := 83 } : Room)
set_option maxRecDepth 65536 in
set_option maxHeartbeats 40000000 in
theorem rm7 (l : Launch) (Z : State) (a0 : Array Value) (hw : ∀ d ∈ tables_1, d.before a0 Z = true) (b : Addr) (a : Addr) (h0 : Heap) (n0 : Nat) (hO : Old Z n0 h0) (v : Addr) (k : Nat) (ws : List Int32) (HB : SBP Z n0 h0 b v k ws) (u : Addr) (zs : List Int32) (HS : SS Z h0 a u zs) (hz : ∀ z ∈ zs, BY z) (n_a_b : a ≠ b) (n_a_v : a ≠ v) (n_u_b : u ≠ b) (n_u_v : u ≠ v) (hfit : k + zs.length ≤ ws.length) (hcap : ws.length ≤ 142) (G1 : Int32) (O2 : Sta Z Z.heap "java/lang/String" "COMPACT_STRINGS" "Z" (.int G1)) (P5 : ¬ G1 = (0 : Int32)) :
    Con l Z (⟨"java/lang/StringBuilder", "append", "(Ljava/lang/String;)Ljava/lang/StringBuilder;"⟩ : MethodName) jdk_67_method_7_code 2 (some (.object "java/lang/StringBuilder")) [] R7 R7.cells R7.slots #[(.ref b), (.ref a)] h0 (AQ Z n0 h0 b v (ws.take k ++ zs) ws.length) := by
  refine Con.intro (n0 := n0) (plainFor_of_name pn_4) (fun m => ef_7 m b a) hO ?_
  intro p e s m below meth cc T hs0 X0
  obtain ⟨E_b, Fvalue_b, Fcoder_b, Fcount_b, A_v, g_b, g_v, n_v_b, hk_b, hy_b⟩ := id HB
  obtain ⟨E_a, Fc_a, Fv_a, A_u⟩ := id HS
  refine g_aloadN X0 d7_0 (pc' := 1) rfl rfl rfl ?_
  refine g_aloadN X0 d7_1 (pc' := 2) rfl rfl rfl ?_
  refine g_callU X0 (y := (⟨"java/lang/AbstractStringBuilder", "append", "(Ljava/lang/String;)Ljava/lang/AbstractStringBuilder;"⟩ : MethodName)) (a := b) [(.ref a)] (hw _ m65) (hw _ m66) (hw _ m88) rfl (hw _ m67) (by decide) E_b (hw _ m69) (hw _ m44) (rm8 l Z a0 hw b a h0 n0 X0.old v k ws HB u zs HS hz n_a_b n_a_v n_u_b n_u_v hfit hcap G1 O2 P5) (by decide) (by decide) (by decide) (by decide) (by decide) rfl pd_12 rfl (rest := []) rfl (W := 0) rfl d7_2 (pc' := 5) rfl ?_
  rintro _ T76 h76 L76 Y76 ⟨v76, ws76, rfl, N76, K76, q76, H76, hl76, ht76⟩
  have X76 := Y76 (X0.old.keep K76 (allS g_b (allS g_v all0))) N76
  show Go p e below _ (State.setTop _ (mkF m 5 #[.val (.ref b), .val (.ref a)] [(.ref b)]))
  refine g_pop X76 d7_5 (pc' := 6) rfl rfl ?_
  refine g_aloadN X76 d7_6 (pc' := 7) rfl rfl rfl ?_
  exact g_retA X76 rfl rfl rfl d7_7 (by decide) (by decide) ⟨v76, ws76, rfl, X76.fr, K76, q76, H76, hl76, ht76⟩


theorem ef_8g (m : MethodId) (b : Addr) (a : Addr) : entryFrame m #[(.ref b), (.ref a)] 3 = mkF m 0 #[.val (.ref b), .val (.ref a), .unset] [] := by first | (simp [entryFrame, mkF, argsToLocals, Value.category]; done) | rfl
def R8g : Room := ({ frames := 4, cells := 1, slots := 142, locals := 69 } : Room)
set_option maxRecDepth 65536 in
set_option maxHeartbeats 40000000 in
theorem rm8g (l : Launch) (Z : State) (a0 : Array Value) (hw : ∀ d ∈ tables_1, d.before a0 Z = true) (b : Addr) (a : Addr) (h0 : Heap) (n0 : Nat) (hO : Old Z n0 h0) (v : Addr) (k : Nat) (ws : List Int32) (HB : SBP Z n0 h0 b v k ws) (u : Addr) (zs : List Int32) (HS : SS Z h0 a u zs) (hz : ∀ z ∈ zs, BY z) (n_a_b : a ≠ b) (n_a_v : a ≠ v) (n_u_b : u ≠ b) (n_u_v : u ≠ v) (h0_ : ws.length < k + zs.length) (h1_ : k + zs.length < 2 * ws.length + 2) (h2_ : ws.length < 1000) (hcap : 2 * ws.length + 2 ≤ 142) (G1 : Int32) (O2 : Sta Z Z.heap "java/lang/String" "COMPACT_STRINGS" "Z" (.int G1)) (P5 : ¬ G1 = (0 : Int32)) :
    Con l Z (⟨"java/lang/AbstractStringBuilder", "append", "(Ljava/lang/String;)Ljava/lang/AbstractStringBuilder;"⟩ : MethodName) jdk_68_method_22_code 3 (some (.object "java/lang/AbstractStringBuilder")) [] R8g R8g.cells R8g.slots #[(.ref b), (.ref a)] h0 (AQ Z n0 h0 b v (ws.take k ++ zs) (2 * ws.length + 2)) := by
  refine Con.intro (n0 := n0) (plainFor_of_name pn_2) (fun m => ef_8g m b a) hO ?_
  intro p e s m below meth cc T hs0 X0
  obtain ⟨E_b, Fvalue_b, Fcoder_b, Fcount_b, A_v, g_b, g_v, n_v_b, hk_b, hy_b⟩ := id HB
  obtain ⟨E_a, Fc_a, Fv_a, A_u⟩ := id HS
  refine g_aloadN X0 d8_0 (pc' := 1) rfl rfl rfl ?_
  refine g_ifnonnull_t X0 d8_1 (pt := 9) (by decide) ?_
  refine g_aloadN X0 d8_9 (pc' := 10) rfl rfl rfl ?_
  refine g_callV X0 (y := (⟨"java/lang/String", "length", "()I"⟩ : MethodName)) (z := (⟨"java/lang/String", "length", "()I"⟩ : MethodName)) (a := a) [] (hw _ m70) (hw _ m71) (notFace_of_selects (args := #[]) (mvT X0.hZ (hw _ m73))) (hw _ m73) (hw _ m72) E_a (hw _ m74) (hw _ m48) (rm9 l Z a0 hw a h0 n0 X0.old u zs ⟨E_a, Fc_a, Fv_a, A_u⟩ G1 O2 P5) (by decide) (by decide) (by decide) (by decide) (by decide) rfl pd_9 rfl (rest := []) rfl (W := 0) rfl d8_10 (pc' := 13) rfl ?_
  rintro _ T77 _ _ Y77 ⟨rfl, rfl, rfl⟩
  have X77 := Y77 X0.old (Fr.nil _)
  show Go p e below _ (State.setTop _ (mkF m 13 #[.val (.ref b), .val (.ref a), .unset] [(.int (Int32.ofNat zs.length))]))
  refine g_istoreN X77 d8_13 (pc' := 14) rfl (L' := #[.val (.ref b), .val (.ref a), .val (.int (Int32.ofNat zs.length))]) rfl ?_
  refine g_aloadN X77 d8_14 (pc' := 15) rfl rfl rfl ?_
  refine g_aloadN X77 d8_15 (pc' := 16) rfl rfl rfl ?_
  refine g_getF X77 (host := "") (Or.inl (hw _ m83)) Via.refl Fcount_b d8_16 (pc' := 19) rfl (fun T78 X78 => ?_)
  refine g_iloadN X78 d8_19 (pc' := 20) rfl rfl ?_
  refine g_iadd X78 d8_20 (pc' := 21) rfl ?_
  rw [own_add]
  refine g_callQ X78 (y := (⟨"java/lang/AbstractStringBuilder", "ensureCapacityInternal", "(I)V"⟩ : MethodName)) (a := b) [(.int (Int32.ofNat (k + zs.length)))] (hw _ m85) (hw _ m86) (hw _ m87) (hw _ m88) E_b (hw _ m89) (hw _ m44) (rm11g l Z a0 hw b (k + zs.length) h0 n0 X78.old v k ws ⟨E_b, Fvalue_b, Fcoder_b, Fcount_b, A_v, g_b, g_v, n_v_b, hk_b, hy_b⟩ h0_ h1_ h2_ hcap) (by decide) (by decide) (by decide) (by decide) (by decide) rfl pd_10 rfl (rest := []) rfl (W := 0) rfl d8_21 (pc' := 24) rfl ?_
  rintro _ T79 h79 L79 Y79 ⟨v79, rfl, N79, K79, q79, H79⟩
  have X79 := Y79 (X78.old.keep K79 (allS g_b all0)) N79
  obtain ⟨E79b, Fv79b, Fc79b, Fn79b, A79v, g79b, g79v, ne79vb, hk79b, hy79b⟩ := id H79
  have ne79a : a ≠ v79 := Nat.ne_of_lt (Nat.lt_of_lt_of_le Fv_a.lt q79)
  have ne79u : u ≠ v79 := Nat.ne_of_lt (Nat.lt_of_lt_of_le A_u.lt q79)
  show Go p e below _ (State.setTop _ (mkF m 24 #[.val (.ref b), .val (.ref a), .val (.int (Int32.ofNat zs.length))] []))
  refine g_aloadN X79 d8_24 (pc' := 25) rfl rfl rfl ?_
  refine g_aloadN X79 d8_25 (pc' := 26) rfl rfl rfl ?_
  refine g_getF X79 (host := "") (Or.inl (hw _ m83)) Via.refl Fn79b d8_26 (pc' := 29) rfl (fun T80 X80 => ?_)
  refine g_aloadN X80 d8_29 (pc' := 30) rfl rfl rfl ?_
  have f81 := (E_a.keep K79)
  have f82 := (Fc_a.keep K79 (nm1 n_a_b))
  have f83 := (Fv_a.keep K79 (nm1 n_a_b))
  have f84 := (A_u.keep K79 (nm1 n_u_b))
  refine g_callQ X80 (y := (⟨"java/lang/AbstractStringBuilder", "putStringAt", "(ILjava/lang/String;)V"⟩ : MethodName)) (a := b) [(.int (Int32.ofNat k)), (.ref a)] (hw _ m90) (hw _ m91) (hw _ m92) (hw _ m93) E79b (hw _ m94) (hw _ m44) (rm12 l Z a0 hw b k a h79 n0 X80.old v79 (ws ++ List.replicate (2 * ws.length + 2 - ws.length) 0) ⟨E79b, Fv79b, Fc79b, Fn79b, A79v, g_b, g79v, ne79vb, hk79b, hy79b⟩ u zs ⟨f81, f82, f83, f84⟩ hz (by simp only [List.length_append, List.length_replicate]; omega) (by simp only [List.length_append, List.length_replicate]; omega) G1 O2 P5) (by decide) (by decide) (by decide) (by decide) (by decide) rfl pd_11 rfl (rest := []) rfl (W := 0) rfl d8_30 (pc' := 33) rfl ?_
  rintro _ T85 h85 L85 Y85 ⟨rfl, N85, K85, A85x⟩
  have X85 := Y85 (X80.old.keep K85 (allS g79v all0)) N85
  show Go p e below _ (State.setTop _ (mkF m 33 #[.val (.ref b), .val (.ref a), .val (.int (Int32.ofNat zs.length))] []))
  refine g_aloadN X85 d8_33 (pc' := 34) rfl rfl rfl ?_
  refine g_dup X85 d8_34 (pc' := 35) rfl rfl ?_
  have f86 := (Fn79b.keep K85 (nm1 (Ne.symm ne79vb)))
  refine g_getF X85 (host := "") (Or.inl (hw _ m83)) Via.refl f86 d8_35 (pc' := 38) rfl (fun T87 X87 => ?_)
  refine g_iloadN X87 d8_38 (pc' := 39) rfl rfl ?_
  refine g_iadd X87 d8_39 (pc' := 40) rfl ?_
  rw [own_add]
  have f88 := (E79b.keep K85)
  refine g_putF X87 (host := "") (Or.inl (hw _ m83)) Via.refl f86 f88 (Or.inl (hw _ m84)) (hw _ m35) (ty := .int) (by decide) rfl rfl g_b d8_40 (pc' := 43) rfl (fun T89 h89 X89 W89 => ?_)
  have F89 := f86.same W89
  refine g_aloadN X89 d8_43 (pc' := 44) rfl rfl rfl ?_
  have k90 := (Keep.refl h0 [b, v]).trans K79 (allS (Or.inl (by simp)) all0)
  have k91 := k90.trans K85 (allS (Or.inr q79) all0)
  have k92 := k91.wr W89 (Or.inl (by simp))
  have f93 := (f88.wr W89)
  have f94 := ((Fv79b.keep K85 (nm1 (Ne.symm ne79vb))).other W89 (Or.inr (slot_ne (Or.inl (hw _ m51)) (Or.inl (hw _ m84)) (by decide) (t := (.array .byte)) (t' := .int) (by decide) (by decide))))
  have f95 := ((Fc79b.keep K85 (nm1 (Ne.symm ne79vb))).other W89 (Or.inr (slot_ne (Or.inl (hw _ m53)) (Or.inl (hw _ m84)) (by decide) (t := .byte) (t' := .int) (by decide) (by decide))))
  have f96 := (A85x.other W89 ne79vb)
  exact g_retA X89 rfl rfl rfl d8_44 (by decide) (by decide) (own_aq (ws' := (ws ++ List.replicate (2 * ws.length + 2 - ws.length) 0)) hk_b rfl X89.fr k92 (Or.inr q79) ⟨f93, f94, f95, F89, f96, g_b, g79v, ne79vb, (by rw [own_put_len (by simp only [List.length_append, List.length_replicate]; omega)]; exact (by simp only [List.length_append, List.length_replicate]; omega)), (own_put_by hy79b hz)⟩ (List.take_append_of_le_length hk_b) (by simp only [List.length_append, List.length_replicate]; omega) (by simp only [List.length_append, List.length_replicate]; omega))


theorem ef_7g (m : MethodId) (b : Addr) (a : Addr) : entryFrame m #[(.ref b), (.ref a)] 2 = mkF m 0 #[.val (.ref b), .val (.ref a)] [] := by first | (simp [entryFrame, mkF, argsToLocals, Value.category]; done) | rfl
def R7g : Room := ({ frames := 5, cells := 1, slots := 142, locals := 83 } : Room)
set_option maxRecDepth 65536 in
set_option maxHeartbeats 40000000 in
theorem rm7g (l : Launch) (Z : State) (a0 : Array Value) (hw : ∀ d ∈ tables_1, d.before a0 Z = true) (b : Addr) (a : Addr) (h0 : Heap) (n0 : Nat) (hO : Old Z n0 h0) (v : Addr) (k : Nat) (ws : List Int32) (HB : SBP Z n0 h0 b v k ws) (u : Addr) (zs : List Int32) (HS : SS Z h0 a u zs) (hz : ∀ z ∈ zs, BY z) (n_a_b : a ≠ b) (n_a_v : a ≠ v) (n_u_b : u ≠ b) (n_u_v : u ≠ v) (h0_ : ws.length < k + zs.length) (h1_ : k + zs.length < 2 * ws.length + 2) (h2_ : ws.length < 1000) (hcap : 2 * ws.length + 2 ≤ 142) (G1 : Int32) (O2 : Sta Z Z.heap "java/lang/String" "COMPACT_STRINGS" "Z" (.int G1)) (P5 : ¬ G1 = (0 : Int32)) :
    Con l Z (⟨"java/lang/StringBuilder", "append", "(Ljava/lang/String;)Ljava/lang/StringBuilder;"⟩ : MethodName) jdk_67_method_7_code 2 (some (.object "java/lang/StringBuilder")) [] R7g R7g.cells R7g.slots #[(.ref b), (.ref a)] h0 (AQ Z n0 h0 b v (ws.take k ++ zs) (2 * ws.length + 2)) := by
  refine Con.intro (n0 := n0) (plainFor_of_name pn_4) (fun m => ef_7g m b a) hO ?_
  intro p e s m below meth cc T hs0 X0
  obtain ⟨E_b, Fvalue_b, Fcoder_b, Fcount_b, A_v, g_b, g_v, n_v_b, hk_b, hy_b⟩ := id HB
  obtain ⟨E_a, Fc_a, Fv_a, A_u⟩ := id HS
  refine g_aloadN X0 d7_0 (pc' := 1) rfl rfl rfl ?_
  refine g_aloadN X0 d7_1 (pc' := 2) rfl rfl rfl ?_
  refine g_callU X0 (y := (⟨"java/lang/AbstractStringBuilder", "append", "(Ljava/lang/String;)Ljava/lang/AbstractStringBuilder;"⟩ : MethodName)) (a := b) [(.ref a)] (hw _ m65) (hw _ m66) (hw _ m88) rfl (hw _ m67) (by decide) E_b (hw _ m69) (hw _ m44) (rm8g l Z a0 hw b a h0 n0 X0.old v k ws HB u zs HS hz n_a_b n_a_v n_u_b n_u_v h0_ h1_ h2_ hcap G1 O2 P5) (by decide) (by decide) (by decide) (by decide) (by decide) rfl pd_12 rfl (rest := []) rfl (W := 0) rfl d7_2 (pc' := 5) rfl ?_
  rintro _ T97 h97 L97 Y97 ⟨v97, ws97, rfl, N97, K97, q97, H97, hl97, ht97⟩
  have X97 := Y97 (X0.old.keep K97 (allS g_b (allS g_v all0))) N97
  show Go p e below _ (State.setTop _ (mkF m 5 #[.val (.ref b), .val (.ref a)] [(.ref b)]))
  refine g_pop X97 d7_5 (pc' := 6) rfl rfl ?_
  refine g_aloadN X97 d7_6 (pc' := 7) rfl rfl rfl ?_
  exact g_retA X97 rfl rfl rfl d7_7 (by decide) (by decide) ⟨v97, ws97, rfl, X97.fr, K97, q97, H97, hl97, ht97⟩

theorem d18_0 : decode jdk_35_method_15_code 0 = .ok (.iconst 1, 1) := by decide +kernel
theorem d18_1 : decode jdk_35_method_15_code 1 = .ok (.istore_n 2, 1) := by decide +kernel
theorem d18_2 : decode jdk_35_method_15_code 2 = .ok (.lload_n 0, 1) := by decide +kernel
theorem d18_3 : decode jdk_35_method_15_code 3 = .ok (.lconst 0, 1) := by decide +kernel
theorem d18_4 : decode jdk_35_method_15_code 4 = .ok (.lcmp, 1) := by decide +kernel
theorem d18_5 : decode jdk_35_method_15_code 5 = .ok (.ifCond .lt 8, 3) := by decide +kernel
theorem d18_8 : decode jdk_35_method_15_code 8 = .ok (.iconst 0, 1) := by decide +kernel
theorem d18_9 : decode jdk_35_method_15_code 9 = .ok (.istore_n 2, 1) := by decide +kernel
theorem d18_10 : decode jdk_35_method_15_code 10 = .ok (.lload_n 0, 1) := by decide +kernel
theorem d18_11 : decode jdk_35_method_15_code 11 = .ok (.lneg, 1) := by decide +kernel
theorem d18_12 : decode jdk_35_method_15_code 12 = .ok (.lstore_n 0, 1) := by decide +kernel
theorem d18_13 : decode jdk_35_method_15_code 13 = .ok (.ldc2_w 140, 3) := by decide +kernel
theorem d18_16 : decode jdk_35_method_15_code 16 = .ok (.lstore_n 3, 1) := by decide +kernel
theorem d18_17 : decode jdk_35_method_15_code 17 = .ok (.iconst 1, 1) := by decide +kernel
theorem d18_18 : decode jdk_35_method_15_code 18 = .ok (.istore 5, 2) := by decide +kernel
theorem d18_20 : decode jdk_35_method_15_code 20 = .ok (.iload 5, 2) := by decide +kernel
theorem d18_22 : decode jdk_35_method_15_code 22 = .ok (.bipush 19, 2) := by decide +kernel
theorem d18_24 : decode jdk_35_method_15_code 24 = .ok (.if_icmp .ge 26, 3) := by decide +kernel
theorem d18_27 : decode jdk_35_method_15_code 27 = .ok (.lload_n 0, 1) := by decide +kernel
theorem d18_28 : decode jdk_35_method_15_code 28 = .ok (.lload_n 3, 1) := by decide +kernel
theorem d18_29 : decode jdk_35_method_15_code 29 = .ok (.lcmp, 1) := by decide +kernel
theorem d18_30 : decode jdk_35_method_15_code 30 = .ok (.ifCond .le 8, 3) := by decide +kernel
theorem d18_33 : decode jdk_35_method_15_code 33 = .ok (.iload 5, 2) := by decide +kernel
theorem d18_35 : decode jdk_35_method_15_code 35 = .ok (.iload_n 2, 1) := by decide +kernel
theorem d18_36 : decode jdk_35_method_15_code 36 = .ok (.iadd, 1) := by decide +kernel
theorem d18_37 : decode jdk_35_method_15_code 37 = .ok (.ireturn, 1) := by decide +kernel
theorem ef_18 (m : MethodId) (d : Nat) : entryFrame m #[(.long (Int64.ofNat d))] 6 = mkF m 0 #[.val (.long (Int64.ofNat d)), .second, .unset, .unset, .unset, .unset] [] := by first | (simp [entryFrame, mkF, argsToLocals, Value.category]; done) | rfl
def R18 : Room := ({ frames := 0, cells := 0, slots := 0, locals := 0 } : Room)
set_option maxRecDepth 65536 in
set_option maxHeartbeats 40000000 in
theorem rm18 (l : Launch) (Z : State) (a0 : Array Value) (hw : ∀ d ∈ tables_1, d.before a0 Z = true) (d : Nat) (h0 : Heap) (n0 : Nat) (hO : Old Z n0 h0) (hd : d < 10) :
    Con l Z (⟨"java/lang/Long", "stringSize", "(J)I"⟩ : MethodName) jdk_35_method_15_code 6 (some .int) [] R18 R18.cells R18.slots #[(.long (Int64.ofNat d))] h0 (fun v h L => v = some (.int (1 : Int32)) ∧ h0 = h ∧ L = []) := by
  refine Con.intro (n0 := n0) (plainFor_of_name pn_5) (fun m => ef_18 m d) hO ?_
  intro p e s m below meth cc T hs0 X0
  refine g_iconst X0 d18_0 (pc' := 1) rfl (v := (1 : Int32)) rfl ?_
  refine g_istoreN X0 d18_1 (pc' := 2) rfl (L' := #[.val (.long (Int64.ofNat d)), .second, .val (.int (1 : Int32)), .unset, .unset, .unset]) rfl ?_
  refine g_lloadN X0 d18_2 (pc' := 3) rfl rfl ?_
  refine g_lconst X0 d18_3 (pc' := 4) rfl (v := (0 : Int64)) rfl ?_
  refine g_lcmp_lt X0 d18_4 d18_5 (pt := 13) (by decide) (pc' := 8) rfl (fun q => absurd q (own_ja hd)) (fun hc5 => ?_)
  refine g_iconst X0 d18_8 (pc' := 9) rfl (v := (0 : Int32)) rfl ?_
  refine g_istoreN X0 d18_9 (pc' := 10) rfl (L' := #[.val (.long (Int64.ofNat d)), .second, .val (.int (0 : Int32)), .unset, .unset, .unset]) rfl ?_
  refine g_lloadN X0 d18_10 (pc' := 11) rfl rfl ?_
  refine g_lneg X0 d18_11 (pc' := 12) rfl ?_
  refine g_lstoreN X0 d18_12 (pc' := 13) rfl (L' := #[.val (.long (-(Int64.ofNat d))), .second, .val (.int (0 : Int32)), .unset, .unset, .unset]) rfl ?_
  refine g_ldc2 X0 (hw _ m128) d18_13 (pc' := 16) rfl ?_
  refine g_lstoreN X0 d18_16 (pc' := 17) rfl (L' := #[.val (.long (-(Int64.ofNat d))), .second, .val (.int (0 : Int32)), .val (.long (-10 : Int64)), .second, .unset]) rfl ?_
  refine g_iconst X0 d18_17 (pc' := 18) rfl (v := (1 : Int32)) rfl ?_
  refine g_istore X0 d18_18 (pc' := 20) rfl (L' := #[.val (.long (-(Int64.ofNat d))), .second, .val (.int (0 : Int32)), .val (.long (-10 : Int64)), .second, .val (.int (1 : Int32))]) rfl ?_
  refine g_iload X0 d18_20 (pc' := 22) rfl rfl ?_
  refine g_bipush X0 d18_22 (pc' := 24) rfl (v := (19 : Int32)) rfl ?_
  refine g_icmp_ge_f X0 d18_24 (pc' := 27) rfl (by decide) ?_
  refine g_lloadN X0 d18_27 (pc' := 28) rfl rfl ?_
  refine g_lloadN X0 d18_28 (pc' := 29) rfl rfl ?_
  refine g_lcmp_le X0 d18_29 d18_30 (pt := 38) (by decide) (pc' := 33) rfl (fun q => absurd (own_jc hd) q) (fun hc30 => ?_)
  refine g_iload X0 d18_33 (pc' := 35) rfl rfl ?_
  refine g_iloadN X0 d18_35 (pc' := 36) rfl rfl ?_
  refine g_iadd X0 d18_36 (pc' := 37) rfl ?_
  rw [show ((1 : Int32) + (0 : Int32)) = (1 : Int32) from rfl]
  exact g_retI X0 rfl d18_37 (by decide) (by decide) ⟨rfl, rfl, rfl⟩

theorem d19_0 : decode jdk_68_method_68_code 0 = .ok (.getstatic 18, 3) := by decide +kernel
theorem d19_3 : decode jdk_68_method_68_code 3 = .ok (.ifCond .eq 14, 3) := by decide +kernel
theorem d19_6 : decode jdk_68_method_68_code 6 = .ok (.aload_n 0, 1) := by decide +kernel
theorem d19_7 : decode jdk_68_method_68_code 7 = .ok (.getfield 22, 3) := by decide +kernel
theorem d19_10 : decode jdk_68_method_68_code 10 = .ok (.ifCond .ne 7, 3) := by decide +kernel
theorem d19_13 : decode jdk_68_method_68_code 13 = .ok (.iconst 1, 1) := by decide +kernel
theorem d19_14 : decode jdk_68_method_68_code 14 = .ok (.goto 4, 3) := by decide +kernel
theorem d19_18 : decode jdk_68_method_68_code 18 = .ok (.ireturn, 1) := by decide +kernel
theorem ef_19 (m : MethodId) (b : Addr) : entryFrame m #[(.ref b)] 1 = mkF m 0 #[.val (.ref b)] [] := by first | (simp [entryFrame, mkF, argsToLocals, Value.category]; done) | rfl
def R19 : Room := ({ frames := 0, cells := 0, slots := 0, locals := 0 } : Room)
set_option maxRecDepth 65536 in
set_option maxHeartbeats 40000000 in
theorem rm19 (l : Launch) (Z : State) (a0 : Array Value) (hw : ∀ d ∈ tables_1, d.before a0 Z = true) (b : Addr) (h0 : Heap) (n0 : Nat) (hO : Old Z n0 h0) (v : Addr) (k : Nat) (ws : List Int32) (HB : SBP Z n0 h0 b v k ws) (G1 : Int32) (O2 : Sta Z Z.heap "java/lang/String" "COMPACT_STRINGS" "Z" (.int G1)) (P5 : ¬ G1 = (0 : Int32)) :
    Con l Z (⟨"java/lang/AbstractStringBuilder", "isLatin1", "()Z"⟩ : MethodName) jdk_68_method_68_code 1 (some .boolean) [] R19 R19.cells R19.slots #[(.ref b)] h0 (fun v h L => v = some (.int (1 : Int32)) ∧ h0 = h ∧ L = []) := by
  refine Con.intro (n0 := n0) (plainFor_of_name pn_2) (fun m => ef_19 m b) hO ?_
  intro p e s m below meth cc T hs0 X0
  obtain ⟨E_b, Fvalue_b, Fcoder_b, Fcount_b, A_v, g_b, g_v, n_v_b, hk_b, hy_b⟩ := id HB
  refine g_getS X0 (hw _ m47) (O2.ext X0.old.2) d19_0 (pc' := 3) rfl (fun T98 X98 => ?_)
  refine g_if_eq_f X98 d19_3 (pc' := 6) rfl P5 ?_
  refine g_aloadN X98 d19_6 (pc' := 7) rfl rfl rfl ?_
  refine g_getF X98 (host := "") (Or.inl (hw _ m52)) Via.refl Fcoder_b d19_7 (pc' := 10) rfl (fun T99 X99 => ?_)
  refine g_if_ne_f X99 d19_10 (pc' := 13) rfl (by decide) ?_
  refine g_iconst X99 d19_13 (pc' := 14) rfl (v := (1 : Int32)) rfl ?_
  refine g_goto X99 d19_14 (pt := 18) (by decide) ?_
  exact g_retN X99 (by decide) rfl d19_18 (by decide) (by decide) ⟨rfl, rfl, rfl⟩

theorem d20_0 : decode jdk_35_method_14_code 0 = .ok (.iload_n 2, 1) := by decide +kernel
theorem d20_1 : decode jdk_35_method_14_code 1 = .ok (.istore 7, 2) := by decide +kernel
theorem d20_3 : decode jdk_35_method_14_code 3 = .ok (.lload_n 0, 1) := by decide +kernel
theorem d20_4 : decode jdk_35_method_14_code 4 = .ok (.lconst 0, 1) := by decide +kernel
theorem d20_5 : decode jdk_35_method_14_code 5 = .ok (.lcmp, 1) := by decide +kernel
theorem d20_6 : decode jdk_35_method_14_code 6 = .ok (.ifCond .ge 7, 3) := by decide +kernel
theorem d20_13 : decode jdk_35_method_14_code 13 = .ok (.iconst 0, 1) := by decide +kernel
theorem d20_14 : decode jdk_35_method_14_code 14 = .ok (.istore 8, 2) := by decide +kernel
theorem d20_16 : decode jdk_35_method_14_code 16 = .ok (.iload 8, 2) := by decide +kernel
theorem d20_18 : decode jdk_35_method_14_code 18 = .ok (.ifCond .ne 6, 3) := by decide +kernel
theorem d20_21 : decode jdk_35_method_14_code 21 = .ok (.lload_n 0, 1) := by decide +kernel
theorem d20_22 : decode jdk_35_method_14_code 22 = .ok (.lneg, 1) := by decide +kernel
theorem d20_23 : decode jdk_35_method_14_code 23 = .ok (.lstore_n 0, 1) := by decide +kernel
theorem d20_24 : decode jdk_35_method_14_code 24 = .ok (.lload_n 0, 1) := by decide +kernel
theorem d20_25 : decode jdk_35_method_14_code 25 = .ok (.ldc2_w 129, 3) := by decide +kernel
theorem d20_28 : decode jdk_35_method_14_code 28 = .ok (.lcmp, 1) := by decide +kernel
theorem d20_29 : decode jdk_35_method_14_code 29 = .ok (.ifCond .gt 53, 3) := by decide +kernel
theorem d20_82 : decode jdk_35_method_14_code 82 = .ok (.lload_n 0, 1) := by decide +kernel
theorem d20_83 : decode jdk_35_method_14_code 83 = .ok (.l2i, 1) := by decide +kernel
theorem d20_84 : decode jdk_35_method_14_code 84 = .ok (.istore 10, 2) := by decide +kernel
theorem d20_86 : decode jdk_35_method_14_code 86 = .ok (.iload 10, 2) := by decide +kernel
theorem d20_88 : decode jdk_35_method_14_code 88 = .ok (.bipush (-100), 2) := by decide +kernel
theorem d20_90 : decode jdk_35_method_14_code 90 = .ok (.if_icmp .gt 53, 3) := by decide +kernel
theorem d20_143 : decode jdk_35_method_14_code 143 = .ok (.aload_n 3, 1) := by decide +kernel
theorem d20_144 : decode jdk_35_method_14_code 144 = .ok (.iinc 7 (-1), 3) := by decide +kernel
theorem d20_147 : decode jdk_35_method_14_code 147 = .ok (.iload 7, 2) := by decide +kernel
theorem d20_149 : decode jdk_35_method_14_code 149 = .ok (.getstatic 133, 3) := by decide +kernel
theorem d20_152 : decode jdk_35_method_14_code 152 = .ok (.iload 10, 2) := by decide +kernel
theorem d20_154 : decode jdk_35_method_14_code 154 = .ok (.ineg, 1) := by decide +kernel
theorem d20_155 : decode jdk_35_method_14_code 155 = .ok (.baload, 1) := by decide +kernel
theorem d20_156 : decode jdk_35_method_14_code 156 = .ok (.bastore, 1) := by decide +kernel
theorem d20_157 : decode jdk_35_method_14_code 157 = .ok (.iload 10, 2) := by decide +kernel
theorem d20_159 : decode jdk_35_method_14_code 159 = .ok (.bipush (-9), 2) := by decide +kernel
theorem d20_161 : decode jdk_35_method_14_code 161 = .ok (.if_icmp .ge 17, 3) := by decide +kernel
theorem d20_178 : decode jdk_35_method_14_code 178 = .ok (.iload 8, 2) := by decide +kernel
theorem d20_180 : decode jdk_35_method_14_code 180 = .ok (.ifCond .eq 12, 3) := by decide +kernel
theorem d20_192 : decode jdk_35_method_14_code 192 = .ok (.iload 7, 2) := by decide +kernel
theorem d20_194 : decode jdk_35_method_14_code 194 = .ok (.ireturn, 1) := by decide +kernel
theorem ef_20 (m : MethodId) (d : Nat) (k : Nat) (v : Addr) : entryFrame m #[(.long (Int64.ofNat d)), (.int (Int32.ofNat (k + 1))), (.ref v)] 11 = mkF m 0 #[.val (.long (Int64.ofNat d)), .second, .val (.int (Int32.ofNat (k + 1))), .val (.ref v), .unset, .unset, .unset, .unset, .unset, .unset, .unset] [] := by first | (simp [entryFrame, mkF, argsToLocals, Value.category]; done) | rfl
def R20 : Room := ({ frames := 0, cells := 0, slots := 0, locals := 0 } : Room)
set_option maxRecDepth 65536 in
set_option maxHeartbeats 40000000 in
theorem rm20 (l : Launch) (Z : State) (a0 : Array Value) (hw : ∀ d ∈ tables_1, d.before a0 Z = true) (d : Nat) (k : Nat) (v : Addr) (h0 : Heap) (n0 : Nat) (hO : Old Z n0 h0) (ws : List Int32) (A_v : Arx Z h0 v .byte (own_bs ws)) (g_v : n0 ≤ v) (hkl : k < ws.length) (hcap : ws.length ≤ 142) (hd : d < 10) (dg : Addr) (tb : List Int32) (OD : Sta Z Z.heap "java/lang/Integer" "DigitOnes" "[B" (.ref dg)) (AD : Arx Z Z.heap dg .byte (own_bs tb)) (hdg : ∀ i, i < 10 → (own_bs tb)[i]? = some (.int (Int32.ofNat (48 + i)))) :
    Con l Z (⟨"java/lang/Long", "getChars", "(JI[B)I"⟩ : MethodName) jdk_35_method_14_code 11 (some .int) [] R20 R20.cells R20.slots #[(.long (Int64.ofNat d)), (.int (Int32.ofNat (k + 1))), (.ref v)] h0 (fun r h L => ∃ z : Int32, r = some (.int z) ∧ Fr n0 L ∧ Keep h0 h [v] ∧ Arx Z h v .byte (own_bs (own_put ws k [Int32.ofNat (48 + d)]))) := by
  refine Con.intro (n0 := n0) (plainFor_of_name pn_5) (fun m => ef_20 m d k v) hO ?_
  intro p e s m below meth cc T hs0 X0
  have AD' := AD.ext X0.old.2
  refine g_iloadN X0 d20_0 (pc' := 1) rfl rfl ?_
  refine g_istore X0 d20_1 (pc' := 3) rfl (L' := #[.val (.long (Int64.ofNat d)), .second, .val (.int (Int32.ofNat (k + 1))), .val (.ref v), .unset, .unset, .unset, .val (.int (Int32.ofNat (k + 1))), .unset, .unset, .unset]) rfl ?_
  refine g_lloadN X0 d20_3 (pc' := 4) rfl rfl ?_
  refine g_lconst X0 d20_4 (pc' := 5) rfl (v := (0 : Int64)) rfl ?_
  refine g_lcmp_ge X0 d20_5 d20_6 (pt := 13) (by decide) (pc' := 9) rfl (fun hc6 => ?_) (fun q => absurd q (own_ja hd))
  refine g_iconst X0 d20_13 (pc' := 14) rfl (v := (0 : Int32)) rfl ?_
  refine g_istore X0 d20_14 (pc' := 16) rfl (L' := #[.val (.long (Int64.ofNat d)), .second, .val (.int (Int32.ofNat (k + 1))), .val (.ref v), .unset, .unset, .unset, .val (.int (Int32.ofNat (k + 1))), .val (.int (0 : Int32)), .unset, .unset]) rfl ?_
  refine g_iload X0 d20_16 (pc' := 18) rfl rfl ?_
  refine g_if_ne_f X0 d20_18 (pc' := 21) rfl (by decide) ?_
  refine g_lloadN X0 d20_21 (pc' := 22) rfl rfl ?_
  refine g_lneg X0 d20_22 (pc' := 23) rfl ?_
  refine g_lstoreN X0 d20_23 (pc' := 24) rfl (L' := #[.val (.long (-(Int64.ofNat d))), .second, .val (.int (Int32.ofNat (k + 1))), .val (.ref v), .unset, .unset, .unset, .val (.int (Int32.ofNat (k + 1))), .val (.int (0 : Int32)), .unset, .unset]) rfl ?_
  refine g_lloadN X0 d20_24 (pc' := 25) rfl rfl ?_
  refine g_ldc2 X0 (hw _ m137) d20_25 (pc' := 28) rfl ?_
  refine g_lcmp_gt X0 d20_28 d20_29 (pt := 82) (by decide) (pc' := 32) rfl (fun hc29 => ?_) (fun q => absurd (own_jb hd) q)
  refine g_lloadN X0 d20_82 (pc' := 83) rfl rfl ?_
  refine g_l2i X0 d20_83 (pc' := 84) rfl ?_
  rw [own_jd hd]
  refine g_istore X0 d20_84 (pc' := 86) rfl (L' := #[.val (.long (-(Int64.ofNat d))), .second, .val (.int (Int32.ofNat (k + 1))), .val (.ref v), .unset, .unset, .unset, .val (.int (Int32.ofNat (k + 1))), .val (.int (0 : Int32)), .unset, .val (.int (-(Int32.ofNat d)))]) rfl ?_
  refine g_iload X0 d20_86 (pc' := 88) rfl rfl ?_
  refine g_bipush X0 d20_88 (pc' := 90) rfl (v := (-100 : Int32)) rfl ?_
  refine g_icmp_gt_t X0 d20_90 (pt := 143) (by decide) (own_je hd) ?_
  refine g_aloadN X0 d20_143 (pc' := 144) rfl rfl rfl ?_
  refine g_iinc X0 d20_144 (pc' := 147) rfl rfl (L' := #[.val (.long (-(Int64.ofNat d))), .second, .val (.int (Int32.ofNat (k + 1))), .val (.ref v), .unset, .unset, .unset, .val (.int ((Int32.ofNat (k + 1)) + (-1 : Int32))), .val (.int (0 : Int32)), .unset, .val (.int (-(Int32.ofNat d)))]) rfl ?_
  refine g_iload X0 d20_147 (pc' := 149) rfl rfl ?_
  rw [own_pred]
  refine g_getS X0 (hw _ m138) (OD.ext X0.old.2) d20_149 (pc' := 152) rfl (fun T100 X100 => ?_)
  refine g_iload X100 d20_152 (pc' := 154) rfl rfl ?_
  refine g_ineg X100 d20_154 (pc' := 155) rfl ?_
  rw [Int32.neg_neg]
  refine g_baload X100 (i := d) (v := (.int (Int32.ofNat (48 + d)))) AD' (own_small (by omega)) (hdg d hd) d20_155 (pc' := 156) rfl ?_
  refine g_bastore X100 (i := k) A_v (own_small (by omega)) (by rw [own_bs_len]; exact hkl) g_v d20_156 (pc' := 157) rfl (fun T101 h101 X101 W101 A101 => ?_)
  rw [own_nbd hd, own_set1 _ hkl] at A101
  refine g_iload X101 d20_157 (pc' := 159) rfl rfl ?_
  refine g_bipush X101 d20_159 (pc' := 161) rfl (v := (-9 : Int32)) rfl ?_
  refine g_icmp_ge_t X101 d20_161 (pt := 178) (by decide) (own_jf hd) ?_
  refine g_iload X101 d20_178 (pc' := 180) rfl rfl ?_
  refine g_if_eq_t X101 d20_180 (pt := 192) (by decide) (by decide) ?_
  refine g_iload X101 d20_192 (pc' := 194) rfl rfl ?_
  have k102 := (Keep.refl h0 [v]).wr W101 (Or.inl (by simp))
  exact g_retI X101 rfl d20_194 (by decide) (by decide) ⟨_, rfl, X101.fr, k102, A101⟩

theorem d17_0 : decode jdk_68_method_33_code 0 = .ok (.aload_n 0, 1) := by decide +kernel
theorem d17_1 : decode jdk_68_method_33_code 1 = .ok (.getfield 79, 3) := by decide +kernel
theorem d17_4 : decode jdk_68_method_33_code 4 = .ok (.istore_n 3, 1) := by decide +kernel
theorem d17_5 : decode jdk_68_method_33_code 5 = .ok (.iload_n 3, 1) := by decide +kernel
theorem d17_6 : decode jdk_68_method_33_code 6 = .ok (.lload_n 1, 1) := by decide +kernel
theorem d17_7 : decode jdk_68_method_33_code 7 = .ok (.invokestatic 254, 3) := by decide +kernel
theorem d17_10 : decode jdk_68_method_33_code 10 = .ok (.iadd, 1) := by decide +kernel
theorem d17_11 : decode jdk_68_method_33_code 11 = .ok (.istore 4, 2) := by decide +kernel
theorem d17_13 : decode jdk_68_method_33_code 13 = .ok (.aload_n 0, 1) := by decide +kernel
theorem d17_14 : decode jdk_68_method_33_code 14 = .ok (.iload 4, 2) := by decide +kernel
theorem d17_16 : decode jdk_68_method_33_code 16 = .ok (.invokevirtual 100, 3) := by decide +kernel
theorem d17_19 : decode jdk_68_method_33_code 19 = .ok (.aload_n 0, 1) := by decide +kernel
theorem d17_20 : decode jdk_68_method_33_code 20 = .ok (.invokevirtual 83, 3) := by decide +kernel
theorem d17_23 : decode jdk_68_method_33_code 23 = .ok (.ifCond .eq 17, 3) := by decide +kernel
theorem d17_26 : decode jdk_68_method_33_code 26 = .ok (.lload_n 1, 1) := by decide +kernel
theorem d17_27 : decode jdk_68_method_33_code 27 = .ok (.iload 4, 2) := by decide +kernel
theorem d17_29 : decode jdk_68_method_33_code 29 = .ok (.aload_n 0, 1) := by decide +kernel
theorem d17_30 : decode jdk_68_method_33_code 30 = .ok (.getfield 15, 3) := by decide +kernel
theorem d17_33 : decode jdk_68_method_33_code 33 = .ok (.invokestatic 259, 3) := by decide +kernel
theorem d17_36 : decode jdk_68_method_33_code 36 = .ok (.pop, 1) := by decide +kernel
theorem d17_37 : decode jdk_68_method_33_code 37 = .ok (.goto 15, 3) := by decide +kernel
theorem d17_52 : decode jdk_68_method_33_code 52 = .ok (.aload_n 0, 1) := by decide +kernel
theorem d17_53 : decode jdk_68_method_33_code 53 = .ok (.iload 4, 2) := by decide +kernel
theorem d17_55 : decode jdk_68_method_33_code 55 = .ok (.putfield 79, 3) := by decide +kernel
theorem d17_58 : decode jdk_68_method_33_code 58 = .ok (.aload_n 0, 1) := by decide +kernel
theorem d17_59 : decode jdk_68_method_33_code 59 = .ok (.areturn, 1) := by decide +kernel
theorem ef_17 (m : MethodId) (b : Addr) (d : Nat) : entryFrame m #[(.ref b), (.long (Int64.ofNat d))] 5 = mkF m 0 #[.val (.ref b), .val (.long (Int64.ofNat d)), .second, .unset, .unset] [] := by first | (simp [entryFrame, mkF, argsToLocals, Value.category]; done) | rfl
def R17 : Room := ({ frames := 1, cells := 0, slots := 0, locals := 22 } : Room)
set_option maxRecDepth 65536 in
set_option maxHeartbeats 40000000 in
theorem rm17 (l : Launch) (Z : State) (a0 : Array Value) (hw : ∀ d ∈ tables_1, d.before a0 Z = true) (b : Addr) (d : Nat) (h0 : Heap) (n0 : Nat) (hO : Old Z n0 h0) (v : Addr) (k : Nat) (ws : List Int32) (HB : SBP Z n0 h0 b v k ws) (hd : d < 10) (hfit : k + 1 ≤ ws.length) (hcap : ws.length ≤ 142) (G1 : Int32) (O2 : Sta Z Z.heap "java/lang/String" "COMPACT_STRINGS" "Z" (.int G1)) (P5 : ¬ G1 = (0 : Int32)) (dg : Addr) (tb : List Int32) (OD : Sta Z Z.heap "java/lang/Integer" "DigitOnes" "[B" (.ref dg)) (AD : Arx Z Z.heap dg .byte (own_bs tb)) (hdg : ∀ i, i < 10 → (own_bs tb)[i]? = some (.int (Int32.ofNat (48 + i)))) :
    Con l Z (⟨"java/lang/AbstractStringBuilder", "append", "(J)Ljava/lang/AbstractStringBuilder;"⟩ : MethodName) jdk_68_method_33_code 5 (some (.object "java/lang/AbstractStringBuilder")) [] R17 R17.cells R17.slots #[(.ref b), (.long (Int64.ofNat d))] h0 (AQ Z n0 h0 b v (ws.take k ++ [Int32.ofNat (48 + d)]) ws.length) := by
  refine Con.intro (n0 := n0) (plainFor_of_name pn_2) (fun m => ef_17 m b d) hO ?_
  intro p e s m below meth cc T hs0 X0
  obtain ⟨E_b, Fvalue_b, Fcoder_b, Fcount_b, A_v, g_b, g_v, n_v_b, hk_b, hy_b⟩ := id HB
  refine g_aloadN X0 d17_0 (pc' := 1) rfl rfl rfl ?_
  refine g_getF X0 (host := "") (Or.inl (hw _ m83)) Via.refl Fcount_b d17_1 (pc' := 4) rfl (fun T103 X103 => ?_)
  refine g_istoreN X103 d17_4 (pc' := 5) rfl (L' := #[.val (.ref b), .val (.long (Int64.ofNat d)), .second, .val (.int (Int32.ofNat k)), .unset]) rfl ?_
  refine g_iloadN X103 d17_5 (pc' := 6) rfl rfl ?_
  refine g_lloadN X103 d17_6 (pc' := 7) rfl rfl ?_
  refine g_callS X103 (y := (⟨"java/lang/Long", "stringSize", "(J)I"⟩ : MethodName)) [(.long (Int64.ofNat d))] (hw _ m124) (hw _ m125) (hw _ m126) (hw _ m127) (hw _ m126) (rm18 l Z a0 hw d h0 n0 X103.old hd) (by decide) (by decide) (by decide) (by decide) (by decide) rfl pd_13 rfl (rest := [(.int (Int32.ofNat k))]) rfl (W := 1) rfl d17_7 (pc' := 10) rfl ?_
  rintro _ T104 _ _ Y104 ⟨rfl, rfl, rfl⟩
  have X104 := Y104 X103.old (Fr.nil _)
  show Go p e below _ (State.setTop _ (mkF m 10 #[.val (.ref b), .val (.long (Int64.ofNat d)), .second, .val (.int (Int32.ofNat k)), .unset] [(.int (1 : Int32)), (.int (Int32.ofNat k))]))
  refine g_iadd X104 d17_10 (pc' := 11) rfl ?_
  rw [own_succ]
  refine g_istore X104 d17_11 (pc' := 13) rfl (L' := #[.val (.ref b), .val (.long (Int64.ofNat d)), .second, .val (.int (Int32.ofNat k)), .val (.int (Int32.ofNat (k + 1)))]) rfl ?_
  refine g_aloadN X104 d17_13 (pc' := 14) rfl rfl rfl ?_
  refine g_iload X104 d17_14 (pc' := 16) rfl rfl ?_
  refine g_callQ X104 (y := (⟨"java/lang/AbstractStringBuilder", "ensureCapacityInternal", "(I)V"⟩ : MethodName)) (a := b) [(.int (Int32.ofNat (k + 1)))] (hw _ m85) (hw _ m86) (hw _ m87) (hw _ m88) E_b (hw _ m89) (hw _ m44) (rm11 l Z a0 hw b (k + 1) h0 n0 X104.old v k ws ⟨E_b, Fvalue_b, Fcoder_b, Fcount_b, A_v, g_b, g_v, n_v_b, hk_b, hy_b⟩ hfit hcap) (by decide) (by decide) (by decide) (by decide) (by decide) rfl pd_10 rfl (rest := []) rfl (W := 0) rfl d17_16 (pc' := 19) rfl ?_
  rintro _ T105 _ _ Y105 ⟨rfl, rfl, rfl⟩
  have X105 := Y105 X104.old (Fr.nil _)
  show Go p e below _ (State.setTop _ (mkF m 19 #[.val (.ref b), .val (.long (Int64.ofNat d)), .second, .val (.int (Int32.ofNat k)), .val (.int (Int32.ofNat (k + 1)))] []))
  refine g_aloadN X105 d17_19 (pc' := 20) rfl rfl rfl ?_
  refine g_callV X105 (y := (⟨"java/lang/AbstractStringBuilder", "isLatin1", "()Z"⟩ : MethodName)) (z := (⟨"java/lang/AbstractStringBuilder", "isLatin1", "()Z"⟩ : MethodName)) (a := b) [] (hw _ m129) (hw _ m130) (notFace_of_selects (args := #[]) (mvT X105.hZ (hw _ m132))) (hw _ m132) (hw _ m131) E_b (hw _ m133) (hw _ m44) (rm19 l Z a0 hw b h0 n0 X105.old v k ws ⟨E_b, Fvalue_b, Fcoder_b, Fcount_b, A_v, g_b, g_v, n_v_b, hk_b, hy_b⟩ G1 O2 P5) (by decide) (by decide) (by decide) (by decide) (by decide) rfl pd_14 rfl (rest := []) rfl (W := 0) rfl d17_20 (pc' := 23) rfl ?_
  rintro _ T106 _ _ Y106 ⟨rfl, rfl, rfl⟩
  have X106 := Y106 X105.old (Fr.nil _)
  show Go p e below _ (State.setTop _ (mkF m 23 #[.val (.ref b), .val (.long (Int64.ofNat d)), .second, .val (.int (Int32.ofNat k)), .val (.int (Int32.ofNat (k + 1)))] [(.int (1 : Int32))]))
  refine g_if_eq_f X106 d17_23 (pc' := 26) rfl (by decide) ?_
  refine g_lloadN X106 d17_26 (pc' := 27) rfl rfl ?_
  refine g_iload X106 d17_27 (pc' := 29) rfl rfl ?_
  refine g_aloadN X106 d17_29 (pc' := 30) rfl rfl rfl ?_
  refine g_getF X106 (host := "") (Or.inl (hw _ m50)) Via.refl Fvalue_b d17_30 (pc' := 33) rfl (fun T107 X107 => ?_)
  refine g_callS X107 (y := (⟨"java/lang/Long", "getChars", "(JI[B)I"⟩ : MethodName)) [(.long (Int64.ofNat d)), (.int (Int32.ofNat (k + 1))), (.ref v)] (hw _ m134) (hw _ m135) (hw _ m126) (hw _ m136) (hw _ m126) (rm20 l Z a0 hw d k v h0 n0 X107.old ws A_v g_v hfit hcap hd dg tb OD AD hdg) (by decide) (by decide) (by decide) (by decide) (by decide) rfl pd_15 rfl (rest := []) rfl (W := 0) rfl d17_33 (pc' := 36) rfl ?_
  rintro _ T108 h108 L108 Y108 ⟨z108, rfl, N108, K108, A108x⟩
  have X108 := Y108 (X107.old.keep K108 (allS g_v all0)) N108
  show Go p e below _ (State.setTop _ (mkF m 36 #[.val (.ref b), .val (.long (Int64.ofNat d)), .second, .val (.int (Int32.ofNat k)), .val (.int (Int32.ofNat (k + 1)))] [(.int z108)]))
  refine g_pop X108 d17_36 (pc' := 37) rfl rfl ?_
  refine g_goto X108 d17_37 (pt := 52) (by decide) ?_
  refine g_aloadN X108 d17_52 (pc' := 53) rfl rfl rfl ?_
  refine g_iload X108 d17_53 (pc' := 55) rfl rfl ?_
  have f109 := (Fcount_b.keep K108 (nm1 (Ne.symm n_v_b)))
  have f110 := (E_b.keep K108)
  refine g_putF X108 (host := "") (Or.inl (hw _ m83)) Via.refl f109 f110 (Or.inl (hw _ m84)) (hw _ m35) (ty := .int) (by decide) rfl rfl g_b d17_55 (pc' := 58) rfl (fun T111 h111 X111 W111 => ?_)
  have F111 := f109.same W111
  refine g_aloadN X111 d17_58 (pc' := 59) rfl rfl rfl ?_
  have k112 := (Keep.refl h0 [b, v]).trans K108 (allS (Or.inl (by simp)) all0)
  have k113 := k112.wr W111 (Or.inl (by simp))
  have f114 := (f110.wr W111)
  have f115 := ((Fvalue_b.keep K108 (nm1 (Ne.symm n_v_b))).other W111 (Or.inr (slot_ne (Or.inl (hw _ m51)) (Or.inl (hw _ m84)) (by decide) (t := (.array .byte)) (t' := .int) (by decide) (by decide))))
  have f116 := ((Fcoder_b.keep K108 (nm1 (Ne.symm n_v_b))).other W111 (Or.inr (slot_ne (Or.inl (hw _ m53)) (Or.inl (hw _ m84)) (by decide) (t := .byte) (t' := .int) (by decide) (by decide))))
  have f117 := (A108x.other W111 n_v_b)
  exact g_retA X111 rfl rfl rfl d17_59 (by decide) (by decide) (own_aq (ws' := ws) (zs := [Int32.ofNat (48 + d)]) hk_b rfl X111.fr k113 (Or.inl rfl) ⟨f114, f115, f116, F111, f117, g_b, g_v, n_v_b, (by rw [own_put_len (zs := [Int32.ofNat (48 + d)]) hfit]; exact hfit), (own_put_by hy_b (own_byd hd))⟩ rfl hfit rfl)

theorem d16_0 : decode jdk_67_method_16_code 0 = .ok (.aload_n 0, 1) := by decide +kernel
theorem d16_1 : decode jdk_67_method_16_code 1 = .ok (.lload_n 1, 1) := by decide +kernel
theorem d16_2 : decode jdk_67_method_16_code 2 = .ok (.invokespecial 56, 3) := by decide +kernel
theorem d16_5 : decode jdk_67_method_16_code 5 = .ok (.pop, 1) := by decide +kernel
theorem d16_6 : decode jdk_67_method_16_code 6 = .ok (.aload_n 0, 1) := by decide +kernel
theorem d16_7 : decode jdk_67_method_16_code 7 = .ok (.areturn, 1) := by decide +kernel
theorem ef_16 (m : MethodId) (b : Addr) (d : Nat) : entryFrame m #[(.ref b), (.long (Int64.ofNat d))] 3 = mkF m 0 #[.val (.ref b), .val (.long (Int64.ofNat d)), .second] [] := by first | (simp [entryFrame, mkF, argsToLocals, Value.category]; done) | rfl
def R16 : Room := ({ frames := 2, cells := 0, slots := 0, locals := 38 } : Room)
set_option maxRecDepth 65536 in
set_option maxHeartbeats 40000000 in
theorem rm16 (l : Launch) (Z : State) (a0 : Array Value) (hw : ∀ d ∈ tables_1, d.before a0 Z = true) (b : Addr) (d : Nat) (h0 : Heap) (n0 : Nat) (hO : Old Z n0 h0) (v : Addr) (k : Nat) (ws : List Int32) (HB : SBP Z n0 h0 b v k ws) (hd : d < 10) (hfit : k + 1 ≤ ws.length) (hcap : ws.length ≤ 142) (G1 : Int32) (O2 : Sta Z Z.heap "java/lang/String" "COMPACT_STRINGS" "Z" (.int G1)) (P5 : ¬ G1 = (0 : Int32)) (dg : Addr) (tb : List Int32) (OD : Sta Z Z.heap "java/lang/Integer" "DigitOnes" "[B" (.ref dg)) (AD : Arx Z Z.heap dg .byte (own_bs tb)) (hdg : ∀ i, i < 10 → (own_bs tb)[i]? = some (.int (Int32.ofNat (48 + i)))) :
    Con l Z (⟨"java/lang/StringBuilder", "append", "(J)Ljava/lang/StringBuilder;"⟩ : MethodName) jdk_67_method_16_code 3 (some (.object "java/lang/StringBuilder")) [] R16 R16.cells R16.slots #[(.ref b), (.long (Int64.ofNat d))] h0 (AQ Z n0 h0 b v (ws.take k ++ [Int32.ofNat (48 + d)]) ws.length) := by
  refine Con.intro (n0 := n0) (plainFor_of_name pn_4) (fun m => ef_16 m b d) hO ?_
  intro p e s m below meth cc T hs0 X0
  obtain ⟨E_b, Fvalue_b, Fcoder_b, Fcount_b, A_v, g_b, g_v, n_v_b, hk_b, hy_b⟩ := id HB
  refine g_aloadN X0 d16_0 (pc' := 1) rfl rfl rfl ?_
  refine g_lloadN X0 d16_1 (pc' := 2) rfl rfl ?_
  refine g_callU X0 (y := (⟨"java/lang/AbstractStringBuilder", "append", "(J)Ljava/lang/AbstractStringBuilder;"⟩ : MethodName)) (a := b) [(.long (Int64.ofNat d))] (hw _ m120) (hw _ m121) (hw _ m88) rfl (hw _ m67) (by decide) E_b (hw _ m123) (hw _ m44) (rm17 l Z a0 hw b d h0 n0 X0.old v k ws HB hd hfit hcap G1 O2 P5 dg tb OD AD hdg) (by decide) (by decide) (by decide) (by decide) (by decide) rfl pd_16 rfl (rest := []) rfl (W := 0) rfl d16_2 (pc' := 5) rfl ?_
  rintro _ T118 h118 L118 Y118 ⟨v118, ws118, rfl, N118, K118, q118, H118, hl118, ht118⟩
  have X118 := Y118 (X0.old.keep K118 (allS g_b (allS g_v all0))) N118
  show Go p e below _ (State.setTop _ (mkF m 5 #[.val (.ref b), .val (.long (Int64.ofNat d)), .second] [(.ref b)]))
  refine g_pop X118 d16_5 (pc' := 6) rfl rfl ?_
  refine g_aloadN X118 d16_6 (pc' := 7) rfl rfl rfl ?_
  exact g_retA X118 rfl rfl rfl d16_7 (by decide) (by decide) ⟨v118, ws118, rfl, X118.fr, K118, q118, H118, hl118, ht118⟩

theorem d6_0 : decode jdk_68_method_2_code 0 = .ok (.aload_n 0, 1) := by decide +kernel
theorem d6_1 : decode jdk_68_method_2_code 1 = .ok (.invokespecial 3, 3) := by decide +kernel
theorem d6_4 : decode jdk_68_method_2_code 4 = .ok (.getstatic 18, 3) := by decide +kernel
theorem d6_7 : decode jdk_68_method_2_code 7 = .ok (.ifCond .eq 18, 3) := by decide +kernel
theorem d6_10 : decode jdk_68_method_2_code 10 = .ok (.aload_n 0, 1) := by decide +kernel
theorem d6_11 : decode jdk_68_method_2_code 11 = .ok (.iload_n 1, 1) := by decide +kernel
theorem d6_12 : decode jdk_68_method_2_code 12 = .ok (.newarray .byte, 2) := by decide +kernel
theorem d6_14 : decode jdk_68_method_2_code 14 = .ok (.putfield 15, 3) := by decide +kernel
theorem d6_17 : decode jdk_68_method_2_code 17 = .ok (.aload_n 0, 1) := by decide +kernel
theorem d6_18 : decode jdk_68_method_2_code 18 = .ok (.iconst 0, 1) := by decide +kernel
theorem d6_19 : decode jdk_68_method_2_code 19 = .ok (.putfield 22, 3) := by decide +kernel
theorem d6_22 : decode jdk_68_method_2_code 22 = .ok (.goto 16, 3) := by decide +kernel
theorem d6_38 : decode jdk_68_method_2_code 38 = .ok (.return_, 1) := by decide +kernel
theorem ef_6 (m : MethodId) (b : Addr) : entryFrame m #[(.ref b), (.int (16 : Int32))] 2 = mkF m 0 #[.val (.ref b), .val (.int (16 : Int32))] [] := by first | (simp [entryFrame, mkF, argsToLocals, Value.category]; done) | rfl
def R6 : Room := ({ frames := 1, cells := 1, slots := 16, locals := 12 } : Room)
set_option maxRecDepth 65536 in
set_option maxHeartbeats 40000000 in
theorem rm6 (l : Launch) (Z : State) (a0 : Array Value) (hw : ∀ d ∈ tables_1, d.before a0 Z = true) (b : Addr) (h0 : Heap) (n0 : Nat) (hO : Old Z n0 h0) (E_b : Exa Z h0 b "java/lang/StringBuilder") (g_b : n0 ≤ b) (Fvalue_b : Fld Z h0 b "java/lang/AbstractStringBuilder" "value" "[B" .null) (Fcoder_b : Fld Z h0 b "java/lang/AbstractStringBuilder" "coder" "B" (.int (0 : Int32))) (Fcount_b : Fld Z h0 b "java/lang/AbstractStringBuilder" "count" "I" (.int (0 : Int32))) (G1 : Int32) (O2 : Sta Z Z.heap "java/lang/String" "COMPACT_STRINGS" "Z" (.int G1)) (P5 : ¬ G1 = (0 : Int32)) :
    Con l Z (⟨"java/lang/AbstractStringBuilder", "<init>", "(I)V"⟩ : MethodName) jdk_68_method_2_code 2 none [] R6 R6.cells R6.slots #[(.ref b), (.int (16 : Int32))] h0 (fun r h L => ∃ v : Addr, r = none ∧ Fr n0 L ∧ Keep h0 h [b] ∧ h0.size ≤ v ∧ SBP Z n0 h b v 0 (List.replicate 16 0)) := by
  refine Con.intro (n0 := n0) (plainFor_of_name pn_2) (fun m => ef_6 m b) hO ?_
  intro p e s m below meth cc T hs0 X0
  refine g_aloadN X0 d6_0 (pc' := 1) rfl rfl rfl ?_
  refine g_initO X0 (hw _ m46) (hw _ m15) (hw _ m16) rfl d6_1 (pc' := 4) rfl (by decide) (W := 0) rfl (by decide) (fun T119 X119 => ?_)
  refine g_getS X119 (hw _ m47) (O2.ext X119.old.2) d6_4 (pc' := 7) rfl (fun T120 X120 => ?_)
  refine g_if_eq_f X120 d6_7 (pc' := 10) rfl P5 ?_
  refine g_aloadN X120 d6_10 (pc' := 11) rfl rfl rfl ?_
  refine g_iloadN X120 d6_11 (pc' := 12) rfl rfl ?_
  refine g_newarray X120 (aty := .byte) (cap := 16) (vs := (own_bs (List.replicate 16 (0 : Int32)))) (hw _ m49) (by decide) (by decide) rfl (by decide) d6_12 (pc' := 14) rfl (by decide) (by decide) (fun T121 h121 b121 X121 g121 E121 A121 l121 => ?_)
  have ne122 : b ≠ b121 := ne_new E_b.lt g121
  have f123 := (Fvalue_b.ext E121)
  have f124 := (E_b.ext E121)
  refine g_putF X121 (host := "") (Or.inl (hw _ m50)) Via.refl f123 f124 (Or.inl (hw _ m51)) (hw _ m35) (ty := (.array .byte)) (by decide) rfl rfl g_b d6_14 (pc' := 17) rfl (fun T125 h125 X125 W125 => ?_)
  have F125 := f123.same W125
  refine g_aloadN X125 d6_17 (pc' := 18) rfl rfl rfl ?_
  refine g_iconst X125 d6_18 (pc' := 19) rfl (v := (0 : Int32)) rfl ?_
  have f126 := ((Fcoder_b.ext E121).other W125 (Or.inr (slot_ne (Or.inl (hw _ m53)) (Or.inl (hw _ m51)) (by decide) (t := .byte) (t' := (.array .byte)) (by decide) (by decide))))
  have f127 := (f124.wr W125)
  refine g_putFN X125 (hw _ m52) Via.refl f126 f127 (Or.inl (hw _ m53)) (hw _ m35) (ty := .byte) (v' := (.int (nar .byte (0 : Int32)))) (by decide) rfl (fits_nar_byte _) g_b d6_19 (pc' := 22) rfl (fun T128 h128 X128 W128 => ?_)
  have F128 := f126.same W128
  refine g_goto X128 d6_22 (pt := 38) (by decide) ?_
  have k129 := (Keep.refl h0 [b]).ext E121
  have k130 := k129.wr W125 (Or.inl (by simp))
  have k131 := k130.wr W128 (Or.inl (by simp))
  rw [own_nb0] at F128
  have f132 := (f127.wr W128)
  have f133 := (F125.other W128 (Or.inr (slot_ne (Or.inl (hw _ m51)) (Or.inl (hw _ m53)) (by decide) (t := (.array .byte)) (t' := .byte) (by decide) (by decide))))
  have f134 := (((Fcount_b.ext E121).other W125 (Or.inr (slot_ne (Or.inl (hw _ m84)) (Or.inl (hw _ m51)) (by decide) (t := .int) (t' := (.array .byte)) (by decide) (by decide)))).other W128 (Or.inr (slot_ne (Or.inl (hw _ m84)) (Or.inl (hw _ m53)) (by decide) (t := .int) (t' := .byte) (by decide) (by decide))))
  have f135 := ((A121.other W125 (Ne.symm ne122)).other W128 (Ne.symm ne122))
  exact g_ret X128 rfl d6_38 (by decide) (by decide) ⟨b121, rfl, X128.fr, k131, (Nat.le_trans (Keep.refl h0 [b]).1 (Nat.le_of_eq g121.symm)), ⟨f132, f133, F128, f134, f135, g_b, l121, (Ne.symm ne122), (Nat.zero_le _), (own_by0 16)⟩⟩

theorem d5_0 : decode jdk_67_method_1_code 0 = .ok (.aload_n 0, 1) := by decide +kernel
theorem d5_1 : decode jdk_67_method_1_code 1 = .ok (.bipush 16, 2) := by decide +kernel
theorem d5_3 : decode jdk_67_method_1_code 3 = .ok (.invokespecial 1, 3) := by decide +kernel
theorem d5_6 : decode jdk_67_method_1_code 6 = .ok (.return_, 1) := by decide +kernel
theorem ef_5 (m : MethodId) (b : Addr) : entryFrame m #[(.ref b)] 1 = mkF m 0 #[.val (.ref b)] [] := by first | (simp [entryFrame, mkF, argsToLocals, Value.category]; done) | rfl
def R5 : Room := ({ frames := 2, cells := 1, slots := 16, locals := 25 } : Room)
set_option maxRecDepth 65536 in
set_option maxHeartbeats 40000000 in
theorem rm5 (l : Launch) (Z : State) (a0 : Array Value) (hw : ∀ d ∈ tables_1, d.before a0 Z = true) (b : Addr) (h0 : Heap) (n0 : Nat) (hO : Old Z n0 h0) (E_b : Exa Z h0 b "java/lang/StringBuilder") (g_b : n0 ≤ b) (Fvalue_b : Fld Z h0 b "java/lang/AbstractStringBuilder" "value" "[B" .null) (Fcoder_b : Fld Z h0 b "java/lang/AbstractStringBuilder" "coder" "B" (.int (0 : Int32))) (Fcount_b : Fld Z h0 b "java/lang/AbstractStringBuilder" "count" "I" (.int (0 : Int32))) (G1 : Int32) (O2 : Sta Z Z.heap "java/lang/String" "COMPACT_STRINGS" "Z" (.int G1)) (P5 : ¬ G1 = (0 : Int32)) :
    Con l Z (⟨"java/lang/StringBuilder", "<init>", "()V"⟩ : MethodName) jdk_67_method_1_code 1 none [] R5 R5.cells R5.slots #[(.ref b)] h0 (fun r h L => ∃ v : Addr, r = none ∧ Fr n0 L ∧ Keep h0 h [b] ∧ h0.size ≤ v ∧ SBP Z n0 h b v 0 (List.replicate 16 0)) := by
  refine Con.intro (n0 := n0) (plainFor_of_name pn_4) (fun m => ef_5 m b) hO ?_
  intro p e s m below meth cc T hs0 X0
  refine g_aloadN X0 d5_0 (pc' := 1) rfl rfl rfl ?_
  refine g_bipush X0 d5_1 (pc' := 3) rfl (v := (16 : Int32)) rfl ?_
  refine g_callI X0 (y := (⟨"java/lang/AbstractStringBuilder", "<init>", "(I)V"⟩ : MethodName)) (a := b) [(.int (16 : Int32))] rfl (hw _ m40) (hw _ m41) rfl (hw _ m45) (hw _ m44) (rm6 l Z a0 hw b h0 n0 X0.old E_b g_b Fvalue_b Fcoder_b Fcount_b G1 O2 P5) (by decide) (by decide) (by decide) (by decide) (by decide) rfl pd_10 rfl (rest := []) rfl (W := 0) rfl d5_3 (pc' := 6) rfl ?_
  rintro _ T136 h136 L136 Y136 ⟨v136, rfl, N136, K136, q136, H136⟩
  have X136 := Y136 (X0.old.keep K136 (allS g_b all0)) N136
  show Go p e below _ (State.setTop _ (mkF m 6 #[.val (.ref b)] []))
  exact g_ret X136 rfl d5_6 (by decide) (by decide) ⟨v136, rfl, X136.fr, K136, q136, H136⟩

theorem d29_0 : decode jdk_68_method_64_code 0 = .ok (.aload_n 0, 1) := by decide +kernel
theorem d29_1 : decode jdk_68_method_64_code 1 = .ok (.getfield 15, 3) := by decide +kernel
theorem d29_4 : decode jdk_68_method_64_code 4 = .ok (.areturn, 1) := by decide +kernel
theorem ef_29 (m : MethodId) (b : Addr) : entryFrame m #[(.ref b)] 1 = mkF m 0 #[.val (.ref b)] [] := by first | (simp [entryFrame, mkF, argsToLocals, Value.category]; done) | rfl
def R29 : Room := ({ frames := 0, cells := 0, slots := 0, locals := 0 } : Room)
set_option maxRecDepth 65536 in
set_option maxHeartbeats 40000000 in
theorem rm29 (l : Launch) (Z : State) (a0 : Array Value) (hw : ∀ d ∈ tables_1, d.before a0 Z = true) (b : Addr) (h0 : Heap) (n0 : Nat) (hO : Old Z n0 h0) (v : Addr) (k : Nat) (ws : List Int32) (HB : SBP Z n0 h0 b v k ws) :
    Con l Z (⟨"java/lang/AbstractStringBuilder", "getValue", "()[B"⟩ : MethodName) jdk_68_method_64_code 1 (some (.array .byte)) [] R29 R29.cells R29.slots #[(.ref b)] h0 (fun r h L => r = some (.ref v) ∧ h0 = h ∧ L = []) := by
  refine Con.intro (n0 := n0) (plainFor_of_name pn_2) (fun m => ef_29 m b) hO ?_
  intro p e s m below meth cc T hs0 X0
  obtain ⟨E_b, Fvalue_b, Fcoder_b, Fcount_b, A_v, g_b, g_v, n_v_b, hk_b, hy_b⟩ := id HB
  refine g_aloadN X0 d29_0 (pc' := 1) rfl rfl rfl ?_
  refine g_getF X0 (host := "") (Or.inl (hw _ m50)) Via.refl Fvalue_b d29_1 (pc' := 4) rfl (fun T137 X137 => ?_)
  exact g_retA X137 rfl rfl rfl d29_4 (by decide) (by decide) ⟨rfl, rfl, rfl⟩

theorem d31_0 : decode jdk_68_method_6_code 0 = .ok (.aload_n 0, 1) := by decide +kernel
theorem d31_1 : decode jdk_68_method_6_code 1 = .ok (.getfield 79, 3) := by decide +kernel
theorem d31_4 : decode jdk_68_method_6_code 4 = .ok (.ireturn, 1) := by decide +kernel
theorem ef_31 (m : MethodId) (b : Addr) : entryFrame m #[(.ref b)] 1 = mkF m 0 #[.val (.ref b)] [] := by first | (simp [entryFrame, mkF, argsToLocals, Value.category]; done) | rfl
def R31 : Room := ({ frames := 0, cells := 0, slots := 0, locals := 0 } : Room)
set_option maxRecDepth 65536 in
set_option maxHeartbeats 40000000 in
theorem rm31 (l : Launch) (Z : State) (a0 : Array Value) (hw : ∀ d ∈ tables_1, d.before a0 Z = true) (b : Addr) (h0 : Heap) (n0 : Nat) (hO : Old Z n0 h0) (v : Addr) (k : Nat) (ws : List Int32) (HB : SBP Z n0 h0 b v k ws) :
    Con l Z (⟨"java/lang/AbstractStringBuilder", "length", "()I"⟩ : MethodName) jdk_68_method_6_code 1 (some .int) [] R31 R31.cells R31.slots #[(.ref b)] h0 (fun v h L => v = some (.int (Int32.ofNat k)) ∧ h0 = h ∧ L = []) := by
  refine Con.intro (n0 := n0) (plainFor_of_name pn_2) (fun m => ef_31 m b) hO ?_
  intro p e s m below meth cc T hs0 X0
  obtain ⟨E_b, Fvalue_b, Fcoder_b, Fcount_b, A_v, g_b, g_v, n_v_b, hk_b, hy_b⟩ := id HB
  refine g_aloadN X0 d31_0 (pc' := 1) rfl rfl rfl ?_
  refine g_getF X0 (host := "") (Or.inl (hw _ m83)) Via.refl Fcount_b d31_1 (pc' := 4) rfl (fun T138 X138 => ?_)
  exact g_retI X138 rfl d31_4 (by decide) (by decide) ⟨rfl, rfl, rfl⟩

theorem d30_0 : decode jdk_67_method_93_code 0 = .ok (.aload_n 0, 1) := by decide +kernel
theorem d30_1 : decode jdk_67_method_93_code 1 = .ok (.invokespecial 343, 3) := by decide +kernel
theorem d30_4 : decode jdk_67_method_93_code 4 = .ok (.ireturn, 1) := by decide +kernel
theorem ef_30 (m : MethodId) (b : Addr) : entryFrame m #[(.ref b)] 1 = mkF m 0 #[.val (.ref b)] [] := by first | (simp [entryFrame, mkF, argsToLocals, Value.category]; done) | rfl
def R30 : Room := ({ frames := 1, cells := 0, slots := 0, locals := 12 } : Room)
set_option maxRecDepth 65536 in
set_option maxHeartbeats 40000000 in
theorem rm30 (l : Launch) (Z : State) (a0 : Array Value) (hw : ∀ d ∈ tables_1, d.before a0 Z = true) (b : Addr) (h0 : Heap) (n0 : Nat) (hO : Old Z n0 h0) (v : Addr) (k : Nat) (ws : List Int32) (HB : SBP Z n0 h0 b v k ws) :
    Con l Z (⟨"java/lang/StringBuilder", "length", "()I"⟩ : MethodName) jdk_67_method_93_code 1 (some .int) [] R30 R30.cells R30.slots #[(.ref b)] h0 (fun v h L => v = some (.int (Int32.ofNat k)) ∧ h0 = h ∧ L = []) := by
  refine Con.intro (n0 := n0) (plainFor_of_name pn_4) (fun m => ef_30 m b) hO ?_
  intro p e s m below meth cc T hs0 X0
  obtain ⟨E_b, Fvalue_b, Fcoder_b, Fcount_b, A_v, g_b, g_v, n_v_b, hk_b, hy_b⟩ := id HB
  refine g_aloadN X0 d30_0 (pc' := 1) rfl rfl rfl ?_
  refine g_callU X0 (y := (⟨"java/lang/AbstractStringBuilder", "length", "()I"⟩ : MethodName)) (a := b) [] (hw _ m194) (hw _ m190) (hw _ m88) rfl (hw _ m67) (by decide) E_b (hw _ m195) (hw _ m44) (rm31 l Z a0 hw b h0 n0 X0.old v k ws ⟨E_b, Fvalue_b, Fcoder_b, Fcount_b, A_v, g_b, g_v, n_v_b, hk_b, hy_b⟩) (by decide) (by decide) (by decide) (by decide) (by decide) rfl pd_9 rfl (rest := []) rfl (W := 0) rfl d30_1 (pc' := 4) rfl ?_
  rintro _ T139 _ _ Y139 ⟨rfl, rfl, rfl⟩
  have X139 := Y139 X0.old (Fr.nil _)
  show Go p e below _ (State.setTop _ (mkF m 4 #[.val (.ref b)] [(.int (Int32.ofNat k))]))
  exact g_retI X139 rfl d30_4 (by decide) (by decide) ⟨rfl, rfl, rfl⟩

theorem d28_0 : decode jdk_42_method_150_code 0 = .ok (.aload_n 0, 1) := by decide +kernel
theorem d28_1 : decode jdk_42_method_150_code 1 = .ok (.invokespecial 1, 3) := by decide +kernel
theorem d28_4 : decode jdk_42_method_150_code 4 = .ok (.aload_n 1, 1) := by decide +kernel
theorem d28_5 : decode jdk_42_method_150_code 5 = .ok (.invokevirtual 552, 3) := by decide +kernel
theorem d28_8 : decode jdk_42_method_150_code 8 = .ok (.astore_n 3, 1) := by decide +kernel
theorem d28_9 : decode jdk_42_method_150_code 9 = .ok (.aload_n 1, 1) := by decide +kernel
theorem d28_10 : decode jdk_42_method_150_code 10 = .ok (.invokevirtual 549, 3) := by decide +kernel
theorem d28_13 : decode jdk_42_method_150_code 13 = .ok (.istore 4, 2) := by decide +kernel
theorem d28_15 : decode jdk_42_method_150_code 15 = .ok (.aload_n 1, 1) := by decide +kernel
theorem d28_16 : decode jdk_42_method_150_code 16 = .ok (.invokevirtual 1047, 3) := by decide +kernel
theorem d28_19 : decode jdk_42_method_150_code 19 = .ok (.ifCond .eq 22, 3) := by decide +kernel
theorem d28_22 : decode jdk_42_method_150_code 22 = .ok (.aload_n 0, 1) := by decide +kernel
theorem d28_23 : decode jdk_42_method_150_code 23 = .ok (.iconst 0, 1) := by decide +kernel
theorem d28_24 : decode jdk_42_method_150_code 24 = .ok (.putfield 15, 3) := by decide +kernel
theorem d28_27 : decode jdk_42_method_150_code 27 = .ok (.aload_n 0, 1) := by decide +kernel
theorem d28_28 : decode jdk_42_method_150_code 28 = .ok (.aload_n 3, 1) := by decide +kernel
theorem d28_29 : decode jdk_42_method_150_code 29 = .ok (.iconst 0, 1) := by decide +kernel
theorem d28_30 : decode jdk_42_method_150_code 30 = .ok (.iload 4, 2) := by decide +kernel
theorem d28_32 : decode jdk_42_method_150_code 32 = .ok (.invokestatic 54, 3) := by decide +kernel
theorem d28_35 : decode jdk_42_method_150_code 35 = .ok (.putfield 9, 3) := by decide +kernel
theorem d28_38 : decode jdk_42_method_150_code 38 = .ok (.goto 59, 3) := by decide +kernel
theorem d28_97 : decode jdk_42_method_150_code 97 = .ok (.return_, 1) := by decide +kernel
theorem ef_28 (m : MethodId) (a : Addr) (b : Addr) : entryFrame m #[(.ref a), (.ref b), .null] 5 = mkF m 0 #[.val (.ref a), .val (.ref b), .val .null, .unset, .unset] [] := by first | (simp [entryFrame, mkF, argsToLocals, Value.category]; done) | rfl
def R28 : Room := ({ frames := 3, cells := 1, slots := 142, locals := 71 } : Room)
set_option maxRecDepth 65536 in
set_option maxHeartbeats 40000000 in
theorem rm28 (l : Launch) (Z : State) (a0 : Array Value) (hw : ∀ d ∈ tables_1, d.before a0 Z = true) (a : Addr) (b : Addr) (h0 : Heap) (n0 : Nat) (hO : Old Z n0 h0) (v : Addr) (k : Nat) (ws : List Int32) (HB : SBP Z n0 h0 b v k ws) (E_a : Exa Z h0 a "java/lang/String") (g_a : n0 ≤ a) (Fv_a : Fld Z h0 a "java/lang/String" "value" "[B" .null) (Fc_a : Fld Z h0 a "java/lang/String" "coder" "B" (.int (0 : Int32))) (n_a_b : a ≠ b) (n_a_v : a ≠ v) (hlt : k < ws.length) (hm : ws.length ≤ 142) (G1 : Int32) (O2 : Sta Z Z.heap "java/lang/String" "COMPACT_STRINGS" "Z" (.int G1)) (P5 : ¬ G1 = (0 : Int32)) :
    Con l Z (⟨"java/lang/String", "<init>", "(Ljava/lang/AbstractStringBuilder;Ljava/lang/Void;)V"⟩ : MethodName) jdk_42_method_150_code 5 none [] R28 R28.cells R28.slots #[(.ref a), (.ref b), .null] h0 (fun r h L => ∃ u : Addr, r = none ∧ Fr n0 L ∧ Keep h0 h [a] ∧ h0.size ≤ u ∧ SS Z h a u (ws.take k)) := by
  refine Con.intro (n0 := n0) (plainFor_of_name pn_0) (fun m => ef_28 m a b) hO ?_
  intro p e s m below meth cc T hs0 X0
  obtain ⟨E_b, Fvalue_b, Fcoder_b, Fcount_b, A_v, g_b, g_v, n_v_b, hk_b, hy_b⟩ := id HB
  refine g_aloadN X0 d28_0 (pc' := 1) rfl rfl rfl ?_
  refine g_initO X0 (hw _ m182) (hw _ m15) (hw _ m16) rfl d28_1 (pc' := 4) rfl (by decide) (W := 0) rfl (by decide) (fun T140 X140 => ?_)
  refine g_aloadN X140 d28_4 (pc' := 5) rfl rfl rfl ?_
  refine g_callV X140 (y := (⟨"java/lang/AbstractStringBuilder", "getValue", "()[B"⟩ : MethodName)) (z := (⟨"java/lang/AbstractStringBuilder", "getValue", "()[B"⟩ : MethodName)) (a := b) [] (hw _ m183) (hw _ m184) (notFace_of_selects (args := #[]) (mvT X140.hZ (hw _ m186))) (hw _ m186) (hw _ m185) E_b (hw _ m187) (hw _ m44) (rm29 l Z a0 hw b h0 n0 X140.old v k ws ⟨E_b, Fvalue_b, Fcoder_b, Fcount_b, A_v, g_b, g_v, n_v_b, hk_b, hy_b⟩) (by decide) (by decide) (by decide) (by decide) (by decide) rfl pd_17 rfl (rest := []) rfl (W := 0) rfl d28_5 (pc' := 8) rfl ?_
  rintro _ T141 _ _ Y141 ⟨rfl, rfl, rfl⟩
  have X141 := Y141 X140.old (Fr.nil _)
  show Go p e below _ (State.setTop _ (mkF m 8 #[.val (.ref a), .val (.ref b), .val .null, .unset, .unset] [(.ref v)]))
  refine g_astoreN X141 d28_8 (pc' := 9) rfl rfl (L' := #[.val (.ref a), .val (.ref b), .val .null, .val (.ref v), .unset]) rfl ?_
  refine g_aloadN X141 d28_9 (pc' := 10) rfl rfl rfl ?_
  refine g_callV X141 (y := (⟨"java/lang/AbstractStringBuilder", "length", "()I"⟩ : MethodName)) (z := (⟨"java/lang/StringBuilder", "length", "()I"⟩ : MethodName)) (a := b) [] (hw _ m188) (hw _ m189) (own_nf (args := #[]) (mvT X141.hZ (hw _ m88)) rfl) (hw _ m191) (hw _ m192) E_b (hw _ m193) (hw _ m36) (rm30 l Z a0 hw b h0 n0 X141.old v k ws ⟨E_b, Fvalue_b, Fcoder_b, Fcount_b, A_v, g_b, g_v, n_v_b, hk_b, hy_b⟩) (by decide) (by decide) (by decide) (by decide) (by decide) rfl pd_9 rfl (rest := []) rfl (W := 0) rfl d28_10 (pc' := 13) rfl ?_
  rintro _ T142 _ _ Y142 ⟨rfl, rfl, rfl⟩
  have X142 := Y142 X141.old (Fr.nil _)
  show Go p e below _ (State.setTop _ (mkF m 13 #[.val (.ref a), .val (.ref b), .val .null, .val (.ref v), .unset] [(.int (Int32.ofNat k))]))
  refine g_istore X142 d28_13 (pc' := 15) rfl (L' := #[.val (.ref a), .val (.ref b), .val .null, .val (.ref v), .val (.int (Int32.ofNat k))]) rfl ?_
  refine g_aloadN X142 d28_15 (pc' := 16) rfl rfl rfl ?_
  refine g_callV X142 (y := (⟨"java/lang/AbstractStringBuilder", "isLatin1", "()Z"⟩ : MethodName)) (z := (⟨"java/lang/AbstractStringBuilder", "isLatin1", "()Z"⟩ : MethodName)) (a := b) [] (hw _ m196) (hw _ m130) (notFace_of_selects (args := #[]) (mvT X142.hZ (hw _ m132))) (hw _ m132) (hw _ m131) E_b (hw _ m133) (hw _ m44) (rm19 l Z a0 hw b h0 n0 X142.old v k ws ⟨E_b, Fvalue_b, Fcoder_b, Fcount_b, A_v, g_b, g_v, n_v_b, hk_b, hy_b⟩ G1 O2 P5) (by decide) (by decide) (by decide) (by decide) (by decide) rfl pd_14 rfl (rest := []) rfl (W := 0) rfl d28_16 (pc' := 19) rfl ?_
  rintro _ T143 _ _ Y143 ⟨rfl, rfl, rfl⟩
  have X143 := Y143 X142.old (Fr.nil _)
  show Go p e below _ (State.setTop _ (mkF m 19 #[.val (.ref a), .val (.ref b), .val .null, .val (.ref v), .val (.int (Int32.ofNat k))] [(.int (1 : Int32))]))
  refine g_if_eq_f X143 d28_19 (pc' := 22) rfl (by decide) ?_
  refine g_aloadN X143 d28_22 (pc' := 23) rfl rfl rfl ?_
  refine g_iconst X143 d28_23 (pc' := 24) rfl (v := (0 : Int32)) rfl ?_
  refine g_putFN X143 (hw _ m82) Via.refl Fc_a E_a (Or.inr ⟨(hw _ m57), rfl, rfl⟩) (hw _ m55) (ty := .byte) (v' := (.int (nar .byte (0 : Int32)))) (by decide) rfl (fits_nar_byte _) g_a d28_24 (pc' := 27) rfl (fun T144 h144 X144 W144 => ?_)
  have F144 := Fc_a.same W144
  refine g_aloadN X144 d28_27 (pc' := 28) rfl rfl rfl ?_
  refine g_aloadN X144 d28_28 (pc' := 29) rfl rfl rfl ?_
  refine g_iconst X144 d28_29 (pc' := 30) rfl (v := (0 : Int32)) rfl ?_
  refine g_iload X144 d28_30 (pc' := 32) rfl rfl ?_
  have k145 := (Keep.refl h0 [a]).wr W144 (Or.inl (by simp))
  have f146 := (E_b.wr W144)
  have f147 := (Fvalue_b.other W144 (Or.inl (Ne.symm n_a_b)))
  have f148 := (Fcoder_b.other W144 (Or.inl (Ne.symm n_a_b)))
  have f149 := (Fcount_b.other W144 (Or.inl (Ne.symm n_a_b)))
  have f150 := (A_v.other W144 (Ne.symm n_a_v))
  have f151 := (E_a.wr W144)
  have f152 := (Fv_a.other W144 (Or.inr (slot_ne (Or.inr (hw _ m56)) (Or.inr (hw _ m57)) (by decide) (t := (.array .byte)) (t' := .byte) (by decide) (by decide))))
  refine g_callS X144 (y := (⟨"java/util/Arrays", "copyOfRange", "([BII)[B"⟩ : MethodName)) [(.ref v), (.int (0 : Int32)), (.int (Int32.ofNat k))] (hw _ m197) (hw _ m198) (hw _ m158) (hw _ m199) (hw _ m158) (rm32 l Z a0 hw v k h144 n0 X144.old ws f150 hy_b hlt hm) (by decide) (by decide) (by decide) (by decide) (by decide) rfl pd_4 rfl (rest := [(.ref a)]) rfl (W := 1) rfl d28_32 (pc' := 35) rfl ?_
  rintro _ T153 h153 L153 Y153 ⟨b153, rfl, N153, K153, q153, A153x⟩
  have X153 := Y153 (X144.old.keep K153 all0) N153
  have g_b153 : n0 ≤ b153 := Nat.le_trans X144.sz q153
  have ne154 : b ≠ b153 := Nat.ne_of_lt (Nat.lt_of_lt_of_le f149.lt q153)
  have ne155 : v ≠ b153 := Nat.ne_of_lt (Nat.lt_of_lt_of_le f150.lt q153)
  have ne156 : a ≠ b153 := Nat.ne_of_lt (Nat.lt_of_lt_of_le F144.lt q153)
  show Go p e below _ (State.setTop _ (mkF m 35 #[.val (.ref a), .val (.ref b), .val .null, .val (.ref v), .val (.int (Int32.ofNat k))] [(.ref b153), (.ref a)]))
  have f157 := (f152.keep K153 nm0)
  have f158 := (f151.keep K153)
  refine g_putF X153 (host := "") (Or.inl (hw _ m75)) Via.refl f157 f158 (Or.inr ⟨(hw _ m56), rfl, rfl⟩) (hw _ m55) (ty := (.array .byte)) (by decide) rfl rfl g_a d28_35 (pc' := 38) rfl (fun T159 h159 X159 W159 => ?_)
  have F159 := f157.same W159
  refine g_goto X159 d28_38 (pt := 97) (by decide) ?_
  have k160 := (Keep.refl h0 [a]).wr W144 (Or.inl (by simp))
  have k161 := k160.trans K153 (fun x hx => by simp at hx)
  have k162 := k161.wr W159 (Or.inl (by simp))
  have f163 := ((F144.keep K153 nm0).other W159 (Or.inr (slot_ne (Or.inr (hw _ m57)) (Or.inr (hw _ m56)) (by decide) (t := .byte) (t' := (.array .byte)) (by decide) (by decide))))
  rw [own_nb0] at f163
  have f164 := (f158.wr W159)
  have f165 := (A153x.other W159 (Ne.symm ne156))
  exact g_ret X159 rfl d28_97 (by decide) (by decide) ⟨b153, rfl, X159.fr, k162, Nat.le_trans k145.1 q153, f164, f163, F159, f165⟩

theorem d27_0 : decode jdk_42_method_53_code 0 = .ok (.aload_n 0, 1) := by decide +kernel
theorem d27_1 : decode jdk_42_method_53_code 1 = .ok (.aload_n 1, 1) := by decide +kernel
theorem d27_2 : decode jdk_42_method_53_code 2 = .ok (.aconst_null, 1) := by decide +kernel
theorem d27_3 : decode jdk_42_method_53_code 3 = .ok (.invokespecial 489, 3) := by decide +kernel
theorem d27_6 : decode jdk_42_method_53_code 6 = .ok (.return_, 1) := by decide +kernel
theorem ef_27 (m : MethodId) (a : Addr) (b : Addr) : entryFrame m #[(.ref a), (.ref b)] 2 = mkF m 0 #[.val (.ref a), .val (.ref b)] [] := by first | (simp [entryFrame, mkF, argsToLocals, Value.category]; done) | rfl
def R27 : Room := ({ frames := 4, cells := 1, slots := 142, locals := 87 } : Room)
set_option maxRecDepth 65536 in
set_option maxHeartbeats 40000000 in
theorem rm27 (l : Launch) (Z : State) (a0 : Array Value) (hw : ∀ d ∈ tables_1, d.before a0 Z = true) (a : Addr) (b : Addr) (h0 : Heap) (n0 : Nat) (hO : Old Z n0 h0) (v : Addr) (k : Nat) (ws : List Int32) (HB : SBP Z n0 h0 b v k ws) (E_a : Exa Z h0 a "java/lang/String") (g_a : n0 ≤ a) (Fv_a : Fld Z h0 a "java/lang/String" "value" "[B" .null) (Fc_a : Fld Z h0 a "java/lang/String" "coder" "B" (.int (0 : Int32))) (n_a_b : a ≠ b) (n_a_v : a ≠ v) (hlt : k < ws.length) (hm : ws.length ≤ 142) (G1 : Int32) (O2 : Sta Z Z.heap "java/lang/String" "COMPACT_STRINGS" "Z" (.int G1)) (P5 : ¬ G1 = (0 : Int32)) :
    Con l Z (⟨"java/lang/String", "<init>", "(Ljava/lang/StringBuilder;)V"⟩ : MethodName) jdk_42_method_53_code 2 none [] R27 R27.cells R27.slots #[(.ref a), (.ref b)] h0 (fun r h L => ∃ u : Addr, r = none ∧ Fr n0 L ∧ Keep h0 h [a] ∧ h0.size ≤ u ∧ SS Z h a u (ws.take k)) := by
  refine Con.intro (n0 := n0) (plainFor_of_name pn_0) (fun m => ef_27 m a b) hO ?_
  intro p e s m below meth cc T hs0 X0
  obtain ⟨E_b, Fvalue_b, Fcoder_b, Fcount_b, A_v, g_b, g_v, n_v_b, hk_b, hy_b⟩ := id HB
  refine g_aloadN X0 d27_0 (pc' := 1) rfl rfl rfl ?_
  refine g_aloadN X0 d27_1 (pc' := 2) rfl rfl rfl ?_
  refine g_aconst_null X0 d27_2 (pc' := 3) rfl ?_
  refine g_callI X0 (y := (⟨"java/lang/String", "<init>", "(Ljava/lang/AbstractStringBuilder;Ljava/lang/Void;)V"⟩ : MethodName)) (a := a) [(.ref b), .null] rfl (hw _ m179) (hw _ m180) rfl (hw _ m181) (hw _ m48) (rm28 l Z a0 hw a b h0 n0 X0.old v k ws ⟨E_b, Fvalue_b, Fcoder_b, Fcount_b, A_v, g_b, g_v, n_v_b, hk_b, hy_b⟩ E_a g_a Fv_a Fc_a n_a_b n_a_v hlt hm G1 O2 P5) (by decide) (by decide) (by decide) (by decide) (by decide) rfl pd_18 rfl (rest := []) rfl (W := 0) rfl d27_3 (pc' := 6) rfl ?_
  rintro _ T166 h166 L166 Y166 ⟨u166, rfl, N166, K166, q166, H166⟩
  have X166 := Y166 (X0.old.keep K166 (allS g_a all0)) N166
  show Go p e below _ (State.setTop _ (mkF m 6 #[.val (.ref a), .val (.ref b)] []))
  exact g_ret X166 rfl d27_6 (by decide) (by decide) ⟨u166, rfl, X166.fr, K166, q166, H166⟩

theorem d26_0 : decode jdk_67_method_42_code 0 = .ok (.new 18, 3) := by decide +kernel
theorem d26_3 : decode jdk_67_method_42_code 3 = .ok (.dup, 1) := by decide +kernel
theorem d26_4 : decode jdk_67_method_42_code 4 = .ok (.aload_n 0, 1) := by decide +kernel
theorem d26_5 : decode jdk_67_method_42_code 5 = .ok (.invokespecial 137, 3) := by decide +kernel
theorem d26_8 : decode jdk_67_method_42_code 8 = .ok (.areturn, 1) := by decide +kernel
theorem ef_26 (m : MethodId) (b : Addr) : entryFrame m #[(.ref b)] 1 = mkF m 0 #[.val (.ref b)] [] := by first | (simp [entryFrame, mkF, argsToLocals, Value.category]; done) | rfl
def R26 : Room := ({ frames := 5, cells := 2, slots := 146, locals := 101 } : Room)
set_option maxRecDepth 65536 in
set_option maxHeartbeats 40000000 in
theorem rm26 (l : Launch) (Z : State) (a0 : Array Value) (hw : ∀ d ∈ tables_1, d.before a0 Z = true) (b : Addr) (h0 : Heap) (n0 : Nat) (hO : Old Z n0 h0) (v : Addr) (k : Nat) (ws : List Int32) (HB : SBP Z n0 h0 b v k ws) (hlt : k < ws.length) (hm : ws.length ≤ 142) (G1 : Int32) (O2 : Sta Z Z.heap "java/lang/String" "COMPACT_STRINGS" "Z" (.int G1)) (P5 : ¬ G1 = (0 : Int32)) :
    Con l Z (⟨"java/lang/StringBuilder", "toString", "()Ljava/lang/String;"⟩ : MethodName) jdk_67_method_42_code 1 (some (.object "java/lang/String")) [] R26 R26.cells R26.slots #[(.ref b)] h0 (fun r h L => ∃ a u : Addr, r = some (.ref a) ∧ Fr n0 L ∧ Keep h0 h [] ∧ SS Z h a u (ws.take k)) := by
  refine Con.intro (n0 := n0) (plainFor_of_name pn_4) (fun m => ef_26 m b) hO ?_
  intro p e s m below meth cc T hs0 X0
  obtain ⟨E_b, Fvalue_b, Fcoder_b, Fcount_b, A_v, g_b, g_v, n_v_b, hk_b, hy_b⟩ := id HB
  refine g_new X0 (hw _ m174) (hw _ m55) (hw _ m48) d26_0 (pc' := 3) rfl (by decide) (by decide) (fun T167 h167 b167 X167 g167 E167 A167 D167 l167 => ?_)
  have ne168 : b ≠ b167 := ne_new E_b.lt g167
  have ne169 : v ≠ b167 := ne_new A_v.lt g167
  have F167_value : Fld Z h167 b167 "java/lang/String" "value" "[B" .null := D167 (Or.inr (hw _ m56)) (ty := (.array .byte)) (by decide)
  have F167_coder : Fld Z h167 b167 "java/lang/String" "coder" "B" (.int (0 : Int32)) := D167 (Or.inr (hw _ m57)) (ty := .byte) (by decide)
  refine g_dup X167 d26_3 (pc' := 4) rfl rfl ?_
  refine g_aloadN X167 d26_4 (pc' := 5) rfl rfl rfl ?_
  have f170 := (E_b.ext E167)
  have f171 := (Fvalue_b.ext E167)
  have f172 := (Fcoder_b.ext E167)
  have f173 := (Fcount_b.ext E167)
  have f174 := (A_v.ext E167)
  refine g_callI X167 (y := (⟨"java/lang/String", "<init>", "(Ljava/lang/StringBuilder;)V"⟩ : MethodName)) (a := b167) [(.ref b)] rfl (hw _ m175) (hw _ m176) rfl (hw _ m178) (hw _ m48) (rm27 l Z a0 hw b167 b h167 n0 X167.old v k ws ⟨f170, f171, f172, f173, f174, g_b, g_v, n_v_b, hk_b, hy_b⟩ A167 l167 F167_value F167_coder (Ne.symm ne168) (Ne.symm ne169) hlt hm G1 O2 P5) (by decide) (by decide) (by decide) (by decide) (by decide) rfl pd_19 rfl (rest := [(.ref b167)]) rfl (W := 1) rfl d26_5 (pc' := 8) rfl ?_
  rintro _ T175 h175 L175 Y175 ⟨u175, rfl, N175, K175, q175, H175⟩
  have X175 := Y175 (X167.old.keep K175 (allS l167 all0)) N175
  show Go p e below _ (State.setTop _ (mkF m 8 #[.val (.ref b)] [(.ref b167)]))
  have k176 := (Keep.refl h0 []).ext E167
  have k177 := k176.trans K175 (allS (Or.inr (Nat.le_trans (Keep.refl h0 []).1 (Nat.le_of_eq g167.symm))) all0)
  exact g_retA X175 rfl rfl rfl d26_8 (by decide) (by decide) ⟨b167, u175, rfl, X175.fr, k177, H175⟩

theorem d41_0 : decode jdk_43_method_13_code 0 = .ok (.aload_n 0, 1) := by decide +kernel
theorem d41_1 : decode jdk_43_method_13_code 1 = .ok (.arraylength, 1) := by decide +kernel
theorem d41_2 : decode jdk_43_method_13_code 2 = .ok (.aload_n 1, 1) := by decide +kernel
theorem d41_3 : decode jdk_43_method_13_code 3 = .ok (.arraylength, 1) := by decide +kernel
theorem d41_4 : decode jdk_43_method_13_code 4 = .ok (.if_icmp .ne 30, 3) := by decide +kernel
theorem d41_7 : decode jdk_43_method_13_code 7 = .ok (.iconst 0, 1) := by decide +kernel
theorem d41_8 : decode jdk_43_method_13_code 8 = .ok (.istore_n 2, 1) := by decide +kernel
theorem d41_9 : decode jdk_43_method_13_code 9 = .ok (.iload_n 2, 1) := by decide +kernel
theorem d41_10 : decode jdk_43_method_13_code 10 = .ok (.aload_n 0, 1) := by decide +kernel
theorem d41_11 : decode jdk_43_method_13_code 11 = .ok (.arraylength, 1) := by decide +kernel
theorem d41_12 : decode jdk_43_method_13_code 12 = .ok (.if_icmp .ge 20, 3) := by decide +kernel
theorem d41_15 : decode jdk_43_method_13_code 15 = .ok (.aload_n 0, 1) := by decide +kernel
theorem d41_16 : decode jdk_43_method_13_code 16 = .ok (.iload_n 2, 1) := by decide +kernel
theorem d41_17 : decode jdk_43_method_13_code 17 = .ok (.baload, 1) := by decide +kernel
theorem d41_18 : decode jdk_43_method_13_code 18 = .ok (.aload_n 1, 1) := by decide +kernel
theorem d41_19 : decode jdk_43_method_13_code 19 = .ok (.iload_n 2, 1) := by decide +kernel
theorem d41_20 : decode jdk_43_method_13_code 20 = .ok (.baload, 1) := by decide +kernel
theorem d41_21 : decode jdk_43_method_13_code 21 = .ok (.if_icmp .eq 5, 3) := by decide +kernel
theorem d41_26 : decode jdk_43_method_13_code 26 = .ok (.iinc 2 1, 3) := by decide +kernel
theorem d41_29 : decode jdk_43_method_13_code 29 = .ok (.goto (-20), 3) := by decide +kernel
theorem d41_32 : decode jdk_43_method_13_code 32 = .ok (.iconst 1, 1) := by decide +kernel
theorem d41_33 : decode jdk_43_method_13_code 33 = .ok (.ireturn, 1) := by decide +kernel
theorem ef_41 (m : MethodId) (a : Addr) (b : Addr) : entryFrame m #[(.ref a), (.ref b)] 3 = mkF m 0 #[.val (.ref a), .val (.ref b), .unset] [] := by first | (simp [entryFrame, mkF, argsToLocals, Value.category]; done) | rfl
def R41 : Room := ({ frames := 0, cells := 0, slots := 0, locals := 0 } : Room)
set_option maxRecDepth 65536 in
set_option maxHeartbeats 40000000 in
theorem rm41 (l : Launch) (Z : State) (a0 : Array Value) (hw : ∀ d ∈ tables_1, d.before a0 Z = true) (a : Addr) (b : Addr) (h0 : Heap) (n0 : Nat) (hO : Old Z n0 h0) (zs : List Int32) (A_a : Arx Z h0 a .byte (own_bs zs)) (A_b : Arx Z h0 b .byte (own_bs zs)) (hcap : zs.length ≤ 1000) :
    Con l Z (⟨"java/lang/StringLatin1", "equals", "([B[B)Z"⟩ : MethodName) jdk_43_method_13_code 3 (some .boolean) [] R41 R41.cells R41.slots #[(.ref a), (.ref b)] h0 (fun v h L => v = some (.int (1 : Int32)) ∧ h0 = h ∧ L = []) := by
  refine Con.intro (n0 := n0) (plainFor_of_name pn_6) (fun m => ef_41 m a b) hO ?_
  intro p e s m below meth cc T hs0 X0
  have loop : ∀ (r j : Nat) (T : State) (locs : List Loc), j + r = zs.length → locs = [] → St Z n0 p l e R41 s m #[(.ref a), (.ref b)] below meth cc "java/lang/StringLatin1" "equals" jdk_43_method_13_code 3 (some .boolean) T locs 0 0 h0 → Go p e below (Kq s R41.cells R41.slots (fun v h L => v = some (.int (1 : Int32)) ∧ h0 = h ∧ L = [])) (T.setTop (mkF m 9 #[.val (.ref a), .val (.ref b), .val (.int (Int32.ofNat j))] [])) := by
    intro r
    induction r with
    | zero =>
      rintro j T _ hj rfl X
      obtain rfl : j = zs.length := by omega
      refine g_iloadN X d41_9 (pc' := 10) rfl rfl ?_
      refine g_aloadN X d41_10 (pc' := 11) rfl rfl rfl ?_
      refine g_arraylength X (n := (Int32.ofNat zs.length)) A_a (by rw [own_bs_len]) d41_11 (pc' := 12) rfl ?_
      refine g_icmp_ge_t X d41_12 (pt := 32) (by decide) (fun q => Int32.lt_irrefl q) ?_
      refine g_iconst X d41_32 (pc' := 33) rfl (v := (1 : Int32)) rfl ?_
      exact g_retN X (by decide) rfl d41_33 (by decide) (by decide) ⟨rfl, rfl, rfl⟩
    | succ r ih =>
      rintro j T _ hj rfl X
      refine g_iloadN X d41_9 (pc' := 10) rfl rfl ?_
      refine g_aloadN X d41_10 (pc' := 11) rfl rfl rfl ?_
      refine g_arraylength X (n := (Int32.ofNat zs.length)) A_a (by rw [own_bs_len]) d41_11 (pc' := 12) rfl ?_
      refine g_icmp_ge_f X d41_12 (pc' := 15) rfl ((own_ltN (by omega) (by omega)).mpr (by omega)) ?_
      refine g_aloadN X d41_15 (pc' := 16) rfl rfl rfl ?_
      refine g_iloadN X d41_16 (pc' := 17) rfl rfl ?_
      refine g_baload X (i := j) (v := (.int (zs[j]'(by omega)))) A_a (own_small (by omega)) (own_bs_at (by omega)) d41_17 (pc' := 18) rfl ?_
      refine g_aloadN X d41_18 (pc' := 19) rfl rfl rfl ?_
      refine g_iloadN X d41_19 (pc' := 20) rfl rfl ?_
      refine g_baload X (i := j) (v := (.int (zs[j]'(by omega)))) A_b (own_small (by omega)) (own_bs_at (by omega)) d41_20 (pc' := 21) rfl ?_
      refine g_icmp_eq_t X d41_21 (pt := 26) (by decide) rfl ?_
      refine g_iinc X d41_26 (pc' := 29) rfl rfl (L' := #[.val (.ref a), .val (.ref b), .val (.int ((Int32.ofNat j) + (1 : Int32)))]) rfl ?_
      refine g_goto X d41_29 (pt := 9) (by decide) ?_
      rw [own_succ]
      exact ih (j + 1) _ _ (by omega) rfl X
  refine g_aloadN X0 d41_0 (pc' := 1) rfl rfl rfl ?_
  refine g_arraylength X0 (n := (Int32.ofNat zs.length)) A_a (by rw [own_bs_len]) d41_1 (pc' := 2) rfl ?_
  refine g_aloadN X0 d41_2 (pc' := 3) rfl rfl rfl ?_
  refine g_arraylength X0 (n := (Int32.ofNat zs.length)) A_b (by rw [own_bs_len]) d41_3 (pc' := 4) rfl ?_
  refine g_icmp_ne_f X0 d41_4 (pc' := 7) rfl rfl ?_
  refine g_iconst X0 d41_7 (pc' := 8) rfl (v := (0 : Int32)) rfl ?_
  refine g_istoreN X0 d41_8 (pc' := 9) rfl (L' := #[.val (.ref a), .val (.ref b), .val (.int (0 : Int32))]) rfl ?_
  exact loop zs.length 0 _ _ (by omega) rfl X0

theorem d40_0 : decode jdk_42_method_66_code 0 = .ok (.aload_n 0, 1) := by decide +kernel
theorem d40_1 : decode jdk_42_method_66_code 1 = .ok (.aload_n 1, 1) := by decide +kernel
theorem d40_2 : decode jdk_42_method_66_code 2 = .ok (.if_acmp .ne 5, 3) := by decide +kernel
theorem d40_5 : decode jdk_42_method_66_code 5 = .ok (.iconst 1, 1) := by decide +kernel
theorem d40_6 : decode jdk_42_method_66_code 6 = .ok (.ireturn, 1) := by decide +kernel
theorem d40_7 : decode jdk_42_method_66_code 7 = .ok (.aload_n 1, 1) := by decide +kernel
theorem d40_8 : decode jdk_42_method_66_code 8 = .ok (.instanceof 10, 3) := by decide +kernel
theorem d40_11 : decode jdk_42_method_66_code 11 = .ok (.ifCond .eq 43, 3) := by decide +kernel
theorem d40_14 : decode jdk_42_method_66_code 14 = .ok (.aload_n 1, 1) := by decide +kernel
theorem d40_15 : decode jdk_42_method_66_code 15 = .ok (.checkcast 10, 3) := by decide +kernel
theorem d40_18 : decode jdk_42_method_66_code 18 = .ok (.astore_n 2, 1) := by decide +kernel
theorem d40_19 : decode jdk_42_method_66_code 19 = .ok (.getstatic 38, 3) := by decide +kernel
theorem d40_22 : decode jdk_42_method_66_code 22 = .ok (.ifCond .eq 14, 3) := by decide +kernel
theorem d40_25 : decode jdk_42_method_66_code 25 = .ok (.aload_n 0, 1) := by decide +kernel
theorem d40_26 : decode jdk_42_method_66_code 26 = .ok (.getfield 15, 3) := by decide +kernel
theorem d40_29 : decode jdk_42_method_66_code 29 = .ok (.aload_n 2, 1) := by decide +kernel
theorem d40_30 : decode jdk_42_method_66_code 30 = .ok (.getfield 15, 3) := by decide +kernel
theorem d40_33 : decode jdk_42_method_66_code 33 = .ok (.if_icmp .ne 21, 3) := by decide +kernel
theorem d40_36 : decode jdk_42_method_66_code 36 = .ok (.aload_n 0, 1) := by decide +kernel
theorem d40_37 : decode jdk_42_method_66_code 37 = .ok (.getfield 9, 3) := by decide +kernel
theorem d40_40 : decode jdk_42_method_66_code 40 = .ok (.aload_n 2, 1) := by decide +kernel
theorem d40_41 : decode jdk_42_method_66_code 41 = .ok (.getfield 9, 3) := by decide +kernel
theorem d40_44 : decode jdk_42_method_66_code 44 = .ok (.invokestatic 541, 3) := by decide +kernel
theorem d40_47 : decode jdk_42_method_66_code 47 = .ok (.ifCond .eq 7, 3) := by decide +kernel
theorem d40_50 : decode jdk_42_method_66_code 50 = .ok (.iconst 1, 1) := by decide +kernel
theorem d40_51 : decode jdk_42_method_66_code 51 = .ok (.goto 4, 3) := by decide +kernel
theorem d40_55 : decode jdk_42_method_66_code 55 = .ok (.ireturn, 1) := by decide +kernel
theorem ef_40 (m : MethodId) (a : Addr) (b : Addr) : entryFrame m #[(.ref a), (.ref b)] 3 = mkF m 0 #[.val (.ref a), .val (.ref b), .unset] [] := by first | (simp [entryFrame, mkF, argsToLocals, Value.category]; done) | rfl
def R40 : Room := ({ frames := 1, cells := 0, slots := 0, locals := 14 } : Room)
set_option maxRecDepth 65536 in
set_option maxHeartbeats 40000000 in
theorem rm40 (l : Launch) (Z : State) (a0 : Array Value) (hw : ∀ d ∈ tables_1, d.before a0 Z = true) (a : Addr) (b : Addr) (h0 : Heap) (n0 : Nat) (hO : Old Z n0 h0) (u w_ : Addr) (zs : List Int32) (HS : SS Z h0 a u zs) (HT : SS Z h0 b w_ zs) (hcap : zs.length ≤ 1000) (G1 : Int32) (O2 : Sta Z Z.heap "java/lang/String" "COMPACT_STRINGS" "Z" (.int G1)) (P5 : ¬ G1 = (0 : Int32)) :
    Con l Z (⟨"java/lang/String", "equals", "(Ljava/lang/Object;)Z"⟩ : MethodName) jdk_42_method_66_code 3 (some .boolean) [] R40 R40.cells R40.slots #[(.ref a), (.ref b)] h0 (fun v h L => v = some (.int (1 : Int32)) ∧ h0 = h ∧ L = []) := by
  refine Con.intro (n0 := n0) (plainFor_of_name pn_0) (fun m => ef_40 m a b) hO ?_
  intro p e s m below meth cc T hs0 X0
  obtain ⟨E_a, Fc_a, Fv_a, A_u⟩ := id HS
  obtain ⟨E_b, Fc_b, Fv_b, A_w_⟩ := id HT
  refine g_aloadN X0 d40_0 (pc' := 1) rfl rfl rfl ?_
  refine g_aloadN X0 d40_1 (pc' := 2) rfl rfl rfl ?_
  refine g_acmp_ne X0 d40_2 (pt := 7) (by decide) (pc' := 5) rfl (fun hc2 => ?_) (fun hc2 => ?_)
  · refine g_aloadN X0 d40_7 (pc' := 8) rfl rfl rfl ?_
    refine g_inst X0 (hw _ m228) (Ins.self E_b) d40_8 (pc' := 11) rfl (fun T178 X178 => ?_)
    refine g_if_eq_f X178 d40_11 (pc' := 14) rfl (by decide) ?_
    refine g_aloadN X178 d40_14 (pc' := 15) rfl rfl rfl ?_
    refine g_cast X178 (hw _ m228) (Ins.self E_b) d40_15 (pc' := 18) rfl (fun T179 X179 => ?_)
    refine g_astoreN X179 d40_18 (pc' := 19) rfl rfl (L' := #[.val (.ref a), .val (.ref b), .val (.ref b)]) rfl ?_
    refine g_getS X179 (hw _ m81) (O2.ext X179.old.2) d40_19 (pc' := 22) rfl (fun T180 X180 => ?_)
    refine g_if_eq_f X180 d40_22 (pc' := 25) rfl P5 ?_
    refine g_aloadN X180 d40_25 (pc' := 26) rfl rfl rfl ?_
    refine g_getF X180 (host := "") (Or.inl (hw _ m82)) Via.refl Fc_a d40_26 (pc' := 29) rfl (fun T181 X181 => ?_)
    refine g_aloadN X181 d40_29 (pc' := 30) rfl rfl rfl ?_
    refine g_getF X181 (host := "") (Or.inl (hw _ m82)) Via.refl Fc_b d40_30 (pc' := 33) rfl (fun T182 X182 => ?_)
    refine g_icmp_ne_f X182 d40_33 (pc' := 36) rfl (by decide) ?_
    refine g_aloadN X182 d40_36 (pc' := 37) rfl rfl rfl ?_
    refine g_getF X182 (host := "") (Or.inl (hw _ m75)) Via.refl Fv_a d40_37 (pc' := 40) rfl (fun T183 X183 => ?_)
    refine g_aloadN X183 d40_40 (pc' := 41) rfl rfl rfl ?_
    refine g_getF X183 (host := "") (Or.inl (hw _ m75)) Via.refl Fv_b d40_41 (pc' := 44) rfl (fun T184 X184 => ?_)
    refine g_callS X184 (y := (⟨"java/lang/StringLatin1", "equals", "([B[B)Z"⟩ : MethodName)) [(.ref u), (.ref w_)] (hw _ m229) (hw _ m230) (hw _ m231) (hw _ m232) (hw _ m231) (rm41 l Z a0 hw u w_ h0 n0 X184.old zs A_u A_w_ hcap) (by decide) (by decide) (by decide) (by decide) (by decide) rfl pd_20 rfl (rest := []) rfl (W := 0) rfl d40_44 (pc' := 47) rfl ?_
    rintro _ T185 _ _ Y185 ⟨rfl, rfl, rfl⟩
    have X185 := Y185 X184.old (Fr.nil _)
    show Go p e below _ (State.setTop _ (mkF m 47 #[.val (.ref a), .val (.ref b), .val (.ref b)] [(.int (1 : Int32))]))
    refine g_if_eq_f X185 d40_47 (pc' := 50) rfl (by decide) ?_
    refine g_iconst X185 d40_50 (pc' := 51) rfl (v := (1 : Int32)) rfl ?_
    refine g_goto X185 d40_51 (pt := 55) (by decide) ?_
    exact g_retN X185 (by decide) rfl d40_55 (by decide) (by decide) ⟨rfl, rfl, rfl⟩
  · refine g_iconst X0 d40_5 (pc' := 6) rfl (v := (1 : Int32)) rfl ?_
    exact g_retN X0 (by decide) rfl d40_6 (by decide) (by decide) ⟨rfl, rfl, rfl⟩

theorem own_ten {d : Nat} (hd : d < 10) : d = 0 ∨ d = 1 ∨ d = 2 ∨ d = 3 ∨ d = 4 ∨ d = 5 ∨ d = 6 ∨ d = 7 ∨ d = 8 ∨ d = 9 := by omega
theorem own_dch {d : Nat} (hd : d < 10) : ((48 : Int32) + (Int64.ofNat d).toInt32).toUInt32.toUInt16.toUInt32.toInt32 = Int32.ofNat (48 + d) := by
  rcases own_ten hd with rfl | rfl | rfl | rfl | rfl | rfl | rfl | rfl | rfl | rfl <;> decide +kernel
theorem own_ncd {d : Nat} (hd : d < 10) : nar .char (Int32.ofNat (48 + d)) = Int32.ofNat (48 + d) := by
  rcases own_ten hd with rfl | rfl | rfl | rfl | rfl | rfl | rfl | rfl | rfl | rfl <;> decide +kernel
theorem own_asd {d : Nat} (hd : d < 10) : ¬ Int32.ofNat (48 + d) < 0 ∧ ¬ (127 : Int32) < Int32.ofNat (48 + d) := by
  rcases own_ten hd with rfl | rfl | rfl | rfl | rfl | rfl | rfl | rfl | rfl | rfl <;> decide +kernel
theorem own_rem (x : Int64) (m : Int64) (mi : Nat) (hm : m.toInt = (mi : Int)) (h0 : 0 < mi) (h1 : mi ≤ 10) : ∃ d : Nat, d < mi ∧ (x &&& (9223372036854775807 : Int64)) - ((x &&& (9223372036854775807 : Int64)) / m) * m = Int64.ofNat d := by
  have e1 : (x &&& (9223372036854775807 : Int64)).toInt = x.toInt % 2 ^ 63 := Jvm.Kit.i64_mask x 9223372036854775807 (k := 63) (by decide) (by decide)
  have e2 := Jvm.Kit.i64_rem_nonneg (x := x &&& (9223372036854775807 : Int64)) (y := m) (by rw [e1]; omega)
  rw [hm] at e2
  have a1 := Int.emod_nonneg (x &&& (9223372036854775807 : Int64)).toInt (show (mi : Int) ≠ 0 by omega)
  have a2 := Int.emod_lt_of_pos (x &&& (9223372036854775807 : Int64)).toInt (show (0 : Int) < (mi : Int) by omega)
  refine ⟨((x &&& (9223372036854775807 : Int64)).toInt % (mi : Int)).toNat, by omega, Int64.toInt_inj.mp ?_⟩
  rw [e2, Int64.toInt_ofNat_of_lt (by omega)]; omega
theorem own_fa {P : Int32 → Prop} {a : Int32} {l : List Int32} (h : P a) (g : ∀ c ∈ l, P c) : ∀ c ∈ a :: l, P c := by
  intro c hc; rcases List.mem_cons.mp hc with rfl | q
  · exact h
  · exact g c q
theorem own_fz {P : Int32 → Prop} : ∀ c ∈ ([] : List Int32), P c := fun c hc => by cases hc
theorem own_i8 {c : Int32} (h : ¬ c < 0 ∧ ¬ (127 : Int32) < c) : c.toInt8.toInt32 = c := by
  have h1 := h.1; have h2 := h.2
  rw [Int32.lt_iff_toInt_lt] at h1 h2
  have e1 : (0 : Int32).toInt = 0 := rfl
  have e2 : (127 : Int32).toInt = 127 := rfl
  apply Int32.toInt_inj.mp
  rw [Int8.toInt_toInt32, Int32.toInt_toInt8]; exact Int.bmod_eq_of_le (by omega) (by omega)
theorem own_map8 {cs : List Int32} (h : ∀ c ∈ cs, ¬ c < 0 ∧ ¬ (127 : Int32) < c) : cs = cs.map (fun c => c.toInt8.toInt32) := by
  conv => lhs; rw [← List.map_id cs]
  exact List.map_congr_left fun c hc => (own_i8 (h c hc)).symm
theorem own_255 {cs : List Int32} (h : ∀ c ∈ cs, ¬ c < 0 ∧ ¬ (127 : Int32) < c) : ∀ c ∈ cs, ¬ c < 0 ∧ ¬ (255 : Int32) < c := fun c hc => by
  refine ⟨(h c hc).1, fun q => (h c hc).2 ?_⟩
  rw [Int32.lt_iff_toInt_lt] at *
  have e1 : (127 : Int32).toInt = 127 := rfl
  have e2 : (255 : Int32).toInt = 255 := rfl
  omega
theorem own_narc {c : Int32} (h1 : ¬ c.toInt < (0 : Int32).toInt) (h2 : ¬ (127 : Int32).toInt < c.toInt) : (nar .char c).toInt = c.toInt := by
  have e1 : (0 : Int32).toInt = 0 := rfl
  have e2 : (127 : Int32).toInt = 127 := rfl
  have q : c &&& (255 : Int32) = c := by
    apply Int32.toInt_inj.mp
    rw [Jvm.Kit.i32_mask c 255 (k := 8) (by decide) (by decide)]; omega
  have e : nar .char (c &&& (255 : Int32)) = c &&& (255 : Int32) := i2c_mask c
  rw [q] at e; rw [e]
theorem own_fitc {cs : List Int32} (h : ∀ c ∈ cs, ¬ c < 0 ∧ ¬ (127 : Int32) < c) : ∀ v ∈ own_bs cs, fits .char v = true := by
  intro v hv
  obtain ⟨c, hc, rfl⟩ := List.mem_map.mp hv
  have h1 := (h c hc).1; have h2 := (h c hc).2
  rw [Int32.lt_iff_toInt_lt] at h1 h2
  have e1 : (0 : Int32).toInt = 0 := rfl
  have e2 : (127 : Int32).toInt = 127 := rfl
  have e3 : c = nar .char c := by
    apply Int32.toInt_inj.mp
    have e4 : (nar .char c).toInt = c.toInt := own_narc h1 h2
    rw [e4]
  rw [e3]; exact fits_nar_char _
theorem d1_0 : decode method_2_code 0 = .ok (.bipush 48, 2) := by decide +kernel
theorem d1_2 : decode method_2_code 2 = .ok (.lload_n 0, 1) := by decide +kernel
theorem d1_3 : decode method_2_code 3 = .ok (.l2i, 1) := by decide +kernel
theorem d1_4 : decode method_2_code 4 = .ok (.iadd, 1) := by decide +kernel
theorem d1_5 : decode method_2_code 5 = .ok (.i2c, 1) := by decide +kernel
theorem d1_6 : decode method_2_code 6 = .ok (.ireturn, 1) := by decide +kernel
theorem ef_1 (m : MethodId) (d : Nat) : entryFrame m #[(.long (Int64.ofNat d))] 2 = mkF m 0 #[.val (.long (Int64.ofNat d)), .second] [] := by first | (simp [entryFrame, mkF, argsToLocals, Value.category]; done) | rfl
def R1 : Room := ({ frames := 0, cells := 0, slots := 0, locals := 0 } : Room)
set_option maxRecDepth 65536 in
set_option maxHeartbeats 40000000 in
theorem rm1 (l : Launch) (Z : State) (a0 : Array Value) (hw : ∀ d ∈ tables_1, d.before a0 Z = true) (d : Nat) (h0 : Heap) (n0 : Nat) (hO : Old Z n0 h0) (hd : d < 10) :
    Con l Z (⟨"com/example/freshet/freshet/CacheCountsToStringPinLaw", "d", "(J)C"⟩ : MethodName) method_2_code 2 (some .char) [] R1 R1.cells R1.slots #[(.long (Int64.ofNat d))] h0 (fun v h L => v = some (.int (Int32.ofNat (48 + d))) ∧ h0 = h ∧ L = []) := by
  refine Con.intro (n0 := n0) (plainFor_of_name pn_7) (fun m => ef_1 m d) hO ?_
  intro p e s m below meth cc T hs0 X0
  refine g_bipush X0 d1_0 (pc' := 2) rfl (v := (48 : Int32)) rfl ?_
  refine g_lloadN X0 d1_2 (pc' := 3) rfl rfl ?_
  refine g_l2i X0 d1_3 (pc' := 4) rfl ?_
  refine g_iadd X0 d1_4 (pc' := 5) rfl ?_
  refine g_i2c X0 d1_5 (pc' := 6) rfl ?_
  rw [own_dch hd]
  exact g_retN X0 (by decide) rfl d1_6 (by decide) (by decide) ⟨by rw [own_ncd hd], rfl, rfl⟩

theorem d2_0 : decode prog_4_method_1_code 0 = .ok (.aload_n 0, 1) := by decide +kernel
theorem d2_1 : decode prog_4_method_1_code 1 = .ok (.invokespecial 1, 3) := by decide +kernel
theorem d2_4 : decode prog_4_method_1_code 4 = .ok (.aload_n 0, 1) := by decide +kernel
theorem d2_5 : decode prog_4_method_1_code 5 = .ok (.lload_n 1, 1) := by decide +kernel
theorem d2_6 : decode prog_4_method_1_code 6 = .ok (.putfield 7, 3) := by decide +kernel
theorem d2_9 : decode prog_4_method_1_code 9 = .ok (.aload_n 0, 1) := by decide +kernel
theorem d2_10 : decode prog_4_method_1_code 10 = .ok (.lload_n 3, 1) := by decide +kernel
theorem d2_11 : decode prog_4_method_1_code 11 = .ok (.putfield 13, 3) := by decide +kernel
theorem d2_14 : decode prog_4_method_1_code 14 = .ok (.aload_n 0, 1) := by decide +kernel
theorem d2_15 : decode prog_4_method_1_code 15 = .ok (.lload 5, 2) := by decide +kernel
theorem d2_17 : decode prog_4_method_1_code 17 = .ok (.putfield 16, 3) := by decide +kernel
theorem d2_20 : decode prog_4_method_1_code 20 = .ok (.aload_n 0, 1) := by decide +kernel
theorem d2_21 : decode prog_4_method_1_code 21 = .ok (.lload 7, 2) := by decide +kernel
theorem d2_23 : decode prog_4_method_1_code 23 = .ok (.putfield 19, 3) := by decide +kernel
theorem d2_26 : decode prog_4_method_1_code 26 = .ok (.aload_n 0, 1) := by decide +kernel
theorem d2_27 : decode prog_4_method_1_code 27 = .ok (.lload 9, 2) := by decide +kernel
theorem d2_29 : decode prog_4_method_1_code 29 = .ok (.putfield 22, 3) := by decide +kernel
theorem d2_32 : decode prog_4_method_1_code 32 = .ok (.aload_n 0, 1) := by decide +kernel
theorem d2_33 : decode prog_4_method_1_code 33 = .ok (.lload 11, 2) := by decide +kernel
theorem d2_35 : decode prog_4_method_1_code 35 = .ok (.putfield 25, 3) := by decide +kernel
theorem d2_38 : decode prog_4_method_1_code 38 = .ok (.return_, 1) := by decide +kernel
theorem ef_2 (m : MethodId) (a : Addr) (x1 : Int64) (x2 : Int64) (x3 : Int64) (x4 : Int64) (x5 : Int64) (x6 : Int64) : entryFrame m #[(.ref a), (.long x1), (.long x2), (.long x3), (.long x4), (.long x5), (.long x6)] 13 = mkF m 0 #[.val (.ref a), .val (.long x1), .second, .val (.long x2), .second, .val (.long x3), .second, .val (.long x4), .second, .val (.long x5), .second, .val (.long x6), .second] [] := by first | (simp [entryFrame, mkF, argsToLocals, Value.category]; done) | rfl
def R2 : Room := ({ frames := 1, cells := 0, slots := 0, locals := 12 } : Room)
set_option maxRecDepth 65536 in
set_option maxHeartbeats 40000000 in
theorem rm2 (l : Launch) (Z : State) (a0 : Array Value) (hw : ∀ d ∈ tables_1, d.before a0 Z = true) (a : Addr) (x1 : Int64) (x2 : Int64) (x3 : Int64) (x4 : Int64) (x5 : Int64) (x6 : Int64) (h0 : Heap) (n0 : Nat) (hO : Old Z n0 h0)  (E_a : Exa Z h0 a "com/example/freshet/freshet/CacheCounts") (ga : n0 ≤ a) (F_freshHits : Fld Z h0 a "com/example/freshet/freshet/CacheCounts" "freshHits" "J" (.long (0 : Int64))) (F_staleHits : Fld Z h0 a "com/example/freshet/freshet/CacheCounts" "staleHits" "J" (.long (0 : Int64))) (F_misses : Fld Z h0 a "com/example/freshet/freshet/CacheCounts" "misses" "J" (.long (0 : Int64))) (F_sourceCalls : Fld Z h0 a "com/example/freshet/freshet/CacheCounts" "sourceCalls" "J" (.long (0 : Int64))) (F_sourceFailures : Fld Z h0 a "com/example/freshet/freshet/CacheCounts" "sourceFailures" "J" (.long (0 : Int64))) (F_evictions : Fld Z h0 a "com/example/freshet/freshet/CacheCounts" "evictions" "J" (.long (0 : Int64))) :
    Con l Z (⟨"com/example/freshet/freshet/CacheCounts", "<init>", "(JJJJJJ)V"⟩ : MethodName) prog_4_method_1_code 13 none [] R2 R2.cells R2.slots #[(.ref a), (.long x1), (.long x2), (.long x3), (.long x4), (.long x5), (.long x6)] h0 (fun v h L => v = none ∧ Fr n0 L ∧ Keep h0 h [a] ∧ Fld Z h a "com/example/freshet/freshet/CacheCounts" "freshHits" "J" (.long x1) ∧ Fld Z h a "com/example/freshet/freshet/CacheCounts" "staleHits" "J" (.long x2) ∧ Fld Z h a "com/example/freshet/freshet/CacheCounts" "misses" "J" (.long x3) ∧ Fld Z h a "com/example/freshet/freshet/CacheCounts" "sourceCalls" "J" (.long x4) ∧ Fld Z h a "com/example/freshet/freshet/CacheCounts" "sourceFailures" "J" (.long x5) ∧ Fld Z h a "com/example/freshet/freshet/CacheCounts" "evictions" "J" (.long x6)) := by
  refine Con.intro (n0 := n0) (plainFor_of_name pn_8) (fun m => ef_2 m a x1 x2 x3 x4 x5 x6) hO ?_
  intro p e s m below meth c T hs0 X0
  refine g_aloadN X0 d2_0 (pc' := 1) rfl rfl rfl ?_
  refine g_initO X0 (hw _ m14) (hw _ m15) (hw _ m16) rfl d2_1 (pc' := 4) rfl (by decide) (W := 0) rfl (by decide) (fun T186 X186 => ?_)
  refine g_aloadN X186 d2_4 (pc' := 5) rfl rfl rfl ?_
  refine g_lloadN X186 d2_5 (pc' := 6) rfl rfl ?_
  refine g_putF X186 (host := "") (Or.inl (hw _ m17)) Via.refl F_freshHits E_a (Or.inr ⟨(hw _ m18), rfl, rfl⟩) (hw _ m9) (ty := .long) (by decide) rfl rfl ga d2_6 (pc' := 9) rfl (fun T187 h187 X187 W187 => ?_)
  have F187 := F_freshHits.same W187
  refine g_aloadN X187 d2_9 (pc' := 10) rfl rfl rfl ?_
  refine g_lloadN X187 d2_10 (pc' := 11) rfl rfl ?_
  have f188 := (F_staleHits.other W187 (Or.inr (slot_ne (Or.inr (hw _ m20)) (Or.inr (hw _ m18)) (by decide) (t := .long) (t' := .long) (by decide) (by decide))))
  have f189 := (E_a.wr W187)
  refine g_putF X187 (host := "") (Or.inl (hw _ m19)) Via.refl f188 f189 (Or.inr ⟨(hw _ m20), rfl, rfl⟩) (hw _ m9) (ty := .long) (by decide) rfl rfl ga d2_11 (pc' := 14) rfl (fun T190 h190 X190 W190 => ?_)
  have F190 := f188.same W190
  refine g_aloadN X190 d2_14 (pc' := 15) rfl rfl rfl ?_
  refine g_lload X190 d2_15 (pc' := 17) rfl rfl ?_
  have f191 := ((F_misses.other W187 (Or.inr (slot_ne (Or.inr (hw _ m22)) (Or.inr (hw _ m18)) (by decide) (t := .long) (t' := .long) (by decide) (by decide)))).other W190 (Or.inr (slot_ne (Or.inr (hw _ m22)) (Or.inr (hw _ m20)) (by decide) (t := .long) (t' := .long) (by decide) (by decide))))
  have f192 := (f189.wr W190)
  refine g_putF X190 (host := "") (Or.inl (hw _ m21)) Via.refl f191 f192 (Or.inr ⟨(hw _ m22), rfl, rfl⟩) (hw _ m9) (ty := .long) (by decide) rfl rfl ga d2_17 (pc' := 20) rfl (fun T193 h193 X193 W193 => ?_)
  have F193 := f191.same W193
  refine g_aloadN X193 d2_20 (pc' := 21) rfl rfl rfl ?_
  refine g_lload X193 d2_21 (pc' := 23) rfl rfl ?_
  have f194 := (((F_sourceCalls.other W187 (Or.inr (slot_ne (Or.inr (hw _ m24)) (Or.inr (hw _ m18)) (by decide) (t := .long) (t' := .long) (by decide) (by decide)))).other W190 (Or.inr (slot_ne (Or.inr (hw _ m24)) (Or.inr (hw _ m20)) (by decide) (t := .long) (t' := .long) (by decide) (by decide)))).other W193 (Or.inr (slot_ne (Or.inr (hw _ m24)) (Or.inr (hw _ m22)) (by decide) (t := .long) (t' := .long) (by decide) (by decide))))
  have f195 := (f192.wr W193)
  refine g_putF X193 (host := "") (Or.inl (hw _ m23)) Via.refl f194 f195 (Or.inr ⟨(hw _ m24), rfl, rfl⟩) (hw _ m9) (ty := .long) (by decide) rfl rfl ga d2_23 (pc' := 26) rfl (fun T196 h196 X196 W196 => ?_)
  have F196 := f194.same W196
  refine g_aloadN X196 d2_26 (pc' := 27) rfl rfl rfl ?_
  refine g_lload X196 d2_27 (pc' := 29) rfl rfl ?_
  have f197 := ((((F_sourceFailures.other W187 (Or.inr (slot_ne (Or.inr (hw _ m26)) (Or.inr (hw _ m18)) (by decide) (t := .long) (t' := .long) (by decide) (by decide)))).other W190 (Or.inr (slot_ne (Or.inr (hw _ m26)) (Or.inr (hw _ m20)) (by decide) (t := .long) (t' := .long) (by decide) (by decide)))).other W193 (Or.inr (slot_ne (Or.inr (hw _ m26)) (Or.inr (hw _ m22)) (by decide) (t := .long) (t' := .long) (by decide) (by decide)))).other W196 (Or.inr (slot_ne (Or.inr (hw _ m26)) (Or.inr (hw _ m24)) (by decide) (t := .long) (t' := .long) (by decide) (by decide))))
  have f198 := (f195.wr W196)
  refine g_putF X196 (host := "") (Or.inl (hw _ m25)) Via.refl f197 f198 (Or.inr ⟨(hw _ m26), rfl, rfl⟩) (hw _ m9) (ty := .long) (by decide) rfl rfl ga d2_29 (pc' := 32) rfl (fun T199 h199 X199 W199 => ?_)
  have F199 := f197.same W199
  refine g_aloadN X199 d2_32 (pc' := 33) rfl rfl rfl ?_
  refine g_lload X199 d2_33 (pc' := 35) rfl rfl ?_
  have f200 := (((((F_evictions.other W187 (Or.inr (slot_ne (Or.inr (hw _ m28)) (Or.inr (hw _ m18)) (by decide) (t := .long) (t' := .long) (by decide) (by decide)))).other W190 (Or.inr (slot_ne (Or.inr (hw _ m28)) (Or.inr (hw _ m20)) (by decide) (t := .long) (t' := .long) (by decide) (by decide)))).other W193 (Or.inr (slot_ne (Or.inr (hw _ m28)) (Or.inr (hw _ m22)) (by decide) (t := .long) (t' := .long) (by decide) (by decide)))).other W196 (Or.inr (slot_ne (Or.inr (hw _ m28)) (Or.inr (hw _ m24)) (by decide) (t := .long) (t' := .long) (by decide) (by decide)))).other W199 (Or.inr (slot_ne (Or.inr (hw _ m28)) (Or.inr (hw _ m26)) (by decide) (t := .long) (t' := .long) (by decide) (by decide))))
  have f201 := (f198.wr W199)
  refine g_putF X199 (host := "") (Or.inl (hw _ m27)) Via.refl f200 f201 (Or.inr ⟨(hw _ m28), rfl, rfl⟩) (hw _ m9) (ty := .long) (by decide) rfl rfl ga d2_35 (pc' := 38) rfl (fun T202 h202 X202 W202 => ?_)
  have F202 := f200.same W202
  have k203 := (Keep.refl h0 [a]).wr W187 (Or.inl (by simp))
  have k204 := k203.wr W190 (Or.inl (by simp))
  have k205 := k204.wr W193 (Or.inl (by simp))
  have k206 := k205.wr W196 (Or.inl (by simp))
  have k207 := k206.wr W199 (Or.inl (by simp))
  have k208 := k207.wr W202 (Or.inl (by simp))
  have f209 := (((((F187.other W190 (Or.inr (slot_ne (Or.inr (hw _ m18)) (Or.inr (hw _ m20)) (by decide) (t := .long) (t' := .long) (by decide) (by decide)))).other W193 (Or.inr (slot_ne (Or.inr (hw _ m18)) (Or.inr (hw _ m22)) (by decide) (t := .long) (t' := .long) (by decide) (by decide)))).other W196 (Or.inr (slot_ne (Or.inr (hw _ m18)) (Or.inr (hw _ m24)) (by decide) (t := .long) (t' := .long) (by decide) (by decide)))).other W199 (Or.inr (slot_ne (Or.inr (hw _ m18)) (Or.inr (hw _ m26)) (by decide) (t := .long) (t' := .long) (by decide) (by decide)))).other W202 (Or.inr (slot_ne (Or.inr (hw _ m18)) (Or.inr (hw _ m28)) (by decide) (t := .long) (t' := .long) (by decide) (by decide))))
  have f210 := ((((F190.other W193 (Or.inr (slot_ne (Or.inr (hw _ m20)) (Or.inr (hw _ m22)) (by decide) (t := .long) (t' := .long) (by decide) (by decide)))).other W196 (Or.inr (slot_ne (Or.inr (hw _ m20)) (Or.inr (hw _ m24)) (by decide) (t := .long) (t' := .long) (by decide) (by decide)))).other W199 (Or.inr (slot_ne (Or.inr (hw _ m20)) (Or.inr (hw _ m26)) (by decide) (t := .long) (t' := .long) (by decide) (by decide)))).other W202 (Or.inr (slot_ne (Or.inr (hw _ m20)) (Or.inr (hw _ m28)) (by decide) (t := .long) (t' := .long) (by decide) (by decide))))
  have f211 := (((F193.other W196 (Or.inr (slot_ne (Or.inr (hw _ m22)) (Or.inr (hw _ m24)) (by decide) (t := .long) (t' := .long) (by decide) (by decide)))).other W199 (Or.inr (slot_ne (Or.inr (hw _ m22)) (Or.inr (hw _ m26)) (by decide) (t := .long) (t' := .long) (by decide) (by decide)))).other W202 (Or.inr (slot_ne (Or.inr (hw _ m22)) (Or.inr (hw _ m28)) (by decide) (t := .long) (t' := .long) (by decide) (by decide))))
  have f212 := ((F196.other W199 (Or.inr (slot_ne (Or.inr (hw _ m24)) (Or.inr (hw _ m26)) (by decide) (t := .long) (t' := .long) (by decide) (by decide)))).other W202 (Or.inr (slot_ne (Or.inr (hw _ m24)) (Or.inr (hw _ m28)) (by decide) (t := .long) (t' := .long) (by decide) (by decide))))
  have f213 := (F199.other W202 (Or.inr (slot_ne (Or.inr (hw _ m26)) (Or.inr (hw _ m28)) (by decide) (t := .long) (t' := .long) (by decide) (by decide))))
  exact g_ret X202 rfl d2_38 (by decide) (by decide) ⟨rfl, X202.fr, k208, f209, f210, f211, f212, f213, F202⟩

theorem d15_0 : decode prog_4_method_2_code 0 = .ok (.aload_n 0, 1) := by decide +kernel
theorem d15_1 : decode prog_4_method_2_code 1 = .ok (.getfield 7, 3) := by decide +kernel
theorem d15_4 : decode prog_4_method_2_code 4 = .ok (.aload_n 0, 1) := by decide +kernel
theorem d15_5 : decode prog_4_method_2_code 5 = .ok (.getfield 13, 3) := by decide +kernel
theorem d15_8 : decode prog_4_method_2_code 8 = .ok (.ladd, 1) := by decide +kernel
theorem d15_9 : decode prog_4_method_2_code 9 = .ok (.aload_n 0, 1) := by decide +kernel
theorem d15_10 : decode prog_4_method_2_code 10 = .ok (.getfield 16, 3) := by decide +kernel
theorem d15_13 : decode prog_4_method_2_code 13 = .ok (.ladd, 1) := by decide +kernel
theorem d15_14 : decode prog_4_method_2_code 14 = .ok (.lreturn, 1) := by decide +kernel
theorem ef_15 (m : MethodId) (o : Addr) : entryFrame m #[(.ref o)] 1 = mkF m 0 #[.val (.ref o)] [] := by first | (simp [entryFrame, mkF, argsToLocals, Value.category]; done) | rfl
def R15 : Room := ({ frames := 0, cells := 0, slots := 0, locals := 0 } : Room)
set_option maxRecDepth 65536 in
set_option maxHeartbeats 40000000 in
theorem rm15 (l : Launch) (Z : State) (a0 : Array Value) (hw : ∀ d ∈ tables_1, d.before a0 Z = true) (o : Addr) (h0 : Heap) (n0 : Nat) (hO : Old Z n0 h0) (d1 d2 d3 d4 d5 d6 : Nat) (E_o : Exa Z h0 o "com/example/freshet/freshet/CacheCounts") (F_freshHits : Fld Z h0 o "com/example/freshet/freshet/CacheCounts" "freshHits" "J" (.long (Int64.ofNat d1))) (F_staleHits : Fld Z h0 o "com/example/freshet/freshet/CacheCounts" "staleHits" "J" (.long (Int64.ofNat d2))) (F_misses : Fld Z h0 o "com/example/freshet/freshet/CacheCounts" "misses" "J" (.long (Int64.ofNat d3))) :
    Con l Z (⟨"com/example/freshet/freshet/CacheCounts", "requests", "()J"⟩ : MethodName) prog_4_method_2_code 1 (some .long) [] R15 R15.cells R15.slots #[(.ref o)] h0 (fun v h L => v = some (.long (Int64.ofNat (d1 + d2 + d3))) ∧ h0 = h ∧ L = []) := by
  refine Con.intro (n0 := n0) (plainFor_of_name pn_8) (fun m => ef_15 m o) hO ?_
  intro p e s m below meth cc T hs0 X0
  refine g_aloadN X0 d15_0 (pc' := 1) rfl rfl rfl ?_
  refine g_getF X0 (host := "") (Or.inl (hw _ m17)) Via.refl F_freshHits d15_1 (pc' := 4) rfl (fun T214 X214 => ?_)
  refine g_aloadN X214 d15_4 (pc' := 5) rfl rfl rfl ?_
  refine g_getF X214 (host := "") (Or.inl (hw _ m19)) Via.refl F_staleHits d15_5 (pc' := 8) rfl (fun T215 X215 => ?_)
  refine g_ladd X215 d15_8 (pc' := 9) rfl ?_
  refine g_aloadN X215 d15_9 (pc' := 10) rfl rfl rfl ?_
  refine g_getF X215 (host := "") (Or.inl (hw _ m21)) Via.refl F_misses d15_10 (pc' := 13) rfl (fun T216 X216 => ?_)
  refine g_ladd X216 d15_13 (pc' := 14) rfl ?_
  rw [← Int64.ofNat_add, ← Int64.ofNat_add]
  exact g_retL X216 rfl d15_14 (by decide) (by decide) ⟨rfl, rfl, rfl⟩

end Nar
open Nar (own_bs BY own_put SS SBP AQ)
namespace Wid
section Own2
variable {p : Program} {l : Launch} {e : Env} {R : Room} {s : State} {m : MethodId} {args : Array Value} {below : List Frame} {meth : Method} {c : Code} {own nm : String} {bytes : ByteArray} {ml : Nat} {ret : Option FieldType} {T : State} {locs : List Loc} {cells slots : Nat} {Z : State} {a0 : Array Value} {h : Heap} {vm0 : Vm} {n0 : Nat} {K : State → Outcome → Prop} {pc pc' pt : Nat} {L L' : Array Slot} {S : List Value}
/-- a contract of a body that may intern, and needs the texts of EL -/
def ConH (EL : List (String × Nat)) (l : Launch) (Z : State) (y : MethodName) (bytes : ByteArray) (ml : Nat) (ret : Option FieldType) (ws : List Jvm.Cond) (rm : Room) (as' : Array Value) (h : Heap) (Q : Option Value → Heap → List Loc → Prop) : Prop :=
  MetFree l y (head1 (Jvm.Cond.code y bytes ml ret :: ws) rm) (fun a U => a = as' ∧ Z.Warmed39 U.vm ∧ U.heap = h ∧ CHv Z EL U.vm h) (fun _ _ _ _ _ => True) (fun _ U o U' => ∃ v L, o = .returned v ∧ Q v U'.heap L ∧ ReturnedEndW U o U' L rm.cells rm.slots)
theorem ConH.intro {EL : List (String × Nat)} {y : MethodName} {ws : List Jvm.Cond} {rm : Room} {as' : Array Value} {Q : Option Value → Heap → List Loc → Prop} (hy : plainFor y = true) (ef : ∀ m, entryFrame m as' ml = mkF m 0 L []) (hz : Old Z n0 h)
    (body : ∀ p e s m below meth c T, s.heap = h → CHv Z EL s.vm h → St Z n0 p l e rm s s.vm m as' below meth c y.cls y.name bytes ml ret T [] 0 0 h → Go p e below (Kq s rm.cells rm.slots Q) (T.setTop (mkF m 0 L []))) : ConH EL l Z y bytes ml ret ws rm as' h Q := by
  refine MetFree.of_bodySF hy hisR ?_
  intro p e s m args below meth c s₁ Bd hml0 hP hK
  obtain ⟨rfl, hZ, hh, hH⟩ := hP
  have e0 : s₁.heap = h := by rw [← hh, Bd.state]; rfl
  obtain ⟨s₂, o, h1, h2, h3, h4⟩ := body p e s m below meth c s₁ hh hH ⟨Stand.of_body Bd, ⟨Bd.exec, Bd.bytes, hml0, findClass_of_methodNamed Bd.named, hZ, Bd.returns, Bd.notSynchronized, (name_of_methodNamed Bd.named Bd.method).1⟩, e0, Fr.nil n0, hz, 0, (State.WarmedH.refl s).since 0, Nat.zero_le _⟩
  exact ⟨s₂, o, castTop (ef m) h1, h2, h3, h4⟩
theorem backH {EL : List (String × Nat)} {y : MethodName} {maxL : Nat} {ret : Option FieldType} {rm : Room} {len W : Nat} {as' : Array Value} {Q : Option Value → Heap → List Loc → Prop} (hM : ConH EL l Z y bytes maxL ret [] rm as' h Q)
    (hZ : Z.Warmed39 vm0) (wc : (Jvm.Cond.code y bytes maxL ret).before a0 Z = true) (wz : (Jvm.Cond.initialized y.cls).before a0 Z = true) (hf : rm.frames + 1 ≤ R.frames) (hl : W + (maxL + 11) + rm.locals ≤ R.locals) (hEL : EW Z a0 EL) (H : CHv Z EL vm0 h) :
    BackS l R p e below (s.setVm vm0) args y len W (fun A a => a = as' ∧ A.U.heap = h ∧ A.cells + rm.cells ≤ R.cells ∧ A.slots + rm.slots ≤ R.slots)
      (fun A _ v B => ∃ L, Q v B.U.heap L ∧ B.locs = A.locs ++ L ∧ B.cells = A.cells + rm.cells ∧ B.slots = A.slots + rm.slots) :=
  BackS.of_freeW (bytes := bytes) (maxL := maxL) (ret := ret) (E := fun _ _ o t L k n => k = rm.cells ∧ n = rm.slots ∧ ∃ v, o = .returned v ∧ Q v t.heap L) hM hf hl
    (fun m meth c A a Y hp => have hU : Z.Warmed39 A.U.vm := wtrans (s := s.setVm vm0) hZ Y.warmed
      ⟨by show (Cond.and _ .tt).before a A.U = true; rw [Cond.before_and, mv hU wc]; rfl, mv hU wc, mv hU wz, hp.2.2.1, hp.2.2.2⟩)
    (fun m meth c A a g mk Y hp => ⟨hp.1, wtrans (s := s.setVm vm0) hZ Y.warmed, hp.2.1, (CHv.at Y hZ hEL H).1⟩) (fun _ _ _ _ _ _ _ _ _ => trivial)
    (fun _ _ _ _ ⟨v, L, h1, h2, h3⟩ => ⟨L, _, _, h3, rfl, rfl, v, h1, h2⟩)
    (fun m meth c A a g mk v t L k n Y hp _ _ ⟨e1, e2, v', e3, e4⟩ => by cases e3; subst e1 e2; exact ⟨L, e4, rfl, rfl, rfl⟩)
theorem g_ldcH (X : St Z n0 p l e R s vm0 m args below meth c own nm bytes ml ret T locs cells slots h) {EL : List (String × Nat)} {text : String} {i n : Nat} {zs : List Int32} (w : (Jvm.Cond.stringLink own i text).before a0 Z = true) (wS : ∀ a ∈ Bundle.stringAtoms, a.before a0 Z = true) (hEL : EW Z a0 EL) (hmem : (own, i) ∈ EL) (H : CHv Z EL vm0 h) (ht : (∀ c ∈ text.toList, c.toNat < 256) ∧ text.toList.map (fun c => Value.int (Jvm.Lit.byteI c.toNat.toUInt16)) = Nar.own_bs zs) (hzs : zs.length < 2 ^ 31) (hn : 4 * text.toList.length ≤ n) (hbig : n ≤ 536870912) (hc : cells + 2 ≤ R.cells) (hl : slots + (n + 4) ≤ R.slots) (hd : decode bytes pc = .ok (.ldc i, 2)) (hp : pc + 2 = pc')
    (k : ∀ T' h' a b, St Z n0 p l e R s T'.vm m args below meth c own nm bytes ml ret T' locs (cells + 2) (slots + (n + 4)) h' → Ext h h' → Nar.SS Z h' a b zs → CHr Z EL vm0 h T'.vm h' → (∀ x, Safe Z EL T'.vm h' x → x ≠ a ∧ x ≠ b) → Go p e below K (T'.setTop (mkF m pc' L (.ref a :: S)))) : Go p e below K (T.setTop (mkF m pc L S)) := by
  obtain ⟨k0, hS, hk⟩ := X.2.2.2.2.2
  have q := own_clampN (Int32.toInt_ofNat_small hzs)
  obtain ⟨a, T', h', k1, b, kb, Y, e', E, Y2, hk1, Y3, Y4, Ea, Fc, Fv, A, la, lb, CR, LT, SF, st'⟩ := ldcCH X.X X.hx X.hZ X.own_ w wS X.eT hS hk hEL hmem H (z := Int32.ofNat zs.length) ht q.1 (by rw [q.2, Nar.own_bs_len]) (g := mkF m pc L S) rfl (X.d hd) hn hbig hc hl
  subst hp; exact (k T' h' a b ⟨Y, ⟨X.hx, X.by_, X.ml_, Y4, Y3, X.ret_, X.lk, X.nm_⟩, e', X.fr, X.old.ext E, k1, Y2, hk1⟩ E ⟨Ea, Fc, Fv, arv_arx A (by rw [Int32.toInt_ofNat_small hzs, Nar.own_bs_len])⟩ CR SF).of st'
theorem own_one {EL : List (String × Nat)} {vm : Vm} {b : Addr} (h1 : Safe Z EL vm h b) : ∀ x ∈ [b], Safe Z EL vm h x := fun x hx => by rw [List.mem_singleton.mp hx]; exact h1
theorem own_two {EL : List (String × Nat)} {vm : Vm} {b v : Addr} (h1 : Safe Z EL vm h b) (h2 : Safe Z EL vm h v) : ∀ x ∈ [b, v], Safe Z EL vm h x := fun x hx => by
  rcases List.mem_cons.mp hx with rfl | q
  · exact h1
  · rw [List.mem_singleton.mp q]; exact h2
theorem own_sbext {h' : Heap} {b v : Addr} {k : Nat} {ws : List Int32} (H : Nar.SBP Z n0 h b v k ws) (E : Ext h h') : Nar.SBP Z n0 h' b v k ws := by
  obtain ⟨h1, h2, h3, h4, h5, r⟩ := H; exact ⟨h1.ext E, h2.ext E, h3.ext E, h4.ext E, h5.ext E, r⟩
theorem own_ew (hw : ∀ d ∈ tables_1, d.before a0 Z = true) : EW Z a0 consts_1 := (EW.cons (hw _ m54) (by decide +kernel) (EW.cons (hw _ m140) (by decide +kernel) (EW.cons (hw _ m164) (by decide +kernel) (EW.cons (hw _ m165) (by decide +kernel) (EW.cons (hw _ m166) (by decide +kernel) (EW.cons (hw _ m167) (by decide +kernel) (EW.cons (hw _ m168) (by decide +kernel) EW.nil)))))))
theorem own_wS (hw : ∀ d ∈ tables_1, d.before a0 Z = true) : ∀ a ∈ Bundle.stringAtoms, a.before a0 Z = true := fun d hd => hw d ((by decide +kernel : ∀ d ∈ Bundle.stringAtoms, d ∈ tables_1) d hd)
end Own2
theorem d4_0 : decode prog_4_method_9_code 0 = .ok (.new 28, 3) := by decide +kernel
theorem d4_3 : decode prog_4_method_9_code 3 = .ok (.dup, 1) := by decide +kernel
theorem d4_4 : decode prog_4_method_9_code 4 = .ok (.invokespecial 30, 3) := by decide +kernel
theorem d4_7 : decode prog_4_method_9_code 7 = .ok (.ldc 31, 2) := by decide +kernel
theorem d4_9 : decode prog_4_method_9_code 9 = .ok (.invokevirtual 33, 3) := by decide +kernel
theorem d4_12 : decode prog_4_method_9_code 12 = .ok (.aload_n 0, 1) := by decide +kernel
theorem d4_13 : decode prog_4_method_9_code 13 = .ok (.invokevirtual 37, 3) := by decide +kernel
theorem d4_16 : decode prog_4_method_9_code 16 = .ok (.invokevirtual 41, 3) := by decide +kernel
theorem d4_19 : decode prog_4_method_9_code 19 = .ok (.ldc 44, 2) := by decide +kernel
theorem d4_21 : decode prog_4_method_9_code 21 = .ok (.invokevirtual 33, 3) := by decide +kernel
theorem d4_24 : decode prog_4_method_9_code 24 = .ok (.aload_n 0, 1) := by decide +kernel
theorem d4_25 : decode prog_4_method_9_code 25 = .ok (.getfield 7, 3) := by decide +kernel
theorem d4_28 : decode prog_4_method_9_code 28 = .ok (.invokevirtual 41, 3) := by decide +kernel
theorem d4_31 : decode prog_4_method_9_code 31 = .ok (.ldc 46, 2) := by decide +kernel
theorem d4_33 : decode prog_4_method_9_code 33 = .ok (.invokevirtual 33, 3) := by decide +kernel
theorem d4_36 : decode prog_4_method_9_code 36 = .ok (.aload_n 0, 1) := by decide +kernel
theorem d4_37 : decode prog_4_method_9_code 37 = .ok (.getfield 13, 3) := by decide +kernel
theorem d4_40 : decode prog_4_method_9_code 40 = .ok (.invokevirtual 41, 3) := by decide +kernel
theorem d4_43 : decode prog_4_method_9_code 43 = .ok (.ldc 48, 2) := by decide +kernel
theorem d4_45 : decode prog_4_method_9_code 45 = .ok (.invokevirtual 33, 3) := by decide +kernel
theorem d4_48 : decode prog_4_method_9_code 48 = .ok (.aload_n 0, 1) := by decide +kernel
theorem d4_49 : decode prog_4_method_9_code 49 = .ok (.getfield 16, 3) := by decide +kernel
theorem d4_52 : decode prog_4_method_9_code 52 = .ok (.invokevirtual 41, 3) := by decide +kernel
theorem d4_55 : decode prog_4_method_9_code 55 = .ok (.ldc 50, 2) := by decide +kernel
theorem d4_57 : decode prog_4_method_9_code 57 = .ok (.invokevirtual 33, 3) := by decide +kernel
theorem d4_60 : decode prog_4_method_9_code 60 = .ok (.aload_n 0, 1) := by decide +kernel
theorem d4_61 : decode prog_4_method_9_code 61 = .ok (.getfield 19, 3) := by decide +kernel
theorem d4_64 : decode prog_4_method_9_code 64 = .ok (.invokevirtual 41, 3) := by decide +kernel
theorem d4_67 : decode prog_4_method_9_code 67 = .ok (.ldc 52, 2) := by decide +kernel
theorem d4_69 : decode prog_4_method_9_code 69 = .ok (.invokevirtual 33, 3) := by decide +kernel
theorem d4_72 : decode prog_4_method_9_code 72 = .ok (.aload_n 0, 1) := by decide +kernel
theorem d4_73 : decode prog_4_method_9_code 73 = .ok (.getfield 22, 3) := by decide +kernel
theorem d4_76 : decode prog_4_method_9_code 76 = .ok (.invokevirtual 41, 3) := by decide +kernel
theorem d4_79 : decode prog_4_method_9_code 79 = .ok (.ldc 54, 2) := by decide +kernel
theorem d4_81 : decode prog_4_method_9_code 81 = .ok (.invokevirtual 33, 3) := by decide +kernel
theorem d4_84 : decode prog_4_method_9_code 84 = .ok (.aload_n 0, 1) := by decide +kernel
theorem d4_85 : decode prog_4_method_9_code 85 = .ok (.getfield 25, 3) := by decide +kernel
theorem d4_88 : decode prog_4_method_9_code 88 = .ok (.invokevirtual 41, 3) := by decide +kernel
theorem d4_91 : decode prog_4_method_9_code 91 = .ok (.invokevirtual 56, 3) := by decide +kernel
theorem d4_94 : decode prog_4_method_9_code 94 = .ok (.areturn, 1) := by decide +kernel
theorem ef_4 (m : MethodId) (o : Addr) : entryFrame m #[(.ref o)] 1 = mkF m 0 #[.val (.ref o)] [] := by first | (simp [entryFrame, mkF, argsToLocals, Value.category]; done) | rfl
def R4 : Room := ({ frames := 6, cells := 21, slots := 976, locals := 113 } : Room)
set_option maxRecDepth 65536 in
set_option maxHeartbeats 40000000 in
theorem rm4 (l : Launch) (Z : State) (a0 : Array Value) (hw : ∀ d ∈ tables_1, d.before a0 Z = true) (o : Addr) (h0 : Heap) (n0 : Nat) (hO : Old Z n0 h0) (d1 d2 d3 d4 d5 d6 : Nat) (E_o : Exa Z h0 o "com/example/freshet/freshet/CacheCounts") (F_freshHits : Fld Z h0 o "com/example/freshet/freshet/CacheCounts" "freshHits" "J" (.long (Int64.ofNat d1))) (F_staleHits : Fld Z h0 o "com/example/freshet/freshet/CacheCounts" "staleHits" "J" (.long (Int64.ofNat d2))) (F_misses : Fld Z h0 o "com/example/freshet/freshet/CacheCounts" "misses" "J" (.long (Int64.ofNat d3))) (F_sourceCalls : Fld Z h0 o "com/example/freshet/freshet/CacheCounts" "sourceCalls" "J" (.long (Int64.ofNat d4))) (F_sourceFailures : Fld Z h0 o "com/example/freshet/freshet/CacheCounts" "sourceFailures" "J" (.long (Int64.ofNat d5))) (F_evictions : Fld Z h0 o "com/example/freshet/freshet/CacheCounts" "evictions" "J" (.long (Int64.ofNat d6))) (hd1 : d1 < 4) (hd2 : d2 < 4) (hd3 : d3 < 4) (hd4 : d4 < 10) (hd5 : d5 < 10) (hd6 : d6 < 10) (G1 : Int32) (O2 : Sta Z Z.heap "java/lang/String" "COMPACT_STRINGS" "Z" (.int G1)) (P5 : ¬ G1 = (0 : Int32)) (dg : Addr) (tb : List Int32) (OD : Sta Z Z.heap "java/lang/Integer" "DigitOnes" "[B" (.ref dg)) (AD : Arx Z Z.heap dg .byte (Nar.own_bs tb)) (hdg : ∀ i, i < 10 → (Nar.own_bs tb)[i]? = some (.int (Int32.ofNat (48 + i)))) :
    ConH consts_1 l Z (⟨"com/example/freshet/freshet/CacheCounts", "toString", "()Ljava/lang/String;"⟩ : MethodName) prog_4_method_9_code 1 (some (.object "java/lang/String")) [] R4 #[(.ref o)] h0 (fun r h L => ∃ a u : Addr, r = some (.ref a) ∧ Fr n0 L ∧ Keep h0 h [] ∧ Nar.SS Z h a u [(114 : Int32), (101 : Int32), (113 : Int32), (117 : Int32), (101 : Int32), (115 : Int32), (116 : Int32), (115 : Int32), (32 : Int32), (Int32.ofNat (48 + (d1 + d2 + d3))), (44 : Int32), (32 : Int32), (102 : Int32), (114 : Int32), (101 : Int32), (115 : Int32), (104 : Int32), (32 : Int32), (104 : Int32), (105 : Int32), (116 : Int32), (115 : Int32), (32 : Int32), (Int32.ofNat (48 + d1)), (44 : Int32), (32 : Int32), (115 : Int32), (116 : Int32), (97 : Int32), (108 : Int32), (101 : Int32), (32 : Int32), (104 : Int32), (105 : Int32), (116 : Int32), (115 : Int32), (32 : Int32), (Int32.ofNat (48 + d2)), (44 : Int32), (32 : Int32), (109 : Int32), (105 : Int32), (115 : Int32), (115 : Int32), (101 : Int32), (115 : Int32), (32 : Int32), (Int32.ofNat (48 + d3)), (44 : Int32), (32 : Int32), (115 : Int32), (111 : Int32), (117 : Int32), (114 : Int32), (99 : Int32), (101 : Int32), (32 : Int32), (99 : Int32), (97 : Int32), (108 : Int32), (108 : Int32), (115 : Int32), (32 : Int32), (Int32.ofNat (48 + d4)), (44 : Int32), (32 : Int32), (115 : Int32), (111 : Int32), (117 : Int32), (114 : Int32), (99 : Int32), (101 : Int32), (32 : Int32), (102 : Int32), (97 : Int32), (105 : Int32), (108 : Int32), (117 : Int32), (114 : Int32), (101 : Int32), (115 : Int32), (32 : Int32), (Int32.ofNat (48 + d5)), (44 : Int32), (32 : Int32), (101 : Int32), (118 : Int32), (105 : Int32), (99 : Int32), (116 : Int32), (105 : Int32), (111 : Int32), (110 : Int32), (115 : Int32), (32 : Int32), (Int32.ofNat (48 + d6))]) := by
  refine ConH.intro (n0 := n0) (plainFor_of_name pn_8) (fun m => ef_4 m o) hO ?_
  intro p e s m below meth cc T hs0 H0 X0
  refine g_new X0 (hw _ m34) (hw _ m35) (hw _ m36) d4_0 (pc' := 3) rfl (by decide) (by decide) (fun T217 h217 b217 X217 g217 E217 A217 D217 l217 => ?_)
  have ne218 : o ≠ b217 := ne_new E_o.lt g217
  have F217_value : Fld Z h217 b217 "java/lang/AbstractStringBuilder" "value" "[B" .null := D217 (Or.inl (hw _ m51)) (ty := (.array .byte)) (by decide)
  have F217_coder : Fld Z h217 b217 "java/lang/AbstractStringBuilder" "coder" "B" (.int (0 : Int32)) := D217 (Or.inl (hw _ m53)) (ty := .byte) (by decide)
  have F217_count : Fld Z h217 b217 "java/lang/AbstractStringBuilder" "count" "I" (.int (0 : Int32)) := D217 (Or.inl (hw _ m84)) (ty := .int) (by decide)
  refine g_dup X217 d4_3 (pc' := 4) rfl rfl ?_
  refine g_ncallI X217 (y := (⟨"java/lang/StringBuilder", "<init>", "()V"⟩ : MethodName)) (a := b217) [] rfl (hw _ m37) (hw _ m38) rfl (hw _ m39) (hw _ m36) (Nar.rm5 l Z a0 hw b217 h217 n0 X217.old A217 l217 F217_value F217_coder F217_count G1 O2 P5) (by decide) (by decide) (by decide) (by decide) (by decide) rfl pd_21 rfl (rest := [(.ref b217)]) rfl (W := 1) rfl d4_4 (pc' := 7) rfl ?_
  rintro _ T219 h219 L219 Y219 ⟨v219, rfl, N219, K219, q219, H219⟩
  have X219 := Y219 (X217.old.keep K219 (allS l217 all0)) N219 K219.1
  have ob : h0.size ≤ b217 := Nat.le_of_eq g217.symm
  have KK219 : Keep h0 h219 [] := ((Keep.refl h0 []).ext E217).trans K219 (allS (Or.inr ob) all0)
  have HC0 := H0.ext E217
  have Sb0 : Safe Z consts_1 s.vm h217 b217 := Safe.exa X0.hZ.alike A217 (by decide) (by decide)
  have HC219 := HC0.keep K219 (own_one Sb0)
  have Sv219 := Safe.keep K219 (own_one Sb0) HC0 (Safe.new (Z := Z) (EL := consts_1) (vm := s.vm) q219)
  have ov219 : h0.size ≤ v219 := Nat.le_trans E217.1 q219
  show Go p e below _ (State.setTop _ (mkF m 7 #[.val (.ref o)] [(.ref b217)]))
  refine g_ldcH X219 (n := 36) (zs := [(114 : Int32), (101 : Int32), (113 : Int32), (117 : Int32), (101 : Int32), (115 : Int32), (116 : Int32), (115 : Int32), (32 : Int32)]) (hw _ m54) (own_wS hw) (own_ew hw) (by decide) HC219 ⟨(by decide +kernel), (by first | rfl | decide +kernel)⟩ (by decide) (by decide +kernel) (by decide) (by decide) (by decide) d4_7 (pc' := 9) rfl (fun T220 h220 a220 u220 X220 E220 HS220 R220 SF220 => ?_)
  have KK220 := KK219.ext E220
  have HB220 := own_sbext H219 E220
  have Sv220 := R220.safe H219.2.2.2.2.1.lt Sv219
  have Sb220 : Safe Z consts_1 T220.vm h220 b217 := Safe.exa X220.hZ.alike HB220.1 (by decide) (by decide)
  refine g_ncallV X220 (y := (⟨"java/lang/StringBuilder", "append", "(Ljava/lang/String;)Ljava/lang/StringBuilder;"⟩ : MethodName)) (z := (⟨"java/lang/StringBuilder", "append", "(Ljava/lang/String;)Ljava/lang/StringBuilder;"⟩ : MethodName)) (a := b217) [(.ref a220)] (hw _ m60) (hw _ m61) (notFace_of_selects (args := #[]) (mvT X220.hZ (hw _ m63))) (hw _ m63) (hw _ m62) HB220.1 (hw _ m64) (hw _ m36) (Nar.rm7 l Z a0 hw b217 a220 h220 n0 X220.old v219 0 (List.replicate 16 (0 : Int32)) HB220 u220 [(114 : Int32), (101 : Int32), (113 : Int32), (117 : Int32), (101 : Int32), (115 : Int32), (116 : Int32), (115 : Int32), (32 : Int32)] HS220 (by unfold Nar.BY; decide) (Ne.symm (SF220 _ Sb220).1) (Ne.symm (SF220 _ Sv220).1) (Ne.symm (SF220 _ Sb220).2) (Ne.symm (SF220 _ Sv220).2) (by rw [(rfl : (List.replicate 16 (0 : Int32)).length = 16)]; decide) (by rw [(rfl : (List.replicate 16 (0 : Int32)).length = 16)]; decide) G1 O2 P5) (by decide) (by decide) (by decide) (by decide) (by decide) rfl pd_22 rfl (rest := []) rfl (W := 0) rfl d4_9 (pc' := 12) rfl ?_
  rintro _ T221 h221 L221 Y221 ⟨v221, ws221, rfl, N221, K221, q221, H221, hl221, ht221⟩
  have X221 := Y221 (X220.old.keep K221 (allS l217 (allS HB220.2.2.2.2.2.2.1 all0))) N221 K221.1
  rw [(rfl : (List.replicate 16 (0 : Int32)).take 0 = [])] at H221 ht221
  have HB221 : Nar.SBP Z n0 h221 b217 v221 9 ws221 := H221
  have hl221 : ws221.length = 16 := hl221.trans (rfl : (List.replicate 16 (0 : Int32)).length = 16)
  have ht221 : ws221.take 9 = [(114 : Int32), (101 : Int32), (113 : Int32), (117 : Int32), (101 : Int32), (115 : Int32), (116 : Int32), (115 : Int32), (32 : Int32)] := ht221
  have KK221 := KK220.trans K221 (allS (Or.inr ob) (allS (Or.inr ov219) all0))
  have HC221 := CHv.keep K221 (own_two Sb220 Sv220) R220.1
  have ov221 : h0.size ≤ v221 := q221.elim (fun e => e.symm ▸ ov219) (fun g => Nat.le_trans KK220.1 g)
  have Sv221 := Safe.keep K221 (own_two Sb220 Sv220) R220.1 (q221.elim (fun e => e.symm ▸ Sv220) (fun g => Safe.new g))
  have Sb221 : Safe Z consts_1 T220.vm h221 b217 := Safe.exa X221.hZ.alike HB221.1 (by decide) (by decide)
  show Go p e below _ (State.setTop _ (mkF m 12 #[.val (.ref o)] [(.ref b217)]))
  refine g_aloadN X221 d4_12 (pc' := 13) rfl rfl rfl ?_
  have f222 := (E_o.keep KK221)
  have f223 := (F_freshHits.keep KK221 nm0)
  have f224 := (F_staleHits.keep KK221 nm0)
  have f225 := (F_misses.keep KK221 nm0)
  refine g_ncallV X221 (y := (⟨"com/example/freshet/freshet/CacheCounts", "requests", "()J"⟩ : MethodName)) (z := (⟨"com/example/freshet/freshet/CacheCounts", "requests", "()J"⟩ : MethodName)) (a := o) [] (hw _ m110) (hw _ m111) (notFace_of_selects (args := #[]) (mvT X221.hZ (hw _ m113))) (hw _ m113) (hw _ m112) f222 (hw _ m114) (hw _ m10) (Nar.rm15 l Z a0 hw o h221 n0 X221.old d1 d2 d3 d4 d5 d6 f222 f223 f224 f225) (by decide) (by decide) (by decide) (by decide) (by decide) rfl pd_23 rfl (rest := [(.ref b217)]) rfl (W := 1) rfl d4_13 (pc' := 16) rfl ?_
  rintro _ T226 _ _ Y226 ⟨rfl, rfl, rfl⟩
  have X226 := Y226 X221.old (Fr.nil _) (Nat.le_refl _)
  show Go p e below _ (State.setTop _ (mkF m 16 #[.val (.ref o)] [(.long (Int64.ofNat (d1 + d2 + d3))), (.ref b217)]))
  refine g_ncallV X226 (y := (⟨"java/lang/StringBuilder", "append", "(J)Ljava/lang/StringBuilder;"⟩ : MethodName)) (z := (⟨"java/lang/StringBuilder", "append", "(J)Ljava/lang/StringBuilder;"⟩ : MethodName)) (a := b217) [(.long (Int64.ofNat (d1 + d2 + d3)))] (hw _ m115) (hw _ m116) (notFace_of_selects (args := #[]) (mvT X226.hZ (hw _ m118))) (hw _ m118) (hw _ m117) HB221.1 (hw _ m119) (hw _ m36) (Nar.rm16 l Z a0 hw b217 (d1 + d2 + d3) h221 n0 X226.old v221 9 ws221 HB221 (by omega) (by rw [hl221]; decide) (by rw [hl221]; decide) G1 O2 P5 dg tb OD AD hdg) (by decide) (by decide) (by decide) (by decide) (by decide) rfl pd_24 rfl (rest := []) rfl (W := 0) rfl d4_16 (pc' := 19) rfl ?_
  rintro _ T227 h227 L227 Y227 ⟨v227, ws227, rfl, N227, K227, q227, H227, hl227, ht227⟩
  have X227 := Y227 (X226.old.keep K227 (allS l217 (allS HB221.2.2.2.2.2.2.1 all0))) N227 K227.1
  rw [ht221] at H227 ht227
  have HB227 : Nar.SBP Z n0 h227 b217 v227 10 ws227 := H227
  have hl227 : ws227.length = 16 := hl227.trans hl221
  have ht227 : ws227.take 10 = [(114 : Int32), (101 : Int32), (113 : Int32), (117 : Int32), (101 : Int32), (115 : Int32), (116 : Int32), (115 : Int32), (32 : Int32), (Int32.ofNat (48 + (d1 + d2 + d3)))] := ht227
  have KK227 := KK221.trans K227 (allS (Or.inr ob) (allS (Or.inr ov221) all0))
  have HC227 := CHv.keep K227 (own_two Sb221 Sv221) HC221
  have ov227 : h0.size ≤ v227 := q227.elim (fun e => e.symm ▸ ov221) (fun g => Nat.le_trans KK221.1 g)
  have Sv227 := Safe.keep K227 (own_two Sb221 Sv221) HC221 (q227.elim (fun e => e.symm ▸ Sv221) (fun g => Safe.new g))
  have Sb227 : Safe Z consts_1 T220.vm h227 b217 := Safe.exa X227.hZ.alike HB227.1 (by decide) (by decide)
  show Go p e below _ (State.setTop _ (mkF m 19 #[.val (.ref o)] [(.ref b217)]))
  refine g_ldcH X227 (n := 52) (zs := [(44 : Int32), (32 : Int32), (102 : Int32), (114 : Int32), (101 : Int32), (115 : Int32), (104 : Int32), (32 : Int32), (104 : Int32), (105 : Int32), (116 : Int32), (115 : Int32), (32 : Int32)]) (hw _ m140) (own_wS hw) (own_ew hw) (by decide) HC227 ⟨(by decide +kernel), (by first | rfl | decide +kernel)⟩ (by decide) (by decide +kernel) (by decide) (by decide) (by decide) d4_19 (pc' := 21) rfl (fun T228 h228 a228 u228 X228 E228 HS228 R228 SF228 => ?_)
  have KK228 := KK227.ext E228
  have HB228 := own_sbext HB227 E228
  have Sv228 := R228.safe HB227.2.2.2.2.1.lt Sv227
  have Sb228 : Safe Z consts_1 T228.vm h228 b217 := Safe.exa X228.hZ.alike HB228.1 (by decide) (by decide)
  refine g_ncallV X228 (y := (⟨"java/lang/StringBuilder", "append", "(Ljava/lang/String;)Ljava/lang/StringBuilder;"⟩ : MethodName)) (z := (⟨"java/lang/StringBuilder", "append", "(Ljava/lang/String;)Ljava/lang/StringBuilder;"⟩ : MethodName)) (a := b217) [(.ref a228)] (hw _ m60) (hw _ m61) (notFace_of_selects (args := #[]) (mvT X228.hZ (hw _ m63))) (hw _ m63) (hw _ m62) HB228.1 (hw _ m64) (hw _ m36) (Nar.rm7g l Z a0 hw b217 a228 h228 n0 X228.old v227 10 ws227 HB228 u228 [(44 : Int32), (32 : Int32), (102 : Int32), (114 : Int32), (101 : Int32), (115 : Int32), (104 : Int32), (32 : Int32), (104 : Int32), (105 : Int32), (116 : Int32), (115 : Int32), (32 : Int32)] HS228 (by unfold Nar.BY; decide) (Ne.symm (SF228 _ Sb228).1) (Ne.symm (SF228 _ Sv228).1) (Ne.symm (SF228 _ Sb228).2) (Ne.symm (SF228 _ Sv228).2) (by rw [hl227]; decide) (by rw [hl227]; decide) (by rw [hl227]; decide) (by rw [hl227]; decide) G1 O2 P5) (by decide) (by decide) (by decide) (by decide) (by decide) rfl pd_22 rfl (rest := []) rfl (W := 0) rfl d4_21 (pc' := 24) rfl ?_
  rintro _ T229 h229 L229 Y229 ⟨v229, ws229, rfl, N229, K229, q229, H229, hl229, ht229⟩
  have X229 := Y229 (X228.old.keep K229 (allS l217 (allS HB228.2.2.2.2.2.2.1 all0))) N229 K229.1
  rw [ht227] at H229 ht229
  have HB229 : Nar.SBP Z n0 h229 b217 v229 23 ws229 := H229
  have hl229 : ws229.length = 34 := hl229.trans (by rw [hl227])
  have ht229 : ws229.take 23 = [(114 : Int32), (101 : Int32), (113 : Int32), (117 : Int32), (101 : Int32), (115 : Int32), (116 : Int32), (115 : Int32), (32 : Int32), (Int32.ofNat (48 + (d1 + d2 + d3))), (44 : Int32), (32 : Int32), (102 : Int32), (114 : Int32), (101 : Int32), (115 : Int32), (104 : Int32), (32 : Int32), (104 : Int32), (105 : Int32), (116 : Int32), (115 : Int32), (32 : Int32)] := ht229
  have KK229 := KK228.trans K229 (allS (Or.inr ob) (allS (Or.inr ov227) all0))
  have HC229 := CHv.keep K229 (own_two Sb228 Sv228) R228.1
  have ov229 : h0.size ≤ v229 := q229.elim (fun e => e.symm ▸ ov227) (fun g => Nat.le_trans KK228.1 g)
  have Sv229 := Safe.keep K229 (own_two Sb228 Sv228) R228.1 (q229.elim (fun e => e.symm ▸ Sv228) (fun g => Safe.new g))
  have Sb229 : Safe Z consts_1 T228.vm h229 b217 := Safe.exa X229.hZ.alike HB229.1 (by decide) (by decide)
  show Go p e below _ (State.setTop _ (mkF m 24 #[.val (.ref o)] [(.ref b217)]))
  refine g_aloadN X229 d4_24 (pc' := 25) rfl rfl rfl ?_
  have f230 := (F_freshHits.keep KK229 nm0)
  refine g_getF X229 (host := "") (Or.inl (hw _ m17)) Via.refl f230 d4_25 (pc' := 28) rfl (fun T231 X231 => ?_)
  refine g_ncallV X231 (y := (⟨"java/lang/StringBuilder", "append", "(J)Ljava/lang/StringBuilder;"⟩ : MethodName)) (z := (⟨"java/lang/StringBuilder", "append", "(J)Ljava/lang/StringBuilder;"⟩ : MethodName)) (a := b217) [(.long (Int64.ofNat d1))] (hw _ m115) (hw _ m116) (notFace_of_selects (args := #[]) (mvT X231.hZ (hw _ m118))) (hw _ m118) (hw _ m117) HB229.1 (hw _ m119) (hw _ m36) (Nar.rm16 l Z a0 hw b217 d1 h229 n0 X231.old v229 23 ws229 HB229 (by omega) (by rw [hl229]; decide) (by rw [hl229]; decide) G1 O2 P5 dg tb OD AD hdg) (by decide) (by decide) (by decide) (by decide) (by decide) rfl pd_24 rfl (rest := []) rfl (W := 0) rfl d4_28 (pc' := 31) rfl ?_
  rintro _ T232 h232 L232 Y232 ⟨v232, ws232, rfl, N232, K232, q232, H232, hl232, ht232⟩
  have X232 := Y232 (X231.old.keep K232 (allS l217 (allS HB229.2.2.2.2.2.2.1 all0))) N232 K232.1
  rw [ht229] at H232 ht232
  have HB232 : Nar.SBP Z n0 h232 b217 v232 24 ws232 := H232
  have hl232 : ws232.length = 34 := hl232.trans hl229
  have ht232 : ws232.take 24 = [(114 : Int32), (101 : Int32), (113 : Int32), (117 : Int32), (101 : Int32), (115 : Int32), (116 : Int32), (115 : Int32), (32 : Int32), (Int32.ofNat (48 + (d1 + d2 + d3))), (44 : Int32), (32 : Int32), (102 : Int32), (114 : Int32), (101 : Int32), (115 : Int32), (104 : Int32), (32 : Int32), (104 : Int32), (105 : Int32), (116 : Int32), (115 : Int32), (32 : Int32), (Int32.ofNat (48 + d1))] := ht232
  have KK232 := KK229.trans K232 (allS (Or.inr ob) (allS (Or.inr ov229) all0))
  have HC232 := CHv.keep K232 (own_two Sb229 Sv229) HC229
  have ov232 : h0.size ≤ v232 := q232.elim (fun e => e.symm ▸ ov229) (fun g => Nat.le_trans KK229.1 g)
  have Sv232 := Safe.keep K232 (own_two Sb229 Sv229) HC229 (q232.elim (fun e => e.symm ▸ Sv229) (fun g => Safe.new g))
  have Sb232 : Safe Z consts_1 T228.vm h232 b217 := Safe.exa X232.hZ.alike HB232.1 (by decide) (by decide)
  show Go p e below _ (State.setTop _ (mkF m 31 #[.val (.ref o)] [(.ref b217)]))
  refine g_ldcH X232 (n := 52) (zs := [(44 : Int32), (32 : Int32), (115 : Int32), (116 : Int32), (97 : Int32), (108 : Int32), (101 : Int32), (32 : Int32), (104 : Int32), (105 : Int32), (116 : Int32), (115 : Int32), (32 : Int32)]) (hw _ m164) (own_wS hw) (own_ew hw) (by decide) HC232 ⟨(by decide +kernel), (by first | rfl | decide +kernel)⟩ (by decide) (by decide +kernel) (by decide) (by decide) (by decide) d4_31 (pc' := 33) rfl (fun T233 h233 a233 u233 X233 E233 HS233 R233 SF233 => ?_)
  have KK233 := KK232.ext E233
  have HB233 := own_sbext HB232 E233
  have Sv233 := R233.safe HB232.2.2.2.2.1.lt Sv232
  have Sb233 : Safe Z consts_1 T233.vm h233 b217 := Safe.exa X233.hZ.alike HB233.1 (by decide) (by decide)
  refine g_ncallV X233 (y := (⟨"java/lang/StringBuilder", "append", "(Ljava/lang/String;)Ljava/lang/StringBuilder;"⟩ : MethodName)) (z := (⟨"java/lang/StringBuilder", "append", "(Ljava/lang/String;)Ljava/lang/StringBuilder;"⟩ : MethodName)) (a := b217) [(.ref a233)] (hw _ m60) (hw _ m61) (notFace_of_selects (args := #[]) (mvT X233.hZ (hw _ m63))) (hw _ m63) (hw _ m62) HB233.1 (hw _ m64) (hw _ m36) (Nar.rm7g l Z a0 hw b217 a233 h233 n0 X233.old v232 24 ws232 HB233 u233 [(44 : Int32), (32 : Int32), (115 : Int32), (116 : Int32), (97 : Int32), (108 : Int32), (101 : Int32), (32 : Int32), (104 : Int32), (105 : Int32), (116 : Int32), (115 : Int32), (32 : Int32)] HS233 (by unfold Nar.BY; decide) (Ne.symm (SF233 _ Sb233).1) (Ne.symm (SF233 _ Sv233).1) (Ne.symm (SF233 _ Sb233).2) (Ne.symm (SF233 _ Sv233).2) (by rw [hl232]; decide) (by rw [hl232]; decide) (by rw [hl232]; decide) (by rw [hl232]; decide) G1 O2 P5) (by decide) (by decide) (by decide) (by decide) (by decide) rfl pd_22 rfl (rest := []) rfl (W := 0) rfl d4_33 (pc' := 36) rfl ?_
  rintro _ T234 h234 L234 Y234 ⟨v234, ws234, rfl, N234, K234, q234, H234, hl234, ht234⟩
  have X234 := Y234 (X233.old.keep K234 (allS l217 (allS HB233.2.2.2.2.2.2.1 all0))) N234 K234.1
  rw [ht232] at H234 ht234
  have HB234 : Nar.SBP Z n0 h234 b217 v234 37 ws234 := H234
  have hl234 : ws234.length = 70 := hl234.trans (by rw [hl232])
  have ht234 : ws234.take 37 = [(114 : Int32), (101 : Int32), (113 : Int32), (117 : Int32), (101 : Int32), (115 : Int32), (116 : Int32), (115 : Int32), (32 : Int32), (Int32.ofNat (48 + (d1 + d2 + d3))), (44 : Int32), (32 : Int32), (102 : Int32), (114 : Int32), (101 : Int32), (115 : Int32), (104 : Int32), (32 : Int32), (104 : Int32), (105 : Int32), (116 : Int32), (115 : Int32), (32 : Int32), (Int32.ofNat (48 + d1)), (44 : Int32), (32 : Int32), (115 : Int32), (116 : Int32), (97 : Int32), (108 : Int32), (101 : Int32), (32 : Int32), (104 : Int32), (105 : Int32), (116 : Int32), (115 : Int32), (32 : Int32)] := ht234
  have KK234 := KK233.trans K234 (allS (Or.inr ob) (allS (Or.inr ov232) all0))
  have HC234 := CHv.keep K234 (own_two Sb233 Sv233) R233.1
  have ov234 : h0.size ≤ v234 := q234.elim (fun e => e.symm ▸ ov232) (fun g => Nat.le_trans KK233.1 g)
  have Sv234 := Safe.keep K234 (own_two Sb233 Sv233) R233.1 (q234.elim (fun e => e.symm ▸ Sv233) (fun g => Safe.new g))
  have Sb234 : Safe Z consts_1 T233.vm h234 b217 := Safe.exa X234.hZ.alike HB234.1 (by decide) (by decide)
  show Go p e below _ (State.setTop _ (mkF m 36 #[.val (.ref o)] [(.ref b217)]))
  refine g_aloadN X234 d4_36 (pc' := 37) rfl rfl rfl ?_
  have f235 := (F_staleHits.keep KK234 nm0)
  refine g_getF X234 (host := "") (Or.inl (hw _ m19)) Via.refl f235 d4_37 (pc' := 40) rfl (fun T236 X236 => ?_)
  refine g_ncallV X236 (y := (⟨"java/lang/StringBuilder", "append", "(J)Ljava/lang/StringBuilder;"⟩ : MethodName)) (z := (⟨"java/lang/StringBuilder", "append", "(J)Ljava/lang/StringBuilder;"⟩ : MethodName)) (a := b217) [(.long (Int64.ofNat d2))] (hw _ m115) (hw _ m116) (notFace_of_selects (args := #[]) (mvT X236.hZ (hw _ m118))) (hw _ m118) (hw _ m117) HB234.1 (hw _ m119) (hw _ m36) (Nar.rm16 l Z a0 hw b217 d2 h234 n0 X236.old v234 37 ws234 HB234 (by omega) (by rw [hl234]; decide) (by rw [hl234]; decide) G1 O2 P5 dg tb OD AD hdg) (by decide) (by decide) (by decide) (by decide) (by decide) rfl pd_24 rfl (rest := []) rfl (W := 0) rfl d4_40 (pc' := 43) rfl ?_
  rintro _ T237 h237 L237 Y237 ⟨v237, ws237, rfl, N237, K237, q237, H237, hl237, ht237⟩
  have X237 := Y237 (X236.old.keep K237 (allS l217 (allS HB234.2.2.2.2.2.2.1 all0))) N237 K237.1
  rw [ht234] at H237 ht237
  have HB237 : Nar.SBP Z n0 h237 b217 v237 38 ws237 := H237
  have hl237 : ws237.length = 70 := hl237.trans hl234
  have ht237 : ws237.take 38 = [(114 : Int32), (101 : Int32), (113 : Int32), (117 : Int32), (101 : Int32), (115 : Int32), (116 : Int32), (115 : Int32), (32 : Int32), (Int32.ofNat (48 + (d1 + d2 + d3))), (44 : Int32), (32 : Int32), (102 : Int32), (114 : Int32), (101 : Int32), (115 : Int32), (104 : Int32), (32 : Int32), (104 : Int32), (105 : Int32), (116 : Int32), (115 : Int32), (32 : Int32), (Int32.ofNat (48 + d1)), (44 : Int32), (32 : Int32), (115 : Int32), (116 : Int32), (97 : Int32), (108 : Int32), (101 : Int32), (32 : Int32), (104 : Int32), (105 : Int32), (116 : Int32), (115 : Int32), (32 : Int32), (Int32.ofNat (48 + d2))] := ht237
  have KK237 := KK234.trans K237 (allS (Or.inr ob) (allS (Or.inr ov234) all0))
  have HC237 := CHv.keep K237 (own_two Sb234 Sv234) HC234
  have ov237 : h0.size ≤ v237 := q237.elim (fun e => e.symm ▸ ov234) (fun g => Nat.le_trans KK234.1 g)
  have Sv237 := Safe.keep K237 (own_two Sb234 Sv234) HC234 (q237.elim (fun e => e.symm ▸ Sv234) (fun g => Safe.new g))
  have Sb237 : Safe Z consts_1 T233.vm h237 b217 := Safe.exa X237.hZ.alike HB237.1 (by decide) (by decide)
  show Go p e below _ (State.setTop _ (mkF m 43 #[.val (.ref o)] [(.ref b217)]))
  refine g_ldcH X237 (n := 36) (zs := [(44 : Int32), (32 : Int32), (109 : Int32), (105 : Int32), (115 : Int32), (115 : Int32), (101 : Int32), (115 : Int32), (32 : Int32)]) (hw _ m165) (own_wS hw) (own_ew hw) (by decide) HC237 ⟨(by decide +kernel), (by first | rfl | decide +kernel)⟩ (by decide) (by decide +kernel) (by decide) (by decide) (by decide) d4_43 (pc' := 45) rfl (fun T238 h238 a238 u238 X238 E238 HS238 R238 SF238 => ?_)
  have KK238 := KK237.ext E238
  have HB238 := own_sbext HB237 E238
  have Sv238 := R238.safe HB237.2.2.2.2.1.lt Sv237
  have Sb238 : Safe Z consts_1 T238.vm h238 b217 := Safe.exa X238.hZ.alike HB238.1 (by decide) (by decide)
  refine g_ncallV X238 (y := (⟨"java/lang/StringBuilder", "append", "(Ljava/lang/String;)Ljava/lang/StringBuilder;"⟩ : MethodName)) (z := (⟨"java/lang/StringBuilder", "append", "(Ljava/lang/String;)Ljava/lang/StringBuilder;"⟩ : MethodName)) (a := b217) [(.ref a238)] (hw _ m60) (hw _ m61) (notFace_of_selects (args := #[]) (mvT X238.hZ (hw _ m63))) (hw _ m63) (hw _ m62) HB238.1 (hw _ m64) (hw _ m36) (Nar.rm7 l Z a0 hw b217 a238 h238 n0 X238.old v237 38 ws237 HB238 u238 [(44 : Int32), (32 : Int32), (109 : Int32), (105 : Int32), (115 : Int32), (115 : Int32), (101 : Int32), (115 : Int32), (32 : Int32)] HS238 (by unfold Nar.BY; decide) (Ne.symm (SF238 _ Sb238).1) (Ne.symm (SF238 _ Sv238).1) (Ne.symm (SF238 _ Sb238).2) (Ne.symm (SF238 _ Sv238).2) (by rw [hl237]; decide) (by rw [hl237]; decide) G1 O2 P5) (by decide) (by decide) (by decide) (by decide) (by decide) rfl pd_22 rfl (rest := []) rfl (W := 0) rfl d4_45 (pc' := 48) rfl ?_
  rintro _ T239 h239 L239 Y239 ⟨v239, ws239, rfl, N239, K239, q239, H239, hl239, ht239⟩
  have X239 := Y239 (X238.old.keep K239 (allS l217 (allS HB238.2.2.2.2.2.2.1 all0))) N239 K239.1
  rw [ht237] at H239 ht239
  have HB239 : Nar.SBP Z n0 h239 b217 v239 47 ws239 := H239
  have hl239 : ws239.length = 70 := hl239.trans hl237
  have ht239 : ws239.take 47 = [(114 : Int32), (101 : Int32), (113 : Int32), (117 : Int32), (101 : Int32), (115 : Int32), (116 : Int32), (115 : Int32), (32 : Int32), (Int32.ofNat (48 + (d1 + d2 + d3))), (44 : Int32), (32 : Int32), (102 : Int32), (114 : Int32), (101 : Int32), (115 : Int32), (104 : Int32), (32 : Int32), (104 : Int32), (105 : Int32), (116 : Int32), (115 : Int32), (32 : Int32), (Int32.ofNat (48 + d1)), (44 : Int32), (32 : Int32), (115 : Int32), (116 : Int32), (97 : Int32), (108 : Int32), (101 : Int32), (32 : Int32), (104 : Int32), (105 : Int32), (116 : Int32), (115 : Int32), (32 : Int32), (Int32.ofNat (48 + d2)), (44 : Int32), (32 : Int32), (109 : Int32), (105 : Int32), (115 : Int32), (115 : Int32), (101 : Int32), (115 : Int32), (32 : Int32)] := ht239
  have KK239 := KK238.trans K239 (allS (Or.inr ob) (allS (Or.inr ov237) all0))
  have HC239 := CHv.keep K239 (own_two Sb238 Sv238) R238.1
  have ov239 : h0.size ≤ v239 := q239.elim (fun e => e.symm ▸ ov237) (fun g => Nat.le_trans KK238.1 g)
  have Sv239 := Safe.keep K239 (own_two Sb238 Sv238) R238.1 (q239.elim (fun e => e.symm ▸ Sv238) (fun g => Safe.new g))
  have Sb239 : Safe Z consts_1 T238.vm h239 b217 := Safe.exa X239.hZ.alike HB239.1 (by decide) (by decide)
  show Go p e below _ (State.setTop _ (mkF m 48 #[.val (.ref o)] [(.ref b217)]))
  refine g_aloadN X239 d4_48 (pc' := 49) rfl rfl rfl ?_
  have f240 := (F_misses.keep KK239 nm0)
  refine g_getF X239 (host := "") (Or.inl (hw _ m21)) Via.refl f240 d4_49 (pc' := 52) rfl (fun T241 X241 => ?_)
  refine g_ncallV X241 (y := (⟨"java/lang/StringBuilder", "append", "(J)Ljava/lang/StringBuilder;"⟩ : MethodName)) (z := (⟨"java/lang/StringBuilder", "append", "(J)Ljava/lang/StringBuilder;"⟩ : MethodName)) (a := b217) [(.long (Int64.ofNat d3))] (hw _ m115) (hw _ m116) (notFace_of_selects (args := #[]) (mvT X241.hZ (hw _ m118))) (hw _ m118) (hw _ m117) HB239.1 (hw _ m119) (hw _ m36) (Nar.rm16 l Z a0 hw b217 d3 h239 n0 X241.old v239 47 ws239 HB239 (by omega) (by rw [hl239]; decide) (by rw [hl239]; decide) G1 O2 P5 dg tb OD AD hdg) (by decide) (by decide) (by decide) (by decide) (by decide) rfl pd_24 rfl (rest := []) rfl (W := 0) rfl d4_52 (pc' := 55) rfl ?_
  rintro _ T242 h242 L242 Y242 ⟨v242, ws242, rfl, N242, K242, q242, H242, hl242, ht242⟩
  have X242 := Y242 (X241.old.keep K242 (allS l217 (allS HB239.2.2.2.2.2.2.1 all0))) N242 K242.1
  rw [ht239] at H242 ht242
  have HB242 : Nar.SBP Z n0 h242 b217 v242 48 ws242 := H242
  have hl242 : ws242.length = 70 := hl242.trans hl239
  have ht242 : ws242.take 48 = [(114 : Int32), (101 : Int32), (113 : Int32), (117 : Int32), (101 : Int32), (115 : Int32), (116 : Int32), (115 : Int32), (32 : Int32), (Int32.ofNat (48 + (d1 + d2 + d3))), (44 : Int32), (32 : Int32), (102 : Int32), (114 : Int32), (101 : Int32), (115 : Int32), (104 : Int32), (32 : Int32), (104 : Int32), (105 : Int32), (116 : Int32), (115 : Int32), (32 : Int32), (Int32.ofNat (48 + d1)), (44 : Int32), (32 : Int32), (115 : Int32), (116 : Int32), (97 : Int32), (108 : Int32), (101 : Int32), (32 : Int32), (104 : Int32), (105 : Int32), (116 : Int32), (115 : Int32), (32 : Int32), (Int32.ofNat (48 + d2)), (44 : Int32), (32 : Int32), (109 : Int32), (105 : Int32), (115 : Int32), (115 : Int32), (101 : Int32), (115 : Int32), (32 : Int32), (Int32.ofNat (48 + d3))] := ht242
  have KK242 := KK239.trans K242 (allS (Or.inr ob) (allS (Or.inr ov239) all0))
  have HC242 := CHv.keep K242 (own_two Sb239 Sv239) HC239
  have ov242 : h0.size ≤ v242 := q242.elim (fun e => e.symm ▸ ov239) (fun g => Nat.le_trans KK239.1 g)
  have Sv242 := Safe.keep K242 (own_two Sb239 Sv239) HC239 (q242.elim (fun e => e.symm ▸ Sv239) (fun g => Safe.new g))
  have Sb242 : Safe Z consts_1 T238.vm h242 b217 := Safe.exa X242.hZ.alike HB242.1 (by decide) (by decide)
  show Go p e below _ (State.setTop _ (mkF m 55 #[.val (.ref o)] [(.ref b217)]))
  refine g_ldcH X242 (n := 60) (zs := [(44 : Int32), (32 : Int32), (115 : Int32), (111 : Int32), (117 : Int32), (114 : Int32), (99 : Int32), (101 : Int32), (32 : Int32), (99 : Int32), (97 : Int32), (108 : Int32), (108 : Int32), (115 : Int32), (32 : Int32)]) (hw _ m166) (own_wS hw) (own_ew hw) (by decide) HC242 ⟨(by decide +kernel), (by first | rfl | decide +kernel)⟩ (by decide) (by decide +kernel) (by decide) (by decide) (by decide) d4_55 (pc' := 57) rfl (fun T243 h243 a243 u243 X243 E243 HS243 R243 SF243 => ?_)
  have KK243 := KK242.ext E243
  have HB243 := own_sbext HB242 E243
  have Sv243 := R243.safe HB242.2.2.2.2.1.lt Sv242
  have Sb243 : Safe Z consts_1 T243.vm h243 b217 := Safe.exa X243.hZ.alike HB243.1 (by decide) (by decide)
  refine g_ncallV X243 (y := (⟨"java/lang/StringBuilder", "append", "(Ljava/lang/String;)Ljava/lang/StringBuilder;"⟩ : MethodName)) (z := (⟨"java/lang/StringBuilder", "append", "(Ljava/lang/String;)Ljava/lang/StringBuilder;"⟩ : MethodName)) (a := b217) [(.ref a243)] (hw _ m60) (hw _ m61) (notFace_of_selects (args := #[]) (mvT X243.hZ (hw _ m63))) (hw _ m63) (hw _ m62) HB243.1 (hw _ m64) (hw _ m36) (Nar.rm7 l Z a0 hw b217 a243 h243 n0 X243.old v242 48 ws242 HB243 u243 [(44 : Int32), (32 : Int32), (115 : Int32), (111 : Int32), (117 : Int32), (114 : Int32), (99 : Int32), (101 : Int32), (32 : Int32), (99 : Int32), (97 : Int32), (108 : Int32), (108 : Int32), (115 : Int32), (32 : Int32)] HS243 (by unfold Nar.BY; decide) (Ne.symm (SF243 _ Sb243).1) (Ne.symm (SF243 _ Sv243).1) (Ne.symm (SF243 _ Sb243).2) (Ne.symm (SF243 _ Sv243).2) (by rw [hl242]; decide) (by rw [hl242]; decide) G1 O2 P5) (by decide) (by decide) (by decide) (by decide) (by decide) rfl pd_22 rfl (rest := []) rfl (W := 0) rfl d4_57 (pc' := 60) rfl ?_
  rintro _ T244 h244 L244 Y244 ⟨v244, ws244, rfl, N244, K244, q244, H244, hl244, ht244⟩
  have X244 := Y244 (X243.old.keep K244 (allS l217 (allS HB243.2.2.2.2.2.2.1 all0))) N244 K244.1
  rw [ht242] at H244 ht244
  have HB244 : Nar.SBP Z n0 h244 b217 v244 63 ws244 := H244
  have hl244 : ws244.length = 70 := hl244.trans hl242
  have ht244 : ws244.take 63 = [(114 : Int32), (101 : Int32), (113 : Int32), (117 : Int32), (101 : Int32), (115 : Int32), (116 : Int32), (115 : Int32), (32 : Int32), (Int32.ofNat (48 + (d1 + d2 + d3))), (44 : Int32), (32 : Int32), (102 : Int32), (114 : Int32), (101 : Int32), (115 : Int32), (104 : Int32), (32 : Int32), (104 : Int32), (105 : Int32), (116 : Int32), (115 : Int32), (32 : Int32), (Int32.ofNat (48 + d1)), (44 : Int32), (32 : Int32), (115 : Int32), (116 : Int32), (97 : Int32), (108 : Int32), (101 : Int32), (32 : Int32), (104 : Int32), (105 : Int32), (116 : Int32), (115 : Int32), (32 : Int32), (Int32.ofNat (48 + d2)), (44 : Int32), (32 : Int32), (109 : Int32), (105 : Int32), (115 : Int32), (115 : Int32), (101 : Int32), (115 : Int32), (32 : Int32), (Int32.ofNat (48 + d3)), (44 : Int32), (32 : Int32), (115 : Int32), (111 : Int32), (117 : Int32), (114 : Int32), (99 : Int32), (101 : Int32), (32 : Int32), (99 : Int32), (97 : Int32), (108 : Int32), (108 : Int32), (115 : Int32), (32 : Int32)] := ht244
  have KK244 := KK243.trans K244 (allS (Or.inr ob) (allS (Or.inr ov242) all0))
  have HC244 := CHv.keep K244 (own_two Sb243 Sv243) R243.1
  have ov244 : h0.size ≤ v244 := q244.elim (fun e => e.symm ▸ ov242) (fun g => Nat.le_trans KK243.1 g)
  have Sv244 := Safe.keep K244 (own_two Sb243 Sv243) R243.1 (q244.elim (fun e => e.symm ▸ Sv243) (fun g => Safe.new g))
  have Sb244 : Safe Z consts_1 T243.vm h244 b217 := Safe.exa X244.hZ.alike HB244.1 (by decide) (by decide)
  show Go p e below _ (State.setTop _ (mkF m 60 #[.val (.ref o)] [(.ref b217)]))
  refine g_aloadN X244 d4_60 (pc' := 61) rfl rfl rfl ?_
  have f245 := (F_sourceCalls.keep KK244 nm0)
  refine g_getF X244 (host := "") (Or.inl (hw _ m23)) Via.refl f245 d4_61 (pc' := 64) rfl (fun T246 X246 => ?_)
  refine g_ncallV X246 (y := (⟨"java/lang/StringBuilder", "append", "(J)Ljava/lang/StringBuilder;"⟩ : MethodName)) (z := (⟨"java/lang/StringBuilder", "append", "(J)Ljava/lang/StringBuilder;"⟩ : MethodName)) (a := b217) [(.long (Int64.ofNat d4))] (hw _ m115) (hw _ m116) (notFace_of_selects (args := #[]) (mvT X246.hZ (hw _ m118))) (hw _ m118) (hw _ m117) HB244.1 (hw _ m119) (hw _ m36) (Nar.rm16 l Z a0 hw b217 d4 h244 n0 X246.old v244 63 ws244 HB244 hd4 (by rw [hl244]; decide) (by rw [hl244]; decide) G1 O2 P5 dg tb OD AD hdg) (by decide) (by decide) (by decide) (by decide) (by decide) rfl pd_24 rfl (rest := []) rfl (W := 0) rfl d4_64 (pc' := 67) rfl ?_
  rintro _ T247 h247 L247 Y247 ⟨v247, ws247, rfl, N247, K247, q247, H247, hl247, ht247⟩
  have X247 := Y247 (X246.old.keep K247 (allS l217 (allS HB244.2.2.2.2.2.2.1 all0))) N247 K247.1
  rw [ht244] at H247 ht247
  have HB247 : Nar.SBP Z n0 h247 b217 v247 64 ws247 := H247
  have hl247 : ws247.length = 70 := hl247.trans hl244
  have ht247 : ws247.take 64 = [(114 : Int32), (101 : Int32), (113 : Int32), (117 : Int32), (101 : Int32), (115 : Int32), (116 : Int32), (115 : Int32), (32 : Int32), (Int32.ofNat (48 + (d1 + d2 + d3))), (44 : Int32), (32 : Int32), (102 : Int32), (114 : Int32), (101 : Int32), (115 : Int32), (104 : Int32), (32 : Int32), (104 : Int32), (105 : Int32), (116 : Int32), (115 : Int32), (32 : Int32), (Int32.ofNat (48 + d1)), (44 : Int32), (32 : Int32), (115 : Int32), (116 : Int32), (97 : Int32), (108 : Int32), (101 : Int32), (32 : Int32), (104 : Int32), (105 : Int32), (116 : Int32), (115 : Int32), (32 : Int32), (Int32.ofNat (48 + d2)), (44 : Int32), (32 : Int32), (109 : Int32), (105 : Int32), (115 : Int32), (115 : Int32), (101 : Int32), (115 : Int32), (32 : Int32), (Int32.ofNat (48 + d3)), (44 : Int32), (32 : Int32), (115 : Int32), (111 : Int32), (117 : Int32), (114 : Int32), (99 : Int32), (101 : Int32), (32 : Int32), (99 : Int32), (97 : Int32), (108 : Int32), (108 : Int32), (115 : Int32), (32 : Int32), (Int32.ofNat (48 + d4))] := ht247
  have KK247 := KK244.trans K247 (allS (Or.inr ob) (allS (Or.inr ov244) all0))
  have HC247 := CHv.keep K247 (own_two Sb244 Sv244) HC244
  have ov247 : h0.size ≤ v247 := q247.elim (fun e => e.symm ▸ ov244) (fun g => Nat.le_trans KK244.1 g)
  have Sv247 := Safe.keep K247 (own_two Sb244 Sv244) HC244 (q247.elim (fun e => e.symm ▸ Sv244) (fun g => Safe.new g))
  have Sb247 : Safe Z consts_1 T243.vm h247 b217 := Safe.exa X247.hZ.alike HB247.1 (by decide) (by decide)
  show Go p e below _ (State.setTop _ (mkF m 67 #[.val (.ref o)] [(.ref b217)]))
  refine g_ldcH X247 (n := 72) (zs := [(44 : Int32), (32 : Int32), (115 : Int32), (111 : Int32), (117 : Int32), (114 : Int32), (99 : Int32), (101 : Int32), (32 : Int32), (102 : Int32), (97 : Int32), (105 : Int32), (108 : Int32), (117 : Int32), (114 : Int32), (101 : Int32), (115 : Int32), (32 : Int32)]) (hw _ m167) (own_wS hw) (own_ew hw) (by decide) HC247 ⟨(by decide +kernel), (by first | rfl | decide +kernel)⟩ (by decide) (by decide +kernel) (by decide) (by decide) (by decide) d4_67 (pc' := 69) rfl (fun T248 h248 a248 u248 X248 E248 HS248 R248 SF248 => ?_)
  have KK248 := KK247.ext E248
  have HB248 := own_sbext HB247 E248
  have Sv248 := R248.safe HB247.2.2.2.2.1.lt Sv247
  have Sb248 : Safe Z consts_1 T248.vm h248 b217 := Safe.exa X248.hZ.alike HB248.1 (by decide) (by decide)
  refine g_ncallV X248 (y := (⟨"java/lang/StringBuilder", "append", "(Ljava/lang/String;)Ljava/lang/StringBuilder;"⟩ : MethodName)) (z := (⟨"java/lang/StringBuilder", "append", "(Ljava/lang/String;)Ljava/lang/StringBuilder;"⟩ : MethodName)) (a := b217) [(.ref a248)] (hw _ m60) (hw _ m61) (notFace_of_selects (args := #[]) (mvT X248.hZ (hw _ m63))) (hw _ m63) (hw _ m62) HB248.1 (hw _ m64) (hw _ m36) (Nar.rm7g l Z a0 hw b217 a248 h248 n0 X248.old v247 64 ws247 HB248 u248 [(44 : Int32), (32 : Int32), (115 : Int32), (111 : Int32), (117 : Int32), (114 : Int32), (99 : Int32), (101 : Int32), (32 : Int32), (102 : Int32), (97 : Int32), (105 : Int32), (108 : Int32), (117 : Int32), (114 : Int32), (101 : Int32), (115 : Int32), (32 : Int32)] HS248 (by unfold Nar.BY; decide) (Ne.symm (SF248 _ Sb248).1) (Ne.symm (SF248 _ Sv248).1) (Ne.symm (SF248 _ Sb248).2) (Ne.symm (SF248 _ Sv248).2) (by rw [hl247]; decide) (by rw [hl247]; decide) (by rw [hl247]; decide) (by rw [hl247]; decide) G1 O2 P5) (by decide) (by decide) (by decide) (by decide) (by decide) rfl pd_22 rfl (rest := []) rfl (W := 0) rfl d4_69 (pc' := 72) rfl ?_
  rintro _ T249 h249 L249 Y249 ⟨v249, ws249, rfl, N249, K249, q249, H249, hl249, ht249⟩
  have X249 := Y249 (X248.old.keep K249 (allS l217 (allS HB248.2.2.2.2.2.2.1 all0))) N249 K249.1
  rw [ht247] at H249 ht249
  have HB249 : Nar.SBP Z n0 h249 b217 v249 82 ws249 := H249
  have hl249 : ws249.length = 142 := hl249.trans (by rw [hl247])
  have ht249 : ws249.take 82 = [(114 : Int32), (101 : Int32), (113 : Int32), (117 : Int32), (101 : Int32), (115 : Int32), (116 : Int32), (115 : Int32), (32 : Int32), (Int32.ofNat (48 + (d1 + d2 + d3))), (44 : Int32), (32 : Int32), (102 : Int32), (114 : Int32), (101 : Int32), (115 : Int32), (104 : Int32), (32 : Int32), (104 : Int32), (105 : Int32), (116 : Int32), (115 : Int32), (32 : Int32), (Int32.ofNat (48 + d1)), (44 : Int32), (32 : Int32), (115 : Int32), (116 : Int32), (97 : Int32), (108 : Int32), (101 : Int32), (32 : Int32), (104 : Int32), (105 : Int32), (116 : Int32), (115 : Int32), (32 : Int32), (Int32.ofNat (48 + d2)), (44 : Int32), (32 : Int32), (109 : Int32), (105 : Int32), (115 : Int32), (115 : Int32), (101 : Int32), (115 : Int32), (32 : Int32), (Int32.ofNat (48 + d3)), (44 : Int32), (32 : Int32), (115 : Int32), (111 : Int32), (117 : Int32), (114 : Int32), (99 : Int32), (101 : Int32), (32 : Int32), (99 : Int32), (97 : Int32), (108 : Int32), (108 : Int32), (115 : Int32), (32 : Int32), (Int32.ofNat (48 + d4)), (44 : Int32), (32 : Int32), (115 : Int32), (111 : Int32), (117 : Int32), (114 : Int32), (99 : Int32), (101 : Int32), (32 : Int32), (102 : Int32), (97 : Int32), (105 : Int32), (108 : Int32), (117 : Int32), (114 : Int32), (101 : Int32), (115 : Int32), (32 : Int32)] := ht249
  have KK249 := KK248.trans K249 (allS (Or.inr ob) (allS (Or.inr ov247) all0))
  have HC249 := CHv.keep K249 (own_two Sb248 Sv248) R248.1
  have ov249 : h0.size ≤ v249 := q249.elim (fun e => e.symm ▸ ov247) (fun g => Nat.le_trans KK248.1 g)
  have Sv249 := Safe.keep K249 (own_two Sb248 Sv248) R248.1 (q249.elim (fun e => e.symm ▸ Sv248) (fun g => Safe.new g))
  have Sb249 : Safe Z consts_1 T248.vm h249 b217 := Safe.exa X249.hZ.alike HB249.1 (by decide) (by decide)
  show Go p e below _ (State.setTop _ (mkF m 72 #[.val (.ref o)] [(.ref b217)]))
  refine g_aloadN X249 d4_72 (pc' := 73) rfl rfl rfl ?_
  have f250 := (F_sourceFailures.keep KK249 nm0)
  refine g_getF X249 (host := "") (Or.inl (hw _ m25)) Via.refl f250 d4_73 (pc' := 76) rfl (fun T251 X251 => ?_)
  refine g_ncallV X251 (y := (⟨"java/lang/StringBuilder", "append", "(J)Ljava/lang/StringBuilder;"⟩ : MethodName)) (z := (⟨"java/lang/StringBuilder", "append", "(J)Ljava/lang/StringBuilder;"⟩ : MethodName)) (a := b217) [(.long (Int64.ofNat d5))] (hw _ m115) (hw _ m116) (notFace_of_selects (args := #[]) (mvT X251.hZ (hw _ m118))) (hw _ m118) (hw _ m117) HB249.1 (hw _ m119) (hw _ m36) (Nar.rm16 l Z a0 hw b217 d5 h249 n0 X251.old v249 82 ws249 HB249 hd5 (by rw [hl249]; decide) (by rw [hl249]; decide) G1 O2 P5 dg tb OD AD hdg) (by decide) (by decide) (by decide) (by decide) (by decide) rfl pd_24 rfl (rest := []) rfl (W := 0) rfl d4_76 (pc' := 79) rfl ?_
  rintro _ T252 h252 L252 Y252 ⟨v252, ws252, rfl, N252, K252, q252, H252, hl252, ht252⟩
  have X252 := Y252 (X251.old.keep K252 (allS l217 (allS HB249.2.2.2.2.2.2.1 all0))) N252 K252.1
  rw [ht249] at H252 ht252
  have HB252 : Nar.SBP Z n0 h252 b217 v252 83 ws252 := H252
  have hl252 : ws252.length = 142 := hl252.trans hl249
  have ht252 : ws252.take 83 = [(114 : Int32), (101 : Int32), (113 : Int32), (117 : Int32), (101 : Int32), (115 : Int32), (116 : Int32), (115 : Int32), (32 : Int32), (Int32.ofNat (48 + (d1 + d2 + d3))), (44 : Int32), (32 : Int32), (102 : Int32), (114 : Int32), (101 : Int32), (115 : Int32), (104 : Int32), (32 : Int32), (104 : Int32), (105 : Int32), (116 : Int32), (115 : Int32), (32 : Int32), (Int32.ofNat (48 + d1)), (44 : Int32), (32 : Int32), (115 : Int32), (116 : Int32), (97 : Int32), (108 : Int32), (101 : Int32), (32 : Int32), (104 : Int32), (105 : Int32), (116 : Int32), (115 : Int32), (32 : Int32), (Int32.ofNat (48 + d2)), (44 : Int32), (32 : Int32), (109 : Int32), (105 : Int32), (115 : Int32), (115 : Int32), (101 : Int32), (115 : Int32), (32 : Int32), (Int32.ofNat (48 + d3)), (44 : Int32), (32 : Int32), (115 : Int32), (111 : Int32), (117 : Int32), (114 : Int32), (99 : Int32), (101 : Int32), (32 : Int32), (99 : Int32), (97 : Int32), (108 : Int32), (108 : Int32), (115 : Int32), (32 : Int32), (Int32.ofNat (48 + d4)), (44 : Int32), (32 : Int32), (115 : Int32), (111 : Int32), (117 : Int32), (114 : Int32), (99 : Int32), (101 : Int32), (32 : Int32), (102 : Int32), (97 : Int32), (105 : Int32), (108 : Int32), (117 : Int32), (114 : Int32), (101 : Int32), (115 : Int32), (32 : Int32), (Int32.ofNat (48 + d5))] := ht252
  have KK252 := KK249.trans K252 (allS (Or.inr ob) (allS (Or.inr ov249) all0))
  have HC252 := CHv.keep K252 (own_two Sb249 Sv249) HC249
  have ov252 : h0.size ≤ v252 := q252.elim (fun e => e.symm ▸ ov249) (fun g => Nat.le_trans KK249.1 g)
  have Sv252 := Safe.keep K252 (own_two Sb249 Sv249) HC249 (q252.elim (fun e => e.symm ▸ Sv249) (fun g => Safe.new g))
  have Sb252 : Safe Z consts_1 T248.vm h252 b217 := Safe.exa X252.hZ.alike HB252.1 (by decide) (by decide)
  show Go p e below _ (State.setTop _ (mkF m 79 #[.val (.ref o)] [(.ref b217)]))
  refine g_ldcH X252 (n := 48) (zs := [(44 : Int32), (32 : Int32), (101 : Int32), (118 : Int32), (105 : Int32), (99 : Int32), (116 : Int32), (105 : Int32), (111 : Int32), (110 : Int32), (115 : Int32), (32 : Int32)]) (hw _ m168) (own_wS hw) (own_ew hw) (by decide) HC252 ⟨(by decide +kernel), (by first | rfl | decide +kernel)⟩ (by decide) (by decide +kernel) (by decide) (by decide) (by decide) d4_79 (pc' := 81) rfl (fun T253 h253 a253 u253 X253 E253 HS253 R253 SF253 => ?_)
  have KK253 := KK252.ext E253
  have HB253 := own_sbext HB252 E253
  have Sv253 := R253.safe HB252.2.2.2.2.1.lt Sv252
  have Sb253 : Safe Z consts_1 T253.vm h253 b217 := Safe.exa X253.hZ.alike HB253.1 (by decide) (by decide)
  refine g_ncallV X253 (y := (⟨"java/lang/StringBuilder", "append", "(Ljava/lang/String;)Ljava/lang/StringBuilder;"⟩ : MethodName)) (z := (⟨"java/lang/StringBuilder", "append", "(Ljava/lang/String;)Ljava/lang/StringBuilder;"⟩ : MethodName)) (a := b217) [(.ref a253)] (hw _ m60) (hw _ m61) (notFace_of_selects (args := #[]) (mvT X253.hZ (hw _ m63))) (hw _ m63) (hw _ m62) HB253.1 (hw _ m64) (hw _ m36) (Nar.rm7 l Z a0 hw b217 a253 h253 n0 X253.old v252 83 ws252 HB253 u253 [(44 : Int32), (32 : Int32), (101 : Int32), (118 : Int32), (105 : Int32), (99 : Int32), (116 : Int32), (105 : Int32), (111 : Int32), (110 : Int32), (115 : Int32), (32 : Int32)] HS253 (by unfold Nar.BY; decide) (Ne.symm (SF253 _ Sb253).1) (Ne.symm (SF253 _ Sv253).1) (Ne.symm (SF253 _ Sb253).2) (Ne.symm (SF253 _ Sv253).2) (by rw [hl252]; decide) (by rw [hl252]; decide) G1 O2 P5) (by decide) (by decide) (by decide) (by decide) (by decide) rfl pd_22 rfl (rest := []) rfl (W := 0) rfl d4_81 (pc' := 84) rfl ?_
  rintro _ T254 h254 L254 Y254 ⟨v254, ws254, rfl, N254, K254, q254, H254, hl254, ht254⟩
  have X254 := Y254 (X253.old.keep K254 (allS l217 (allS HB253.2.2.2.2.2.2.1 all0))) N254 K254.1
  rw [ht252] at H254 ht254
  have HB254 : Nar.SBP Z n0 h254 b217 v254 95 ws254 := H254
  have hl254 : ws254.length = 142 := hl254.trans hl252
  have ht254 : ws254.take 95 = [(114 : Int32), (101 : Int32), (113 : Int32), (117 : Int32), (101 : Int32), (115 : Int32), (116 : Int32), (115 : Int32), (32 : Int32), (Int32.ofNat (48 + (d1 + d2 + d3))), (44 : Int32), (32 : Int32), (102 : Int32), (114 : Int32), (101 : Int32), (115 : Int32), (104 : Int32), (32 : Int32), (104 : Int32), (105 : Int32), (116 : Int32), (115 : Int32), (32 : Int32), (Int32.ofNat (48 + d1)), (44 : Int32), (32 : Int32), (115 : Int32), (116 : Int32), (97 : Int32), (108 : Int32), (101 : Int32), (32 : Int32), (104 : Int32), (105 : Int32), (116 : Int32), (115 : Int32), (32 : Int32), (Int32.ofNat (48 + d2)), (44 : Int32), (32 : Int32), (109 : Int32), (105 : Int32), (115 : Int32), (115 : Int32), (101 : Int32), (115 : Int32), (32 : Int32), (Int32.ofNat (48 + d3)), (44 : Int32), (32 : Int32), (115 : Int32), (111 : Int32), (117 : Int32), (114 : Int32), (99 : Int32), (101 : Int32), (32 : Int32), (99 : Int32), (97 : Int32), (108 : Int32), (108 : Int32), (115 : Int32), (32 : Int32), (Int32.ofNat (48 + d4)), (44 : Int32), (32 : Int32), (115 : Int32), (111 : Int32), (117 : Int32), (114 : Int32), (99 : Int32), (101 : Int32), (32 : Int32), (102 : Int32), (97 : Int32), (105 : Int32), (108 : Int32), (117 : Int32), (114 : Int32), (101 : Int32), (115 : Int32), (32 : Int32), (Int32.ofNat (48 + d5)), (44 : Int32), (32 : Int32), (101 : Int32), (118 : Int32), (105 : Int32), (99 : Int32), (116 : Int32), (105 : Int32), (111 : Int32), (110 : Int32), (115 : Int32), (32 : Int32)] := ht254
  have KK254 := KK253.trans K254 (allS (Or.inr ob) (allS (Or.inr ov252) all0))
  have HC254 := CHv.keep K254 (own_two Sb253 Sv253) R253.1
  have ov254 : h0.size ≤ v254 := q254.elim (fun e => e.symm ▸ ov252) (fun g => Nat.le_trans KK253.1 g)
  have Sv254 := Safe.keep K254 (own_two Sb253 Sv253) R253.1 (q254.elim (fun e => e.symm ▸ Sv253) (fun g => Safe.new g))
  have Sb254 : Safe Z consts_1 T253.vm h254 b217 := Safe.exa X254.hZ.alike HB254.1 (by decide) (by decide)
  show Go p e below _ (State.setTop _ (mkF m 84 #[.val (.ref o)] [(.ref b217)]))
  refine g_aloadN X254 d4_84 (pc' := 85) rfl rfl rfl ?_
  have f255 := (F_evictions.keep KK254 nm0)
  refine g_getF X254 (host := "") (Or.inl (hw _ m27)) Via.refl f255 d4_85 (pc' := 88) rfl (fun T256 X256 => ?_)
  refine g_ncallV X256 (y := (⟨"java/lang/StringBuilder", "append", "(J)Ljava/lang/StringBuilder;"⟩ : MethodName)) (z := (⟨"java/lang/StringBuilder", "append", "(J)Ljava/lang/StringBuilder;"⟩ : MethodName)) (a := b217) [(.long (Int64.ofNat d6))] (hw _ m115) (hw _ m116) (notFace_of_selects (args := #[]) (mvT X256.hZ (hw _ m118))) (hw _ m118) (hw _ m117) HB254.1 (hw _ m119) (hw _ m36) (Nar.rm16 l Z a0 hw b217 d6 h254 n0 X256.old v254 95 ws254 HB254 hd6 (by rw [hl254]; decide) (by rw [hl254]; decide) G1 O2 P5 dg tb OD AD hdg) (by decide) (by decide) (by decide) (by decide) (by decide) rfl pd_24 rfl (rest := []) rfl (W := 0) rfl d4_88 (pc' := 91) rfl ?_
  rintro _ T257 h257 L257 Y257 ⟨v257, ws257, rfl, N257, K257, q257, H257, hl257, ht257⟩
  have X257 := Y257 (X256.old.keep K257 (allS l217 (allS HB254.2.2.2.2.2.2.1 all0))) N257 K257.1
  rw [ht254] at H257 ht257
  have HB257 : Nar.SBP Z n0 h257 b217 v257 96 ws257 := H257
  have hl257 : ws257.length = 142 := hl257.trans hl254
  have ht257 : ws257.take 96 = [(114 : Int32), (101 : Int32), (113 : Int32), (117 : Int32), (101 : Int32), (115 : Int32), (116 : Int32), (115 : Int32), (32 : Int32), (Int32.ofNat (48 + (d1 + d2 + d3))), (44 : Int32), (32 : Int32), (102 : Int32), (114 : Int32), (101 : Int32), (115 : Int32), (104 : Int32), (32 : Int32), (104 : Int32), (105 : Int32), (116 : Int32), (115 : Int32), (32 : Int32), (Int32.ofNat (48 + d1)), (44 : Int32), (32 : Int32), (115 : Int32), (116 : Int32), (97 : Int32), (108 : Int32), (101 : Int32), (32 : Int32), (104 : Int32), (105 : Int32), (116 : Int32), (115 : Int32), (32 : Int32), (Int32.ofNat (48 + d2)), (44 : Int32), (32 : Int32), (109 : Int32), (105 : Int32), (115 : Int32), (115 : Int32), (101 : Int32), (115 : Int32), (32 : Int32), (Int32.ofNat (48 + d3)), (44 : Int32), (32 : Int32), (115 : Int32), (111 : Int32), (117 : Int32), (114 : Int32), (99 : Int32), (101 : Int32), (32 : Int32), (99 : Int32), (97 : Int32), (108 : Int32), (108 : Int32), (115 : Int32), (32 : Int32), (Int32.ofNat (48 + d4)), (44 : Int32), (32 : Int32), (115 : Int32), (111 : Int32), (117 : Int32), (114 : Int32), (99 : Int32), (101 : Int32), (32 : Int32), (102 : Int32), (97 : Int32), (105 : Int32), (108 : Int32), (117 : Int32), (114 : Int32), (101 : Int32), (115 : Int32), (32 : Int32), (Int32.ofNat (48 + d5)), (44 : Int32), (32 : Int32), (101 : Int32), (118 : Int32), (105 : Int32), (99 : Int32), (116 : Int32), (105 : Int32), (111 : Int32), (110 : Int32), (115 : Int32), (32 : Int32), (Int32.ofNat (48 + d6))] := ht257
  have KK257 := KK254.trans K257 (allS (Or.inr ob) (allS (Or.inr ov254) all0))
  have HC257 := CHv.keep K257 (own_two Sb254 Sv254) HC254
  have ov257 : h0.size ≤ v257 := q257.elim (fun e => e.symm ▸ ov254) (fun g => Nat.le_trans KK254.1 g)
  have Sv257 := Safe.keep K257 (own_two Sb254 Sv254) HC254 (q257.elim (fun e => e.symm ▸ Sv254) (fun g => Safe.new g))
  have Sb257 : Safe Z consts_1 T253.vm h257 b217 := Safe.exa X257.hZ.alike HB257.1 (by decide) (by decide)
  show Go p e below _ (State.setTop _ (mkF m 91 #[.val (.ref o)] [(.ref b217)]))
  refine g_ncallV X257 (y := (⟨"java/lang/StringBuilder", "toString", "()Ljava/lang/String;"⟩ : MethodName)) (z := (⟨"java/lang/StringBuilder", "toString", "()Ljava/lang/String;"⟩ : MethodName)) (a := b217) [] (hw _ m169) (hw _ m170) (notFace_of_selects (args := #[]) (mvT X257.hZ (hw _ m172))) (hw _ m172) (hw _ m171) HB257.1 (hw _ m173) (hw _ m36) (Nar.rm26 l Z a0 hw b217 h257 n0 X257.old v257 96 ws257 HB257 (by rw [hl257]; decide) (by rw [hl257]; decide) G1 O2 P5) (by decide) (by decide) (by decide) (by decide) (by decide) rfl pd_25 rfl (rest := []) rfl (W := 0) rfl d4_91 (pc' := 94) rfl ?_
  rintro _ T258 h258 L258 Y258 ⟨a258, u258, rfl, N258, K258, H258⟩
  have X258 := Y258 (X257.old.keep K258 all0) N258 K258.1
  rw [ht257] at H258
  have KK258 := KK257.trans K258 all0
  show Go p e below _ (State.setTop _ (mkF m 94 #[.val (.ref o)] [(.ref a258)]))
  exact g_retA X258 rfl rfl rfl d4_94 (by decide) (by decide) ⟨a258, u258, rfl, X258.fr, KK258, H258⟩

theorem ef_0 (m : MethodId) (x1 : Int64) (x2 : Int64) (x3 : Int64) (x4 : Int64) (x5 : Int64) (x6 : Int64) : entryFrame m #[(.long x1), (.long x2), (.long x3), (.long x4), (.long x5), (.long x6)] maxLocals = mkF m 0 #[.val (.long x1), .second, .val (.long x2), .second, .val (.long x3), .second, .val (.long x4), .second, .val (.long x5), .second, .val (.long x6), .second, .unset, .unset, .unset, .unset, .unset, .unset, .unset, .unset, .unset, .unset, .unset, .unset, .unset, .unset, .unset, .unset, .unset] [] := by first | (simp [entryFrame, mkF, argsToLocals, Value.category, maxLocals]; done) | rfl
set_option maxRecDepth 65536 in
set_option maxHeartbeats 40000000 in
theorem rm0 (l : Launch) (Z : State) (a0 : Array Value) (hw : ∀ d ∈ tables_1, d.before a0 Z = true) (ws : List Jvm.Cond) (x1 : Int64) (x2 : Int64) (x3 : Int64) (x4 : Int64) (x5 : Int64) (x6 : Int64) (h0 : Heap) (n0 : Nat) (hO : Old Z n0 h0) (G1 : Int32) (O2 : Sta Z Z.heap "java/lang/String" "COMPACT_STRINGS" "Z" (.int G1)) (P5 : ¬ G1 = (0 : Int32)) (dg : Addr) (tb : List Int32) (OD : Sta Z Z.heap "java/lang/Integer" "DigitOnes" "[B" (.ref dg)) (AD : Arx Z Z.heap dg .byte (Nar.own_bs tb)) (hdg : ∀ i, i < 10 → (Nar.own_bs tb)[i]? = some (.int (Int32.ofNat (48 + i)))) :
    ConH consts_1 l Z x code maxLocals ret ws room_1 #[(.long x1), (.long x2), (.long x3), (.long x4), (.long x5), (.long x6)] h0 (fun v h L => v = some (.int 1) ∧ Fr n0 L) := by
  refine ConH.intro (n0 := n0) (plainFor_of_name pn_7) (fun m => ef_0 m x1 x2 x3 x4 x5 x6) hO ?_
  intro p e s m below meth cc T hs0 H0 X0
  refine g_lloadN X0 at_0 (pc' := 1) rfl rfl ?_
  refine g_ldc2 X0 (hw _ m0) at_1 (pc' := 4) rfl ?_
  refine g_land X0 at_4 (pc' := 5) rfl ?_
  refine g_ldc2 X0 (hw _ m1) at_5 (pc' := 8) rfl ?_
  refine g_lrem X0 at_8 (pc' := 9) rfl (by decide) ?_
  obtain ⟨d1, hd1, e1⟩ := Nar.own_rem x1 (4 : Int64) 4 rfl (by decide) (by decide)
  rw [e1]
  refine g_lstore X0 at_9 (pc' := 11) rfl (L' := #[.val (.long x1), .second, .val (.long x2), .second, .val (.long x3), .second, .val (.long x4), .second, .val (.long x5), .second, .val (.long x6), .second, .val (.long (Int64.ofNat d1)), .second, .unset, .unset, .unset, .unset, .unset, .unset, .unset, .unset, .unset, .unset, .unset, .unset, .unset, .unset, .unset]) rfl ?_
  refine g_lloadN X0 at_11 (pc' := 12) rfl rfl ?_
  refine g_ldc2 X0 (hw _ m0) at_12 (pc' := 15) rfl ?_
  refine g_land X0 at_15 (pc' := 16) rfl ?_
  refine g_ldc2 X0 (hw _ m1) at_16 (pc' := 19) rfl ?_
  refine g_lrem X0 at_19 (pc' := 20) rfl (by decide) ?_
  obtain ⟨d2, hd2, e2⟩ := Nar.own_rem x2 (4 : Int64) 4 rfl (by decide) (by decide)
  rw [e2]
  refine g_lstore X0 at_20 (pc' := 22) rfl (L' := #[.val (.long x1), .second, .val (.long x2), .second, .val (.long x3), .second, .val (.long x4), .second, .val (.long x5), .second, .val (.long x6), .second, .val (.long (Int64.ofNat d1)), .second, .val (.long (Int64.ofNat d2)), .second, .unset, .unset, .unset, .unset, .unset, .unset, .unset, .unset, .unset, .unset, .unset, .unset, .unset]) rfl ?_
  refine g_lload X0 at_22 (pc' := 24) rfl rfl ?_
  refine g_ldc2 X0 (hw _ m0) at_24 (pc' := 27) rfl ?_
  refine g_land X0 at_27 (pc' := 28) rfl ?_
  refine g_ldc2 X0 (hw _ m1) at_28 (pc' := 31) rfl ?_
  refine g_lrem X0 at_31 (pc' := 32) rfl (by decide) ?_
  obtain ⟨d3, hd3, e3⟩ := Nar.own_rem x3 (4 : Int64) 4 rfl (by decide) (by decide)
  rw [e3]
  refine g_lstore X0 at_32 (pc' := 34) rfl (L' := #[.val (.long x1), .second, .val (.long x2), .second, .val (.long x3), .second, .val (.long x4), .second, .val (.long x5), .second, .val (.long x6), .second, .val (.long (Int64.ofNat d1)), .second, .val (.long (Int64.ofNat d2)), .second, .val (.long (Int64.ofNat d3)), .second, .unset, .unset, .unset, .unset, .unset, .unset, .unset, .unset, .unset, .unset, .unset]) rfl ?_
  refine g_lload X0 at_34 (pc' := 36) rfl rfl ?_
  refine g_ldc2 X0 (hw _ m0) at_36 (pc' := 39) rfl ?_
  refine g_land X0 at_39 (pc' := 40) rfl ?_
  refine g_ldc2 X0 (hw _ m2) at_40 (pc' := 43) rfl ?_
  refine g_lrem X0 at_43 (pc' := 44) rfl (by decide) ?_
  obtain ⟨d4, hd4, e4⟩ := Nar.own_rem x4 (10 : Int64) 10 rfl (by decide) (by decide)
  rw [e4]
  refine g_lstore X0 at_44 (pc' := 46) rfl (L' := #[.val (.long x1), .second, .val (.long x2), .second, .val (.long x3), .second, .val (.long x4), .second, .val (.long x5), .second, .val (.long x6), .second, .val (.long (Int64.ofNat d1)), .second, .val (.long (Int64.ofNat d2)), .second, .val (.long (Int64.ofNat d3)), .second, .val (.long (Int64.ofNat d4)), .second, .unset, .unset, .unset, .unset, .unset, .unset, .unset, .unset, .unset]) rfl ?_
  refine g_lload X0 at_46 (pc' := 48) rfl rfl ?_
  refine g_ldc2 X0 (hw _ m0) at_48 (pc' := 51) rfl ?_
  refine g_land X0 at_51 (pc' := 52) rfl ?_
  refine g_ldc2 X0 (hw _ m2) at_52 (pc' := 55) rfl ?_
  refine g_lrem X0 at_55 (pc' := 56) rfl (by decide) ?_
  obtain ⟨d5, hd5, e5⟩ := Nar.own_rem x5 (10 : Int64) 10 rfl (by decide) (by decide)
  rw [e5]
  refine g_lstore X0 at_56 (pc' := 58) rfl (L' := #[.val (.long x1), .second, .val (.long x2), .second, .val (.long x3), .second, .val (.long x4), .second, .val (.long x5), .second, .val (.long x6), .second, .val (.long (Int64.ofNat d1)), .second, .val (.long (Int64.ofNat d2)), .second, .val (.long (Int64.ofNat d3)), .second, .val (.long (Int64.ofNat d4)), .second, .val (.long (Int64.ofNat d5)), .second, .unset, .unset, .unset, .unset, .unset, .unset, .unset]) rfl ?_
  refine g_lload X0 at_58 (pc' := 60) rfl rfl ?_
  refine g_ldc2 X0 (hw _ m0) at_60 (pc' := 63) rfl ?_
  refine g_land X0 at_63 (pc' := 64) rfl ?_
  refine g_ldc2 X0 (hw _ m2) at_64 (pc' := 67) rfl ?_
  refine g_lrem X0 at_67 (pc' := 68) rfl (by decide) ?_
  obtain ⟨d6, hd6, e6⟩ := Nar.own_rem x6 (10 : Int64) 10 rfl (by decide) (by decide)
  rw [e6]
  refine g_lstore X0 at_68 (pc' := 70) rfl (L' := #[.val (.long x1), .second, .val (.long x2), .second, .val (.long x3), .second, .val (.long x4), .second, .val (.long x5), .second, .val (.long x6), .second, .val (.long (Int64.ofNat d1)), .second, .val (.long (Int64.ofNat d2)), .second, .val (.long (Int64.ofNat d3)), .second, .val (.long (Int64.ofNat d4)), .second, .val (.long (Int64.ofNat d5)), .second, .val (.long (Int64.ofNat d6)), .second, .unset, .unset, .unset, .unset, .unset]) rfl ?_
  refine g_lload X0 at_70 (pc' := 72) rfl rfl ?_
  refine g_lload X0 at_72 (pc' := 74) rfl rfl ?_
  refine g_ladd X0 at_74 (pc' := 75) rfl ?_
  refine g_lload X0 at_75 (pc' := 77) rfl rfl ?_
  refine g_ladd X0 at_77 (pc' := 78) rfl ?_
  rw [← Int64.ofNat_add, ← Int64.ofNat_add]
  refine g_lstore X0 at_78 (pc' := 80) rfl (L' := #[.val (.long x1), .second, .val (.long x2), .second, .val (.long x3), .second, .val (.long x4), .second, .val (.long x5), .second, .val (.long x6), .second, .val (.long (Int64.ofNat d1)), .second, .val (.long (Int64.ofNat d2)), .second, .val (.long (Int64.ofNat d3)), .second, .val (.long (Int64.ofNat d4)), .second, .val (.long (Int64.ofNat d5)), .second, .val (.long (Int64.ofNat d6)), .second, .val (.long (Int64.ofNat (d1 + d2 + d3))), .second, .unset, .unset, .unset]) rfl ?_
  refine g_bipush X0 at_80 (pc' := 82) rfl (v := (96 : Int32)) rfl ?_
  refine g_newarray X0 (aty := .char) (cap := 96) (vs := [(.int (0 : Int32)), (.int (0 : Int32)), (.int (0 : Int32)), (.int (0 : Int32)), (.int (0 : Int32)), (.int (0 : Int32)), (.int (0 : Int32)), (.int (0 : Int32)), (.int (0 : Int32)), (.int (0 : Int32)), (.int (0 : Int32)), (.int (0 : Int32)), (.int (0 : Int32)), (.int (0 : Int32)), (.int (0 : Int32)), (.int (0 : Int32)), (.int (0 : Int32)), (.int (0 : Int32)), (.int (0 : Int32)), (.int (0 : Int32)), (.int (0 : Int32)), (.int (0 : Int32)), (.int (0 : Int32)), (.int (0 : Int32)), (.int (0 : Int32)), (.int (0 : Int32)), (.int (0 : Int32)), (.int (0 : Int32)), (.int (0 : Int32)), (.int (0 : Int32)), (.int (0 : Int32)), (.int (0 : Int32)), (.int (0 : Int32)), (.int (0 : Int32)), (.int (0 : Int32)), (.int (0 : Int32)), (.int (0 : Int32)), (.int (0 : Int32)), (.int (0 : Int32)), (.int (0 : Int32)), (.int (0 : Int32)), (.int (0 : Int32)), (.int (0 : Int32)), (.int (0 : Int32)), (.int (0 : Int32)), (.int (0 : Int32)), (.int (0 : Int32)), (.int (0 : Int32)), (.int (0 : Int32)), (.int (0 : Int32)), (.int (0 : Int32)), (.int (0 : Int32)), (.int (0 : Int32)), (.int (0 : Int32)), (.int (0 : Int32)), (.int (0 : Int32)), (.int (0 : Int32)), (.int (0 : Int32)), (.int (0 : Int32)), (.int (0 : Int32)), (.int (0 : Int32)), (.int (0 : Int32)), (.int (0 : Int32)), (.int (0 : Int32)), (.int (0 : Int32)), (.int (0 : Int32)), (.int (0 : Int32)), (.int (0 : Int32)), (.int (0 : Int32)), (.int (0 : Int32)), (.int (0 : Int32)), (.int (0 : Int32)), (.int (0 : Int32)), (.int (0 : Int32)), (.int (0 : Int32)), (.int (0 : Int32)), (.int (0 : Int32)), (.int (0 : Int32)), (.int (0 : Int32)), (.int (0 : Int32)), (.int (0 : Int32)), (.int (0 : Int32)), (.int (0 : Int32)), (.int (0 : Int32)), (.int (0 : Int32)), (.int (0 : Int32)), (.int (0 : Int32)), (.int (0 : Int32)), (.int (0 : Int32)), (.int (0 : Int32)), (.int (0 : Int32)), (.int (0 : Int32)), (.int (0 : Int32)), (.int (0 : Int32)), (.int (0 : Int32)), (.int (0 : Int32))]) (hw _ m3) (by decide) (by decide) rfl (by decide) at_82 (pc' := 84) rfl (by decide) (by decide) (fun T259 h259 b259 X259 g259 E259 A259 l259 => ?_)
  refine g_dup X259 at_84 (pc' := 85) rfl rfl ?_
  refine g_iconst X259 at_85 (pc' := 86) rfl (v := (0 : Int32)) rfl ?_
  refine g_bipush X259 at_86 (pc' := 88) rfl (v := (114 : Int32)) rfl ?_
  refine g_castore X259 (i := 0) A259 (by decide) (by show 0 < 96; decide) l259 at_88 (pc' := 89) rfl (fun T260 h260 X260 W260 A260 => ?_)
  have A260 : Arx Z h260 b259 .char [.int 114, .int 0, .int 0, .int 0, .int 0, .int 0, .int 0, .int 0, .int 0, .int 0, .int 0, .int 0, .int 0, .int 0, .int 0, .int 0, .int 0, .int 0, .int 0, .int 0, .int 0, .int 0, .int 0, .int 0, .int 0, .int 0, .int 0, .int 0, .int 0, .int 0, .int 0, .int 0, .int 0, .int 0, .int 0, .int 0, .int 0, .int 0, .int 0, .int 0, .int 0, .int 0, .int 0, .int 0, .int 0, .int 0, .int 0, .int 0, .int 0, .int 0, .int 0, .int 0, .int 0, .int 0, .int 0, .int 0, .int 0, .int 0, .int 0, .int 0, .int 0, .int 0, .int 0, .int 0, .int 0, .int 0, .int 0, .int 0, .int 0, .int 0, .int 0, .int 0, .int 0, .int 0, .int 0, .int 0, .int 0, .int 0, .int 0, .int 0, .int 0, .int 0, .int 0, .int 0, .int 0, .int 0, .int 0, .int 0, .int 0, .int 0, .int 0, .int 0, .int 0, .int 0, .int 0, .int 0] := A260
  refine g_dup X260 at_89 (pc' := 90) rfl rfl ?_
  refine g_iconst X260 at_90 (pc' := 91) rfl (v := (1 : Int32)) rfl ?_
  refine g_bipush X260 at_91 (pc' := 93) rfl (v := (101 : Int32)) rfl ?_
  refine g_castore X260 (i := 1) A260 (by decide) (by show 1 < 96; decide) l259 at_93 (pc' := 94) rfl (fun T261 h261 X261 W261 A261 => ?_)
  have A261 : Arx Z h261 b259 .char [.int 114, .int 101, .int 0, .int 0, .int 0, .int 0, .int 0, .int 0, .int 0, .int 0, .int 0, .int 0, .int 0, .int 0, .int 0, .int 0, .int 0, .int 0, .int 0, .int 0, .int 0, .int 0, .int 0, .int 0, .int 0, .int 0, .int 0, .int 0, .int 0, .int 0, .int 0, .int 0, .int 0, .int 0, .int 0, .int 0, .int 0, .int 0, .int 0, .int 0, .int 0, .int 0, .int 0, .int 0, .int 0, .int 0, .int 0, .int 0, .int 0, .int 0, .int 0, .int 0, .int 0, .int 0, .int 0, .int 0, .int 0, .int 0, .int 0, .int 0, .int 0, .int 0, .int 0, .int 0, .int 0, .int 0, .int 0, .int 0, .int 0, .int 0, .int 0, .int 0, .int 0, .int 0, .int 0, .int 0, .int 0, .int 0, .int 0, .int 0, .int 0, .int 0, .int 0, .int 0, .int 0, .int 0, .int 0, .int 0, .int 0, .int 0, .int 0, .int 0, .int 0, .int 0, .int 0, .int 0] := A261
  refine g_dup X261 at_94 (pc' := 95) rfl rfl ?_
  refine g_iconst X261 at_95 (pc' := 96) rfl (v := (2 : Int32)) rfl ?_
  refine g_bipush X261 at_96 (pc' := 98) rfl (v := (113 : Int32)) rfl ?_
  refine g_castore X261 (i := 2) A261 (by decide) (by show 2 < 96; decide) l259 at_98 (pc' := 99) rfl (fun T262 h262 X262 W262 A262 => ?_)
  have A262 : Arx Z h262 b259 .char [.int 114, .int 101, .int 113, .int 0, .int 0, .int 0, .int 0, .int 0, .int 0, .int 0, .int 0, .int 0, .int 0, .int 0, .int 0, .int 0, .int 0, .int 0, .int 0, .int 0, .int 0, .int 0, .int 0, .int 0, .int 0, .int 0, .int 0, .int 0, .int 0, .int 0, .int 0, .int 0, .int 0, .int 0, .int 0, .int 0, .int 0, .int 0, .int 0, .int 0, .int 0, .int 0, .int 0, .int 0, .int 0, .int 0, .int 0, .int 0, .int 0, .int 0, .int 0, .int 0, .int 0, .int 0, .int 0, .int 0, .int 0, .int 0, .int 0, .int 0, .int 0, .int 0, .int 0, .int 0, .int 0, .int 0, .int 0, .int 0, .int 0, .int 0, .int 0, .int 0, .int 0, .int 0, .int 0, .int 0, .int 0, .int 0, .int 0, .int 0, .int 0, .int 0, .int 0, .int 0, .int 0, .int 0, .int 0, .int 0, .int 0, .int 0, .int 0, .int 0, .int 0, .int 0, .int 0, .int 0] := A262
  refine g_dup X262 at_99 (pc' := 100) rfl rfl ?_
  refine g_iconst X262 at_100 (pc' := 101) rfl (v := (3 : Int32)) rfl ?_
  refine g_bipush X262 at_101 (pc' := 103) rfl (v := (117 : Int32)) rfl ?_
  refine g_castore X262 (i := 3) A262 (by decide) (by show 3 < 96; decide) l259 at_103 (pc' := 104) rfl (fun T263 h263 X263 W263 A263 => ?_)
  have A263 : Arx Z h263 b259 .char [.int 114, .int 101, .int 113, .int 117, .int 0, .int 0, .int 0, .int 0, .int 0, .int 0, .int 0, .int 0, .int 0, .int 0, .int 0, .int 0, .int 0, .int 0, .int 0, .int 0, .int 0, .int 0, .int 0, .int 0, .int 0, .int 0, .int 0, .int 0, .int 0, .int 0, .int 0, .int 0, .int 0, .int 0, .int 0, .int 0, .int 0, .int 0, .int 0, .int 0, .int 0, .int 0, .int 0, .int 0, .int 0, .int 0, .int 0, .int 0, .int 0, .int 0, .int 0, .int 0, .int 0, .int 0, .int 0, .int 0, .int 0, .int 0, .int 0, .int 0, .int 0, .int 0, .int 0, .int 0, .int 0, .int 0, .int 0, .int 0, .int 0, .int 0, .int 0, .int 0, .int 0, .int 0, .int 0, .int 0, .int 0, .int 0, .int 0, .int 0, .int 0, .int 0, .int 0, .int 0, .int 0, .int 0, .int 0, .int 0, .int 0, .int 0, .int 0, .int 0, .int 0, .int 0, .int 0, .int 0] := A263
  refine g_dup X263 at_104 (pc' := 105) rfl rfl ?_
  refine g_iconst X263 at_105 (pc' := 106) rfl (v := (4 : Int32)) rfl ?_
  refine g_bipush X263 at_106 (pc' := 108) rfl (v := (101 : Int32)) rfl ?_
  refine g_castore X263 (i := 4) A263 (by decide) (by show 4 < 96; decide) l259 at_108 (pc' := 109) rfl (fun T264 h264 X264 W264 A264 => ?_)
  have A264 : Arx Z h264 b259 .char [.int 114, .int 101, .int 113, .int 117, .int 101, .int 0, .int 0, .int 0, .int 0, .int 0, .int 0, .int 0, .int 0, .int 0, .int 0, .int 0, .int 0, .int 0, .int 0, .int 0, .int 0, .int 0, .int 0, .int 0, .int 0, .int 0, .int 0, .int 0, .int 0, .int 0, .int 0, .int 0, .int 0, .int 0, .int 0, .int 0, .int 0, .int 0, .int 0, .int 0, .int 0, .int 0, .int 0, .int 0, .int 0, .int 0, .int 0, .int 0, .int 0, .int 0, .int 0, .int 0, .int 0, .int 0, .int 0, .int 0, .int 0, .int 0, .int 0, .int 0, .int 0, .int 0, .int 0, .int 0, .int 0, .int 0, .int 0, .int 0, .int 0, .int 0, .int 0, .int 0, .int 0, .int 0, .int 0, .int 0, .int 0, .int 0, .int 0, .int 0, .int 0, .int 0, .int 0, .int 0, .int 0, .int 0, .int 0, .int 0, .int 0, .int 0, .int 0, .int 0, .int 0, .int 0, .int 0, .int 0] := A264
  refine g_dup X264 at_109 (pc' := 110) rfl rfl ?_
  refine g_iconst X264 at_110 (pc' := 111) rfl (v := (5 : Int32)) rfl ?_
  refine g_bipush X264 at_111 (pc' := 113) rfl (v := (115 : Int32)) rfl ?_
  refine g_castore X264 (i := 5) A264 (by decide) (by show 5 < 96; decide) l259 at_113 (pc' := 114) rfl (fun T265 h265 X265 W265 A265 => ?_)
  have A265 : Arx Z h265 b259 .char [.int 114, .int 101, .int 113, .int 117, .int 101, .int 115, .int 0, .int 0, .int 0, .int 0, .int 0, .int 0, .int 0, .int 0, .int 0, .int 0, .int 0, .int 0, .int 0, .int 0, .int 0, .int 0, .int 0, .int 0, .int 0, .int 0, .int 0, .int 0, .int 0, .int 0, .int 0, .int 0, .int 0, .int 0, .int 0, .int 0, .int 0, .int 0, .int 0, .int 0, .int 0, .int 0, .int 0, .int 0, .int 0, .int 0, .int 0, .int 0, .int 0, .int 0, .int 0, .int 0, .int 0, .int 0, .int 0, .int 0, .int 0, .int 0, .int 0, .int 0, .int 0, .int 0, .int 0, .int 0, .int 0, .int 0, .int 0, .int 0, .int 0, .int 0, .int 0, .int 0, .int 0, .int 0, .int 0, .int 0, .int 0, .int 0, .int 0, .int 0, .int 0, .int 0, .int 0, .int 0, .int 0, .int 0, .int 0, .int 0, .int 0, .int 0, .int 0, .int 0, .int 0, .int 0, .int 0, .int 0] := A265
  refine g_dup X265 at_114 (pc' := 115) rfl rfl ?_
  refine g_bipush X265 at_115 (pc' := 117) rfl (v := (6 : Int32)) rfl ?_
  refine g_bipush X265 at_117 (pc' := 119) rfl (v := (116 : Int32)) rfl ?_
  refine g_castore X265 (i := 6) A265 (by decide) (by show 6 < 96; decide) l259 at_119 (pc' := 120) rfl (fun T266 h266 X266 W266 A266 => ?_)
  have A266 : Arx Z h266 b259 .char [.int 114, .int 101, .int 113, .int 117, .int 101, .int 115, .int 116, .int 0, .int 0, .int 0, .int 0, .int 0, .int 0, .int 0, .int 0, .int 0, .int 0, .int 0, .int 0, .int 0, .int 0, .int 0, .int 0, .int 0, .int 0, .int 0, .int 0, .int 0, .int 0, .int 0, .int 0, .int 0, .int 0, .int 0, .int 0, .int 0, .int 0, .int 0, .int 0, .int 0, .int 0, .int 0, .int 0, .int 0, .int 0, .int 0, .int 0, .int 0, .int 0, .int 0, .int 0, .int 0, .int 0, .int 0, .int 0, .int 0, .int 0, .int 0, .int 0, .int 0, .int 0, .int 0, .int 0, .int 0, .int 0, .int 0, .int 0, .int 0, .int 0, .int 0, .int 0, .int 0, .int 0, .int 0, .int 0, .int 0, .int 0, .int 0, .int 0, .int 0, .int 0, .int 0, .int 0, .int 0, .int 0, .int 0, .int 0, .int 0, .int 0, .int 0, .int 0, .int 0, .int 0, .int 0, .int 0, .int 0] := A266
  refine g_dup X266 at_120 (pc' := 121) rfl rfl ?_
  refine g_bipush X266 at_121 (pc' := 123) rfl (v := (7 : Int32)) rfl ?_
  refine g_bipush X266 at_123 (pc' := 125) rfl (v := (115 : Int32)) rfl ?_
  refine g_castore X266 (i := 7) A266 (by decide) (by show 7 < 96; decide) l259 at_125 (pc' := 126) rfl (fun T267 h267 X267 W267 A267 => ?_)
  have A267 : Arx Z h267 b259 .char [.int 114, .int 101, .int 113, .int 117, .int 101, .int 115, .int 116, .int 115, .int 0, .int 0, .int 0, .int 0, .int 0, .int 0, .int 0, .int 0, .int 0, .int 0, .int 0, .int 0, .int 0, .int 0, .int 0, .int 0, .int 0, .int 0, .int 0, .int 0, .int 0, .int 0, .int 0, .int 0, .int 0, .int 0, .int 0, .int 0, .int 0, .int 0, .int 0, .int 0, .int 0, .int 0, .int 0, .int 0, .int 0, .int 0, .int 0, .int 0, .int 0, .int 0, .int 0, .int 0, .int 0, .int 0, .int 0, .int 0, .int 0, .int 0, .int 0, .int 0, .int 0, .int 0, .int 0, .int 0, .int 0, .int 0, .int 0, .int 0, .int 0, .int 0, .int 0, .int 0, .int 0, .int 0, .int 0, .int 0, .int 0, .int 0, .int 0, .int 0, .int 0, .int 0, .int 0, .int 0, .int 0, .int 0, .int 0, .int 0, .int 0, .int 0, .int 0, .int 0, .int 0, .int 0, .int 0, .int 0] := A267
  refine g_dup X267 at_126 (pc' := 127) rfl rfl ?_
  refine g_bipush X267 at_127 (pc' := 129) rfl (v := (8 : Int32)) rfl ?_
  refine g_bipush X267 at_129 (pc' := 131) rfl (v := (32 : Int32)) rfl ?_
  refine g_castore X267 (i := 8) A267 (by decide) (by show 8 < 96; decide) l259 at_131 (pc' := 132) rfl (fun T268 h268 X268 W268 A268 => ?_)
  have A268 : Arx Z h268 b259 .char [.int 114, .int 101, .int 113, .int 117, .int 101, .int 115, .int 116, .int 115, .int 32, .int 0, .int 0, .int 0, .int 0, .int 0, .int 0, .int 0, .int 0, .int 0, .int 0, .int 0, .int 0, .int 0, .int 0, .int 0, .int 0, .int 0, .int 0, .int 0, .int 0, .int 0, .int 0, .int 0, .int 0, .int 0, .int 0, .int 0, .int 0, .int 0, .int 0, .int 0, .int 0, .int 0, .int 0, .int 0, .int 0, .int 0, .int 0, .int 0, .int 0, .int 0, .int 0, .int 0, .int 0, .int 0, .int 0, .int 0, .int 0, .int 0, .int 0, .int 0, .int 0, .int 0, .int 0, .int 0, .int 0, .int 0, .int 0, .int 0, .int 0, .int 0, .int 0, .int 0, .int 0, .int 0, .int 0, .int 0, .int 0, .int 0, .int 0, .int 0, .int 0, .int 0, .int 0, .int 0, .int 0, .int 0, .int 0, .int 0, .int 0, .int 0, .int 0, .int 0, .int 0, .int 0, .int 0, .int 0] := A268
  refine g_dup X268 at_132 (pc' := 133) rfl rfl ?_
  refine g_bipush X268 at_133 (pc' := 135) rfl (v := (9 : Int32)) rfl ?_
  refine g_lload X268 at_135 (pc' := 137) rfl rfl ?_
  refine g_ncallS X268 (y := (⟨"com/example/freshet/freshet/CacheCountsToStringPinLaw", "d", "(J)C"⟩ : MethodName)) [(.long (Int64.ofNat (d1 + d2 + d3)))] (hw _ m4) (hw _ m5) (hw _ m6) (hw _ m7) (hw _ m6) (Nar.rm1 l Z a0 hw (d1 + d2 + d3) h268 n0 X268.old (by omega)) (by decide) (by decide) (by decide) (by decide) (by decide) rfl pd_26 rfl (rest := [(.int (9 : Int32)), (.ref b259), (.ref b259)]) rfl (W := 3) rfl at_137 (pc' := 140) rfl ?_
  rintro _ T269 _ _ Y269 ⟨rfl, rfl, rfl⟩
  have X269 := Y269 X268.old (Fr.nil _) (Nat.le_refl _)
  show Go p e below _ (State.setTop _ (mkF m 140 #[.val (.long x1), .second, .val (.long x2), .second, .val (.long x3), .second, .val (.long x4), .second, .val (.long x5), .second, .val (.long x6), .second, .val (.long (Int64.ofNat d1)), .second, .val (.long (Int64.ofNat d2)), .second, .val (.long (Int64.ofNat d3)), .second, .val (.long (Int64.ofNat d4)), .second, .val (.long (Int64.ofNat d5)), .second, .val (.long (Int64.ofNat d6)), .second, .val (.long (Int64.ofNat (d1 + d2 + d3))), .second, .unset, .unset, .unset] [(.int (Int32.ofNat (48 + (d1 + d2 + d3)))), (.int (9 : Int32)), (.ref b259), (.ref b259)]))
  refine g_castore X269 (i := 9) A268 (by decide) (by show 9 < 96; decide) l259 at_140 (pc' := 141) rfl (fun T270 h270 X270 W270 A270 => ?_)
  rw [Nar.own_ncd (by omega)] at A270
  have A270 : Arx Z h270 b259 .char [.int 114, .int 101, .int 113, .int 117, .int 101, .int 115, .int 116, .int 115, .int 32, (.int (Int32.ofNat (48 + (d1 + d2 + d3)))), .int 0, .int 0, .int 0, .int 0, .int 0, .int 0, .int 0, .int 0, .int 0, .int 0, .int 0, .int 0, .int 0, .int 0, .int 0, .int 0, .int 0, .int 0, .int 0, .int 0, .int 0, .int 0, .int 0, .int 0, .int 0, .int 0, .int 0, .int 0, .int 0, .int 0, .int 0, .int 0, .int 0, .int 0, .int 0, .int 0, .int 0, .int 0, .int 0, .int 0, .int 0, .int 0, .int 0, .int 0, .int 0, .int 0, .int 0, .int 0, .int 0, .int 0, .int 0, .int 0, .int 0, .int 0, .int 0, .int 0, .int 0, .int 0, .int 0, .int 0, .int 0, .int 0, .int 0, .int 0, .int 0, .int 0, .int 0, .int 0, .int 0, .int 0, .int 0, .int 0, .int 0, .int 0, .int 0, .int 0, .int 0, .int 0, .int 0, .int 0, .int 0, .int 0, .int 0, .int 0, .int 0, .int 0] := A270
  refine g_dup X270 at_141 (pc' := 142) rfl rfl ?_
  refine g_bipush X270 at_142 (pc' := 144) rfl (v := (10 : Int32)) rfl ?_
  refine g_bipush X270 at_144 (pc' := 146) rfl (v := (44 : Int32)) rfl ?_
  refine g_castore X270 (i := 10) A270 (by decide) (by show 10 < 96; decide) l259 at_146 (pc' := 147) rfl (fun T271 h271 X271 W271 A271 => ?_)
  have A271 : Arx Z h271 b259 .char [.int 114, .int 101, .int 113, .int 117, .int 101, .int 115, .int 116, .int 115, .int 32, (.int (Int32.ofNat (48 + (d1 + d2 + d3)))), .int 44, .int 0, .int 0, .int 0, .int 0, .int 0, .int 0, .int 0, .int 0, .int 0, .int 0, .int 0, .int 0, .int 0, .int 0, .int 0, .int 0, .int 0, .int 0, .int 0, .int 0, .int 0, .int 0, .int 0, .int 0, .int 0, .int 0, .int 0, .int 0, .int 0, .int 0, .int 0, .int 0, .int 0, .int 0, .int 0, .int 0, .int 0, .int 0, .int 0, .int 0, .int 0, .int 0, .int 0, .int 0, .int 0, .int 0, .int 0, .int 0, .int 0, .int 0, .int 0, .int 0, .int 0, .int 0, .int 0, .int 0, .int 0, .int 0, .int 0, .int 0, .int 0, .int 0, .int 0, .int 0, .int 0, .int 0, .int 0, .int 0, .int 0, .int 0, .int 0, .int 0, .int 0, .int 0, .int 0, .int 0, .int 0, .int 0, .int 0, .int 0, .int 0, .int 0, .int 0, .int 0, .int 0] := A271
  refine g_dup X271 at_147 (pc' := 148) rfl rfl ?_
  refine g_bipush X271 at_148 (pc' := 150) rfl (v := (11 : Int32)) rfl ?_
  refine g_bipush X271 at_150 (pc' := 152) rfl (v := (32 : Int32)) rfl ?_
  refine g_castore X271 (i := 11) A271 (by decide) (by show 11 < 96; decide) l259 at_152 (pc' := 153) rfl (fun T272 h272 X272 W272 A272 => ?_)
  have A272 : Arx Z h272 b259 .char [.int 114, .int 101, .int 113, .int 117, .int 101, .int 115, .int 116, .int 115, .int 32, (.int (Int32.ofNat (48 + (d1 + d2 + d3)))), .int 44, .int 32, .int 0, .int 0, .int 0, .int 0, .int 0, .int 0, .int 0, .int 0, .int 0, .int 0, .int 0, .int 0, .int 0, .int 0, .int 0, .int 0, .int 0, .int 0, .int 0, .int 0, .int 0, .int 0, .int 0, .int 0, .int 0, .int 0, .int 0, .int 0, .int 0, .int 0, .int 0, .int 0, .int 0, .int 0, .int 0, .int 0, .int 0, .int 0, .int 0, .int 0, .int 0, .int 0, .int 0, .int 0, .int 0, .int 0, .int 0, .int 0, .int 0, .int 0, .int 0, .int 0, .int 0, .int 0, .int 0, .int 0, .int 0, .int 0, .int 0, .int 0, .int 0, .int 0, .int 0, .int 0, .int 0, .int 0, .int 0, .int 0, .int 0, .int 0, .int 0, .int 0, .int 0, .int 0, .int 0, .int 0, .int 0, .int 0, .int 0, .int 0, .int 0, .int 0, .int 0, .int 0] := A272
  refine g_dup X272 at_153 (pc' := 154) rfl rfl ?_
  refine g_bipush X272 at_154 (pc' := 156) rfl (v := (12 : Int32)) rfl ?_
  refine g_bipush X272 at_156 (pc' := 158) rfl (v := (102 : Int32)) rfl ?_
  refine g_castore X272 (i := 12) A272 (by decide) (by show 12 < 96; decide) l259 at_158 (pc' := 159) rfl (fun T273 h273 X273 W273 A273 => ?_)
  have A273 : Arx Z h273 b259 .char [.int 114, .int 101, .int 113, .int 117, .int 101, .int 115, .int 116, .int 115, .int 32, (.int (Int32.ofNat (48 + (d1 + d2 + d3)))), .int 44, .int 32, .int 102, .int 0, .int 0, .int 0, .int 0, .int 0, .int 0, .int 0, .int 0, .int 0, .int 0, .int 0, .int 0, .int 0, .int 0, .int 0, .int 0, .int 0, .int 0, .int 0, .int 0, .int 0, .int 0, .int 0, .int 0, .int 0, .int 0, .int 0, .int 0, .int 0, .int 0, .int 0, .int 0, .int 0, .int 0, .int 0, .int 0, .int 0, .int 0, .int 0, .int 0, .int 0, .int 0, .int 0, .int 0, .int 0, .int 0, .int 0, .int 0, .int 0, .int 0, .int 0, .int 0, .int 0, .int 0, .int 0, .int 0, .int 0, .int 0, .int 0, .int 0, .int 0, .int 0, .int 0, .int 0, .int 0, .int 0, .int 0, .int 0, .int 0, .int 0, .int 0, .int 0, .int 0, .int 0, .int 0, .int 0, .int 0, .int 0, .int 0, .int 0, .int 0, .int 0, .int 0] := A273
  refine g_dup X273 at_159 (pc' := 160) rfl rfl ?_
  refine g_bipush X273 at_160 (pc' := 162) rfl (v := (13 : Int32)) rfl ?_
  refine g_bipush X273 at_162 (pc' := 164) rfl (v := (114 : Int32)) rfl ?_
  refine g_castore X273 (i := 13) A273 (by decide) (by show 13 < 96; decide) l259 at_164 (pc' := 165) rfl (fun T274 h274 X274 W274 A274 => ?_)
  have A274 : Arx Z h274 b259 .char [.int 114, .int 101, .int 113, .int 117, .int 101, .int 115, .int 116, .int 115, .int 32, (.int (Int32.ofNat (48 + (d1 + d2 + d3)))), .int 44, .int 32, .int 102, .int 114, .int 0, .int 0, .int 0, .int 0, .int 0, .int 0, .int 0, .int 0, .int 0, .int 0, .int 0, .int 0, .int 0, .int 0, .int 0, .int 0, .int 0, .int 0, .int 0, .int 0, .int 0, .int 0, .int 0, .int 0, .int 0, .int 0, .int 0, .int 0, .int 0, .int 0, .int 0, .int 0, .int 0, .int 0, .int 0, .int 0, .int 0, .int 0, .int 0, .int 0, .int 0, .int 0, .int 0, .int 0, .int 0, .int 0, .int 0, .int 0, .int 0, .int 0, .int 0, .int 0, .int 0, .int 0, .int 0, .int 0, .int 0, .int 0, .int 0, .int 0, .int 0, .int 0, .int 0, .int 0, .int 0, .int 0, .int 0, .int 0, .int 0, .int 0, .int 0, .int 0, .int 0, .int 0, .int 0, .int 0, .int 0, .int 0, .int 0, .int 0, .int 0, .int 0] := A274
  refine g_dup X274 at_165 (pc' := 166) rfl rfl ?_
  refine g_bipush X274 at_166 (pc' := 168) rfl (v := (14 : Int32)) rfl ?_
  refine g_bipush X274 at_168 (pc' := 170) rfl (v := (101 : Int32)) rfl ?_
  refine g_castore X274 (i := 14) A274 (by decide) (by show 14 < 96; decide) l259 at_170 (pc' := 171) rfl (fun T275 h275 X275 W275 A275 => ?_)
  have A275 : Arx Z h275 b259 .char [.int 114, .int 101, .int 113, .int 117, .int 101, .int 115, .int 116, .int 115, .int 32, (.int (Int32.ofNat (48 + (d1 + d2 + d3)))), .int 44, .int 32, .int 102, .int 114, .int 101, .int 0, .int 0, .int 0, .int 0, .int 0, .int 0, .int 0, .int 0, .int 0, .int 0, .int 0, .int 0, .int 0, .int 0, .int 0, .int 0, .int 0, .int 0, .int 0, .int 0, .int 0, .int 0, .int 0, .int 0, .int 0, .int 0, .int 0, .int 0, .int 0, .int 0, .int 0, .int 0, .int 0, .int 0, .int 0, .int 0, .int 0, .int 0, .int 0, .int 0, .int 0, .int 0, .int 0, .int 0, .int 0, .int 0, .int 0, .int 0, .int 0, .int 0, .int 0, .int 0, .int 0, .int 0, .int 0, .int 0, .int 0, .int 0, .int 0, .int 0, .int 0, .int 0, .int 0, .int 0, .int 0, .int 0, .int 0, .int 0, .int 0, .int 0, .int 0, .int 0, .int 0, .int 0, .int 0, .int 0, .int 0, .int 0, .int 0, .int 0, .int 0] := A275
  refine g_dup X275 at_171 (pc' := 172) rfl rfl ?_
  refine g_bipush X275 at_172 (pc' := 174) rfl (v := (15 : Int32)) rfl ?_
  refine g_bipush X275 at_174 (pc' := 176) rfl (v := (115 : Int32)) rfl ?_
  refine g_castore X275 (i := 15) A275 (by decide) (by show 15 < 96; decide) l259 at_176 (pc' := 177) rfl (fun T276 h276 X276 W276 A276 => ?_)
  have A276 : Arx Z h276 b259 .char [.int 114, .int 101, .int 113, .int 117, .int 101, .int 115, .int 116, .int 115, .int 32, (.int (Int32.ofNat (48 + (d1 + d2 + d3)))), .int 44, .int 32, .int 102, .int 114, .int 101, .int 115, .int 0, .int 0, .int 0, .int 0, .int 0, .int 0, .int 0, .int 0, .int 0, .int 0, .int 0, .int 0, .int 0, .int 0, .int 0, .int 0, .int 0, .int 0, .int 0, .int 0, .int 0, .int 0, .int 0, .int 0, .int 0, .int 0, .int 0, .int 0, .int 0, .int 0, .int 0, .int 0, .int 0, .int 0, .int 0, .int 0, .int 0, .int 0, .int 0, .int 0, .int 0, .int 0, .int 0, .int 0, .int 0, .int 0, .int 0, .int 0, .int 0, .int 0, .int 0, .int 0, .int 0, .int 0, .int 0, .int 0, .int 0, .int 0, .int 0, .int 0, .int 0, .int 0, .int 0, .int 0, .int 0, .int 0, .int 0, .int 0, .int 0, .int 0, .int 0, .int 0, .int 0, .int 0, .int 0, .int 0, .int 0, .int 0, .int 0, .int 0] := A276
  refine g_dup X276 at_177 (pc' := 178) rfl rfl ?_
  refine g_bipush X276 at_178 (pc' := 180) rfl (v := (16 : Int32)) rfl ?_
  refine g_bipush X276 at_180 (pc' := 182) rfl (v := (104 : Int32)) rfl ?_
  refine g_castore X276 (i := 16) A276 (by decide) (by show 16 < 96; decide) l259 at_182 (pc' := 183) rfl (fun T277 h277 X277 W277 A277 => ?_)
  have A277 : Arx Z h277 b259 .char [.int 114, .int 101, .int 113, .int 117, .int 101, .int 115, .int 116, .int 115, .int 32, (.int (Int32.ofNat (48 + (d1 + d2 + d3)))), .int 44, .int 32, .int 102, .int 114, .int 101, .int 115, .int 104, .int 0, .int 0, .int 0, .int 0, .int 0, .int 0, .int 0, .int 0, .int 0, .int 0, .int 0, .int 0, .int 0, .int 0, .int 0, .int 0, .int 0, .int 0, .int 0, .int 0, .int 0, .int 0, .int 0, .int 0, .int 0, .int 0, .int 0, .int 0, .int 0, .int 0, .int 0, .int 0, .int 0, .int 0, .int 0, .int 0, .int 0, .int 0, .int 0, .int 0, .int 0, .int 0, .int 0, .int 0, .int 0, .int 0, .int 0, .int 0, .int 0, .int 0, .int 0, .int 0, .int 0, .int 0, .int 0, .int 0, .int 0, .int 0, .int 0, .int 0, .int 0, .int 0, .int 0, .int 0, .int 0, .int 0, .int 0, .int 0, .int 0, .int 0, .int 0, .int 0, .int 0, .int 0, .int 0, .int 0, .int 0, .int 0, .int 0] := A277
  refine g_dup X277 at_183 (pc' := 184) rfl rfl ?_
  refine g_bipush X277 at_184 (pc' := 186) rfl (v := (17 : Int32)) rfl ?_
  refine g_bipush X277 at_186 (pc' := 188) rfl (v := (32 : Int32)) rfl ?_
  refine g_castore X277 (i := 17) A277 (by decide) (by show 17 < 96; decide) l259 at_188 (pc' := 189) rfl (fun T278 h278 X278 W278 A278 => ?_)
  have A278 : Arx Z h278 b259 .char [.int 114, .int 101, .int 113, .int 117, .int 101, .int 115, .int 116, .int 115, .int 32, (.int (Int32.ofNat (48 + (d1 + d2 + d3)))), .int 44, .int 32, .int 102, .int 114, .int 101, .int 115, .int 104, .int 32, .int 0, .int 0, .int 0, .int 0, .int 0, .int 0, .int 0, .int 0, .int 0, .int 0, .int 0, .int 0, .int 0, .int 0, .int 0, .int 0, .int 0, .int 0, .int 0, .int 0, .int 0, .int 0, .int 0, .int 0, .int 0, .int 0, .int 0, .int 0, .int 0, .int 0, .int 0, .int 0, .int 0, .int 0, .int 0, .int 0, .int 0, .int 0, .int 0, .int 0, .int 0, .int 0, .int 0, .int 0, .int 0, .int 0, .int 0, .int 0, .int 0, .int 0, .int 0, .int 0, .int 0, .int 0, .int 0, .int 0, .int 0, .int 0, .int 0, .int 0, .int 0, .int 0, .int 0, .int 0, .int 0, .int 0, .int 0, .int 0, .int 0, .int 0, .int 0, .int 0, .int 0, .int 0, .int 0, .int 0, .int 0, .int 0] := A278
  refine g_dup X278 at_189 (pc' := 190) rfl rfl ?_
  refine g_bipush X278 at_190 (pc' := 192) rfl (v := (18 : Int32)) rfl ?_
  refine g_bipush X278 at_192 (pc' := 194) rfl (v := (104 : Int32)) rfl ?_
  refine g_castore X278 (i := 18) A278 (by decide) (by show 18 < 96; decide) l259 at_194 (pc' := 195) rfl (fun T279 h279 X279 W279 A279 => ?_)
  have A279 : Arx Z h279 b259 .char [.int 114, .int 101, .int 113, .int 117, .int 101, .int 115, .int 116, .int 115, .int 32, (.int (Int32.ofNat (48 + (d1 + d2 + d3)))), .int 44, .int 32, .int 102, .int 114, .int 101, .int 115, .int 104, .int 32, .int 104, .int 0, .int 0, .int 0, .int 0, .int 0, .int 0, .int 0, .int 0, .int 0, .int 0, .int 0, .int 0, .int 0, .int 0, .int 0, .int 0, .int 0, .int 0, .int 0, .int 0, .int 0, .int 0, .int 0, .int 0, .int 0, .int 0, .int 0, .int 0, .int 0, .int 0, .int 0, .int 0, .int 0, .int 0, .int 0, .int 0, .int 0, .int 0, .int 0, .int 0, .int 0, .int 0, .int 0, .int 0, .int 0, .int 0, .int 0, .int 0, .int 0, .int 0, .int 0, .int 0, .int 0, .int 0, .int 0, .int 0, .int 0, .int 0, .int 0, .int 0, .int 0, .int 0, .int 0, .int 0, .int 0, .int 0, .int 0, .int 0, .int 0, .int 0, .int 0, .int 0, .int 0, .int 0, .int 0, .int 0, .int 0] := A279
  refine g_dup X279 at_195 (pc' := 196) rfl rfl ?_
  refine g_bipush X279 at_196 (pc' := 198) rfl (v := (19 : Int32)) rfl ?_
  refine g_bipush X279 at_198 (pc' := 200) rfl (v := (105 : Int32)) rfl ?_
  refine g_castore X279 (i := 19) A279 (by decide) (by show 19 < 96; decide) l259 at_200 (pc' := 201) rfl (fun T280 h280 X280 W280 A280 => ?_)
  have A280 : Arx Z h280 b259 .char [.int 114, .int 101, .int 113, .int 117, .int 101, .int 115, .int 116, .int 115, .int 32, (.int (Int32.ofNat (48 + (d1 + d2 + d3)))), .int 44, .int 32, .int 102, .int 114, .int 101, .int 115, .int 104, .int 32, .int 104, .int 105, .int 0, .int 0, .int 0, .int 0, .int 0, .int 0, .int 0, .int 0, .int 0, .int 0, .int 0, .int 0, .int 0, .int 0, .int 0, .int 0, .int 0, .int 0, .int 0, .int 0, .int 0, .int 0, .int 0, .int 0, .int 0, .int 0, .int 0, .int 0, .int 0, .int 0, .int 0, .int 0, .int 0, .int 0, .int 0, .int 0, .int 0, .int 0, .int 0, .int 0, .int 0, .int 0, .int 0, .int 0, .int 0, .int 0, .int 0, .int 0, .int 0, .int 0, .int 0, .int 0, .int 0, .int 0, .int 0, .int 0, .int 0, .int 0, .int 0, .int 0, .int 0, .int 0, .int 0, .int 0, .int 0, .int 0, .int 0, .int 0, .int 0, .int 0, .int 0, .int 0, .int 0, .int 0, .int 0, .int 0] := A280
  refine g_dup X280 at_201 (pc' := 202) rfl rfl ?_
  refine g_bipush X280 at_202 (pc' := 204) rfl (v := (20 : Int32)) rfl ?_
  refine g_bipush X280 at_204 (pc' := 206) rfl (v := (116 : Int32)) rfl ?_
  refine g_castore X280 (i := 20) A280 (by decide) (by show 20 < 96; decide) l259 at_206 (pc' := 207) rfl (fun T281 h281 X281 W281 A281 => ?_)
  have A281 : Arx Z h281 b259 .char [.int 114, .int 101, .int 113, .int 117, .int 101, .int 115, .int 116, .int 115, .int 32, (.int (Int32.ofNat (48 + (d1 + d2 + d3)))), .int 44, .int 32, .int 102, .int 114, .int 101, .int 115, .int 104, .int 32, .int 104, .int 105, .int 116, .int 0, .int 0, .int 0, .int 0, .int 0, .int 0, .int 0, .int 0, .int 0, .int 0, .int 0, .int 0, .int 0, .int 0, .int 0, .int 0, .int 0, .int 0, .int 0, .int 0, .int 0, .int 0, .int 0, .int 0, .int 0, .int 0, .int 0, .int 0, .int 0, .int 0, .int 0, .int 0, .int 0, .int 0, .int 0, .int 0, .int 0, .int 0, .int 0, .int 0, .int 0, .int 0, .int 0, .int 0, .int 0, .int 0, .int 0, .int 0, .int 0, .int 0, .int 0, .int 0, .int 0, .int 0, .int 0, .int 0, .int 0, .int 0, .int 0, .int 0, .int 0, .int 0, .int 0, .int 0, .int 0, .int 0, .int 0, .int 0, .int 0, .int 0, .int 0, .int 0, .int 0, .int 0, .int 0] := A281
  refine g_dup X281 at_207 (pc' := 208) rfl rfl ?_
  refine g_bipush X281 at_208 (pc' := 210) rfl (v := (21 : Int32)) rfl ?_
  refine g_bipush X281 at_210 (pc' := 212) rfl (v := (115 : Int32)) rfl ?_
  refine g_castore X281 (i := 21) A281 (by decide) (by show 21 < 96; decide) l259 at_212 (pc' := 213) rfl (fun T282 h282 X282 W282 A282 => ?_)
  have A282 : Arx Z h282 b259 .char [.int 114, .int 101, .int 113, .int 117, .int 101, .int 115, .int 116, .int 115, .int 32, (.int (Int32.ofNat (48 + (d1 + d2 + d3)))), .int 44, .int 32, .int 102, .int 114, .int 101, .int 115, .int 104, .int 32, .int 104, .int 105, .int 116, .int 115, .int 0, .int 0, .int 0, .int 0, .int 0, .int 0, .int 0, .int 0, .int 0, .int 0, .int 0, .int 0, .int 0, .int 0, .int 0, .int 0, .int 0, .int 0, .int 0, .int 0, .int 0, .int 0, .int 0, .int 0, .int 0, .int 0, .int 0, .int 0, .int 0, .int 0, .int 0, .int 0, .int 0, .int 0, .int 0, .int 0, .int 0, .int 0, .int 0, .int 0, .int 0, .int 0, .int 0, .int 0, .int 0, .int 0, .int 0, .int 0, .int 0, .int 0, .int 0, .int 0, .int 0, .int 0, .int 0, .int 0, .int 0, .int 0, .int 0, .int 0, .int 0, .int 0, .int 0, .int 0, .int 0, .int 0, .int 0, .int 0, .int 0, .int 0, .int 0, .int 0, .int 0, .int 0] := A282
  refine g_dup X282 at_213 (pc' := 214) rfl rfl ?_
  refine g_bipush X282 at_214 (pc' := 216) rfl (v := (22 : Int32)) rfl ?_
  refine g_bipush X282 at_216 (pc' := 218) rfl (v := (32 : Int32)) rfl ?_
  refine g_castore X282 (i := 22) A282 (by decide) (by show 22 < 96; decide) l259 at_218 (pc' := 219) rfl (fun T283 h283 X283 W283 A283 => ?_)
  have A283 : Arx Z h283 b259 .char [.int 114, .int 101, .int 113, .int 117, .int 101, .int 115, .int 116, .int 115, .int 32, (.int (Int32.ofNat (48 + (d1 + d2 + d3)))), .int 44, .int 32, .int 102, .int 114, .int 101, .int 115, .int 104, .int 32, .int 104, .int 105, .int 116, .int 115, .int 32, .int 0, .int 0, .int 0, .int 0, .int 0, .int 0, .int 0, .int 0, .int 0, .int 0, .int 0, .int 0, .int 0, .int 0, .int 0, .int 0, .int 0, .int 0, .int 0, .int 0, .int 0, .int 0, .int 0, .int 0, .int 0, .int 0, .int 0, .int 0, .int 0, .int 0, .int 0, .int 0, .int 0, .int 0, .int 0, .int 0, .int 0, .int 0, .int 0, .int 0, .int 0, .int 0, .int 0, .int 0, .int 0, .int 0, .int 0, .int 0, .int 0, .int 0, .int 0, .int 0, .int 0, .int 0, .int 0, .int 0, .int 0, .int 0, .int 0, .int 0, .int 0, .int 0, .int 0, .int 0, .int 0, .int 0, .int 0, .int 0, .int 0, .int 0, .int 0, .int 0, .int 0] := A283
  refine g_dup X283 at_219 (pc' := 220) rfl rfl ?_
  refine g_bipush X283 at_220 (pc' := 222) rfl (v := (23 : Int32)) rfl ?_
  refine g_lload X283 at_222 (pc' := 224) rfl rfl ?_
  refine g_ncallS X283 (y := (⟨"com/example/freshet/freshet/CacheCountsToStringPinLaw", "d", "(J)C"⟩ : MethodName)) [(.long (Int64.ofNat d1))] (hw _ m4) (hw _ m5) (hw _ m6) (hw _ m7) (hw _ m6) (Nar.rm1 l Z a0 hw d1 h283 n0 X283.old (by omega)) (by decide) (by decide) (by decide) (by decide) (by decide) rfl pd_26 rfl (rest := [(.int (23 : Int32)), (.ref b259), (.ref b259)]) rfl (W := 3) rfl at_224 (pc' := 227) rfl ?_
  rintro _ T284 _ _ Y284 ⟨rfl, rfl, rfl⟩
  have X284 := Y284 X283.old (Fr.nil _) (Nat.le_refl _)
  show Go p e below _ (State.setTop _ (mkF m 227 #[.val (.long x1), .second, .val (.long x2), .second, .val (.long x3), .second, .val (.long x4), .second, .val (.long x5), .second, .val (.long x6), .second, .val (.long (Int64.ofNat d1)), .second, .val (.long (Int64.ofNat d2)), .second, .val (.long (Int64.ofNat d3)), .second, .val (.long (Int64.ofNat d4)), .second, .val (.long (Int64.ofNat d5)), .second, .val (.long (Int64.ofNat d6)), .second, .val (.long (Int64.ofNat (d1 + d2 + d3))), .second, .unset, .unset, .unset] [(.int (Int32.ofNat (48 + d1))), (.int (23 : Int32)), (.ref b259), (.ref b259)]))
  refine g_castore X284 (i := 23) A283 (by decide) (by show 23 < 96; decide) l259 at_227 (pc' := 228) rfl (fun T285 h285 X285 W285 A285 => ?_)
  rw [Nar.own_ncd (by omega)] at A285
  have A285 : Arx Z h285 b259 .char [.int 114, .int 101, .int 113, .int 117, .int 101, .int 115, .int 116, .int 115, .int 32, (.int (Int32.ofNat (48 + (d1 + d2 + d3)))), .int 44, .int 32, .int 102, .int 114, .int 101, .int 115, .int 104, .int 32, .int 104, .int 105, .int 116, .int 115, .int 32, (.int (Int32.ofNat (48 + d1))), .int 0, .int 0, .int 0, .int 0, .int 0, .int 0, .int 0, .int 0, .int 0, .int 0, .int 0, .int 0, .int 0, .int 0, .int 0, .int 0, .int 0, .int 0, .int 0, .int 0, .int 0, .int 0, .int 0, .int 0, .int 0, .int 0, .int 0, .int 0, .int 0, .int 0, .int 0, .int 0, .int 0, .int 0, .int 0, .int 0, .int 0, .int 0, .int 0, .int 0, .int 0, .int 0, .int 0, .int 0, .int 0, .int 0, .int 0, .int 0, .int 0, .int 0, .int 0, .int 0, .int 0, .int 0, .int 0, .int 0, .int 0, .int 0, .int 0, .int 0, .int 0, .int 0, .int 0, .int 0, .int 0, .int 0, .int 0, .int 0, .int 0, .int 0, .int 0, .int 0] := A285
  refine g_dup X285 at_228 (pc' := 229) rfl rfl ?_
  refine g_bipush X285 at_229 (pc' := 231) rfl (v := (24 : Int32)) rfl ?_
  refine g_bipush X285 at_231 (pc' := 233) rfl (v := (44 : Int32)) rfl ?_
  refine g_castore X285 (i := 24) A285 (by decide) (by show 24 < 96; decide) l259 at_233 (pc' := 234) rfl (fun T286 h286 X286 W286 A286 => ?_)
  have A286 : Arx Z h286 b259 .char [.int 114, .int 101, .int 113, .int 117, .int 101, .int 115, .int 116, .int 115, .int 32, (.int (Int32.ofNat (48 + (d1 + d2 + d3)))), .int 44, .int 32, .int 102, .int 114, .int 101, .int 115, .int 104, .int 32, .int 104, .int 105, .int 116, .int 115, .int 32, (.int (Int32.ofNat (48 + d1))), .int 44, .int 0, .int 0, .int 0, .int 0, .int 0, .int 0, .int 0, .int 0, .int 0, .int 0, .int 0, .int 0, .int 0, .int 0, .int 0, .int 0, .int 0, .int 0, .int 0, .int 0, .int 0, .int 0, .int 0, .int 0, .int 0, .int 0, .int 0, .int 0, .int 0, .int 0, .int 0, .int 0, .int 0, .int 0, .int 0, .int 0, .int 0, .int 0, .int 0, .int 0, .int 0, .int 0, .int 0, .int 0, .int 0, .int 0, .int 0, .int 0, .int 0, .int 0, .int 0, .int 0, .int 0, .int 0, .int 0, .int 0, .int 0, .int 0, .int 0, .int 0, .int 0, .int 0, .int 0, .int 0, .int 0, .int 0, .int 0, .int 0, .int 0, .int 0, .int 0] := A286
  refine g_dup X286 at_234 (pc' := 235) rfl rfl ?_
  refine g_bipush X286 at_235 (pc' := 237) rfl (v := (25 : Int32)) rfl ?_
  refine g_bipush X286 at_237 (pc' := 239) rfl (v := (32 : Int32)) rfl ?_
  refine g_castore X286 (i := 25) A286 (by decide) (by show 25 < 96; decide) l259 at_239 (pc' := 240) rfl (fun T287 h287 X287 W287 A287 => ?_)
  have A287 : Arx Z h287 b259 .char [.int 114, .int 101, .int 113, .int 117, .int 101, .int 115, .int 116, .int 115, .int 32, (.int (Int32.ofNat (48 + (d1 + d2 + d3)))), .int 44, .int 32, .int 102, .int 114, .int 101, .int 115, .int 104, .int 32, .int 104, .int 105, .int 116, .int 115, .int 32, (.int (Int32.ofNat (48 + d1))), .int 44, .int 32, .int 0, .int 0, .int 0, .int 0, .int 0, .int 0, .int 0, .int 0, .int 0, .int 0, .int 0, .int 0, .int 0, .int 0, .int 0, .int 0, .int 0, .int 0, .int 0, .int 0, .int 0, .int 0, .int 0, .int 0, .int 0, .int 0, .int 0, .int 0, .int 0, .int 0, .int 0, .int 0, .int 0, .int 0, .int 0, .int 0, .int 0, .int 0, .int 0, .int 0, .int 0, .int 0, .int 0, .int 0, .int 0, .int 0, .int 0, .int 0, .int 0, .int 0, .int 0, .int 0, .int 0, .int 0, .int 0, .int 0, .int 0, .int 0, .int 0, .int 0, .int 0, .int 0, .int 0, .int 0, .int 0, .int 0, .int 0, .int 0, .int 0, .int 0] := A287
  refine g_dup X287 at_240 (pc' := 241) rfl rfl ?_
  refine g_bipush X287 at_241 (pc' := 243) rfl (v := (26 : Int32)) rfl ?_
  refine g_bipush X287 at_243 (pc' := 245) rfl (v := (115 : Int32)) rfl ?_
  refine g_castore X287 (i := 26) A287 (by decide) (by show 26 < 96; decide) l259 at_245 (pc' := 246) rfl (fun T288 h288 X288 W288 A288 => ?_)
  have A288 : Arx Z h288 b259 .char [.int 114, .int 101, .int 113, .int 117, .int 101, .int 115, .int 116, .int 115, .int 32, (.int (Int32.ofNat (48 + (d1 + d2 + d3)))), .int 44, .int 32, .int 102, .int 114, .int 101, .int 115, .int 104, .int 32, .int 104, .int 105, .int 116, .int 115, .int 32, (.int (Int32.ofNat (48 + d1))), .int 44, .int 32, .int 115, .int 0, .int 0, .int 0, .int 0, .int 0, .int 0, .int 0, .int 0, .int 0, .int 0, .int 0, .int 0, .int 0, .int 0, .int 0, .int 0, .int 0, .int 0, .int 0, .int 0, .int 0, .int 0, .int 0, .int 0, .int 0, .int 0, .int 0, .int 0, .int 0, .int 0, .int 0, .int 0, .int 0, .int 0, .int 0, .int 0, .int 0, .int 0, .int 0, .int 0, .int 0, .int 0, .int 0, .int 0, .int 0, .int 0, .int 0, .int 0, .int 0, .int 0, .int 0, .int 0, .int 0, .int 0, .int 0, .int 0, .int 0, .int 0, .int 0, .int 0, .int 0, .int 0, .int 0, .int 0, .int 0, .int 0, .int 0, .int 0, .int 0] := A288
  refine g_dup X288 at_246 (pc' := 247) rfl rfl ?_
  refine g_bipush X288 at_247 (pc' := 249) rfl (v := (27 : Int32)) rfl ?_
  refine g_bipush X288 at_249 (pc' := 251) rfl (v := (116 : Int32)) rfl ?_
  refine g_castore X288 (i := 27) A288 (by decide) (by show 27 < 96; decide) l259 at_251 (pc' := 252) rfl (fun T289 h289 X289 W289 A289 => ?_)
  have A289 : Arx Z h289 b259 .char [.int 114, .int 101, .int 113, .int 117, .int 101, .int 115, .int 116, .int 115, .int 32, (.int (Int32.ofNat (48 + (d1 + d2 + d3)))), .int 44, .int 32, .int 102, .int 114, .int 101, .int 115, .int 104, .int 32, .int 104, .int 105, .int 116, .int 115, .int 32, (.int (Int32.ofNat (48 + d1))), .int 44, .int 32, .int 115, .int 116, .int 0, .int 0, .int 0, .int 0, .int 0, .int 0, .int 0, .int 0, .int 0, .int 0, .int 0, .int 0, .int 0, .int 0, .int 0, .int 0, .int 0, .int 0, .int 0, .int 0, .int 0, .int 0, .int 0, .int 0, .int 0, .int 0, .int 0, .int 0, .int 0, .int 0, .int 0, .int 0, .int 0, .int 0, .int 0, .int 0, .int 0, .int 0, .int 0, .int 0, .int 0, .int 0, .int 0, .int 0, .int 0, .int 0, .int 0, .int 0, .int 0, .int 0, .int 0, .int 0, .int 0, .int 0, .int 0, .int 0, .int 0, .int 0, .int 0, .int 0, .int 0, .int 0, .int 0, .int 0, .int 0, .int 0, .int 0, .int 0] := A289
  refine g_dup X289 at_252 (pc' := 253) rfl rfl ?_
  refine g_bipush X289 at_253 (pc' := 255) rfl (v := (28 : Int32)) rfl ?_
  refine g_bipush X289 at_255 (pc' := 257) rfl (v := (97 : Int32)) rfl ?_
  refine g_castore X289 (i := 28) A289 (by decide) (by show 28 < 96; decide) l259 at_257 (pc' := 258) rfl (fun T290 h290 X290 W290 A290 => ?_)
  have A290 : Arx Z h290 b259 .char [.int 114, .int 101, .int 113, .int 117, .int 101, .int 115, .int 116, .int 115, .int 32, (.int (Int32.ofNat (48 + (d1 + d2 + d3)))), .int 44, .int 32, .int 102, .int 114, .int 101, .int 115, .int 104, .int 32, .int 104, .int 105, .int 116, .int 115, .int 32, (.int (Int32.ofNat (48 + d1))), .int 44, .int 32, .int 115, .int 116, .int 97, .int 0, .int 0, .int 0, .int 0, .int 0, .int 0, .int 0, .int 0, .int 0, .int 0, .int 0, .int 0, .int 0, .int 0, .int 0, .int 0, .int 0, .int 0, .int 0, .int 0, .int 0, .int 0, .int 0, .int 0, .int 0, .int 0, .int 0, .int 0, .int 0, .int 0, .int 0, .int 0, .int 0, .int 0, .int 0, .int 0, .int 0, .int 0, .int 0, .int 0, .int 0, .int 0, .int 0, .int 0, .int 0, .int 0, .int 0, .int 0, .int 0, .int 0, .int 0, .int 0, .int 0, .int 0, .int 0, .int 0, .int 0, .int 0, .int 0, .int 0, .int 0, .int 0, .int 0, .int 0, .int 0, .int 0, .int 0] := A290
  refine g_dup X290 at_258 (pc' := 259) rfl rfl ?_
  refine g_bipush X290 at_259 (pc' := 261) rfl (v := (29 : Int32)) rfl ?_
  refine g_bipush X290 at_261 (pc' := 263) rfl (v := (108 : Int32)) rfl ?_
  refine g_castore X290 (i := 29) A290 (by decide) (by show 29 < 96; decide) l259 at_263 (pc' := 264) rfl (fun T291 h291 X291 W291 A291 => ?_)
  have A291 : Arx Z h291 b259 .char [.int 114, .int 101, .int 113, .int 117, .int 101, .int 115, .int 116, .int 115, .int 32, (.int (Int32.ofNat (48 + (d1 + d2 + d3)))), .int 44, .int 32, .int 102, .int 114, .int 101, .int 115, .int 104, .int 32, .int 104, .int 105, .int 116, .int 115, .int 32, (.int (Int32.ofNat (48 + d1))), .int 44, .int 32, .int 115, .int 116, .int 97, .int 108, .int 0, .int 0, .int 0, .int 0, .int 0, .int 0, .int 0, .int 0, .int 0, .int 0, .int 0, .int 0, .int 0, .int 0, .int 0, .int 0, .int 0, .int 0, .int 0, .int 0, .int 0, .int 0, .int 0, .int 0, .int 0, .int 0, .int 0, .int 0, .int 0, .int 0, .int 0, .int 0, .int 0, .int 0, .int 0, .int 0, .int 0, .int 0, .int 0, .int 0, .int 0, .int 0, .int 0, .int 0, .int 0, .int 0, .int 0, .int 0, .int 0, .int 0, .int 0, .int 0, .int 0, .int 0, .int 0, .int 0, .int 0, .int 0, .int 0, .int 0, .int 0, .int 0, .int 0, .int 0, .int 0, .int 0] := A291
  refine g_dup X291 at_264 (pc' := 265) rfl rfl ?_
  refine g_bipush X291 at_265 (pc' := 267) rfl (v := (30 : Int32)) rfl ?_
  refine g_bipush X291 at_267 (pc' := 269) rfl (v := (101 : Int32)) rfl ?_
  refine g_castore X291 (i := 30) A291 (by decide) (by show 30 < 96; decide) l259 at_269 (pc' := 270) rfl (fun T292 h292 X292 W292 A292 => ?_)
  have A292 : Arx Z h292 b259 .char [.int 114, .int 101, .int 113, .int 117, .int 101, .int 115, .int 116, .int 115, .int 32, (.int (Int32.ofNat (48 + (d1 + d2 + d3)))), .int 44, .int 32, .int 102, .int 114, .int 101, .int 115, .int 104, .int 32, .int 104, .int 105, .int 116, .int 115, .int 32, (.int (Int32.ofNat (48 + d1))), .int 44, .int 32, .int 115, .int 116, .int 97, .int 108, .int 101, .int 0, .int 0, .int 0, .int 0, .int 0, .int 0, .int 0, .int 0, .int 0, .int 0, .int 0, .int 0, .int 0, .int 0, .int 0, .int 0, .int 0, .int 0, .int 0, .int 0, .int 0, .int 0, .int 0, .int 0, .int 0, .int 0, .int 0, .int 0, .int 0, .int 0, .int 0, .int 0, .int 0, .int 0, .int 0, .int 0, .int 0, .int 0, .int 0, .int 0, .int 0, .int 0, .int 0, .int 0, .int 0, .int 0, .int 0, .int 0, .int 0, .int 0, .int 0, .int 0, .int 0, .int 0, .int 0, .int 0, .int 0, .int 0, .int 0, .int 0, .int 0, .int 0, .int 0, .int 0, .int 0] := A292
  refine g_dup X292 at_270 (pc' := 271) rfl rfl ?_
  refine g_bipush X292 at_271 (pc' := 273) rfl (v := (31 : Int32)) rfl ?_
  refine g_bipush X292 at_273 (pc' := 275) rfl (v := (32 : Int32)) rfl ?_
  refine g_castore X292 (i := 31) A292 (by decide) (by show 31 < 96; decide) l259 at_275 (pc' := 276) rfl (fun T293 h293 X293 W293 A293 => ?_)
  have A293 : Arx Z h293 b259 .char [.int 114, .int 101, .int 113, .int 117, .int 101, .int 115, .int 116, .int 115, .int 32, (.int (Int32.ofNat (48 + (d1 + d2 + d3)))), .int 44, .int 32, .int 102, .int 114, .int 101, .int 115, .int 104, .int 32, .int 104, .int 105, .int 116, .int 115, .int 32, (.int (Int32.ofNat (48 + d1))), .int 44, .int 32, .int 115, .int 116, .int 97, .int 108, .int 101, .int 32, .int 0, .int 0, .int 0, .int 0, .int 0, .int 0, .int 0, .int 0, .int 0, .int 0, .int 0, .int 0, .int 0, .int 0, .int 0, .int 0, .int 0, .int 0, .int 0, .int 0, .int 0, .int 0, .int 0, .int 0, .int 0, .int 0, .int 0, .int 0, .int 0, .int 0, .int 0, .int 0, .int 0, .int 0, .int 0, .int 0, .int 0, .int 0, .int 0, .int 0, .int 0, .int 0, .int 0, .int 0, .int 0, .int 0, .int 0, .int 0, .int 0, .int 0, .int 0, .int 0, .int 0, .int 0, .int 0, .int 0, .int 0, .int 0, .int 0, .int 0, .int 0, .int 0, .int 0, .int 0] := A293
  refine g_dup X293 at_276 (pc' := 277) rfl rfl ?_
  refine g_bipush X293 at_277 (pc' := 279) rfl (v := (32 : Int32)) rfl ?_
  refine g_bipush X293 at_279 (pc' := 281) rfl (v := (104 : Int32)) rfl ?_
  refine g_castore X293 (i := 32) A293 (by decide) (by show 32 < 96; decide) l259 at_281 (pc' := 282) rfl (fun T294 h294 X294 W294 A294 => ?_)
  have A294 : Arx Z h294 b259 .char [.int 114, .int 101, .int 113, .int 117, .int 101, .int 115, .int 116, .int 115, .int 32, (.int (Int32.ofNat (48 + (d1 + d2 + d3)))), .int 44, .int 32, .int 102, .int 114, .int 101, .int 115, .int 104, .int 32, .int 104, .int 105, .int 116, .int 115, .int 32, (.int (Int32.ofNat (48 + d1))), .int 44, .int 32, .int 115, .int 116, .int 97, .int 108, .int 101, .int 32, .int 104, .int 0, .int 0, .int 0, .int 0, .int 0, .int 0, .int 0, .int 0, .int 0, .int 0, .int 0, .int 0, .int 0, .int 0, .int 0, .int 0, .int 0, .int 0, .int 0, .int 0, .int 0, .int 0, .int 0, .int 0, .int 0, .int 0, .int 0, .int 0, .int 0, .int 0, .int 0, .int 0, .int 0, .int 0, .int 0, .int 0, .int 0, .int 0, .int 0, .int 0, .int 0, .int 0, .int 0, .int 0, .int 0, .int 0, .int 0, .int 0, .int 0, .int 0, .int 0, .int 0, .int 0, .int 0, .int 0, .int 0, .int 0, .int 0, .int 0, .int 0, .int 0, .int 0, .int 0] := A294
  refine g_dup X294 at_282 (pc' := 283) rfl rfl ?_
  refine g_bipush X294 at_283 (pc' := 285) rfl (v := (33 : Int32)) rfl ?_
  refine g_bipush X294 at_285 (pc' := 287) rfl (v := (105 : Int32)) rfl ?_
  refine g_castore X294 (i := 33) A294 (by decide) (by show 33 < 96; decide) l259 at_287 (pc' := 288) rfl (fun T295 h295 X295 W295 A295 => ?_)
  have A295 : Arx Z h295 b259 .char [.int 114, .int 101, .int 113, .int 117, .int 101, .int 115, .int 116, .int 115, .int 32, (.int (Int32.ofNat (48 + (d1 + d2 + d3)))), .int 44, .int 32, .int 102, .int 114, .int 101, .int 115, .int 104, .int 32, .int 104, .int 105, .int 116, .int 115, .int 32, (.int (Int32.ofNat (48 + d1))), .int 44, .int 32, .int 115, .int 116, .int 97, .int 108, .int 101, .int 32, .int 104, .int 105, .int 0, .int 0, .int 0, .int 0, .int 0, .int 0, .int 0, .int 0, .int 0, .int 0, .int 0, .int 0, .int 0, .int 0, .int 0, .int 0, .int 0, .int 0, .int 0, .int 0, .int 0, .int 0, .int 0, .int 0, .int 0, .int 0, .int 0, .int 0, .int 0, .int 0, .int 0, .int 0, .int 0, .int 0, .int 0, .int 0, .int 0, .int 0, .int 0, .int 0, .int 0, .int 0, .int 0, .int 0, .int 0, .int 0, .int 0, .int 0, .int 0, .int 0, .int 0, .int 0, .int 0, .int 0, .int 0, .int 0, .int 0, .int 0, .int 0, .int 0, .int 0, .int 0] := A295
  refine g_dup X295 at_288 (pc' := 289) rfl rfl ?_
  refine g_bipush X295 at_289 (pc' := 291) rfl (v := (34 : Int32)) rfl ?_
  refine g_bipush X295 at_291 (pc' := 293) rfl (v := (116 : Int32)) rfl ?_
  refine g_castore X295 (i := 34) A295 (by decide) (by show 34 < 96; decide) l259 at_293 (pc' := 294) rfl (fun T296 h296 X296 W296 A296 => ?_)
  have A296 : Arx Z h296 b259 .char [.int 114, .int 101, .int 113, .int 117, .int 101, .int 115, .int 116, .int 115, .int 32, (.int (Int32.ofNat (48 + (d1 + d2 + d3)))), .int 44, .int 32, .int 102, .int 114, .int 101, .int 115, .int 104, .int 32, .int 104, .int 105, .int 116, .int 115, .int 32, (.int (Int32.ofNat (48 + d1))), .int 44, .int 32, .int 115, .int 116, .int 97, .int 108, .int 101, .int 32, .int 104, .int 105, .int 116, .int 0, .int 0, .int 0, .int 0, .int 0, .int 0, .int 0, .int 0, .int 0, .int 0, .int 0, .int 0, .int 0, .int 0, .int 0, .int 0, .int 0, .int 0, .int 0, .int 0, .int 0, .int 0, .int 0, .int 0, .int 0, .int 0, .int 0, .int 0, .int 0, .int 0, .int 0, .int 0, .int 0, .int 0, .int 0, .int 0, .int 0, .int 0, .int 0, .int 0, .int 0, .int 0, .int 0, .int 0, .int 0, .int 0, .int 0, .int 0, .int 0, .int 0, .int 0, .int 0, .int 0, .int 0, .int 0, .int 0, .int 0, .int 0, .int 0, .int 0, .int 0] := A296
  refine g_dup X296 at_294 (pc' := 295) rfl rfl ?_
  refine g_bipush X296 at_295 (pc' := 297) rfl (v := (35 : Int32)) rfl ?_
  refine g_bipush X296 at_297 (pc' := 299) rfl (v := (115 : Int32)) rfl ?_
  refine g_castore X296 (i := 35) A296 (by decide) (by show 35 < 96; decide) l259 at_299 (pc' := 300) rfl (fun T297 h297 X297 W297 A297 => ?_)
  have A297 : Arx Z h297 b259 .char [.int 114, .int 101, .int 113, .int 117, .int 101, .int 115, .int 116, .int 115, .int 32, (.int (Int32.ofNat (48 + (d1 + d2 + d3)))), .int 44, .int 32, .int 102, .int 114, .int 101, .int 115, .int 104, .int 32, .int 104, .int 105, .int 116, .int 115, .int 32, (.int (Int32.ofNat (48 + d1))), .int 44, .int 32, .int 115, .int 116, .int 97, .int 108, .int 101, .int 32, .int 104, .int 105, .int 116, .int 115, .int 0, .int 0, .int 0, .int 0, .int 0, .int 0, .int 0, .int 0, .int 0, .int 0, .int 0, .int 0, .int 0, .int 0, .int 0, .int 0, .int 0, .int 0, .int 0, .int 0, .int 0, .int 0, .int 0, .int 0, .int 0, .int 0, .int 0, .int 0, .int 0, .int 0, .int 0, .int 0, .int 0, .int 0, .int 0, .int 0, .int 0, .int 0, .int 0, .int 0, .int 0, .int 0, .int 0, .int 0, .int 0, .int 0, .int 0, .int 0, .int 0, .int 0, .int 0, .int 0, .int 0, .int 0, .int 0, .int 0, .int 0, .int 0, .int 0, .int 0] := A297
  refine g_dup X297 at_300 (pc' := 301) rfl rfl ?_
  refine g_bipush X297 at_301 (pc' := 303) rfl (v := (36 : Int32)) rfl ?_
  refine g_bipush X297 at_303 (pc' := 305) rfl (v := (32 : Int32)) rfl ?_
  refine g_castore X297 (i := 36) A297 (by decide) (by show 36 < 96; decide) l259 at_305 (pc' := 306) rfl (fun T298 h298 X298 W298 A298 => ?_)
  have A298 : Arx Z h298 b259 .char [.int 114, .int 101, .int 113, .int 117, .int 101, .int 115, .int 116, .int 115, .int 32, (.int (Int32.ofNat (48 + (d1 + d2 + d3)))), .int 44, .int 32, .int 102, .int 114, .int 101, .int 115, .int 104, .int 32, .int 104, .int 105, .int 116, .int 115, .int 32, (.int (Int32.ofNat (48 + d1))), .int 44, .int 32, .int 115, .int 116, .int 97, .int 108, .int 101, .int 32, .int 104, .int 105, .int 116, .int 115, .int 32, .int 0, .int 0, .int 0, .int 0, .int 0, .int 0, .int 0, .int 0, .int 0, .int 0, .int 0, .int 0, .int 0, .int 0, .int 0, .int 0, .int 0, .int 0, .int 0, .int 0, .int 0, .int 0, .int 0, .int 0, .int 0, .int 0, .int 0, .int 0, .int 0, .int 0, .int 0, .int 0, .int 0, .int 0, .int 0, .int 0, .int 0, .int 0, .int 0, .int 0, .int 0, .int 0, .int 0, .int 0, .int 0, .int 0, .int 0, .int 0, .int 0, .int 0, .int 0, .int 0, .int 0, .int 0, .int 0, .int 0, .int 0, .int 0, .int 0] := A298
  refine g_dup X298 at_306 (pc' := 307) rfl rfl ?_
  refine g_bipush X298 at_307 (pc' := 309) rfl (v := (37 : Int32)) rfl ?_
  refine g_lload X298 at_309 (pc' := 311) rfl rfl ?_
  refine g_ncallS X298 (y := (⟨"com/example/freshet/freshet/CacheCountsToStringPinLaw", "d", "(J)C"⟩ : MethodName)) [(.long (Int64.ofNat d2))] (hw _ m4) (hw _ m5) (hw _ m6) (hw _ m7) (hw _ m6) (Nar.rm1 l Z a0 hw d2 h298 n0 X298.old (by omega)) (by decide) (by decide) (by decide) (by decide) (by decide) rfl pd_26 rfl (rest := [(.int (37 : Int32)), (.ref b259), (.ref b259)]) rfl (W := 3) rfl at_311 (pc' := 314) rfl ?_
  rintro _ T299 _ _ Y299 ⟨rfl, rfl, rfl⟩
  have X299 := Y299 X298.old (Fr.nil _) (Nat.le_refl _)
  show Go p e below _ (State.setTop _ (mkF m 314 #[.val (.long x1), .second, .val (.long x2), .second, .val (.long x3), .second, .val (.long x4), .second, .val (.long x5), .second, .val (.long x6), .second, .val (.long (Int64.ofNat d1)), .second, .val (.long (Int64.ofNat d2)), .second, .val (.long (Int64.ofNat d3)), .second, .val (.long (Int64.ofNat d4)), .second, .val (.long (Int64.ofNat d5)), .second, .val (.long (Int64.ofNat d6)), .second, .val (.long (Int64.ofNat (d1 + d2 + d3))), .second, .unset, .unset, .unset] [(.int (Int32.ofNat (48 + d2))), (.int (37 : Int32)), (.ref b259), (.ref b259)]))
  refine g_castore X299 (i := 37) A298 (by decide) (by show 37 < 96; decide) l259 at_314 (pc' := 315) rfl (fun T300 h300 X300 W300 A300 => ?_)
  rw [Nar.own_ncd (by omega)] at A300
  have A300 : Arx Z h300 b259 .char [.int 114, .int 101, .int 113, .int 117, .int 101, .int 115, .int 116, .int 115, .int 32, (.int (Int32.ofNat (48 + (d1 + d2 + d3)))), .int 44, .int 32, .int 102, .int 114, .int 101, .int 115, .int 104, .int 32, .int 104, .int 105, .int 116, .int 115, .int 32, (.int (Int32.ofNat (48 + d1))), .int 44, .int 32, .int 115, .int 116, .int 97, .int 108, .int 101, .int 32, .int 104, .int 105, .int 116, .int 115, .int 32, (.int (Int32.ofNat (48 + d2))), .int 0, .int 0, .int 0, .int 0, .int 0, .int 0, .int 0, .int 0, .int 0, .int 0, .int 0, .int 0, .int 0, .int 0, .int 0, .int 0, .int 0, .int 0, .int 0, .int 0, .int 0, .int 0, .int 0, .int 0, .int 0, .int 0, .int 0, .int 0, .int 0, .int 0, .int 0, .int 0, .int 0, .int 0, .int 0, .int 0, .int 0, .int 0, .int 0, .int 0, .int 0, .int 0, .int 0, .int 0, .int 0, .int 0, .int 0, .int 0, .int 0, .int 0, .int 0, .int 0, .int 0, .int 0, .int 0, .int 0, .int 0, .int 0] := A300
  refine g_dup X300 at_315 (pc' := 316) rfl rfl ?_
  refine g_bipush X300 at_316 (pc' := 318) rfl (v := (38 : Int32)) rfl ?_
  refine g_bipush X300 at_318 (pc' := 320) rfl (v := (44 : Int32)) rfl ?_
  refine g_castore X300 (i := 38) A300 (by decide) (by show 38 < 96; decide) l259 at_320 (pc' := 321) rfl (fun T301 h301 X301 W301 A301 => ?_)
  have A301 : Arx Z h301 b259 .char [.int 114, .int 101, .int 113, .int 117, .int 101, .int 115, .int 116, .int 115, .int 32, (.int (Int32.ofNat (48 + (d1 + d2 + d3)))), .int 44, .int 32, .int 102, .int 114, .int 101, .int 115, .int 104, .int 32, .int 104, .int 105, .int 116, .int 115, .int 32, (.int (Int32.ofNat (48 + d1))), .int 44, .int 32, .int 115, .int 116, .int 97, .int 108, .int 101, .int 32, .int 104, .int 105, .int 116, .int 115, .int 32, (.int (Int32.ofNat (48 + d2))), .int 44, .int 0, .int 0, .int 0, .int 0, .int 0, .int 0, .int 0, .int 0, .int 0, .int 0, .int 0, .int 0, .int 0, .int 0, .int 0, .int 0, .int 0, .int 0, .int 0, .int 0, .int 0, .int 0, .int 0, .int 0, .int 0, .int 0, .int 0, .int 0, .int 0, .int 0, .int 0, .int 0, .int 0, .int 0, .int 0, .int 0, .int 0, .int 0, .int 0, .int 0, .int 0, .int 0, .int 0, .int 0, .int 0, .int 0, .int 0, .int 0, .int 0, .int 0, .int 0, .int 0, .int 0, .int 0, .int 0, .int 0, .int 0] := A301
  refine g_dup X301 at_321 (pc' := 322) rfl rfl ?_
  refine g_bipush X301 at_322 (pc' := 324) rfl (v := (39 : Int32)) rfl ?_
  refine g_bipush X301 at_324 (pc' := 326) rfl (v := (32 : Int32)) rfl ?_
  refine g_castore X301 (i := 39) A301 (by decide) (by show 39 < 96; decide) l259 at_326 (pc' := 327) rfl (fun T302 h302 X302 W302 A302 => ?_)
  have A302 : Arx Z h302 b259 .char [.int 114, .int 101, .int 113, .int 117, .int 101, .int 115, .int 116, .int 115, .int 32, (.int (Int32.ofNat (48 + (d1 + d2 + d3)))), .int 44, .int 32, .int 102, .int 114, .int 101, .int 115, .int 104, .int 32, .int 104, .int 105, .int 116, .int 115, .int 32, (.int (Int32.ofNat (48 + d1))), .int 44, .int 32, .int 115, .int 116, .int 97, .int 108, .int 101, .int 32, .int 104, .int 105, .int 116, .int 115, .int 32, (.int (Int32.ofNat (48 + d2))), .int 44, .int 32, .int 0, .int 0, .int 0, .int 0, .int 0, .int 0, .int 0, .int 0, .int 0, .int 0, .int 0, .int 0, .int 0, .int 0, .int 0, .int 0, .int 0, .int 0, .int 0, .int 0, .int 0, .int 0, .int 0, .int 0, .int 0, .int 0, .int 0, .int 0, .int 0, .int 0, .int 0, .int 0, .int 0, .int 0, .int 0, .int 0, .int 0, .int 0, .int 0, .int 0, .int 0, .int 0, .int 0, .int 0, .int 0, .int 0, .int 0, .int 0, .int 0, .int 0, .int 0, .int 0, .int 0, .int 0, .int 0, .int 0] := A302
  refine g_dup X302 at_327 (pc' := 328) rfl rfl ?_
  refine g_bipush X302 at_328 (pc' := 330) rfl (v := (40 : Int32)) rfl ?_
  refine g_bipush X302 at_330 (pc' := 332) rfl (v := (109 : Int32)) rfl ?_
  refine g_castore X302 (i := 40) A302 (by decide) (by show 40 < 96; decide) l259 at_332 (pc' := 333) rfl (fun T303 h303 X303 W303 A303 => ?_)
  have A303 : Arx Z h303 b259 .char [.int 114, .int 101, .int 113, .int 117, .int 101, .int 115, .int 116, .int 115, .int 32, (.int (Int32.ofNat (48 + (d1 + d2 + d3)))), .int 44, .int 32, .int 102, .int 114, .int 101, .int 115, .int 104, .int 32, .int 104, .int 105, .int 116, .int 115, .int 32, (.int (Int32.ofNat (48 + d1))), .int 44, .int 32, .int 115, .int 116, .int 97, .int 108, .int 101, .int 32, .int 104, .int 105, .int 116, .int 115, .int 32, (.int (Int32.ofNat (48 + d2))), .int 44, .int 32, .int 109, .int 0, .int 0, .int 0, .int 0, .int 0, .int 0, .int 0, .int 0, .int 0, .int 0, .int 0, .int 0, .int 0, .int 0, .int 0, .int 0, .int 0, .int 0, .int 0, .int 0, .int 0, .int 0, .int 0, .int 0, .int 0, .int 0, .int 0, .int 0, .int 0, .int 0, .int 0, .int 0, .int 0, .int 0, .int 0, .int 0, .int 0, .int 0, .int 0, .int 0, .int 0, .int 0, .int 0, .int 0, .int 0, .int 0, .int 0, .int 0, .int 0, .int 0, .int 0, .int 0, .int 0, .int 0, .int 0] := A303
  refine g_dup X303 at_333 (pc' := 334) rfl rfl ?_
  refine g_bipush X303 at_334 (pc' := 336) rfl (v := (41 : Int32)) rfl ?_
  refine g_bipush X303 at_336 (pc' := 338) rfl (v := (105 : Int32)) rfl ?_
  refine g_castore X303 (i := 41) A303 (by decide) (by show 41 < 96; decide) l259 at_338 (pc' := 339) rfl (fun T304 h304 X304 W304 A304 => ?_)
  have A304 : Arx Z h304 b259 .char [.int 114, .int 101, .int 113, .int 117, .int 101, .int 115, .int 116, .int 115, .int 32, (.int (Int32.ofNat (48 + (d1 + d2 + d3)))), .int 44, .int 32, .int 102, .int 114, .int 101, .int 115, .int 104, .int 32, .int 104, .int 105, .int 116, .int 115, .int 32, (.int (Int32.ofNat (48 + d1))), .int 44, .int 32, .int 115, .int 116, .int 97, .int 108, .int 101, .int 32, .int 104, .int 105, .int 116, .int 115, .int 32, (.int (Int32.ofNat (48 + d2))), .int 44, .int 32, .int 109, .int 105, .int 0, .int 0, .int 0, .int 0, .int 0, .int 0, .int 0, .int 0, .int 0, .int 0, .int 0, .int 0, .int 0, .int 0, .int 0, .int 0, .int 0, .int 0, .int 0, .int 0, .int 0, .int 0, .int 0, .int 0, .int 0, .int 0, .int 0, .int 0, .int 0, .int 0, .int 0, .int 0, .int 0, .int 0, .int 0, .int 0, .int 0, .int 0, .int 0, .int 0, .int 0, .int 0, .int 0, .int 0, .int 0, .int 0, .int 0, .int 0, .int 0, .int 0, .int 0, .int 0, .int 0, .int 0] := A304
  refine g_dup X304 at_339 (pc' := 340) rfl rfl ?_
  refine g_bipush X304 at_340 (pc' := 342) rfl (v := (42 : Int32)) rfl ?_
  refine g_bipush X304 at_342 (pc' := 344) rfl (v := (115 : Int32)) rfl ?_
  refine g_castore X304 (i := 42) A304 (by decide) (by show 42 < 96; decide) l259 at_344 (pc' := 345) rfl (fun T305 h305 X305 W305 A305 => ?_)
  have A305 : Arx Z h305 b259 .char [.int 114, .int 101, .int 113, .int 117, .int 101, .int 115, .int 116, .int 115, .int 32, (.int (Int32.ofNat (48 + (d1 + d2 + d3)))), .int 44, .int 32, .int 102, .int 114, .int 101, .int 115, .int 104, .int 32, .int 104, .int 105, .int 116, .int 115, .int 32, (.int (Int32.ofNat (48 + d1))), .int 44, .int 32, .int 115, .int 116, .int 97, .int 108, .int 101, .int 32, .int 104, .int 105, .int 116, .int 115, .int 32, (.int (Int32.ofNat (48 + d2))), .int 44, .int 32, .int 109, .int 105, .int 115, .int 0, .int 0, .int 0, .int 0, .int 0, .int 0, .int 0, .int 0, .int 0, .int 0, .int 0, .int 0, .int 0, .int 0, .int 0, .int 0, .int 0, .int 0, .int 0, .int 0, .int 0, .int 0, .int 0, .int 0, .int 0, .int 0, .int 0, .int 0, .int 0, .int 0, .int 0, .int 0, .int 0, .int 0, .int 0, .int 0, .int 0, .int 0, .int 0, .int 0, .int 0, .int 0, .int 0, .int 0, .int 0, .int 0, .int 0, .int 0, .int 0, .int 0, .int 0, .int 0, .int 0] := A305
  refine g_dup X305 at_345 (pc' := 346) rfl rfl ?_
  refine g_bipush X305 at_346 (pc' := 348) rfl (v := (43 : Int32)) rfl ?_
  refine g_bipush X305 at_348 (pc' := 350) rfl (v := (115 : Int32)) rfl ?_
  refine g_castore X305 (i := 43) A305 (by decide) (by show 43 < 96; decide) l259 at_350 (pc' := 351) rfl (fun T306 h306 X306 W306 A306 => ?_)
  have A306 : Arx Z h306 b259 .char [.int 114, .int 101, .int 113, .int 117, .int 101, .int 115, .int 116, .int 115, .int 32, (.int (Int32.ofNat (48 + (d1 + d2 + d3)))), .int 44, .int 32, .int 102, .int 114, .int 101, .int 115, .int 104, .int 32, .int 104, .int 105, .int 116, .int 115, .int 32, (.int (Int32.ofNat (48 + d1))), .int 44, .int 32, .int 115, .int 116, .int 97, .int 108, .int 101, .int 32, .int 104, .int 105, .int 116, .int 115, .int 32, (.int (Int32.ofNat (48 + d2))), .int 44, .int 32, .int 109, .int 105, .int 115, .int 115, .int 0, .int 0, .int 0, .int 0, .int 0, .int 0, .int 0, .int 0, .int 0, .int 0, .int 0, .int 0, .int 0, .int 0, .int 0, .int 0, .int 0, .int 0, .int 0, .int 0, .int 0, .int 0, .int 0, .int 0, .int 0, .int 0, .int 0, .int 0, .int 0, .int 0, .int 0, .int 0, .int 0, .int 0, .int 0, .int 0, .int 0, .int 0, .int 0, .int 0, .int 0, .int 0, .int 0, .int 0, .int 0, .int 0, .int 0, .int 0, .int 0, .int 0, .int 0, .int 0] := A306
  refine g_dup X306 at_351 (pc' := 352) rfl rfl ?_
  refine g_bipush X306 at_352 (pc' := 354) rfl (v := (44 : Int32)) rfl ?_
  refine g_bipush X306 at_354 (pc' := 356) rfl (v := (101 : Int32)) rfl ?_
  refine g_castore X306 (i := 44) A306 (by decide) (by show 44 < 96; decide) l259 at_356 (pc' := 357) rfl (fun T307 h307 X307 W307 A307 => ?_)
  have A307 : Arx Z h307 b259 .char [.int 114, .int 101, .int 113, .int 117, .int 101, .int 115, .int 116, .int 115, .int 32, (.int (Int32.ofNat (48 + (d1 + d2 + d3)))), .int 44, .int 32, .int 102, .int 114, .int 101, .int 115, .int 104, .int 32, .int 104, .int 105, .int 116, .int 115, .int 32, (.int (Int32.ofNat (48 + d1))), .int 44, .int 32, .int 115, .int 116, .int 97, .int 108, .int 101, .int 32, .int 104, .int 105, .int 116, .int 115, .int 32, (.int (Int32.ofNat (48 + d2))), .int 44, .int 32, .int 109, .int 105, .int 115, .int 115, .int 101, .int 0, .int 0, .int 0, .int 0, .int 0, .int 0, .int 0, .int 0, .int 0, .int 0, .int 0, .int 0, .int 0, .int 0, .int 0, .int 0, .int 0, .int 0, .int 0, .int 0, .int 0, .int 0, .int 0, .int 0, .int 0, .int 0, .int 0, .int 0, .int 0, .int 0, .int 0, .int 0, .int 0, .int 0, .int 0, .int 0, .int 0, .int 0, .int 0, .int 0, .int 0, .int 0, .int 0, .int 0, .int 0, .int 0, .int 0, .int 0, .int 0, .int 0, .int 0] := A307
  refine g_dup X307 at_357 (pc' := 358) rfl rfl ?_
  refine g_bipush X307 at_358 (pc' := 360) rfl (v := (45 : Int32)) rfl ?_
  refine g_bipush X307 at_360 (pc' := 362) rfl (v := (115 : Int32)) rfl ?_
  refine g_castore X307 (i := 45) A307 (by decide) (by show 45 < 96; decide) l259 at_362 (pc' := 363) rfl (fun T308 h308 X308 W308 A308 => ?_)
  have A308 : Arx Z h308 b259 .char [.int 114, .int 101, .int 113, .int 117, .int 101, .int 115, .int 116, .int 115, .int 32, (.int (Int32.ofNat (48 + (d1 + d2 + d3)))), .int 44, .int 32, .int 102, .int 114, .int 101, .int 115, .int 104, .int 32, .int 104, .int 105, .int 116, .int 115, .int 32, (.int (Int32.ofNat (48 + d1))), .int 44, .int 32, .int 115, .int 116, .int 97, .int 108, .int 101, .int 32, .int 104, .int 105, .int 116, .int 115, .int 32, (.int (Int32.ofNat (48 + d2))), .int 44, .int 32, .int 109, .int 105, .int 115, .int 115, .int 101, .int 115, .int 0, .int 0, .int 0, .int 0, .int 0, .int 0, .int 0, .int 0, .int 0, .int 0, .int 0, .int 0, .int 0, .int 0, .int 0, .int 0, .int 0, .int 0, .int 0, .int 0, .int 0, .int 0, .int 0, .int 0, .int 0, .int 0, .int 0, .int 0, .int 0, .int 0, .int 0, .int 0, .int 0, .int 0, .int 0, .int 0, .int 0, .int 0, .int 0, .int 0, .int 0, .int 0, .int 0, .int 0, .int 0, .int 0, .int 0, .int 0, .int 0, .int 0] := A308
  refine g_dup X308 at_363 (pc' := 364) rfl rfl ?_
  refine g_bipush X308 at_364 (pc' := 366) rfl (v := (46 : Int32)) rfl ?_
  refine g_bipush X308 at_366 (pc' := 368) rfl (v := (32 : Int32)) rfl ?_
  refine g_castore X308 (i := 46) A308 (by decide) (by show 46 < 96; decide) l259 at_368 (pc' := 369) rfl (fun T309 h309 X309 W309 A309 => ?_)
  have A309 : Arx Z h309 b259 .char [.int 114, .int 101, .int 113, .int 117, .int 101, .int 115, .int 116, .int 115, .int 32, (.int (Int32.ofNat (48 + (d1 + d2 + d3)))), .int 44, .int 32, .int 102, .int 114, .int 101, .int 115, .int 104, .int 32, .int 104, .int 105, .int 116, .int 115, .int 32, (.int (Int32.ofNat (48 + d1))), .int 44, .int 32, .int 115, .int 116, .int 97, .int 108, .int 101, .int 32, .int 104, .int 105, .int 116, .int 115, .int 32, (.int (Int32.ofNat (48 + d2))), .int 44, .int 32, .int 109, .int 105, .int 115, .int 115, .int 101, .int 115, .int 32, .int 0, .int 0, .int 0, .int 0, .int 0, .int 0, .int 0, .int 0, .int 0, .int 0, .int 0, .int 0, .int 0, .int 0, .int 0, .int 0, .int 0, .int 0, .int 0, .int 0, .int 0, .int 0, .int 0, .int 0, .int 0, .int 0, .int 0, .int 0, .int 0, .int 0, .int 0, .int 0, .int 0, .int 0, .int 0, .int 0, .int 0, .int 0, .int 0, .int 0, .int 0, .int 0, .int 0, .int 0, .int 0, .int 0, .int 0, .int 0, .int 0] := A309
  refine g_dup X309 at_369 (pc' := 370) rfl rfl ?_
  refine g_bipush X309 at_370 (pc' := 372) rfl (v := (47 : Int32)) rfl ?_
  refine g_lload X309 at_372 (pc' := 374) rfl rfl ?_
  refine g_ncallS X309 (y := (⟨"com/example/freshet/freshet/CacheCountsToStringPinLaw", "d", "(J)C"⟩ : MethodName)) [(.long (Int64.ofNat d3))] (hw _ m4) (hw _ m5) (hw _ m6) (hw _ m7) (hw _ m6) (Nar.rm1 l Z a0 hw d3 h309 n0 X309.old (by omega)) (by decide) (by decide) (by decide) (by decide) (by decide) rfl pd_26 rfl (rest := [(.int (47 : Int32)), (.ref b259), (.ref b259)]) rfl (W := 3) rfl at_374 (pc' := 377) rfl ?_
  rintro _ T310 _ _ Y310 ⟨rfl, rfl, rfl⟩
  have X310 := Y310 X309.old (Fr.nil _) (Nat.le_refl _)
  show Go p e below _ (State.setTop _ (mkF m 377 #[.val (.long x1), .second, .val (.long x2), .second, .val (.long x3), .second, .val (.long x4), .second, .val (.long x5), .second, .val (.long x6), .second, .val (.long (Int64.ofNat d1)), .second, .val (.long (Int64.ofNat d2)), .second, .val (.long (Int64.ofNat d3)), .second, .val (.long (Int64.ofNat d4)), .second, .val (.long (Int64.ofNat d5)), .second, .val (.long (Int64.ofNat d6)), .second, .val (.long (Int64.ofNat (d1 + d2 + d3))), .second, .unset, .unset, .unset] [(.int (Int32.ofNat (48 + d3))), (.int (47 : Int32)), (.ref b259), (.ref b259)]))
  refine g_castore X310 (i := 47) A309 (by decide) (by show 47 < 96; decide) l259 at_377 (pc' := 378) rfl (fun T311 h311 X311 W311 A311 => ?_)
  rw [Nar.own_ncd (by omega)] at A311
  have A311 : Arx Z h311 b259 .char [.int 114, .int 101, .int 113, .int 117, .int 101, .int 115, .int 116, .int 115, .int 32, (.int (Int32.ofNat (48 + (d1 + d2 + d3)))), .int 44, .int 32, .int 102, .int 114, .int 101, .int 115, .int 104, .int 32, .int 104, .int 105, .int 116, .int 115, .int 32, (.int (Int32.ofNat (48 + d1))), .int 44, .int 32, .int 115, .int 116, .int 97, .int 108, .int 101, .int 32, .int 104, .int 105, .int 116, .int 115, .int 32, (.int (Int32.ofNat (48 + d2))), .int 44, .int 32, .int 109, .int 105, .int 115, .int 115, .int 101, .int 115, .int 32, (.int (Int32.ofNat (48 + d3))), .int 0, .int 0, .int 0, .int 0, .int 0, .int 0, .int 0, .int 0, .int 0, .int 0, .int 0, .int 0, .int 0, .int 0, .int 0, .int 0, .int 0, .int 0, .int 0, .int 0, .int 0, .int 0, .int 0, .int 0, .int 0, .int 0, .int 0, .int 0, .int 0, .int 0, .int 0, .int 0, .int 0, .int 0, .int 0, .int 0, .int 0, .int 0, .int 0, .int 0, .int 0, .int 0, .int 0, .int 0, .int 0, .int 0, .int 0, .int 0] := A311
  refine g_dup X311 at_378 (pc' := 379) rfl rfl ?_
  refine g_bipush X311 at_379 (pc' := 381) rfl (v := (48 : Int32)) rfl ?_
  refine g_bipush X311 at_381 (pc' := 383) rfl (v := (44 : Int32)) rfl ?_
  refine g_castore X311 (i := 48) A311 (by decide) (by show 48 < 96; decide) l259 at_383 (pc' := 384) rfl (fun T312 h312 X312 W312 A312 => ?_)
  have A312 : Arx Z h312 b259 .char [.int 114, .int 101, .int 113, .int 117, .int 101, .int 115, .int 116, .int 115, .int 32, (.int (Int32.ofNat (48 + (d1 + d2 + d3)))), .int 44, .int 32, .int 102, .int 114, .int 101, .int 115, .int 104, .int 32, .int 104, .int 105, .int 116, .int 115, .int 32, (.int (Int32.ofNat (48 + d1))), .int 44, .int 32, .int 115, .int 116, .int 97, .int 108, .int 101, .int 32, .int 104, .int 105, .int 116, .int 115, .int 32, (.int (Int32.ofNat (48 + d2))), .int 44, .int 32, .int 109, .int 105, .int 115, .int 115, .int 101, .int 115, .int 32, (.int (Int32.ofNat (48 + d3))), .int 44, .int 0, .int 0, .int 0, .int 0, .int 0, .int 0, .int 0, .int 0, .int 0, .int 0, .int 0, .int 0, .int 0, .int 0, .int 0, .int 0, .int 0, .int 0, .int 0, .int 0, .int 0, .int 0, .int 0, .int 0, .int 0, .int 0, .int 0, .int 0, .int 0, .int 0, .int 0, .int 0, .int 0, .int 0, .int 0, .int 0, .int 0, .int 0, .int 0, .int 0, .int 0, .int 0, .int 0, .int 0, .int 0, .int 0, .int 0] := A312
  refine g_dup X312 at_384 (pc' := 385) rfl rfl ?_
  refine g_bipush X312 at_385 (pc' := 387) rfl (v := (49 : Int32)) rfl ?_
  refine g_bipush X312 at_387 (pc' := 389) rfl (v := (32 : Int32)) rfl ?_
  refine g_castore X312 (i := 49) A312 (by decide) (by show 49 < 96; decide) l259 at_389 (pc' := 390) rfl (fun T313 h313 X313 W313 A313 => ?_)
  have A313 : Arx Z h313 b259 .char [.int 114, .int 101, .int 113, .int 117, .int 101, .int 115, .int 116, .int 115, .int 32, (.int (Int32.ofNat (48 + (d1 + d2 + d3)))), .int 44, .int 32, .int 102, .int 114, .int 101, .int 115, .int 104, .int 32, .int 104, .int 105, .int 116, .int 115, .int 32, (.int (Int32.ofNat (48 + d1))), .int 44, .int 32, .int 115, .int 116, .int 97, .int 108, .int 101, .int 32, .int 104, .int 105, .int 116, .int 115, .int 32, (.int (Int32.ofNat (48 + d2))), .int 44, .int 32, .int 109, .int 105, .int 115, .int 115, .int 101, .int 115, .int 32, (.int (Int32.ofNat (48 + d3))), .int 44, .int 32, .int 0, .int 0, .int 0, .int 0, .int 0, .int 0, .int 0, .int 0, .int 0, .int 0, .int 0, .int 0, .int 0, .int 0, .int 0, .int 0, .int 0, .int 0, .int 0, .int 0, .int 0, .int 0, .int 0, .int 0, .int 0, .int 0, .int 0, .int 0, .int 0, .int 0, .int 0, .int 0, .int 0, .int 0, .int 0, .int 0, .int 0, .int 0, .int 0, .int 0, .int 0, .int 0, .int 0, .int 0, .int 0, .int 0] := A313
  refine g_dup X313 at_390 (pc' := 391) rfl rfl ?_
  refine g_bipush X313 at_391 (pc' := 393) rfl (v := (50 : Int32)) rfl ?_
  refine g_bipush X313 at_393 (pc' := 395) rfl (v := (115 : Int32)) rfl ?_
  refine g_castore X313 (i := 50) A313 (by decide) (by show 50 < 96; decide) l259 at_395 (pc' := 396) rfl (fun T314 h314 X314 W314 A314 => ?_)
  have A314 : Arx Z h314 b259 .char [.int 114, .int 101, .int 113, .int 117, .int 101, .int 115, .int 116, .int 115, .int 32, (.int (Int32.ofNat (48 + (d1 + d2 + d3)))), .int 44, .int 32, .int 102, .int 114, .int 101, .int 115, .int 104, .int 32, .int 104, .int 105, .int 116, .int 115, .int 32, (.int (Int32.ofNat (48 + d1))), .int 44, .int 32, .int 115, .int 116, .int 97, .int 108, .int 101, .int 32, .int 104, .int 105, .int 116, .int 115, .int 32, (.int (Int32.ofNat (48 + d2))), .int 44, .int 32, .int 109, .int 105, .int 115, .int 115, .int 101, .int 115, .int 32, (.int (Int32.ofNat (48 + d3))), .int 44, .int 32, .int 115, .int 0, .int 0, .int 0, .int 0, .int 0, .int 0, .int 0, .int 0, .int 0, .int 0, .int 0, .int 0, .int 0, .int 0, .int 0, .int 0, .int 0, .int 0, .int 0, .int 0, .int 0, .int 0, .int 0, .int 0, .int 0, .int 0, .int 0, .int 0, .int 0, .int 0, .int 0, .int 0, .int 0, .int 0, .int 0, .int 0, .int 0, .int 0, .int 0, .int 0, .int 0, .int 0, .int 0, .int 0, .int 0] := A314
  refine g_dup X314 at_396 (pc' := 397) rfl rfl ?_
  refine g_bipush X314 at_397 (pc' := 399) rfl (v := (51 : Int32)) rfl ?_
  refine g_bipush X314 at_399 (pc' := 401) rfl (v := (111 : Int32)) rfl ?_
  refine g_castore X314 (i := 51) A314 (by decide) (by show 51 < 96; decide) l259 at_401 (pc' := 402) rfl (fun T315 h315 X315 W315 A315 => ?_)
  have A315 : Arx Z h315 b259 .char [.int 114, .int 101, .int 113, .int 117, .int 101, .int 115, .int 116, .int 115, .int 32, (.int (Int32.ofNat (48 + (d1 + d2 + d3)))), .int 44, .int 32, .int 102, .int 114, .int 101, .int 115, .int 104, .int 32, .int 104, .int 105, .int 116, .int 115, .int 32, (.int (Int32.ofNat (48 + d1))), .int 44, .int 32, .int 115, .int 116, .int 97, .int 108, .int 101, .int 32, .int 104, .int 105, .int 116, .int 115, .int 32, (.int (Int32.ofNat (48 + d2))), .int 44, .int 32, .int 109, .int 105, .int 115, .int 115, .int 101, .int 115, .int 32, (.int (Int32.ofNat (48 + d3))), .int 44, .int 32, .int 115, .int 111, .int 0, .int 0, .int 0, .int 0, .int 0, .int 0, .int 0, .int 0, .int 0, .int 0, .int 0, .int 0, .int 0, .int 0, .int 0, .int 0, .int 0, .int 0, .int 0, .int 0, .int 0, .int 0, .int 0, .int 0, .int 0, .int 0, .int 0, .int 0, .int 0, .int 0, .int 0, .int 0, .int 0, .int 0, .int 0, .int 0, .int 0, .int 0, .int 0, .int 0, .int 0, .int 0, .int 0, .int 0] := A315
  refine g_dup X315 at_402 (pc' := 403) rfl rfl ?_
  refine g_bipush X315 at_403 (pc' := 405) rfl (v := (52 : Int32)) rfl ?_
  refine g_bipush X315 at_405 (pc' := 407) rfl (v := (117 : Int32)) rfl ?_
  refine g_castore X315 (i := 52) A315 (by decide) (by show 52 < 96; decide) l259 at_407 (pc' := 408) rfl (fun T316 h316 X316 W316 A316 => ?_)
  have A316 : Arx Z h316 b259 .char [.int 114, .int 101, .int 113, .int 117, .int 101, .int 115, .int 116, .int 115, .int 32, (.int (Int32.ofNat (48 + (d1 + d2 + d3)))), .int 44, .int 32, .int 102, .int 114, .int 101, .int 115, .int 104, .int 32, .int 104, .int 105, .int 116, .int 115, .int 32, (.int (Int32.ofNat (48 + d1))), .int 44, .int 32, .int 115, .int 116, .int 97, .int 108, .int 101, .int 32, .int 104, .int 105, .int 116, .int 115, .int 32, (.int (Int32.ofNat (48 + d2))), .int 44, .int 32, .int 109, .int 105, .int 115, .int 115, .int 101, .int 115, .int 32, (.int (Int32.ofNat (48 + d3))), .int 44, .int 32, .int 115, .int 111, .int 117, .int 0, .int 0, .int 0, .int 0, .int 0, .int 0, .int 0, .int 0, .int 0, .int 0, .int 0, .int 0, .int 0, .int 0, .int 0, .int 0, .int 0, .int 0, .int 0, .int 0, .int 0, .int 0, .int 0, .int 0, .int 0, .int 0, .int 0, .int 0, .int 0, .int 0, .int 0, .int 0, .int 0, .int 0, .int 0, .int 0, .int 0, .int 0, .int 0, .int 0, .int 0, .int 0, .int 0] := A316
  refine g_dup X316 at_408 (pc' := 409) rfl rfl ?_
  refine g_bipush X316 at_409 (pc' := 411) rfl (v := (53 : Int32)) rfl ?_
  refine g_bipush X316 at_411 (pc' := 413) rfl (v := (114 : Int32)) rfl ?_
  refine g_castore X316 (i := 53) A316 (by decide) (by show 53 < 96; decide) l259 at_413 (pc' := 414) rfl (fun T317 h317 X317 W317 A317 => ?_)
  have A317 : Arx Z h317 b259 .char [.int 114, .int 101, .int 113, .int 117, .int 101, .int 115, .int 116, .int 115, .int 32, (.int (Int32.ofNat (48 + (d1 + d2 + d3)))), .int 44, .int 32, .int 102, .int 114, .int 101, .int 115, .int 104, .int 32, .int 104, .int 105, .int 116, .int 115, .int 32, (.int (Int32.ofNat (48 + d1))), .int 44, .int 32, .int 115, .int 116, .int 97, .int 108, .int 101, .int 32, .int 104, .int 105, .int 116, .int 115, .int 32, (.int (Int32.ofNat (48 + d2))), .int 44, .int 32, .int 109, .int 105, .int 115, .int 115, .int 101, .int 115, .int 32, (.int (Int32.ofNat (48 + d3))), .int 44, .int 32, .int 115, .int 111, .int 117, .int 114, .int 0, .int 0, .int 0, .int 0, .int 0, .int 0, .int 0, .int 0, .int 0, .int 0, .int 0, .int 0, .int 0, .int 0, .int 0, .int 0, .int 0, .int 0, .int 0, .int 0, .int 0, .int 0, .int 0, .int 0, .int 0, .int 0, .int 0, .int 0, .int 0, .int 0, .int 0, .int 0, .int 0, .int 0, .int 0, .int 0, .int 0, .int 0, .int 0, .int 0, .int 0, .int 0] := A317
  refine g_dup X317 at_414 (pc' := 415) rfl rfl ?_
  refine g_bipush X317 at_415 (pc' := 417) rfl (v := (54 : Int32)) rfl ?_
  refine g_bipush X317 at_417 (pc' := 419) rfl (v := (99 : Int32)) rfl ?_
  refine g_castore X317 (i := 54) A317 (by decide) (by show 54 < 96; decide) l259 at_419 (pc' := 420) rfl (fun T318 h318 X318 W318 A318 => ?_)
  have A318 : Arx Z h318 b259 .char [.int 114, .int 101, .int 113, .int 117, .int 101, .int 115, .int 116, .int 115, .int 32, (.int (Int32.ofNat (48 + (d1 + d2 + d3)))), .int 44, .int 32, .int 102, .int 114, .int 101, .int 115, .int 104, .int 32, .int 104, .int 105, .int 116, .int 115, .int 32, (.int (Int32.ofNat (48 + d1))), .int 44, .int 32, .int 115, .int 116, .int 97, .int 108, .int 101, .int 32, .int 104, .int 105, .int 116, .int 115, .int 32, (.int (Int32.ofNat (48 + d2))), .int 44, .int 32, .int 109, .int 105, .int 115, .int 115, .int 101, .int 115, .int 32, (.int (Int32.ofNat (48 + d3))), .int 44, .int 32, .int 115, .int 111, .int 117, .int 114, .int 99, .int 0, .int 0, .int 0, .int 0, .int 0, .int 0, .int 0, .int 0, .int 0, .int 0, .int 0, .int 0, .int 0, .int 0, .int 0, .int 0, .int 0, .int 0, .int 0, .int 0, .int 0, .int 0, .int 0, .int 0, .int 0, .int 0, .int 0, .int 0, .int 0, .int 0, .int 0, .int 0, .int 0, .int 0, .int 0, .int 0, .int 0, .int 0, .int 0, .int 0, .int 0] := A318
  refine g_dup X318 at_420 (pc' := 421) rfl rfl ?_
  refine g_bipush X318 at_421 (pc' := 423) rfl (v := (55 : Int32)) rfl ?_
  refine g_bipush X318 at_423 (pc' := 425) rfl (v := (101 : Int32)) rfl ?_
  refine g_castore X318 (i := 55) A318 (by decide) (by show 55 < 96; decide) l259 at_425 (pc' := 426) rfl (fun T319 h319 X319 W319 A319 => ?_)
  have A319 : Arx Z h319 b259 .char [.int 114, .int 101, .int 113, .int 117, .int 101, .int 115, .int 116, .int 115, .int 32, (.int (Int32.ofNat (48 + (d1 + d2 + d3)))), .int 44, .int 32, .int 102, .int 114, .int 101, .int 115, .int 104, .int 32, .int 104, .int 105, .int 116, .int 115, .int 32, (.int (Int32.ofNat (48 + d1))), .int 44, .int 32, .int 115, .int 116, .int 97, .int 108, .int 101, .int 32, .int 104, .int 105, .int 116, .int 115, .int 32, (.int (Int32.ofNat (48 + d2))), .int 44, .int 32, .int 109, .int 105, .int 115, .int 115, .int 101, .int 115, .int 32, (.int (Int32.ofNat (48 + d3))), .int 44, .int 32, .int 115, .int 111, .int 117, .int 114, .int 99, .int 101, .int 0, .int 0, .int 0, .int 0, .int 0, .int 0, .int 0, .int 0, .int 0, .int 0, .int 0, .int 0, .int 0, .int 0, .int 0, .int 0, .int 0, .int 0, .int 0, .int 0, .int 0, .int 0, .int 0, .int 0, .int 0, .int 0, .int 0, .int 0, .int 0, .int 0, .int 0, .int 0, .int 0, .int 0, .int 0, .int 0, .int 0, .int 0, .int 0, .int 0] := A319
  refine g_dup X319 at_426 (pc' := 427) rfl rfl ?_
  refine g_bipush X319 at_427 (pc' := 429) rfl (v := (56 : Int32)) rfl ?_
  refine g_bipush X319 at_429 (pc' := 431) rfl (v := (32 : Int32)) rfl ?_
  refine g_castore X319 (i := 56) A319 (by decide) (by show 56 < 96; decide) l259 at_431 (pc' := 432) rfl (fun T320 h320 X320 W320 A320 => ?_)
  have A320 : Arx Z h320 b259 .char [.int 114, .int 101, .int 113, .int 117, .int 101, .int 115, .int 116, .int 115, .int 32, (.int (Int32.ofNat (48 + (d1 + d2 + d3)))), .int 44, .int 32, .int 102, .int 114, .int 101, .int 115, .int 104, .int 32, .int 104, .int 105, .int 116, .int 115, .int 32, (.int (Int32.ofNat (48 + d1))), .int 44, .int 32, .int 115, .int 116, .int 97, .int 108, .int 101, .int 32, .int 104, .int 105, .int 116, .int 115, .int 32, (.int (Int32.ofNat (48 + d2))), .int 44, .int 32, .int 109, .int 105, .int 115, .int 115, .int 101, .int 115, .int 32, (.int (Int32.ofNat (48 + d3))), .int 44, .int 32, .int 115, .int 111, .int 117, .int 114, .int 99, .int 101, .int 32, .int 0, .int 0, .int 0, .int 0, .int 0, .int 0, .int 0, .int 0, .int 0, .int 0, .int 0, .int 0, .int 0, .int 0, .int 0, .int 0, .int 0, .int 0, .int 0, .int 0, .int 0, .int 0, .int 0, .int 0, .int 0, .int 0, .int 0, .int 0, .int 0, .int 0, .int 0, .int 0, .int 0, .int 0, .int 0, .int 0, .int 0, .int 0, .int 0] := A320
  refine g_dup X320 at_432 (pc' := 433) rfl rfl ?_
  refine g_bipush X320 at_433 (pc' := 435) rfl (v := (57 : Int32)) rfl ?_
  refine g_bipush X320 at_435 (pc' := 437) rfl (v := (99 : Int32)) rfl ?_
  refine g_castore X320 (i := 57) A320 (by decide) (by show 57 < 96; decide) l259 at_437 (pc' := 438) rfl (fun T321 h321 X321 W321 A321 => ?_)
  have A321 : Arx Z h321 b259 .char [.int 114, .int 101, .int 113, .int 117, .int 101, .int 115, .int 116, .int 115, .int 32, (.int (Int32.ofNat (48 + (d1 + d2 + d3)))), .int 44, .int 32, .int 102, .int 114, .int 101, .int 115, .int 104, .int 32, .int 104, .int 105, .int 116, .int 115, .int 32, (.int (Int32.ofNat (48 + d1))), .int 44, .int 32, .int 115, .int 116, .int 97, .int 108, .int 101, .int 32, .int 104, .int 105, .int 116, .int 115, .int 32, (.int (Int32.ofNat (48 + d2))), .int 44, .int 32, .int 109, .int 105, .int 115, .int 115, .int 101, .int 115, .int 32, (.int (Int32.ofNat (48 + d3))), .int 44, .int 32, .int 115, .int 111, .int 117, .int 114, .int 99, .int 101, .int 32, .int 99, .int 0, .int 0, .int 0, .int 0, .int 0, .int 0, .int 0, .int 0, .int 0, .int 0, .int 0, .int 0, .int 0, .int 0, .int 0, .int 0, .int 0, .int 0, .int 0, .int 0, .int 0, .int 0, .int 0, .int 0, .int 0, .int 0, .int 0, .int 0, .int 0, .int 0, .int 0, .int 0, .int 0, .int 0, .int 0, .int 0, .int 0, .int 0] := A321
  refine g_dup X321 at_438 (pc' := 439) rfl rfl ?_
  refine g_bipush X321 at_439 (pc' := 441) rfl (v := (58 : Int32)) rfl ?_
  refine g_bipush X321 at_441 (pc' := 443) rfl (v := (97 : Int32)) rfl ?_
  refine g_castore X321 (i := 58) A321 (by decide) (by show 58 < 96; decide) l259 at_443 (pc' := 444) rfl (fun T322 h322 X322 W322 A322 => ?_)
  have A322 : Arx Z h322 b259 .char [.int 114, .int 101, .int 113, .int 117, .int 101, .int 115, .int 116, .int 115, .int 32, (.int (Int32.ofNat (48 + (d1 + d2 + d3)))), .int 44, .int 32, .int 102, .int 114, .int 101, .int 115, .int 104, .int 32, .int 104, .int 105, .int 116, .int 115, .int 32, (.int (Int32.ofNat (48 + d1))), .int 44, .int 32, .int 115, .int 116, .int 97, .int 108, .int 101, .int 32, .int 104, .int 105, .int 116, .int 115, .int 32, (.int (Int32.ofNat (48 + d2))), .int 44, .int 32, .int 109, .int 105, .int 115, .int 115, .int 101, .int 115, .int 32, (.int (Int32.ofNat (48 + d3))), .int 44, .int 32, .int 115, .int 111, .int 117, .int 114, .int 99, .int 101, .int 32, .int 99, .int 97, .int 0, .int 0, .int 0, .int 0, .int 0, .int 0, .int 0, .int 0, .int 0, .int 0, .int 0, .int 0, .int 0, .int 0, .int 0, .int 0, .int 0, .int 0, .int 0, .int 0, .int 0, .int 0, .int 0, .int 0, .int 0, .int 0, .int 0, .int 0, .int 0, .int 0, .int 0, .int 0, .int 0, .int 0, .int 0, .int 0, .int 0] := A322
  refine g_dup X322 at_444 (pc' := 445) rfl rfl ?_
  refine g_bipush X322 at_445 (pc' := 447) rfl (v := (59 : Int32)) rfl ?_
  refine g_bipush X322 at_447 (pc' := 449) rfl (v := (108 : Int32)) rfl ?_
  refine g_castore X322 (i := 59) A322 (by decide) (by show 59 < 96; decide) l259 at_449 (pc' := 450) rfl (fun T323 h323 X323 W323 A323 => ?_)
  have A323 : Arx Z h323 b259 .char [.int 114, .int 101, .int 113, .int 117, .int 101, .int 115, .int 116, .int 115, .int 32, (.int (Int32.ofNat (48 + (d1 + d2 + d3)))), .int 44, .int 32, .int 102, .int 114, .int 101, .int 115, .int 104, .int 32, .int 104, .int 105, .int 116, .int 115, .int 32, (.int (Int32.ofNat (48 + d1))), .int 44, .int 32, .int 115, .int 116, .int 97, .int 108, .int 101, .int 32, .int 104, .int 105, .int 116, .int 115, .int 32, (.int (Int32.ofNat (48 + d2))), .int 44, .int 32, .int 109, .int 105, .int 115, .int 115, .int 101, .int 115, .int 32, (.int (Int32.ofNat (48 + d3))), .int 44, .int 32, .int 115, .int 111, .int 117, .int 114, .int 99, .int 101, .int 32, .int 99, .int 97, .int 108, .int 0, .int 0, .int 0, .int 0, .int 0, .int 0, .int 0, .int 0, .int 0, .int 0, .int 0, .int 0, .int 0, .int 0, .int 0, .int 0, .int 0, .int 0, .int 0, .int 0, .int 0, .int 0, .int 0, .int 0, .int 0, .int 0, .int 0, .int 0, .int 0, .int 0, .int 0, .int 0, .int 0, .int 0, .int 0, .int 0] := A323
  refine g_dup X323 at_450 (pc' := 451) rfl rfl ?_
  refine g_bipush X323 at_451 (pc' := 453) rfl (v := (60 : Int32)) rfl ?_
  refine g_bipush X323 at_453 (pc' := 455) rfl (v := (108 : Int32)) rfl ?_
  refine g_castore X323 (i := 60) A323 (by decide) (by show 60 < 96; decide) l259 at_455 (pc' := 456) rfl (fun T324 h324 X324 W324 A324 => ?_)
  have A324 : Arx Z h324 b259 .char [.int 114, .int 101, .int 113, .int 117, .int 101, .int 115, .int 116, .int 115, .int 32, (.int (Int32.ofNat (48 + (d1 + d2 + d3)))), .int 44, .int 32, .int 102, .int 114, .int 101, .int 115, .int 104, .int 32, .int 104, .int 105, .int 116, .int 115, .int 32, (.int (Int32.ofNat (48 + d1))), .int 44, .int 32, .int 115, .int 116, .int 97, .int 108, .int 101, .int 32, .int 104, .int 105, .int 116, .int 115, .int 32, (.int (Int32.ofNat (48 + d2))), .int 44, .int 32, .int 109, .int 105, .int 115, .int 115, .int 101, .int 115, .int 32, (.int (Int32.ofNat (48 + d3))), .int 44, .int 32, .int 115, .int 111, .int 117, .int 114, .int 99, .int 101, .int 32, .int 99, .int 97, .int 108, .int 108, .int 0, .int 0, .int 0, .int 0, .int 0, .int 0, .int 0, .int 0, .int 0, .int 0, .int 0, .int 0, .int 0, .int 0, .int 0, .int 0, .int 0, .int 0, .int 0, .int 0, .int 0, .int 0, .int 0, .int 0, .int 0, .int 0, .int 0, .int 0, .int 0, .int 0, .int 0, .int 0, .int 0, .int 0, .int 0] := A324
  refine g_dup X324 at_456 (pc' := 457) rfl rfl ?_
  refine g_bipush X324 at_457 (pc' := 459) rfl (v := (61 : Int32)) rfl ?_
  refine g_bipush X324 at_459 (pc' := 461) rfl (v := (115 : Int32)) rfl ?_
  refine g_castore X324 (i := 61) A324 (by decide) (by show 61 < 96; decide) l259 at_461 (pc' := 462) rfl (fun T325 h325 X325 W325 A325 => ?_)
  have A325 : Arx Z h325 b259 .char [.int 114, .int 101, .int 113, .int 117, .int 101, .int 115, .int 116, .int 115, .int 32, (.int (Int32.ofNat (48 + (d1 + d2 + d3)))), .int 44, .int 32, .int 102, .int 114, .int 101, .int 115, .int 104, .int 32, .int 104, .int 105, .int 116, .int 115, .int 32, (.int (Int32.ofNat (48 + d1))), .int 44, .int 32, .int 115, .int 116, .int 97, .int 108, .int 101, .int 32, .int 104, .int 105, .int 116, .int 115, .int 32, (.int (Int32.ofNat (48 + d2))), .int 44, .int 32, .int 109, .int 105, .int 115, .int 115, .int 101, .int 115, .int 32, (.int (Int32.ofNat (48 + d3))), .int 44, .int 32, .int 115, .int 111, .int 117, .int 114, .int 99, .int 101, .int 32, .int 99, .int 97, .int 108, .int 108, .int 115, .int 0, .int 0, .int 0, .int 0, .int 0, .int 0, .int 0, .int 0, .int 0, .int 0, .int 0, .int 0, .int 0, .int 0, .int 0, .int 0, .int 0, .int 0, .int 0, .int 0, .int 0, .int 0, .int 0, .int 0, .int 0, .int 0, .int 0, .int 0, .int 0, .int 0, .int 0, .int 0, .int 0, .int 0] := A325
  refine g_dup X325 at_462 (pc' := 463) rfl rfl ?_
  refine g_bipush X325 at_463 (pc' := 465) rfl (v := (62 : Int32)) rfl ?_
  refine g_bipush X325 at_465 (pc' := 467) rfl (v := (32 : Int32)) rfl ?_
  refine g_castore X325 (i := 62) A325 (by decide) (by show 62 < 96; decide) l259 at_467 (pc' := 468) rfl (fun T326 h326 X326 W326 A326 => ?_)
  have A326 : Arx Z h326 b259 .char [.int 114, .int 101, .int 113, .int 117, .int 101, .int 115, .int 116, .int 115, .int 32, (.int (Int32.ofNat (48 + (d1 + d2 + d3)))), .int 44, .int 32, .int 102, .int 114, .int 101, .int 115, .int 104, .int 32, .int 104, .int 105, .int 116, .int 115, .int 32, (.int (Int32.ofNat (48 + d1))), .int 44, .int 32, .int 115, .int 116, .int 97, .int 108, .int 101, .int 32, .int 104, .int 105, .int 116, .int 115, .int 32, (.int (Int32.ofNat (48 + d2))), .int 44, .int 32, .int 109, .int 105, .int 115, .int 115, .int 101, .int 115, .int 32, (.int (Int32.ofNat (48 + d3))), .int 44, .int 32, .int 115, .int 111, .int 117, .int 114, .int 99, .int 101, .int 32, .int 99, .int 97, .int 108, .int 108, .int 115, .int 32, .int 0, .int 0, .int 0, .int 0, .int 0, .int 0, .int 0, .int 0, .int 0, .int 0, .int 0, .int 0, .int 0, .int 0, .int 0, .int 0, .int 0, .int 0, .int 0, .int 0, .int 0, .int 0, .int 0, .int 0, .int 0, .int 0, .int 0, .int 0, .int 0, .int 0, .int 0, .int 0, .int 0] := A326
  refine g_dup X326 at_468 (pc' := 469) rfl rfl ?_
  refine g_bipush X326 at_469 (pc' := 471) rfl (v := (63 : Int32)) rfl ?_
  refine g_lload X326 at_471 (pc' := 473) rfl rfl ?_
  refine g_ncallS X326 (y := (⟨"com/example/freshet/freshet/CacheCountsToStringPinLaw", "d", "(J)C"⟩ : MethodName)) [(.long (Int64.ofNat d4))] (hw _ m4) (hw _ m5) (hw _ m6) (hw _ m7) (hw _ m6) (Nar.rm1 l Z a0 hw d4 h326 n0 X326.old hd4) (by decide) (by decide) (by decide) (by decide) (by decide) rfl pd_26 rfl (rest := [(.int (63 : Int32)), (.ref b259), (.ref b259)]) rfl (W := 3) rfl at_473 (pc' := 476) rfl ?_
  rintro _ T327 _ _ Y327 ⟨rfl, rfl, rfl⟩
  have X327 := Y327 X326.old (Fr.nil _) (Nat.le_refl _)
  show Go p e below _ (State.setTop _ (mkF m 476 #[.val (.long x1), .second, .val (.long x2), .second, .val (.long x3), .second, .val (.long x4), .second, .val (.long x5), .second, .val (.long x6), .second, .val (.long (Int64.ofNat d1)), .second, .val (.long (Int64.ofNat d2)), .second, .val (.long (Int64.ofNat d3)), .second, .val (.long (Int64.ofNat d4)), .second, .val (.long (Int64.ofNat d5)), .second, .val (.long (Int64.ofNat d6)), .second, .val (.long (Int64.ofNat (d1 + d2 + d3))), .second, .unset, .unset, .unset] [(.int (Int32.ofNat (48 + d4))), (.int (63 : Int32)), (.ref b259), (.ref b259)]))
  refine g_castore X327 (i := 63) A326 (by decide) (by show 63 < 96; decide) l259 at_476 (pc' := 477) rfl (fun T328 h328 X328 W328 A328 => ?_)
  rw [Nar.own_ncd hd4] at A328
  have A328 : Arx Z h328 b259 .char [.int 114, .int 101, .int 113, .int 117, .int 101, .int 115, .int 116, .int 115, .int 32, (.int (Int32.ofNat (48 + (d1 + d2 + d3)))), .int 44, .int 32, .int 102, .int 114, .int 101, .int 115, .int 104, .int 32, .int 104, .int 105, .int 116, .int 115, .int 32, (.int (Int32.ofNat (48 + d1))), .int 44, .int 32, .int 115, .int 116, .int 97, .int 108, .int 101, .int 32, .int 104, .int 105, .int 116, .int 115, .int 32, (.int (Int32.ofNat (48 + d2))), .int 44, .int 32, .int 109, .int 105, .int 115, .int 115, .int 101, .int 115, .int 32, (.int (Int32.ofNat (48 + d3))), .int 44, .int 32, .int 115, .int 111, .int 117, .int 114, .int 99, .int 101, .int 32, .int 99, .int 97, .int 108, .int 108, .int 115, .int 32, (.int (Int32.ofNat (48 + d4))), .int 0, .int 0, .int 0, .int 0, .int 0, .int 0, .int 0, .int 0, .int 0, .int 0, .int 0, .int 0, .int 0, .int 0, .int 0, .int 0, .int 0, .int 0, .int 0, .int 0, .int 0, .int 0, .int 0, .int 0, .int 0, .int 0, .int 0, .int 0, .int 0, .int 0, .int 0, .int 0] := A328
  refine g_dup X328 at_477 (pc' := 478) rfl rfl ?_
  refine g_bipush X328 at_478 (pc' := 480) rfl (v := (64 : Int32)) rfl ?_
  refine g_bipush X328 at_480 (pc' := 482) rfl (v := (44 : Int32)) rfl ?_
  refine g_castore X328 (i := 64) A328 (by decide) (by show 64 < 96; decide) l259 at_482 (pc' := 483) rfl (fun T329 h329 X329 W329 A329 => ?_)
  have A329 : Arx Z h329 b259 .char [.int 114, .int 101, .int 113, .int 117, .int 101, .int 115, .int 116, .int 115, .int 32, (.int (Int32.ofNat (48 + (d1 + d2 + d3)))), .int 44, .int 32, .int 102, .int 114, .int 101, .int 115, .int 104, .int 32, .int 104, .int 105, .int 116, .int 115, .int 32, (.int (Int32.ofNat (48 + d1))), .int 44, .int 32, .int 115, .int 116, .int 97, .int 108, .int 101, .int 32, .int 104, .int 105, .int 116, .int 115, .int 32, (.int (Int32.ofNat (48 + d2))), .int 44, .int 32, .int 109, .int 105, .int 115, .int 115, .int 101, .int 115, .int 32, (.int (Int32.ofNat (48 + d3))), .int 44, .int 32, .int 115, .int 111, .int 117, .int 114, .int 99, .int 101, .int 32, .int 99, .int 97, .int 108, .int 108, .int 115, .int 32, (.int (Int32.ofNat (48 + d4))), .int 44, .int 0, .int 0, .int 0, .int 0, .int 0, .int 0, .int 0, .int 0, .int 0, .int 0, .int 0, .int 0, .int 0, .int 0, .int 0, .int 0, .int 0, .int 0, .int 0, .int 0, .int 0, .int 0, .int 0, .int 0, .int 0, .int 0, .int 0, .int 0, .int 0, .int 0, .int 0] := A329
  refine g_dup X329 at_483 (pc' := 484) rfl rfl ?_
  refine g_bipush X329 at_484 (pc' := 486) rfl (v := (65 : Int32)) rfl ?_
  refine g_bipush X329 at_486 (pc' := 488) rfl (v := (32 : Int32)) rfl ?_
  refine g_castore X329 (i := 65) A329 (by decide) (by show 65 < 96; decide) l259 at_488 (pc' := 489) rfl (fun T330 h330 X330 W330 A330 => ?_)
  have A330 : Arx Z h330 b259 .char [.int 114, .int 101, .int 113, .int 117, .int 101, .int 115, .int 116, .int 115, .int 32, (.int (Int32.ofNat (48 + (d1 + d2 + d3)))), .int 44, .int 32, .int 102, .int 114, .int 101, .int 115, .int 104, .int 32, .int 104, .int 105, .int 116, .int 115, .int 32, (.int (Int32.ofNat (48 + d1))), .int 44, .int 32, .int 115, .int 116, .int 97, .int 108, .int 101, .int 32, .int 104, .int 105, .int 116, .int 115, .int 32, (.int (Int32.ofNat (48 + d2))), .int 44, .int 32, .int 109, .int 105, .int 115, .int 115, .int 101, .int 115, .int 32, (.int (Int32.ofNat (48 + d3))), .int 44, .int 32, .int 115, .int 111, .int 117, .int 114, .int 99, .int 101, .int 32, .int 99, .int 97, .int 108, .int 108, .int 115, .int 32, (.int (Int32.ofNat (48 + d4))), .int 44, .int 32, .int 0, .int 0, .int 0, .int 0, .int 0, .int 0, .int 0, .int 0, .int 0, .int 0, .int 0, .int 0, .int 0, .int 0, .int 0, .int 0, .int 0, .int 0, .int 0, .int 0, .int 0, .int 0, .int 0, .int 0, .int 0, .int 0, .int 0, .int 0, .int 0, .int 0] := A330
  refine g_dup X330 at_489 (pc' := 490) rfl rfl ?_
  refine g_bipush X330 at_490 (pc' := 492) rfl (v := (66 : Int32)) rfl ?_
  refine g_bipush X330 at_492 (pc' := 494) rfl (v := (115 : Int32)) rfl ?_
  refine g_castore X330 (i := 66) A330 (by decide) (by show 66 < 96; decide) l259 at_494 (pc' := 495) rfl (fun T331 h331 X331 W331 A331 => ?_)
  have A331 : Arx Z h331 b259 .char [.int 114, .int 101, .int 113, .int 117, .int 101, .int 115, .int 116, .int 115, .int 32, (.int (Int32.ofNat (48 + (d1 + d2 + d3)))), .int 44, .int 32, .int 102, .int 114, .int 101, .int 115, .int 104, .int 32, .int 104, .int 105, .int 116, .int 115, .int 32, (.int (Int32.ofNat (48 + d1))), .int 44, .int 32, .int 115, .int 116, .int 97, .int 108, .int 101, .int 32, .int 104, .int 105, .int 116, .int 115, .int 32, (.int (Int32.ofNat (48 + d2))), .int 44, .int 32, .int 109, .int 105, .int 115, .int 115, .int 101, .int 115, .int 32, (.int (Int32.ofNat (48 + d3))), .int 44, .int 32, .int 115, .int 111, .int 117, .int 114, .int 99, .int 101, .int 32, .int 99, .int 97, .int 108, .int 108, .int 115, .int 32, (.int (Int32.ofNat (48 + d4))), .int 44, .int 32, .int 115, .int 0, .int 0, .int 0, .int 0, .int 0, .int 0, .int 0, .int 0, .int 0, .int 0, .int 0, .int 0, .int 0, .int 0, .int 0, .int 0, .int 0, .int 0, .int 0, .int 0, .int 0, .int 0, .int 0, .int 0, .int 0, .int 0, .int 0, .int 0, .int 0] := A331
  refine g_dup X331 at_495 (pc' := 496) rfl rfl ?_
  refine g_bipush X331 at_496 (pc' := 498) rfl (v := (67 : Int32)) rfl ?_
  refine g_bipush X331 at_498 (pc' := 500) rfl (v := (111 : Int32)) rfl ?_
  refine g_castore X331 (i := 67) A331 (by decide) (by show 67 < 96; decide) l259 at_500 (pc' := 501) rfl (fun T332 h332 X332 W332 A332 => ?_)
  have A332 : Arx Z h332 b259 .char [.int 114, .int 101, .int 113, .int 117, .int 101, .int 115, .int 116, .int 115, .int 32, (.int (Int32.ofNat (48 + (d1 + d2 + d3)))), .int 44, .int 32, .int 102, .int 114, .int 101, .int 115, .int 104, .int 32, .int 104, .int 105, .int 116, .int 115, .int 32, (.int (Int32.ofNat (48 + d1))), .int 44, .int 32, .int 115, .int 116, .int 97, .int 108, .int 101, .int 32, .int 104, .int 105, .int 116, .int 115, .int 32, (.int (Int32.ofNat (48 + d2))), .int 44, .int 32, .int 109, .int 105, .int 115, .int 115, .int 101, .int 115, .int 32, (.int (Int32.ofNat (48 + d3))), .int 44, .int 32, .int 115, .int 111, .int 117, .int 114, .int 99, .int 101, .int 32, .int 99, .int 97, .int 108, .int 108, .int 115, .int 32, (.int (Int32.ofNat (48 + d4))), .int 44, .int 32, .int 115, .int 111, .int 0, .int 0, .int 0, .int 0, .int 0, .int 0, .int 0, .int 0, .int 0, .int 0, .int 0, .int 0, .int 0, .int 0, .int 0, .int 0, .int 0, .int 0, .int 0, .int 0, .int 0, .int 0, .int 0, .int 0, .int 0, .int 0, .int 0, .int 0] := A332
  refine g_dup X332 at_501 (pc' := 502) rfl rfl ?_
  refine g_bipush X332 at_502 (pc' := 504) rfl (v := (68 : Int32)) rfl ?_
  refine g_bipush X332 at_504 (pc' := 506) rfl (v := (117 : Int32)) rfl ?_
  refine g_castore X332 (i := 68) A332 (by decide) (by show 68 < 96; decide) l259 at_506 (pc' := 507) rfl (fun T333 h333 X333 W333 A333 => ?_)
  have A333 : Arx Z h333 b259 .char [.int 114, .int 101, .int 113, .int 117, .int 101, .int 115, .int 116, .int 115, .int 32, (.int (Int32.ofNat (48 + (d1 + d2 + d3)))), .int 44, .int 32, .int 102, .int 114, .int 101, .int 115, .int 104, .int 32, .int 104, .int 105, .int 116, .int 115, .int 32, (.int (Int32.ofNat (48 + d1))), .int 44, .int 32, .int 115, .int 116, .int 97, .int 108, .int 101, .int 32, .int 104, .int 105, .int 116, .int 115, .int 32, (.int (Int32.ofNat (48 + d2))), .int 44, .int 32, .int 109, .int 105, .int 115, .int 115, .int 101, .int 115, .int 32, (.int (Int32.ofNat (48 + d3))), .int 44, .int 32, .int 115, .int 111, .int 117, .int 114, .int 99, .int 101, .int 32, .int 99, .int 97, .int 108, .int 108, .int 115, .int 32, (.int (Int32.ofNat (48 + d4))), .int 44, .int 32, .int 115, .int 111, .int 117, .int 0, .int 0, .int 0, .int 0, .int 0, .int 0, .int 0, .int 0, .int 0, .int 0, .int 0, .int 0, .int 0, .int 0, .int 0, .int 0, .int 0, .int 0, .int 0, .int 0, .int 0, .int 0, .int 0, .int 0, .int 0, .int 0, .int 0] := A333
  refine g_dup X333 at_507 (pc' := 508) rfl rfl ?_
  refine g_bipush X333 at_508 (pc' := 510) rfl (v := (69 : Int32)) rfl ?_
  refine g_bipush X333 at_510 (pc' := 512) rfl (v := (114 : Int32)) rfl ?_
  refine g_castore X333 (i := 69) A333 (by decide) (by show 69 < 96; decide) l259 at_512 (pc' := 513) rfl (fun T334 h334 X334 W334 A334 => ?_)
  have A334 : Arx Z h334 b259 .char [.int 114, .int 101, .int 113, .int 117, .int 101, .int 115, .int 116, .int 115, .int 32, (.int (Int32.ofNat (48 + (d1 + d2 + d3)))), .int 44, .int 32, .int 102, .int 114, .int 101, .int 115, .int 104, .int 32, .int 104, .int 105, .int 116, .int 115, .int 32, (.int (Int32.ofNat (48 + d1))), .int 44, .int 32, .int 115, .int 116, .int 97, .int 108, .int 101, .int 32, .int 104, .int 105, .int 116, .int 115, .int 32, (.int (Int32.ofNat (48 + d2))), .int 44, .int 32, .int 109, .int 105, .int 115, .int 115, .int 101, .int 115, .int 32, (.int (Int32.ofNat (48 + d3))), .int 44, .int 32, .int 115, .int 111, .int 117, .int 114, .int 99, .int 101, .int 32, .int 99, .int 97, .int 108, .int 108, .int 115, .int 32, (.int (Int32.ofNat (48 + d4))), .int 44, .int 32, .int 115, .int 111, .int 117, .int 114, .int 0, .int 0, .int 0, .int 0, .int 0, .int 0, .int 0, .int 0, .int 0, .int 0, .int 0, .int 0, .int 0, .int 0, .int 0, .int 0, .int 0, .int 0, .int 0, .int 0, .int 0, .int 0, .int 0, .int 0, .int 0, .int 0] := A334
  refine g_dup X334 at_513 (pc' := 514) rfl rfl ?_
  refine g_bipush X334 at_514 (pc' := 516) rfl (v := (70 : Int32)) rfl ?_
  refine g_bipush X334 at_516 (pc' := 518) rfl (v := (99 : Int32)) rfl ?_
  refine g_castore X334 (i := 70) A334 (by decide) (by show 70 < 96; decide) l259 at_518 (pc' := 519) rfl (fun T335 h335 X335 W335 A335 => ?_)
  have A335 : Arx Z h335 b259 .char [.int 114, .int 101, .int 113, .int 117, .int 101, .int 115, .int 116, .int 115, .int 32, (.int (Int32.ofNat (48 + (d1 + d2 + d3)))), .int 44, .int 32, .int 102, .int 114, .int 101, .int 115, .int 104, .int 32, .int 104, .int 105, .int 116, .int 115, .int 32, (.int (Int32.ofNat (48 + d1))), .int 44, .int 32, .int 115, .int 116, .int 97, .int 108, .int 101, .int 32, .int 104, .int 105, .int 116, .int 115, .int 32, (.int (Int32.ofNat (48 + d2))), .int 44, .int 32, .int 109, .int 105, .int 115, .int 115, .int 101, .int 115, .int 32, (.int (Int32.ofNat (48 + d3))), .int 44, .int 32, .int 115, .int 111, .int 117, .int 114, .int 99, .int 101, .int 32, .int 99, .int 97, .int 108, .int 108, .int 115, .int 32, (.int (Int32.ofNat (48 + d4))), .int 44, .int 32, .int 115, .int 111, .int 117, .int 114, .int 99, .int 0, .int 0, .int 0, .int 0, .int 0, .int 0, .int 0, .int 0, .int 0, .int 0, .int 0, .int 0, .int 0, .int 0, .int 0, .int 0, .int 0, .int 0, .int 0, .int 0, .int 0, .int 0, .int 0, .int 0, .int 0] := A335
  refine g_dup X335 at_519 (pc' := 520) rfl rfl ?_
  refine g_bipush X335 at_520 (pc' := 522) rfl (v := (71 : Int32)) rfl ?_
  refine g_bipush X335 at_522 (pc' := 524) rfl (v := (101 : Int32)) rfl ?_
  refine g_castore X335 (i := 71) A335 (by decide) (by show 71 < 96; decide) l259 at_524 (pc' := 525) rfl (fun T336 h336 X336 W336 A336 => ?_)
  have A336 : Arx Z h336 b259 .char [.int 114, .int 101, .int 113, .int 117, .int 101, .int 115, .int 116, .int 115, .int 32, (.int (Int32.ofNat (48 + (d1 + d2 + d3)))), .int 44, .int 32, .int 102, .int 114, .int 101, .int 115, .int 104, .int 32, .int 104, .int 105, .int 116, .int 115, .int 32, (.int (Int32.ofNat (48 + d1))), .int 44, .int 32, .int 115, .int 116, .int 97, .int 108, .int 101, .int 32, .int 104, .int 105, .int 116, .int 115, .int 32, (.int (Int32.ofNat (48 + d2))), .int 44, .int 32, .int 109, .int 105, .int 115, .int 115, .int 101, .int 115, .int 32, (.int (Int32.ofNat (48 + d3))), .int 44, .int 32, .int 115, .int 111, .int 117, .int 114, .int 99, .int 101, .int 32, .int 99, .int 97, .int 108, .int 108, .int 115, .int 32, (.int (Int32.ofNat (48 + d4))), .int 44, .int 32, .int 115, .int 111, .int 117, .int 114, .int 99, .int 101, .int 0, .int 0, .int 0, .int 0, .int 0, .int 0, .int 0, .int 0, .int 0, .int 0, .int 0, .int 0, .int 0, .int 0, .int 0, .int 0, .int 0, .int 0, .int 0, .int 0, .int 0, .int 0, .int 0, .int 0] := A336
  refine g_dup X336 at_525 (pc' := 526) rfl rfl ?_
  refine g_bipush X336 at_526 (pc' := 528) rfl (v := (72 : Int32)) rfl ?_
  refine g_bipush X336 at_528 (pc' := 530) rfl (v := (32 : Int32)) rfl ?_
  refine g_castore X336 (i := 72) A336 (by decide) (by show 72 < 96; decide) l259 at_530 (pc' := 531) rfl (fun T337 h337 X337 W337 A337 => ?_)
  have A337 : Arx Z h337 b259 .char [.int 114, .int 101, .int 113, .int 117, .int 101, .int 115, .int 116, .int 115, .int 32, (.int (Int32.ofNat (48 + (d1 + d2 + d3)))), .int 44, .int 32, .int 102, .int 114, .int 101, .int 115, .int 104, .int 32, .int 104, .int 105, .int 116, .int 115, .int 32, (.int (Int32.ofNat (48 + d1))), .int 44, .int 32, .int 115, .int 116, .int 97, .int 108, .int 101, .int 32, .int 104, .int 105, .int 116, .int 115, .int 32, (.int (Int32.ofNat (48 + d2))), .int 44, .int 32, .int 109, .int 105, .int 115, .int 115, .int 101, .int 115, .int 32, (.int (Int32.ofNat (48 + d3))), .int 44, .int 32, .int 115, .int 111, .int 117, .int 114, .int 99, .int 101, .int 32, .int 99, .int 97, .int 108, .int 108, .int 115, .int 32, (.int (Int32.ofNat (48 + d4))), .int 44, .int 32, .int 115, .int 111, .int 117, .int 114, .int 99, .int 101, .int 32, .int 0, .int 0, .int 0, .int 0, .int 0, .int 0, .int 0, .int 0, .int 0, .int 0, .int 0, .int 0, .int 0, .int 0, .int 0, .int 0, .int 0, .int 0, .int 0, .int 0, .int 0, .int 0, .int 0] := A337
  refine g_dup X337 at_531 (pc' := 532) rfl rfl ?_
  refine g_bipush X337 at_532 (pc' := 534) rfl (v := (73 : Int32)) rfl ?_
  refine g_bipush X337 at_534 (pc' := 536) rfl (v := (102 : Int32)) rfl ?_
  refine g_castore X337 (i := 73) A337 (by decide) (by show 73 < 96; decide) l259 at_536 (pc' := 537) rfl (fun T338 h338 X338 W338 A338 => ?_)
  have A338 : Arx Z h338 b259 .char [.int 114, .int 101, .int 113, .int 117, .int 101, .int 115, .int 116, .int 115, .int 32, (.int (Int32.ofNat (48 + (d1 + d2 + d3)))), .int 44, .int 32, .int 102, .int 114, .int 101, .int 115, .int 104, .int 32, .int 104, .int 105, .int 116, .int 115, .int 32, (.int (Int32.ofNat (48 + d1))), .int 44, .int 32, .int 115, .int 116, .int 97, .int 108, .int 101, .int 32, .int 104, .int 105, .int 116, .int 115, .int 32, (.int (Int32.ofNat (48 + d2))), .int 44, .int 32, .int 109, .int 105, .int 115, .int 115, .int 101, .int 115, .int 32, (.int (Int32.ofNat (48 + d3))), .int 44, .int 32, .int 115, .int 111, .int 117, .int 114, .int 99, .int 101, .int 32, .int 99, .int 97, .int 108, .int 108, .int 115, .int 32, (.int (Int32.ofNat (48 + d4))), .int 44, .int 32, .int 115, .int 111, .int 117, .int 114, .int 99, .int 101, .int 32, .int 102, .int 0, .int 0, .int 0, .int 0, .int 0, .int 0, .int 0, .int 0, .int 0, .int 0, .int 0, .int 0, .int 0, .int 0, .int 0, .int 0, .int 0, .int 0, .int 0, .int 0, .int 0, .int 0] := A338
  refine g_dup X338 at_537 (pc' := 538) rfl rfl ?_
  refine g_bipush X338 at_538 (pc' := 540) rfl (v := (74 : Int32)) rfl ?_
  refine g_bipush X338 at_540 (pc' := 542) rfl (v := (97 : Int32)) rfl ?_
  refine g_castore X338 (i := 74) A338 (by decide) (by show 74 < 96; decide) l259 at_542 (pc' := 543) rfl (fun T339 h339 X339 W339 A339 => ?_)
  have A339 : Arx Z h339 b259 .char [.int 114, .int 101, .int 113, .int 117, .int 101, .int 115, .int 116, .int 115, .int 32, (.int (Int32.ofNat (48 + (d1 + d2 + d3)))), .int 44, .int 32, .int 102, .int 114, .int 101, .int 115, .int 104, .int 32, .int 104, .int 105, .int 116, .int 115, .int 32, (.int (Int32.ofNat (48 + d1))), .int 44, .int 32, .int 115, .int 116, .int 97, .int 108, .int 101, .int 32, .int 104, .int 105, .int 116, .int 115, .int 32, (.int (Int32.ofNat (48 + d2))), .int 44, .int 32, .int 109, .int 105, .int 115, .int 115, .int 101, .int 115, .int 32, (.int (Int32.ofNat (48 + d3))), .int 44, .int 32, .int 115, .int 111, .int 117, .int 114, .int 99, .int 101, .int 32, .int 99, .int 97, .int 108, .int 108, .int 115, .int 32, (.int (Int32.ofNat (48 + d4))), .int 44, .int 32, .int 115, .int 111, .int 117, .int 114, .int 99, .int 101, .int 32, .int 102, .int 97, .int 0, .int 0, .int 0, .int 0, .int 0, .int 0, .int 0, .int 0, .int 0, .int 0, .int 0, .int 0, .int 0, .int 0, .int 0, .int 0, .int 0, .int 0, .int 0, .int 0, .int 0] := A339
  refine g_dup X339 at_543 (pc' := 544) rfl rfl ?_
  refine g_bipush X339 at_544 (pc' := 546) rfl (v := (75 : Int32)) rfl ?_
  refine g_bipush X339 at_546 (pc' := 548) rfl (v := (105 : Int32)) rfl ?_
  refine g_castore X339 (i := 75) A339 (by decide) (by show 75 < 96; decide) l259 at_548 (pc' := 549) rfl (fun T340 h340 X340 W340 A340 => ?_)
  have A340 : Arx Z h340 b259 .char [.int 114, .int 101, .int 113, .int 117, .int 101, .int 115, .int 116, .int 115, .int 32, (.int (Int32.ofNat (48 + (d1 + d2 + d3)))), .int 44, .int 32, .int 102, .int 114, .int 101, .int 115, .int 104, .int 32, .int 104, .int 105, .int 116, .int 115, .int 32, (.int (Int32.ofNat (48 + d1))), .int 44, .int 32, .int 115, .int 116, .int 97, .int 108, .int 101, .int 32, .int 104, .int 105, .int 116, .int 115, .int 32, (.int (Int32.ofNat (48 + d2))), .int 44, .int 32, .int 109, .int 105, .int 115, .int 115, .int 101, .int 115, .int 32, (.int (Int32.ofNat (48 + d3))), .int 44, .int 32, .int 115, .int 111, .int 117, .int 114, .int 99, .int 101, .int 32, .int 99, .int 97, .int 108, .int 108, .int 115, .int 32, (.int (Int32.ofNat (48 + d4))), .int 44, .int 32, .int 115, .int 111, .int 117, .int 114, .int 99, .int 101, .int 32, .int 102, .int 97, .int 105, .int 0, .int 0, .int 0, .int 0, .int 0, .int 0, .int 0, .int 0, .int 0, .int 0, .int 0, .int 0, .int 0, .int 0, .int 0, .int 0, .int 0, .int 0, .int 0, .int 0] := A340
  refine g_dup X340 at_549 (pc' := 550) rfl rfl ?_
  refine g_bipush X340 at_550 (pc' := 552) rfl (v := (76 : Int32)) rfl ?_
  refine g_bipush X340 at_552 (pc' := 554) rfl (v := (108 : Int32)) rfl ?_
  refine g_castore X340 (i := 76) A340 (by decide) (by show 76 < 96; decide) l259 at_554 (pc' := 555) rfl (fun T341 h341 X341 W341 A341 => ?_)
  have A341 : Arx Z h341 b259 .char [.int 114, .int 101, .int 113, .int 117, .int 101, .int 115, .int 116, .int 115, .int 32, (.int (Int32.ofNat (48 + (d1 + d2 + d3)))), .int 44, .int 32, .int 102, .int 114, .int 101, .int 115, .int 104, .int 32, .int 104, .int 105, .int 116, .int 115, .int 32, (.int (Int32.ofNat (48 + d1))), .int 44, .int 32, .int 115, .int 116, .int 97, .int 108, .int 101, .int 32, .int 104, .int 105, .int 116, .int 115, .int 32, (.int (Int32.ofNat (48 + d2))), .int 44, .int 32, .int 109, .int 105, .int 115, .int 115, .int 101, .int 115, .int 32, (.int (Int32.ofNat (48 + d3))), .int 44, .int 32, .int 115, .int 111, .int 117, .int 114, .int 99, .int 101, .int 32, .int 99, .int 97, .int 108, .int 108, .int 115, .int 32, (.int (Int32.ofNat (48 + d4))), .int 44, .int 32, .int 115, .int 111, .int 117, .int 114, .int 99, .int 101, .int 32, .int 102, .int 97, .int 105, .int 108, .int 0, .int 0, .int 0, .int 0, .int 0, .int 0, .int 0, .int 0, .int 0, .int 0, .int 0, .int 0, .int 0, .int 0, .int 0, .int 0, .int 0, .int 0, .int 0] := A341
  refine g_dup X341 at_555 (pc' := 556) rfl rfl ?_
  refine g_bipush X341 at_556 (pc' := 558) rfl (v := (77 : Int32)) rfl ?_
  refine g_bipush X341 at_558 (pc' := 560) rfl (v := (117 : Int32)) rfl ?_
  refine g_castore X341 (i := 77) A341 (by decide) (by show 77 < 96; decide) l259 at_560 (pc' := 561) rfl (fun T342 h342 X342 W342 A342 => ?_)
  have A342 : Arx Z h342 b259 .char [.int 114, .int 101, .int 113, .int 117, .int 101, .int 115, .int 116, .int 115, .int 32, (.int (Int32.ofNat (48 + (d1 + d2 + d3)))), .int 44, .int 32, .int 102, .int 114, .int 101, .int 115, .int 104, .int 32, .int 104, .int 105, .int 116, .int 115, .int 32, (.int (Int32.ofNat (48 + d1))), .int 44, .int 32, .int 115, .int 116, .int 97, .int 108, .int 101, .int 32, .int 104, .int 105, .int 116, .int 115, .int 32, (.int (Int32.ofNat (48 + d2))), .int 44, .int 32, .int 109, .int 105, .int 115, .int 115, .int 101, .int 115, .int 32, (.int (Int32.ofNat (48 + d3))), .int 44, .int 32, .int 115, .int 111, .int 117, .int 114, .int 99, .int 101, .int 32, .int 99, .int 97, .int 108, .int 108, .int 115, .int 32, (.int (Int32.ofNat (48 + d4))), .int 44, .int 32, .int 115, .int 111, .int 117, .int 114, .int 99, .int 101, .int 32, .int 102, .int 97, .int 105, .int 108, .int 117, .int 0, .int 0, .int 0, .int 0, .int 0, .int 0, .int 0, .int 0, .int 0, .int 0, .int 0, .int 0, .int 0, .int 0, .int 0, .int 0, .int 0, .int 0] := A342
  refine g_dup X342 at_561 (pc' := 562) rfl rfl ?_
  refine g_bipush X342 at_562 (pc' := 564) rfl (v := (78 : Int32)) rfl ?_
  refine g_bipush X342 at_564 (pc' := 566) rfl (v := (114 : Int32)) rfl ?_
  refine g_castore X342 (i := 78) A342 (by decide) (by show 78 < 96; decide) l259 at_566 (pc' := 567) rfl (fun T343 h343 X343 W343 A343 => ?_)
  have A343 : Arx Z h343 b259 .char [.int 114, .int 101, .int 113, .int 117, .int 101, .int 115, .int 116, .int 115, .int 32, (.int (Int32.ofNat (48 + (d1 + d2 + d3)))), .int 44, .int 32, .int 102, .int 114, .int 101, .int 115, .int 104, .int 32, .int 104, .int 105, .int 116, .int 115, .int 32, (.int (Int32.ofNat (48 + d1))), .int 44, .int 32, .int 115, .int 116, .int 97, .int 108, .int 101, .int 32, .int 104, .int 105, .int 116, .int 115, .int 32, (.int (Int32.ofNat (48 + d2))), .int 44, .int 32, .int 109, .int 105, .int 115, .int 115, .int 101, .int 115, .int 32, (.int (Int32.ofNat (48 + d3))), .int 44, .int 32, .int 115, .int 111, .int 117, .int 114, .int 99, .int 101, .int 32, .int 99, .int 97, .int 108, .int 108, .int 115, .int 32, (.int (Int32.ofNat (48 + d4))), .int 44, .int 32, .int 115, .int 111, .int 117, .int 114, .int 99, .int 101, .int 32, .int 102, .int 97, .int 105, .int 108, .int 117, .int 114, .int 0, .int 0, .int 0, .int 0, .int 0, .int 0, .int 0, .int 0, .int 0, .int 0, .int 0, .int 0, .int 0, .int 0, .int 0, .int 0, .int 0] := A343
  refine g_dup X343 at_567 (pc' := 568) rfl rfl ?_
  refine g_bipush X343 at_568 (pc' := 570) rfl (v := (79 : Int32)) rfl ?_
  refine g_bipush X343 at_570 (pc' := 572) rfl (v := (101 : Int32)) rfl ?_
  refine g_castore X343 (i := 79) A343 (by decide) (by show 79 < 96; decide) l259 at_572 (pc' := 573) rfl (fun T344 h344 X344 W344 A344 => ?_)
  have A344 : Arx Z h344 b259 .char [.int 114, .int 101, .int 113, .int 117, .int 101, .int 115, .int 116, .int 115, .int 32, (.int (Int32.ofNat (48 + (d1 + d2 + d3)))), .int 44, .int 32, .int 102, .int 114, .int 101, .int 115, .int 104, .int 32, .int 104, .int 105, .int 116, .int 115, .int 32, (.int (Int32.ofNat (48 + d1))), .int 44, .int 32, .int 115, .int 116, .int 97, .int 108, .int 101, .int 32, .int 104, .int 105, .int 116, .int 115, .int 32, (.int (Int32.ofNat (48 + d2))), .int 44, .int 32, .int 109, .int 105, .int 115, .int 115, .int 101, .int 115, .int 32, (.int (Int32.ofNat (48 + d3))), .int 44, .int 32, .int 115, .int 111, .int 117, .int 114, .int 99, .int 101, .int 32, .int 99, .int 97, .int 108, .int 108, .int 115, .int 32, (.int (Int32.ofNat (48 + d4))), .int 44, .int 32, .int 115, .int 111, .int 117, .int 114, .int 99, .int 101, .int 32, .int 102, .int 97, .int 105, .int 108, .int 117, .int 114, .int 101, .int 0, .int 0, .int 0, .int 0, .int 0, .int 0, .int 0, .int 0, .int 0, .int 0, .int 0, .int 0, .int 0, .int 0, .int 0, .int 0] := A344
  refine g_dup X344 at_573 (pc' := 574) rfl rfl ?_
  refine g_bipush X344 at_574 (pc' := 576) rfl (v := (80 : Int32)) rfl ?_
  refine g_bipush X344 at_576 (pc' := 578) rfl (v := (115 : Int32)) rfl ?_
  refine g_castore X344 (i := 80) A344 (by decide) (by show 80 < 96; decide) l259 at_578 (pc' := 579) rfl (fun T345 h345 X345 W345 A345 => ?_)
  have A345 : Arx Z h345 b259 .char [.int 114, .int 101, .int 113, .int 117, .int 101, .int 115, .int 116, .int 115, .int 32, (.int (Int32.ofNat (48 + (d1 + d2 + d3)))), .int 44, .int 32, .int 102, .int 114, .int 101, .int 115, .int 104, .int 32, .int 104, .int 105, .int 116, .int 115, .int 32, (.int (Int32.ofNat (48 + d1))), .int 44, .int 32, .int 115, .int 116, .int 97, .int 108, .int 101, .int 32, .int 104, .int 105, .int 116, .int 115, .int 32, (.int (Int32.ofNat (48 + d2))), .int 44, .int 32, .int 109, .int 105, .int 115, .int 115, .int 101, .int 115, .int 32, (.int (Int32.ofNat (48 + d3))), .int 44, .int 32, .int 115, .int 111, .int 117, .int 114, .int 99, .int 101, .int 32, .int 99, .int 97, .int 108, .int 108, .int 115, .int 32, (.int (Int32.ofNat (48 + d4))), .int 44, .int 32, .int 115, .int 111, .int 117, .int 114, .int 99, .int 101, .int 32, .int 102, .int 97, .int 105, .int 108, .int 117, .int 114, .int 101, .int 115, .int 0, .int 0, .int 0, .int 0, .int 0, .int 0, .int 0, .int 0, .int 0, .int 0, .int 0, .int 0, .int 0, .int 0, .int 0] := A345
  refine g_dup X345 at_579 (pc' := 580) rfl rfl ?_
  refine g_bipush X345 at_580 (pc' := 582) rfl (v := (81 : Int32)) rfl ?_
  refine g_bipush X345 at_582 (pc' := 584) rfl (v := (32 : Int32)) rfl ?_
  refine g_castore X345 (i := 81) A345 (by decide) (by show 81 < 96; decide) l259 at_584 (pc' := 585) rfl (fun T346 h346 X346 W346 A346 => ?_)
  have A346 : Arx Z h346 b259 .char [.int 114, .int 101, .int 113, .int 117, .int 101, .int 115, .int 116, .int 115, .int 32, (.int (Int32.ofNat (48 + (d1 + d2 + d3)))), .int 44, .int 32, .int 102, .int 114, .int 101, .int 115, .int 104, .int 32, .int 104, .int 105, .int 116, .int 115, .int 32, (.int (Int32.ofNat (48 + d1))), .int 44, .int 32, .int 115, .int 116, .int 97, .int 108, .int 101, .int 32, .int 104, .int 105, .int 116, .int 115, .int 32, (.int (Int32.ofNat (48 + d2))), .int 44, .int 32, .int 109, .int 105, .int 115, .int 115, .int 101, .int 115, .int 32, (.int (Int32.ofNat (48 + d3))), .int 44, .int 32, .int 115, .int 111, .int 117, .int 114, .int 99, .int 101, .int 32, .int 99, .int 97, .int 108, .int 108, .int 115, .int 32, (.int (Int32.ofNat (48 + d4))), .int 44, .int 32, .int 115, .int 111, .int 117, .int 114, .int 99, .int 101, .int 32, .int 102, .int 97, .int 105, .int 108, .int 117, .int 114, .int 101, .int 115, .int 32, .int 0, .int 0, .int 0, .int 0, .int 0, .int 0, .int 0, .int 0, .int 0, .int 0, .int 0, .int 0, .int 0, .int 0] := A346
  refine g_dup X346 at_585 (pc' := 586) rfl rfl ?_
  refine g_bipush X346 at_586 (pc' := 588) rfl (v := (82 : Int32)) rfl ?_
  refine g_lload X346 at_588 (pc' := 590) rfl rfl ?_
  refine g_ncallS X346 (y := (⟨"com/example/freshet/freshet/CacheCountsToStringPinLaw", "d", "(J)C"⟩ : MethodName)) [(.long (Int64.ofNat d5))] (hw _ m4) (hw _ m5) (hw _ m6) (hw _ m7) (hw _ m6) (Nar.rm1 l Z a0 hw d5 h346 n0 X346.old hd5) (by decide) (by decide) (by decide) (by decide) (by decide) rfl pd_26 rfl (rest := [(.int (82 : Int32)), (.ref b259), (.ref b259)]) rfl (W := 3) rfl at_590 (pc' := 593) rfl ?_
  rintro _ T347 _ _ Y347 ⟨rfl, rfl, rfl⟩
  have X347 := Y347 X346.old (Fr.nil _) (Nat.le_refl _)
  show Go p e below _ (State.setTop _ (mkF m 593 #[.val (.long x1), .second, .val (.long x2), .second, .val (.long x3), .second, .val (.long x4), .second, .val (.long x5), .second, .val (.long x6), .second, .val (.long (Int64.ofNat d1)), .second, .val (.long (Int64.ofNat d2)), .second, .val (.long (Int64.ofNat d3)), .second, .val (.long (Int64.ofNat d4)), .second, .val (.long (Int64.ofNat d5)), .second, .val (.long (Int64.ofNat d6)), .second, .val (.long (Int64.ofNat (d1 + d2 + d3))), .second, .unset, .unset, .unset] [(.int (Int32.ofNat (48 + d5))), (.int (82 : Int32)), (.ref b259), (.ref b259)]))
  refine g_castore X347 (i := 82) A346 (by decide) (by show 82 < 96; decide) l259 at_593 (pc' := 594) rfl (fun T348 h348 X348 W348 A348 => ?_)
  rw [Nar.own_ncd hd5] at A348
  have A348 : Arx Z h348 b259 .char [.int 114, .int 101, .int 113, .int 117, .int 101, .int 115, .int 116, .int 115, .int 32, (.int (Int32.ofNat (48 + (d1 + d2 + d3)))), .int 44, .int 32, .int 102, .int 114, .int 101, .int 115, .int 104, .int 32, .int 104, .int 105, .int 116, .int 115, .int 32, (.int (Int32.ofNat (48 + d1))), .int 44, .int 32, .int 115, .int 116, .int 97, .int 108, .int 101, .int 32, .int 104, .int 105, .int 116, .int 115, .int 32, (.int (Int32.ofNat (48 + d2))), .int 44, .int 32, .int 109, .int 105, .int 115, .int 115, .int 101, .int 115, .int 32, (.int (Int32.ofNat (48 + d3))), .int 44, .int 32, .int 115, .int 111, .int 117, .int 114, .int 99, .int 101, .int 32, .int 99, .int 97, .int 108, .int 108, .int 115, .int 32, (.int (Int32.ofNat (48 + d4))), .int 44, .int 32, .int 115, .int 111, .int 117, .int 114, .int 99, .int 101, .int 32, .int 102, .int 97, .int 105, .int 108, .int 117, .int 114, .int 101, .int 115, .int 32, (.int (Int32.ofNat (48 + d5))), .int 0, .int 0, .int 0, .int 0, .int 0, .int 0, .int 0, .int 0, .int 0, .int 0, .int 0, .int 0, .int 0] := A348
  refine g_dup X348 at_594 (pc' := 595) rfl rfl ?_
  refine g_bipush X348 at_595 (pc' := 597) rfl (v := (83 : Int32)) rfl ?_
  refine g_bipush X348 at_597 (pc' := 599) rfl (v := (44 : Int32)) rfl ?_
  refine g_castore X348 (i := 83) A348 (by decide) (by show 83 < 96; decide) l259 at_599 (pc' := 600) rfl (fun T349 h349 X349 W349 A349 => ?_)
  have A349 : Arx Z h349 b259 .char [.int 114, .int 101, .int 113, .int 117, .int 101, .int 115, .int 116, .int 115, .int 32, (.int (Int32.ofNat (48 + (d1 + d2 + d3)))), .int 44, .int 32, .int 102, .int 114, .int 101, .int 115, .int 104, .int 32, .int 104, .int 105, .int 116, .int 115, .int 32, (.int (Int32.ofNat (48 + d1))), .int 44, .int 32, .int 115, .int 116, .int 97, .int 108, .int 101, .int 32, .int 104, .int 105, .int 116, .int 115, .int 32, (.int (Int32.ofNat (48 + d2))), .int 44, .int 32, .int 109, .int 105, .int 115, .int 115, .int 101, .int 115, .int 32, (.int (Int32.ofNat (48 + d3))), .int 44, .int 32, .int 115, .int 111, .int 117, .int 114, .int 99, .int 101, .int 32, .int 99, .int 97, .int 108, .int 108, .int 115, .int 32, (.int (Int32.ofNat (48 + d4))), .int 44, .int 32, .int 115, .int 111, .int 117, .int 114, .int 99, .int 101, .int 32, .int 102, .int 97, .int 105, .int 108, .int 117, .int 114, .int 101, .int 115, .int 32, (.int (Int32.ofNat (48 + d5))), .int 44, .int 0, .int 0, .int 0, .int 0, .int 0, .int 0, .int 0, .int 0, .int 0, .int 0, .int 0, .int 0] := A349
  refine g_dup X349 at_600 (pc' := 601) rfl rfl ?_
  refine g_bipush X349 at_601 (pc' := 603) rfl (v := (84 : Int32)) rfl ?_
  refine g_bipush X349 at_603 (pc' := 605) rfl (v := (32 : Int32)) rfl ?_
  refine g_castore X349 (i := 84) A349 (by decide) (by show 84 < 96; decide) l259 at_605 (pc' := 606) rfl (fun T350 h350 X350 W350 A350 => ?_)
  have A350 : Arx Z h350 b259 .char [.int 114, .int 101, .int 113, .int 117, .int 101, .int 115, .int 116, .int 115, .int 32, (.int (Int32.ofNat (48 + (d1 + d2 + d3)))), .int 44, .int 32, .int 102, .int 114, .int 101, .int 115, .int 104, .int 32, .int 104, .int 105, .int 116, .int 115, .int 32, (.int (Int32.ofNat (48 + d1))), .int 44, .int 32, .int 115, .int 116, .int 97, .int 108, .int 101, .int 32, .int 104, .int 105, .int 116, .int 115, .int 32, (.int (Int32.ofNat (48 + d2))), .int 44, .int 32, .int 109, .int 105, .int 115, .int 115, .int 101, .int 115, .int 32, (.int (Int32.ofNat (48 + d3))), .int 44, .int 32, .int 115, .int 111, .int 117, .int 114, .int 99, .int 101, .int 32, .int 99, .int 97, .int 108, .int 108, .int 115, .int 32, (.int (Int32.ofNat (48 + d4))), .int 44, .int 32, .int 115, .int 111, .int 117, .int 114, .int 99, .int 101, .int 32, .int 102, .int 97, .int 105, .int 108, .int 117, .int 114, .int 101, .int 115, .int 32, (.int (Int32.ofNat (48 + d5))), .int 44, .int 32, .int 0, .int 0, .int 0, .int 0, .int 0, .int 0, .int 0, .int 0, .int 0, .int 0, .int 0] := A350
  refine g_dup X350 at_606 (pc' := 607) rfl rfl ?_
  refine g_bipush X350 at_607 (pc' := 609) rfl (v := (85 : Int32)) rfl ?_
  refine g_bipush X350 at_609 (pc' := 611) rfl (v := (101 : Int32)) rfl ?_
  refine g_castore X350 (i := 85) A350 (by decide) (by show 85 < 96; decide) l259 at_611 (pc' := 612) rfl (fun T351 h351 X351 W351 A351 => ?_)
  have A351 : Arx Z h351 b259 .char [.int 114, .int 101, .int 113, .int 117, .int 101, .int 115, .int 116, .int 115, .int 32, (.int (Int32.ofNat (48 + (d1 + d2 + d3)))), .int 44, .int 32, .int 102, .int 114, .int 101, .int 115, .int 104, .int 32, .int 104, .int 105, .int 116, .int 115, .int 32, (.int (Int32.ofNat (48 + d1))), .int 44, .int 32, .int 115, .int 116, .int 97, .int 108, .int 101, .int 32, .int 104, .int 105, .int 116, .int 115, .int 32, (.int (Int32.ofNat (48 + d2))), .int 44, .int 32, .int 109, .int 105, .int 115, .int 115, .int 101, .int 115, .int 32, (.int (Int32.ofNat (48 + d3))), .int 44, .int 32, .int 115, .int 111, .int 117, .int 114, .int 99, .int 101, .int 32, .int 99, .int 97, .int 108, .int 108, .int 115, .int 32, (.int (Int32.ofNat (48 + d4))), .int 44, .int 32, .int 115, .int 111, .int 117, .int 114, .int 99, .int 101, .int 32, .int 102, .int 97, .int 105, .int 108, .int 117, .int 114, .int 101, .int 115, .int 32, (.int (Int32.ofNat (48 + d5))), .int 44, .int 32, .int 101, .int 0, .int 0, .int 0, .int 0, .int 0, .int 0, .int 0, .int 0, .int 0, .int 0] := A351
  refine g_dup X351 at_612 (pc' := 613) rfl rfl ?_
  refine g_bipush X351 at_613 (pc' := 615) rfl (v := (86 : Int32)) rfl ?_
  refine g_bipush X351 at_615 (pc' := 617) rfl (v := (118 : Int32)) rfl ?_
  refine g_castore X351 (i := 86) A351 (by decide) (by show 86 < 96; decide) l259 at_617 (pc' := 618) rfl (fun T352 h352 X352 W352 A352 => ?_)
  have A352 : Arx Z h352 b259 .char [.int 114, .int 101, .int 113, .int 117, .int 101, .int 115, .int 116, .int 115, .int 32, (.int (Int32.ofNat (48 + (d1 + d2 + d3)))), .int 44, .int 32, .int 102, .int 114, .int 101, .int 115, .int 104, .int 32, .int 104, .int 105, .int 116, .int 115, .int 32, (.int (Int32.ofNat (48 + d1))), .int 44, .int 32, .int 115, .int 116, .int 97, .int 108, .int 101, .int 32, .int 104, .int 105, .int 116, .int 115, .int 32, (.int (Int32.ofNat (48 + d2))), .int 44, .int 32, .int 109, .int 105, .int 115, .int 115, .int 101, .int 115, .int 32, (.int (Int32.ofNat (48 + d3))), .int 44, .int 32, .int 115, .int 111, .int 117, .int 114, .int 99, .int 101, .int 32, .int 99, .int 97, .int 108, .int 108, .int 115, .int 32, (.int (Int32.ofNat (48 + d4))), .int 44, .int 32, .int 115, .int 111, .int 117, .int 114, .int 99, .int 101, .int 32, .int 102, .int 97, .int 105, .int 108, .int 117, .int 114, .int 101, .int 115, .int 32, (.int (Int32.ofNat (48 + d5))), .int 44, .int 32, .int 101, .int 118, .int 0, .int 0, .int 0, .int 0, .int 0, .int 0, .int 0, .int 0, .int 0] := A352
  refine g_dup X352 at_618 (pc' := 619) rfl rfl ?_
  refine g_bipush X352 at_619 (pc' := 621) rfl (v := (87 : Int32)) rfl ?_
  refine g_bipush X352 at_621 (pc' := 623) rfl (v := (105 : Int32)) rfl ?_
  refine g_castore X352 (i := 87) A352 (by decide) (by show 87 < 96; decide) l259 at_623 (pc' := 624) rfl (fun T353 h353 X353 W353 A353 => ?_)
  have A353 : Arx Z h353 b259 .char [.int 114, .int 101, .int 113, .int 117, .int 101, .int 115, .int 116, .int 115, .int 32, (.int (Int32.ofNat (48 + (d1 + d2 + d3)))), .int 44, .int 32, .int 102, .int 114, .int 101, .int 115, .int 104, .int 32, .int 104, .int 105, .int 116, .int 115, .int 32, (.int (Int32.ofNat (48 + d1))), .int 44, .int 32, .int 115, .int 116, .int 97, .int 108, .int 101, .int 32, .int 104, .int 105, .int 116, .int 115, .int 32, (.int (Int32.ofNat (48 + d2))), .int 44, .int 32, .int 109, .int 105, .int 115, .int 115, .int 101, .int 115, .int 32, (.int (Int32.ofNat (48 + d3))), .int 44, .int 32, .int 115, .int 111, .int 117, .int 114, .int 99, .int 101, .int 32, .int 99, .int 97, .int 108, .int 108, .int 115, .int 32, (.int (Int32.ofNat (48 + d4))), .int 44, .int 32, .int 115, .int 111, .int 117, .int 114, .int 99, .int 101, .int 32, .int 102, .int 97, .int 105, .int 108, .int 117, .int 114, .int 101, .int 115, .int 32, (.int (Int32.ofNat (48 + d5))), .int 44, .int 32, .int 101, .int 118, .int 105, .int 0, .int 0, .int 0, .int 0, .int 0, .int 0, .int 0, .int 0] := A353
  refine g_dup X353 at_624 (pc' := 625) rfl rfl ?_
  refine g_bipush X353 at_625 (pc' := 627) rfl (v := (88 : Int32)) rfl ?_
  refine g_bipush X353 at_627 (pc' := 629) rfl (v := (99 : Int32)) rfl ?_
  refine g_castore X353 (i := 88) A353 (by decide) (by show 88 < 96; decide) l259 at_629 (pc' := 630) rfl (fun T354 h354 X354 W354 A354 => ?_)
  have A354 : Arx Z h354 b259 .char [.int 114, .int 101, .int 113, .int 117, .int 101, .int 115, .int 116, .int 115, .int 32, (.int (Int32.ofNat (48 + (d1 + d2 + d3)))), .int 44, .int 32, .int 102, .int 114, .int 101, .int 115, .int 104, .int 32, .int 104, .int 105, .int 116, .int 115, .int 32, (.int (Int32.ofNat (48 + d1))), .int 44, .int 32, .int 115, .int 116, .int 97, .int 108, .int 101, .int 32, .int 104, .int 105, .int 116, .int 115, .int 32, (.int (Int32.ofNat (48 + d2))), .int 44, .int 32, .int 109, .int 105, .int 115, .int 115, .int 101, .int 115, .int 32, (.int (Int32.ofNat (48 + d3))), .int 44, .int 32, .int 115, .int 111, .int 117, .int 114, .int 99, .int 101, .int 32, .int 99, .int 97, .int 108, .int 108, .int 115, .int 32, (.int (Int32.ofNat (48 + d4))), .int 44, .int 32, .int 115, .int 111, .int 117, .int 114, .int 99, .int 101, .int 32, .int 102, .int 97, .int 105, .int 108, .int 117, .int 114, .int 101, .int 115, .int 32, (.int (Int32.ofNat (48 + d5))), .int 44, .int 32, .int 101, .int 118, .int 105, .int 99, .int 0, .int 0, .int 0, .int 0, .int 0, .int 0, .int 0] := A354
  refine g_dup X354 at_630 (pc' := 631) rfl rfl ?_
  refine g_bipush X354 at_631 (pc' := 633) rfl (v := (89 : Int32)) rfl ?_
  refine g_bipush X354 at_633 (pc' := 635) rfl (v := (116 : Int32)) rfl ?_
  refine g_castore X354 (i := 89) A354 (by decide) (by show 89 < 96; decide) l259 at_635 (pc' := 636) rfl (fun T355 h355 X355 W355 A355 => ?_)
  have A355 : Arx Z h355 b259 .char [.int 114, .int 101, .int 113, .int 117, .int 101, .int 115, .int 116, .int 115, .int 32, (.int (Int32.ofNat (48 + (d1 + d2 + d3)))), .int 44, .int 32, .int 102, .int 114, .int 101, .int 115, .int 104, .int 32, .int 104, .int 105, .int 116, .int 115, .int 32, (.int (Int32.ofNat (48 + d1))), .int 44, .int 32, .int 115, .int 116, .int 97, .int 108, .int 101, .int 32, .int 104, .int 105, .int 116, .int 115, .int 32, (.int (Int32.ofNat (48 + d2))), .int 44, .int 32, .int 109, .int 105, .int 115, .int 115, .int 101, .int 115, .int 32, (.int (Int32.ofNat (48 + d3))), .int 44, .int 32, .int 115, .int 111, .int 117, .int 114, .int 99, .int 101, .int 32, .int 99, .int 97, .int 108, .int 108, .int 115, .int 32, (.int (Int32.ofNat (48 + d4))), .int 44, .int 32, .int 115, .int 111, .int 117, .int 114, .int 99, .int 101, .int 32, .int 102, .int 97, .int 105, .int 108, .int 117, .int 114, .int 101, .int 115, .int 32, (.int (Int32.ofNat (48 + d5))), .int 44, .int 32, .int 101, .int 118, .int 105, .int 99, .int 116, .int 0, .int 0, .int 0, .int 0, .int 0, .int 0] := A355
  refine g_dup X355 at_636 (pc' := 637) rfl rfl ?_
  refine g_bipush X355 at_637 (pc' := 639) rfl (v := (90 : Int32)) rfl ?_
  refine g_bipush X355 at_639 (pc' := 641) rfl (v := (105 : Int32)) rfl ?_
  refine g_castore X355 (i := 90) A355 (by decide) (by show 90 < 96; decide) l259 at_641 (pc' := 642) rfl (fun T356 h356 X356 W356 A356 => ?_)
  have A356 : Arx Z h356 b259 .char [.int 114, .int 101, .int 113, .int 117, .int 101, .int 115, .int 116, .int 115, .int 32, (.int (Int32.ofNat (48 + (d1 + d2 + d3)))), .int 44, .int 32, .int 102, .int 114, .int 101, .int 115, .int 104, .int 32, .int 104, .int 105, .int 116, .int 115, .int 32, (.int (Int32.ofNat (48 + d1))), .int 44, .int 32, .int 115, .int 116, .int 97, .int 108, .int 101, .int 32, .int 104, .int 105, .int 116, .int 115, .int 32, (.int (Int32.ofNat (48 + d2))), .int 44, .int 32, .int 109, .int 105, .int 115, .int 115, .int 101, .int 115, .int 32, (.int (Int32.ofNat (48 + d3))), .int 44, .int 32, .int 115, .int 111, .int 117, .int 114, .int 99, .int 101, .int 32, .int 99, .int 97, .int 108, .int 108, .int 115, .int 32, (.int (Int32.ofNat (48 + d4))), .int 44, .int 32, .int 115, .int 111, .int 117, .int 114, .int 99, .int 101, .int 32, .int 102, .int 97, .int 105, .int 108, .int 117, .int 114, .int 101, .int 115, .int 32, (.int (Int32.ofNat (48 + d5))), .int 44, .int 32, .int 101, .int 118, .int 105, .int 99, .int 116, .int 105, .int 0, .int 0, .int 0, .int 0, .int 0] := A356
  refine g_dup X356 at_642 (pc' := 643) rfl rfl ?_
  refine g_bipush X356 at_643 (pc' := 645) rfl (v := (91 : Int32)) rfl ?_
  refine g_bipush X356 at_645 (pc' := 647) rfl (v := (111 : Int32)) rfl ?_
  refine g_castore X356 (i := 91) A356 (by decide) (by show 91 < 96; decide) l259 at_647 (pc' := 648) rfl (fun T357 h357 X357 W357 A357 => ?_)
  have A357 : Arx Z h357 b259 .char [.int 114, .int 101, .int 113, .int 117, .int 101, .int 115, .int 116, .int 115, .int 32, (.int (Int32.ofNat (48 + (d1 + d2 + d3)))), .int 44, .int 32, .int 102, .int 114, .int 101, .int 115, .int 104, .int 32, .int 104, .int 105, .int 116, .int 115, .int 32, (.int (Int32.ofNat (48 + d1))), .int 44, .int 32, .int 115, .int 116, .int 97, .int 108, .int 101, .int 32, .int 104, .int 105, .int 116, .int 115, .int 32, (.int (Int32.ofNat (48 + d2))), .int 44, .int 32, .int 109, .int 105, .int 115, .int 115, .int 101, .int 115, .int 32, (.int (Int32.ofNat (48 + d3))), .int 44, .int 32, .int 115, .int 111, .int 117, .int 114, .int 99, .int 101, .int 32, .int 99, .int 97, .int 108, .int 108, .int 115, .int 32, (.int (Int32.ofNat (48 + d4))), .int 44, .int 32, .int 115, .int 111, .int 117, .int 114, .int 99, .int 101, .int 32, .int 102, .int 97, .int 105, .int 108, .int 117, .int 114, .int 101, .int 115, .int 32, (.int (Int32.ofNat (48 + d5))), .int 44, .int 32, .int 101, .int 118, .int 105, .int 99, .int 116, .int 105, .int 111, .int 0, .int 0, .int 0, .int 0] := A357
  refine g_dup X357 at_648 (pc' := 649) rfl rfl ?_
  refine g_bipush X357 at_649 (pc' := 651) rfl (v := (92 : Int32)) rfl ?_
  refine g_bipush X357 at_651 (pc' := 653) rfl (v := (110 : Int32)) rfl ?_
  refine g_castore X357 (i := 92) A357 (by decide) (by show 92 < 96; decide) l259 at_653 (pc' := 654) rfl (fun T358 h358 X358 W358 A358 => ?_)
  have A358 : Arx Z h358 b259 .char [.int 114, .int 101, .int 113, .int 117, .int 101, .int 115, .int 116, .int 115, .int 32, (.int (Int32.ofNat (48 + (d1 + d2 + d3)))), .int 44, .int 32, .int 102, .int 114, .int 101, .int 115, .int 104, .int 32, .int 104, .int 105, .int 116, .int 115, .int 32, (.int (Int32.ofNat (48 + d1))), .int 44, .int 32, .int 115, .int 116, .int 97, .int 108, .int 101, .int 32, .int 104, .int 105, .int 116, .int 115, .int 32, (.int (Int32.ofNat (48 + d2))), .int 44, .int 32, .int 109, .int 105, .int 115, .int 115, .int 101, .int 115, .int 32, (.int (Int32.ofNat (48 + d3))), .int 44, .int 32, .int 115, .int 111, .int 117, .int 114, .int 99, .int 101, .int 32, .int 99, .int 97, .int 108, .int 108, .int 115, .int 32, (.int (Int32.ofNat (48 + d4))), .int 44, .int 32, .int 115, .int 111, .int 117, .int 114, .int 99, .int 101, .int 32, .int 102, .int 97, .int 105, .int 108, .int 117, .int 114, .int 101, .int 115, .int 32, (.int (Int32.ofNat (48 + d5))), .int 44, .int 32, .int 101, .int 118, .int 105, .int 99, .int 116, .int 105, .int 111, .int 110, .int 0, .int 0, .int 0] := A358
  refine g_dup X358 at_654 (pc' := 655) rfl rfl ?_
  refine g_bipush X358 at_655 (pc' := 657) rfl (v := (93 : Int32)) rfl ?_
  refine g_bipush X358 at_657 (pc' := 659) rfl (v := (115 : Int32)) rfl ?_
  refine g_castore X358 (i := 93) A358 (by decide) (by show 93 < 96; decide) l259 at_659 (pc' := 660) rfl (fun T359 h359 X359 W359 A359 => ?_)
  have A359 : Arx Z h359 b259 .char [.int 114, .int 101, .int 113, .int 117, .int 101, .int 115, .int 116, .int 115, .int 32, (.int (Int32.ofNat (48 + (d1 + d2 + d3)))), .int 44, .int 32, .int 102, .int 114, .int 101, .int 115, .int 104, .int 32, .int 104, .int 105, .int 116, .int 115, .int 32, (.int (Int32.ofNat (48 + d1))), .int 44, .int 32, .int 115, .int 116, .int 97, .int 108, .int 101, .int 32, .int 104, .int 105, .int 116, .int 115, .int 32, (.int (Int32.ofNat (48 + d2))), .int 44, .int 32, .int 109, .int 105, .int 115, .int 115, .int 101, .int 115, .int 32, (.int (Int32.ofNat (48 + d3))), .int 44, .int 32, .int 115, .int 111, .int 117, .int 114, .int 99, .int 101, .int 32, .int 99, .int 97, .int 108, .int 108, .int 115, .int 32, (.int (Int32.ofNat (48 + d4))), .int 44, .int 32, .int 115, .int 111, .int 117, .int 114, .int 99, .int 101, .int 32, .int 102, .int 97, .int 105, .int 108, .int 117, .int 114, .int 101, .int 115, .int 32, (.int (Int32.ofNat (48 + d5))), .int 44, .int 32, .int 101, .int 118, .int 105, .int 99, .int 116, .int 105, .int 111, .int 110, .int 115, .int 0, .int 0] := A359
  refine g_dup X359 at_660 (pc' := 661) rfl rfl ?_
  refine g_bipush X359 at_661 (pc' := 663) rfl (v := (94 : Int32)) rfl ?_
  refine g_bipush X359 at_663 (pc' := 665) rfl (v := (32 : Int32)) rfl ?_
  refine g_castore X359 (i := 94) A359 (by decide) (by show 94 < 96; decide) l259 at_665 (pc' := 666) rfl (fun T360 h360 X360 W360 A360 => ?_)
  have A360 : Arx Z h360 b259 .char [.int 114, .int 101, .int 113, .int 117, .int 101, .int 115, .int 116, .int 115, .int 32, (.int (Int32.ofNat (48 + (d1 + d2 + d3)))), .int 44, .int 32, .int 102, .int 114, .int 101, .int 115, .int 104, .int 32, .int 104, .int 105, .int 116, .int 115, .int 32, (.int (Int32.ofNat (48 + d1))), .int 44, .int 32, .int 115, .int 116, .int 97, .int 108, .int 101, .int 32, .int 104, .int 105, .int 116, .int 115, .int 32, (.int (Int32.ofNat (48 + d2))), .int 44, .int 32, .int 109, .int 105, .int 115, .int 115, .int 101, .int 115, .int 32, (.int (Int32.ofNat (48 + d3))), .int 44, .int 32, .int 115, .int 111, .int 117, .int 114, .int 99, .int 101, .int 32, .int 99, .int 97, .int 108, .int 108, .int 115, .int 32, (.int (Int32.ofNat (48 + d4))), .int 44, .int 32, .int 115, .int 111, .int 117, .int 114, .int 99, .int 101, .int 32, .int 102, .int 97, .int 105, .int 108, .int 117, .int 114, .int 101, .int 115, .int 32, (.int (Int32.ofNat (48 + d5))), .int 44, .int 32, .int 101, .int 118, .int 105, .int 99, .int 116, .int 105, .int 111, .int 110, .int 115, .int 32, .int 0] := A360
  refine g_dup X360 at_666 (pc' := 667) rfl rfl ?_
  refine g_bipush X360 at_667 (pc' := 669) rfl (v := (95 : Int32)) rfl ?_
  refine g_lload X360 at_669 (pc' := 671) rfl rfl ?_
  refine g_ncallS X360 (y := (⟨"com/example/freshet/freshet/CacheCountsToStringPinLaw", "d", "(J)C"⟩ : MethodName)) [(.long (Int64.ofNat d6))] (hw _ m4) (hw _ m5) (hw _ m6) (hw _ m7) (hw _ m6) (Nar.rm1 l Z a0 hw d6 h360 n0 X360.old hd6) (by decide) (by decide) (by decide) (by decide) (by decide) rfl pd_26 rfl (rest := [(.int (95 : Int32)), (.ref b259), (.ref b259)]) rfl (W := 3) rfl at_671 (pc' := 674) rfl ?_
  rintro _ T361 _ _ Y361 ⟨rfl, rfl, rfl⟩
  have X361 := Y361 X360.old (Fr.nil _) (Nat.le_refl _)
  show Go p e below _ (State.setTop _ (mkF m 674 #[.val (.long x1), .second, .val (.long x2), .second, .val (.long x3), .second, .val (.long x4), .second, .val (.long x5), .second, .val (.long x6), .second, .val (.long (Int64.ofNat d1)), .second, .val (.long (Int64.ofNat d2)), .second, .val (.long (Int64.ofNat d3)), .second, .val (.long (Int64.ofNat d4)), .second, .val (.long (Int64.ofNat d5)), .second, .val (.long (Int64.ofNat d6)), .second, .val (.long (Int64.ofNat (d1 + d2 + d3))), .second, .unset, .unset, .unset] [(.int (Int32.ofNat (48 + d6))), (.int (95 : Int32)), (.ref b259), (.ref b259)]))
  refine g_castore X361 (i := 95) A360 (by decide) (by show 95 < 96; decide) l259 at_674 (pc' := 675) rfl (fun T362 h362 X362 W362 A362 => ?_)
  rw [Nar.own_ncd hd6] at A362
  have A362 : Arx Z h362 b259 .char [.int 114, .int 101, .int 113, .int 117, .int 101, .int 115, .int 116, .int 115, .int 32, (.int (Int32.ofNat (48 + (d1 + d2 + d3)))), .int 44, .int 32, .int 102, .int 114, .int 101, .int 115, .int 104, .int 32, .int 104, .int 105, .int 116, .int 115, .int 32, (.int (Int32.ofNat (48 + d1))), .int 44, .int 32, .int 115, .int 116, .int 97, .int 108, .int 101, .int 32, .int 104, .int 105, .int 116, .int 115, .int 32, (.int (Int32.ofNat (48 + d2))), .int 44, .int 32, .int 109, .int 105, .int 115, .int 115, .int 101, .int 115, .int 32, (.int (Int32.ofNat (48 + d3))), .int 44, .int 32, .int 115, .int 111, .int 117, .int 114, .int 99, .int 101, .int 32, .int 99, .int 97, .int 108, .int 108, .int 115, .int 32, (.int (Int32.ofNat (48 + d4))), .int 44, .int 32, .int 115, .int 111, .int 117, .int 114, .int 99, .int 101, .int 32, .int 102, .int 97, .int 105, .int 108, .int 117, .int 114, .int 101, .int 115, .int 32, (.int (Int32.ofNat (48 + d5))), .int 44, .int 32, .int 101, .int 118, .int 105, .int 99, .int 116, .int 105, .int 111, .int 110, .int 115, .int 32, (.int (Int32.ofNat (48 + d6)))] := A362
  refine g_astore X362 at_675 (pc' := 677) rfl rfl (L' := #[.val (.long x1), .second, .val (.long x2), .second, .val (.long x3), .second, .val (.long x4), .second, .val (.long x5), .second, .val (.long x6), .second, .val (.long (Int64.ofNat d1)), .second, .val (.long (Int64.ofNat d2)), .second, .val (.long (Int64.ofNat d3)), .second, .val (.long (Int64.ofNat d4)), .second, .val (.long (Int64.ofNat d5)), .second, .val (.long (Int64.ofNat d6)), .second, .val (.long (Int64.ofNat (d1 + d2 + d3))), .second, .val (.ref b259), .unset, .unset]) rfl ?_
  refine g_new X362 (hw _ m8) (hw _ m9) (hw _ m10) at_677 (pc' := 680) rfl (by decide) (by decide) (fun T363 h363 b363 X363 g363 E363 A363 D363 l363 => ?_)
  have ne364 : b259 ≠ b363 := ne_new A362.lt g363
  have F363_freshHits : Fld Z h363 b363 "com/example/freshet/freshet/CacheCounts" "freshHits" "J" (.long (0 : Int64)) := D363 (Or.inr (hw _ m18)) (ty := .long) (by decide)
  have F363_staleHits : Fld Z h363 b363 "com/example/freshet/freshet/CacheCounts" "staleHits" "J" (.long (0 : Int64)) := D363 (Or.inr (hw _ m20)) (ty := .long) (by decide)
  have F363_misses : Fld Z h363 b363 "com/example/freshet/freshet/CacheCounts" "misses" "J" (.long (0 : Int64)) := D363 (Or.inr (hw _ m22)) (ty := .long) (by decide)
  have F363_sourceCalls : Fld Z h363 b363 "com/example/freshet/freshet/CacheCounts" "sourceCalls" "J" (.long (0 : Int64)) := D363 (Or.inr (hw _ m24)) (ty := .long) (by decide)
  have F363_sourceFailures : Fld Z h363 b363 "com/example/freshet/freshet/CacheCounts" "sourceFailures" "J" (.long (0 : Int64)) := D363 (Or.inr (hw _ m26)) (ty := .long) (by decide)
  have F363_evictions : Fld Z h363 b363 "com/example/freshet/freshet/CacheCounts" "evictions" "J" (.long (0 : Int64)) := D363 (Or.inr (hw _ m28)) (ty := .long) (by decide)
  refine g_dup X363 at_680 (pc' := 681) rfl rfl ?_
  refine g_lload X363 at_681 (pc' := 683) rfl rfl ?_
  refine g_lload X363 at_683 (pc' := 685) rfl rfl ?_
  refine g_lload X363 at_685 (pc' := 687) rfl rfl ?_
  refine g_lload X363 at_687 (pc' := 689) rfl rfl ?_
  refine g_lload X363 at_689 (pc' := 691) rfl rfl ?_
  refine g_lload X363 at_691 (pc' := 693) rfl rfl ?_
  refine g_ncallI X363 (y := (⟨"com/example/freshet/freshet/CacheCounts", "<init>", "(JJJJJJ)V"⟩ : MethodName)) (a := b363) [(.long (Int64.ofNat d1)), (.long (Int64.ofNat d2)), (.long (Int64.ofNat d3)), (.long (Int64.ofNat d4)), (.long (Int64.ofNat d5)), (.long (Int64.ofNat d6))] rfl (hw _ m11) (hw _ m12) rfl (hw _ m13) (hw _ m10) (Nar.rm2 l Z a0 hw b363 (Int64.ofNat d1) (Int64.ofNat d2) (Int64.ofNat d3) (Int64.ofNat d4) (Int64.ofNat d5) (Int64.ofNat d6)  h363 n0 X363.old A363 l363 F363_freshHits F363_staleHits F363_misses F363_sourceCalls F363_sourceFailures F363_evictions) (by decide) (by decide) (by decide) (by decide) (by decide) rfl pd_27 rfl (rest := [(.ref b363)]) rfl (W := 1) rfl at_693 (pc' := 696) rfl ?_
  rintro _ T365 h365 L365 Y365 ⟨rfl, N365, K365, F365_freshHits, F365_staleHits, F365_misses, F365_sourceCalls, F365_sourceFailures, F365_evictions⟩
  have X365 := Y365 (X363.old.keep K365 (allS l363 all0)) N365 K365.1
  show Go p e below _ (State.setTop _ (mkF m 696 #[.val (.long x1), .second, .val (.long x2), .second, .val (.long x3), .second, .val (.long x4), .second, .val (.long x5), .second, .val (.long x6), .second, .val (.long (Int64.ofNat d1)), .second, .val (.long (Int64.ofNat d2)), .second, .val (.long (Int64.ofNat d3)), .second, .val (.long (Int64.ofNat d4)), .second, .val (.long (Int64.ofNat d5)), .second, .val (.long (Int64.ofNat d6)), .second, .val (.long (Int64.ofNat (d1 + d2 + d3))), .second, .val (.ref b259), .unset, .unset] [(.ref b363)]))
  refine g_astore X365 at_696 (pc' := 698) rfl rfl (L' := #[.val (.long x1), .second, .val (.long x2), .second, .val (.long x3), .second, .val (.long x4), .second, .val (.long x5), .second, .val (.long x6), .second, .val (.long (Int64.ofNat d1)), .second, .val (.long (Int64.ofNat d2)), .second, .val (.long (Int64.ofNat d3)), .second, .val (.long (Int64.ofNat d4)), .second, .val (.long (Int64.ofNat d5)), .second, .val (.long (Int64.ofNat d6)), .second, .val (.long (Int64.ofNat (d1 + d2 + d3))), .second, .val (.ref b259), .val (.ref b363), .unset]) rfl ?_
  refine g_aload X365 at_698 (pc' := 700) rfl rfl rfl ?_
  have k366 := (Keep.refl h0 []).ext E259
  have k367 := k366.wr W260 (Or.inr (Nat.le_trans (Keep.refl h0 []).1 (Nat.le_of_eq g259.symm)))
  have k368 := k367.wr W261 (Or.inr (Nat.le_trans (Keep.refl h0 []).1 (Nat.le_of_eq g259.symm)))
  have k369 := k368.wr W262 (Or.inr (Nat.le_trans (Keep.refl h0 []).1 (Nat.le_of_eq g259.symm)))
  have k370 := k369.wr W263 (Or.inr (Nat.le_trans (Keep.refl h0 []).1 (Nat.le_of_eq g259.symm)))
  have k371 := k370.wr W264 (Or.inr (Nat.le_trans (Keep.refl h0 []).1 (Nat.le_of_eq g259.symm)))
  have k372 := k371.wr W265 (Or.inr (Nat.le_trans (Keep.refl h0 []).1 (Nat.le_of_eq g259.symm)))
  have k373 := k372.wr W266 (Or.inr (Nat.le_trans (Keep.refl h0 []).1 (Nat.le_of_eq g259.symm)))
  have k374 := k373.wr W267 (Or.inr (Nat.le_trans (Keep.refl h0 []).1 (Nat.le_of_eq g259.symm)))
  have k375 := k374.wr W268 (Or.inr (Nat.le_trans (Keep.refl h0 []).1 (Nat.le_of_eq g259.symm)))
  have k376 := k375.wr W270 (Or.inr (Nat.le_trans (Keep.refl h0 []).1 (Nat.le_of_eq g259.symm)))
  have k377 := k376.wr W271 (Or.inr (Nat.le_trans (Keep.refl h0 []).1 (Nat.le_of_eq g259.symm)))
  have k378 := k377.wr W272 (Or.inr (Nat.le_trans (Keep.refl h0 []).1 (Nat.le_of_eq g259.symm)))
  have k379 := k378.wr W273 (Or.inr (Nat.le_trans (Keep.refl h0 []).1 (Nat.le_of_eq g259.symm)))
  have k380 := k379.wr W274 (Or.inr (Nat.le_trans (Keep.refl h0 []).1 (Nat.le_of_eq g259.symm)))
  have k381 := k380.wr W275 (Or.inr (Nat.le_trans (Keep.refl h0 []).1 (Nat.le_of_eq g259.symm)))
  have k382 := k381.wr W276 (Or.inr (Nat.le_trans (Keep.refl h0 []).1 (Nat.le_of_eq g259.symm)))
  have k383 := k382.wr W277 (Or.inr (Nat.le_trans (Keep.refl h0 []).1 (Nat.le_of_eq g259.symm)))
  have k384 := k383.wr W278 (Or.inr (Nat.le_trans (Keep.refl h0 []).1 (Nat.le_of_eq g259.symm)))
  have k385 := k384.wr W279 (Or.inr (Nat.le_trans (Keep.refl h0 []).1 (Nat.le_of_eq g259.symm)))
  have k386 := k385.wr W280 (Or.inr (Nat.le_trans (Keep.refl h0 []).1 (Nat.le_of_eq g259.symm)))
  have k387 := k386.wr W281 (Or.inr (Nat.le_trans (Keep.refl h0 []).1 (Nat.le_of_eq g259.symm)))
  have k388 := k387.wr W282 (Or.inr (Nat.le_trans (Keep.refl h0 []).1 (Nat.le_of_eq g259.symm)))
  have k389 := k388.wr W283 (Or.inr (Nat.le_trans (Keep.refl h0 []).1 (Nat.le_of_eq g259.symm)))
  have k390 := k389.wr W285 (Or.inr (Nat.le_trans (Keep.refl h0 []).1 (Nat.le_of_eq g259.symm)))
  have k391 := k390.wr W286 (Or.inr (Nat.le_trans (Keep.refl h0 []).1 (Nat.le_of_eq g259.symm)))
  have k392 := k391.wr W287 (Or.inr (Nat.le_trans (Keep.refl h0 []).1 (Nat.le_of_eq g259.symm)))
  have k393 := k392.wr W288 (Or.inr (Nat.le_trans (Keep.refl h0 []).1 (Nat.le_of_eq g259.symm)))
  have k394 := k393.wr W289 (Or.inr (Nat.le_trans (Keep.refl h0 []).1 (Nat.le_of_eq g259.symm)))
  have k395 := k394.wr W290 (Or.inr (Nat.le_trans (Keep.refl h0 []).1 (Nat.le_of_eq g259.symm)))
  have k396 := k395.wr W291 (Or.inr (Nat.le_trans (Keep.refl h0 []).1 (Nat.le_of_eq g259.symm)))
  have k397 := k396.wr W292 (Or.inr (Nat.le_trans (Keep.refl h0 []).1 (Nat.le_of_eq g259.symm)))
  have k398 := k397.wr W293 (Or.inr (Nat.le_trans (Keep.refl h0 []).1 (Nat.le_of_eq g259.symm)))
  have k399 := k398.wr W294 (Or.inr (Nat.le_trans (Keep.refl h0 []).1 (Nat.le_of_eq g259.symm)))
  have k400 := k399.wr W295 (Or.inr (Nat.le_trans (Keep.refl h0 []).1 (Nat.le_of_eq g259.symm)))
  have k401 := k400.wr W296 (Or.inr (Nat.le_trans (Keep.refl h0 []).1 (Nat.le_of_eq g259.symm)))
  have k402 := k401.wr W297 (Or.inr (Nat.le_trans (Keep.refl h0 []).1 (Nat.le_of_eq g259.symm)))
  have k403 := k402.wr W298 (Or.inr (Nat.le_trans (Keep.refl h0 []).1 (Nat.le_of_eq g259.symm)))
  have k404 := k403.wr W300 (Or.inr (Nat.le_trans (Keep.refl h0 []).1 (Nat.le_of_eq g259.symm)))
  have k405 := k404.wr W301 (Or.inr (Nat.le_trans (Keep.refl h0 []).1 (Nat.le_of_eq g259.symm)))
  have k406 := k405.wr W302 (Or.inr (Nat.le_trans (Keep.refl h0 []).1 (Nat.le_of_eq g259.symm)))
  have k407 := k406.wr W303 (Or.inr (Nat.le_trans (Keep.refl h0 []).1 (Nat.le_of_eq g259.symm)))
  have k408 := k407.wr W304 (Or.inr (Nat.le_trans (Keep.refl h0 []).1 (Nat.le_of_eq g259.symm)))
  have k409 := k408.wr W305 (Or.inr (Nat.le_trans (Keep.refl h0 []).1 (Nat.le_of_eq g259.symm)))
  have k410 := k409.wr W306 (Or.inr (Nat.le_trans (Keep.refl h0 []).1 (Nat.le_of_eq g259.symm)))
  have k411 := k410.wr W307 (Or.inr (Nat.le_trans (Keep.refl h0 []).1 (Nat.le_of_eq g259.symm)))
  have k412 := k411.wr W308 (Or.inr (Nat.le_trans (Keep.refl h0 []).1 (Nat.le_of_eq g259.symm)))
  have k413 := k412.wr W309 (Or.inr (Nat.le_trans (Keep.refl h0 []).1 (Nat.le_of_eq g259.symm)))
  have k414 := k413.wr W311 (Or.inr (Nat.le_trans (Keep.refl h0 []).1 (Nat.le_of_eq g259.symm)))
  have k415 := k414.wr W312 (Or.inr (Nat.le_trans (Keep.refl h0 []).1 (Nat.le_of_eq g259.symm)))
  have k416 := k415.wr W313 (Or.inr (Nat.le_trans (Keep.refl h0 []).1 (Nat.le_of_eq g259.symm)))
  have k417 := k416.wr W314 (Or.inr (Nat.le_trans (Keep.refl h0 []).1 (Nat.le_of_eq g259.symm)))
  have k418 := k417.wr W315 (Or.inr (Nat.le_trans (Keep.refl h0 []).1 (Nat.le_of_eq g259.symm)))
  have k419 := k418.wr W316 (Or.inr (Nat.le_trans (Keep.refl h0 []).1 (Nat.le_of_eq g259.symm)))
  have k420 := k419.wr W317 (Or.inr (Nat.le_trans (Keep.refl h0 []).1 (Nat.le_of_eq g259.symm)))
  have k421 := k420.wr W318 (Or.inr (Nat.le_trans (Keep.refl h0 []).1 (Nat.le_of_eq g259.symm)))
  have k422 := k421.wr W319 (Or.inr (Nat.le_trans (Keep.refl h0 []).1 (Nat.le_of_eq g259.symm)))
  have k423 := k422.wr W320 (Or.inr (Nat.le_trans (Keep.refl h0 []).1 (Nat.le_of_eq g259.symm)))
  have k424 := k423.wr W321 (Or.inr (Nat.le_trans (Keep.refl h0 []).1 (Nat.le_of_eq g259.symm)))
  have k425 := k424.wr W322 (Or.inr (Nat.le_trans (Keep.refl h0 []).1 (Nat.le_of_eq g259.symm)))
  have k426 := k425.wr W323 (Or.inr (Nat.le_trans (Keep.refl h0 []).1 (Nat.le_of_eq g259.symm)))
  have k427 := k426.wr W324 (Or.inr (Nat.le_trans (Keep.refl h0 []).1 (Nat.le_of_eq g259.symm)))
  have k428 := k427.wr W325 (Or.inr (Nat.le_trans (Keep.refl h0 []).1 (Nat.le_of_eq g259.symm)))
  have k429 := k428.wr W326 (Or.inr (Nat.le_trans (Keep.refl h0 []).1 (Nat.le_of_eq g259.symm)))
  have k430 := k429.wr W328 (Or.inr (Nat.le_trans (Keep.refl h0 []).1 (Nat.le_of_eq g259.symm)))
  have k431 := k430.wr W329 (Or.inr (Nat.le_trans (Keep.refl h0 []).1 (Nat.le_of_eq g259.symm)))
  have k432 := k431.wr W330 (Or.inr (Nat.le_trans (Keep.refl h0 []).1 (Nat.le_of_eq g259.symm)))
  have k433 := k432.wr W331 (Or.inr (Nat.le_trans (Keep.refl h0 []).1 (Nat.le_of_eq g259.symm)))
  have k434 := k433.wr W332 (Or.inr (Nat.le_trans (Keep.refl h0 []).1 (Nat.le_of_eq g259.symm)))
  have k435 := k434.wr W333 (Or.inr (Nat.le_trans (Keep.refl h0 []).1 (Nat.le_of_eq g259.symm)))
  have k436 := k435.wr W334 (Or.inr (Nat.le_trans (Keep.refl h0 []).1 (Nat.le_of_eq g259.symm)))
  have k437 := k436.wr W335 (Or.inr (Nat.le_trans (Keep.refl h0 []).1 (Nat.le_of_eq g259.symm)))
  have k438 := k437.wr W336 (Or.inr (Nat.le_trans (Keep.refl h0 []).1 (Nat.le_of_eq g259.symm)))
  have k439 := k438.wr W337 (Or.inr (Nat.le_trans (Keep.refl h0 []).1 (Nat.le_of_eq g259.symm)))
  have k440 := k439.wr W338 (Or.inr (Nat.le_trans (Keep.refl h0 []).1 (Nat.le_of_eq g259.symm)))
  have k441 := k440.wr W339 (Or.inr (Nat.le_trans (Keep.refl h0 []).1 (Nat.le_of_eq g259.symm)))
  have k442 := k441.wr W340 (Or.inr (Nat.le_trans (Keep.refl h0 []).1 (Nat.le_of_eq g259.symm)))
  have k443 := k442.wr W341 (Or.inr (Nat.le_trans (Keep.refl h0 []).1 (Nat.le_of_eq g259.symm)))
  have k444 := k443.wr W342 (Or.inr (Nat.le_trans (Keep.refl h0 []).1 (Nat.le_of_eq g259.symm)))
  have k445 := k444.wr W343 (Or.inr (Nat.le_trans (Keep.refl h0 []).1 (Nat.le_of_eq g259.symm)))
  have k446 := k445.wr W344 (Or.inr (Nat.le_trans (Keep.refl h0 []).1 (Nat.le_of_eq g259.symm)))
  have k447 := k446.wr W345 (Or.inr (Nat.le_trans (Keep.refl h0 []).1 (Nat.le_of_eq g259.symm)))
  have k448 := k447.wr W346 (Or.inr (Nat.le_trans (Keep.refl h0 []).1 (Nat.le_of_eq g259.symm)))
  have k449 := k448.wr W348 (Or.inr (Nat.le_trans (Keep.refl h0 []).1 (Nat.le_of_eq g259.symm)))
  have k450 := k449.wr W349 (Or.inr (Nat.le_trans (Keep.refl h0 []).1 (Nat.le_of_eq g259.symm)))
  have k451 := k450.wr W350 (Or.inr (Nat.le_trans (Keep.refl h0 []).1 (Nat.le_of_eq g259.symm)))
  have k452 := k451.wr W351 (Or.inr (Nat.le_trans (Keep.refl h0 []).1 (Nat.le_of_eq g259.symm)))
  have k453 := k452.wr W352 (Or.inr (Nat.le_trans (Keep.refl h0 []).1 (Nat.le_of_eq g259.symm)))
  have k454 := k453.wr W353 (Or.inr (Nat.le_trans (Keep.refl h0 []).1 (Nat.le_of_eq g259.symm)))
  have k455 := k454.wr W354 (Or.inr (Nat.le_trans (Keep.refl h0 []).1 (Nat.le_of_eq g259.symm)))
  have k456 := k455.wr W355 (Or.inr (Nat.le_trans (Keep.refl h0 []).1 (Nat.le_of_eq g259.symm)))
  have k457 := k456.wr W356 (Or.inr (Nat.le_trans (Keep.refl h0 []).1 (Nat.le_of_eq g259.symm)))
  have k458 := k457.wr W357 (Or.inr (Nat.le_trans (Keep.refl h0 []).1 (Nat.le_of_eq g259.symm)))
  have k459 := k458.wr W358 (Or.inr (Nat.le_trans (Keep.refl h0 []).1 (Nat.le_of_eq g259.symm)))
  have k460 := k459.wr W359 (Or.inr (Nat.le_trans (Keep.refl h0 []).1 (Nat.le_of_eq g259.symm)))
  have k461 := k460.wr W360 (Or.inr (Nat.le_trans (Keep.refl h0 []).1 (Nat.le_of_eq g259.symm)))
  have k462 := k461.wr W362 (Or.inr (Nat.le_trans (Keep.refl h0 []).1 (Nat.le_of_eq g259.symm)))
  have k463 := k462.ext E363
  have k464 := k463.trans K365 (allS (Or.inr (Nat.le_trans k462.1 (Nat.le_of_eq g363.symm))) all0)
  have f465 := (A363.keep K365)
  refine g_callVB X365 (y := (⟨"com/example/freshet/freshet/CacheCounts", "toString", "()Ljava/lang/String;"⟩ : MethodName)) (z := (⟨"com/example/freshet/freshet/CacheCounts", "toString", "()Ljava/lang/String;"⟩ : MethodName)) (a := b363) [] (hw _ m29) (hw _ m30) (notFace_of_selects (args := #[]) (mvT X365.hZ (hw _ m32))) (hw _ m32) (hw _ m31) f465 (hw _ m33) (backH (W := 0) (rm4 l Z a0 hw b363 h365 n0 X365.old d1 d2 d3 d4 d5 d6 f465 F365_freshHits F365_staleHits F365_misses F365_sourceCalls F365_sourceFailures F365_evictions hd1 hd2 hd3 hd4 hd5 hd6 G1 O2 P5 dg tb OD AD hdg) X365.hZ (hw _ m33) (hw _ m10) (by decide) (by decide) (own_ew hw) (CHv.keep k464 (fun x hx => by cases hx) H0)) (cc := 21) (ss := 976) (Q := (fun r h' L => ∃ a u : Addr, r = some (.ref a) ∧ Fr n0 L ∧ Keep h365 h' [] ∧ Nar.SS Z h' a u [(114 : Int32), (101 : Int32), (113 : Int32), (117 : Int32), (101 : Int32), (115 : Int32), (116 : Int32), (115 : Int32), (32 : Int32), (Int32.ofNat (48 + (d1 + d2 + d3))), (44 : Int32), (32 : Int32), (102 : Int32), (114 : Int32), (101 : Int32), (115 : Int32), (104 : Int32), (32 : Int32), (104 : Int32), (105 : Int32), (116 : Int32), (115 : Int32), (32 : Int32), (Int32.ofNat (48 + d1)), (44 : Int32), (32 : Int32), (115 : Int32), (116 : Int32), (97 : Int32), (108 : Int32), (101 : Int32), (32 : Int32), (104 : Int32), (105 : Int32), (116 : Int32), (115 : Int32), (32 : Int32), (Int32.ofNat (48 + d2)), (44 : Int32), (32 : Int32), (109 : Int32), (105 : Int32), (115 : Int32), (115 : Int32), (101 : Int32), (115 : Int32), (32 : Int32), (Int32.ofNat (48 + d3)), (44 : Int32), (32 : Int32), (115 : Int32), (111 : Int32), (117 : Int32), (114 : Int32), (99 : Int32), (101 : Int32), (32 : Int32), (99 : Int32), (97 : Int32), (108 : Int32), (108 : Int32), (115 : Int32), (32 : Int32), (Int32.ofNat (48 + d4)), (44 : Int32), (32 : Int32), (115 : Int32), (111 : Int32), (117 : Int32), (114 : Int32), (99 : Int32), (101 : Int32), (32 : Int32), (102 : Int32), (97 : Int32), (105 : Int32), (108 : Int32), (117 : Int32), (114 : Int32), (101 : Int32), (115 : Int32), (32 : Int32), (Int32.ofNat (48 + d5)), (44 : Int32), (32 : Int32), (101 : Int32), (118 : Int32), (105 : Int32), (99 : Int32), (116 : Int32), (105 : Int32), (111 : Int32), (110 : Int32), (115 : Int32), (32 : Int32), (Int32.ofNat (48 + d6))])) (by decide) (by decide) (by decide) rfl pd_25 rfl (rest := []) rfl (W := 0) rfl at_700 (pc' := 703) rfl ?_
  rintro _ T466 h466 L466 Y466 ⟨a466, u466, rfl, N466, K466, H466⟩
  have X466 := Y466 (X365.old.keep K466 all0) N466
  obtain ⟨E466s, C466s, V466s, A466s⟩ := id H466
  show Go p e below _ (State.setTop _ (mkF m 703 #[.val (.long x1), .second, .val (.long x2), .second, .val (.long x3), .second, .val (.long x4), .second, .val (.long x5), .second, .val (.long x6), .second, .val (.long (Int64.ofNat d1)), .second, .val (.long (Int64.ofNat d2)), .second, .val (.long (Int64.ofNat d3)), .second, .val (.long (Int64.ofNat d4)), .second, .val (.long (Int64.ofNat d5)), .second, .val (.long (Int64.ofNat d6)), .second, .val (.long (Int64.ofNat (d1 + d2 + d3))), .second, .val (.ref b259), .val (.ref b363), .unset] [(.ref a466)]))
  refine g_astore X466 at_703 (pc' := 705) rfl rfl (L' := #[.val (.long x1), .second, .val (.long x2), .second, .val (.long x3), .second, .val (.long x4), .second, .val (.long x5), .second, .val (.long x6), .second, .val (.long (Int64.ofNat d1)), .second, .val (.long (Int64.ofNat d2)), .second, .val (.long (Int64.ofNat d3)), .second, .val (.long (Int64.ofNat d4)), .second, .val (.long (Int64.ofNat d5)), .second, .val (.long (Int64.ofNat d6)), .second, .val (.long (Int64.ofNat (d1 + d2 + d3))), .second, .val (.ref b259), .val (.ref b363), .val (.ref a466)]) rfl ?_
  refine g_aload X466 at_705 (pc' := 707) rfl rfl rfl ?_
  refine g_new X466 (hw _ m206) (hw _ m55) (hw _ m48) at_707 (pc' := 710) rfl (by decide) (by decide) (fun T467 h467 b467 X467 g467 E467 A467 D467 l467 => ?_)
  have f469 := (((A362.ext E363).keep K365 (nm1 ne364)).keep K466 nm0)
  have ne468 : b259 ≠ b467 := ne_new f469.lt g467
  have f471 := (f465.keep K466)
  have ne470 : b363 ≠ b467 := ne_new f471.lt g467
  have ne472 : a466 ≠ b467 := ne_new E466s.lt g467
  have ne473 : u466 ≠ b467 := ne_new A466s.lt g467
  have F467_value : Fld Z h467 b467 "java/lang/String" "value" "[B" .null := D467 (Or.inr (hw _ m56)) (ty := (.array .byte)) (by decide)
  have F467_coder : Fld Z h467 b467 "java/lang/String" "coder" "B" (.int (0 : Int32)) := D467 (Or.inr (hw _ m57)) (ty := .byte) (by decide)
  refine g_dup X467 at_710 (pc' := 711) rfl rfl ?_
  refine g_aload X467 at_711 (pc' := 713) rfl rfl rfl ?_
  have f474 := (f469.ext E467)
  have has : ∀ c ∈ [(114 : Int32), (101 : Int32), (113 : Int32), (117 : Int32), (101 : Int32), (115 : Int32), (116 : Int32), (115 : Int32), (32 : Int32), (Int32.ofNat (48 + (d1 + d2 + d3))), (44 : Int32), (32 : Int32), (102 : Int32), (114 : Int32), (101 : Int32), (115 : Int32), (104 : Int32), (32 : Int32), (104 : Int32), (105 : Int32), (116 : Int32), (115 : Int32), (32 : Int32), (Int32.ofNat (48 + d1)), (44 : Int32), (32 : Int32), (115 : Int32), (116 : Int32), (97 : Int32), (108 : Int32), (101 : Int32), (32 : Int32), (104 : Int32), (105 : Int32), (116 : Int32), (115 : Int32), (32 : Int32), (Int32.ofNat (48 + d2)), (44 : Int32), (32 : Int32), (109 : Int32), (105 : Int32), (115 : Int32), (115 : Int32), (101 : Int32), (115 : Int32), (32 : Int32), (Int32.ofNat (48 + d3)), (44 : Int32), (32 : Int32), (115 : Int32), (111 : Int32), (117 : Int32), (114 : Int32), (99 : Int32), (101 : Int32), (32 : Int32), (99 : Int32), (97 : Int32), (108 : Int32), (108 : Int32), (115 : Int32), (32 : Int32), (Int32.ofNat (48 + d4)), (44 : Int32), (32 : Int32), (115 : Int32), (111 : Int32), (117 : Int32), (114 : Int32), (99 : Int32), (101 : Int32), (32 : Int32), (102 : Int32), (97 : Int32), (105 : Int32), (108 : Int32), (117 : Int32), (114 : Int32), (101 : Int32), (115 : Int32), (32 : Int32), (Int32.ofNat (48 + d5)), (44 : Int32), (32 : Int32), (101 : Int32), (118 : Int32), (105 : Int32), (99 : Int32), (116 : Int32), (105 : Int32), (111 : Int32), (110 : Int32), (115 : Int32), (32 : Int32), (Int32.ofNat (48 + d6))], ¬ c < 0 ∧ ¬ (127 : Int32) < c := (Nar.own_fa (by decide) (Nar.own_fa (by decide) (Nar.own_fa (by decide) (Nar.own_fa (by decide) (Nar.own_fa (by decide) (Nar.own_fa (by decide) (Nar.own_fa (by decide) (Nar.own_fa (by decide) (Nar.own_fa (by decide) (Nar.own_fa (Nar.own_asd (by omega)) (Nar.own_fa (by decide) (Nar.own_fa (by decide) (Nar.own_fa (by decide) (Nar.own_fa (by decide) (Nar.own_fa (by decide) (Nar.own_fa (by decide) (Nar.own_fa (by decide) (Nar.own_fa (by decide) (Nar.own_fa (by decide) (Nar.own_fa (by decide) (Nar.own_fa (by decide) (Nar.own_fa (by decide) (Nar.own_fa (by decide) (Nar.own_fa (Nar.own_asd (by omega)) (Nar.own_fa (by decide) (Nar.own_fa (by decide) (Nar.own_fa (by decide) (Nar.own_fa (by decide) (Nar.own_fa (by decide) (Nar.own_fa (by decide) (Nar.own_fa (by decide) (Nar.own_fa (by decide) (Nar.own_fa (by decide) (Nar.own_fa (by decide) (Nar.own_fa (by decide) (Nar.own_fa (by decide) (Nar.own_fa (by decide) (Nar.own_fa (Nar.own_asd (by omega)) (Nar.own_fa (by decide) (Nar.own_fa (by decide) (Nar.own_fa (by decide) (Nar.own_fa (by decide) (Nar.own_fa (by decide) (Nar.own_fa (by decide) (Nar.own_fa (by decide) (Nar.own_fa (by decide) (Nar.own_fa (by decide) (Nar.own_fa (Nar.own_asd (by omega)) (Nar.own_fa (by decide) (Nar.own_fa (by decide) (Nar.own_fa (by decide) (Nar.own_fa (by decide) (Nar.own_fa (by decide) (Nar.own_fa (by decide) (Nar.own_fa (by decide) (Nar.own_fa (by decide) (Nar.own_fa (by decide) (Nar.own_fa (by decide) (Nar.own_fa (by decide) (Nar.own_fa (by decide) (Nar.own_fa (by decide) (Nar.own_fa (by decide) (Nar.own_fa (by decide) (Nar.own_fa (Nar.own_asd hd4) (Nar.own_fa (by decide) (Nar.own_fa (by decide) (Nar.own_fa (by decide) (Nar.own_fa (by decide) (Nar.own_fa (by decide) (Nar.own_fa (by decide) (Nar.own_fa (by decide) (Nar.own_fa (by decide) (Nar.own_fa (by decide) (Nar.own_fa (by decide) (Nar.own_fa (by decide) (Nar.own_fa (by decide) (Nar.own_fa (by decide) (Nar.own_fa (by decide) (Nar.own_fa (by decide) (Nar.own_fa (by decide) (Nar.own_fa (by decide) (Nar.own_fa (by decide) (Nar.own_fa (Nar.own_asd hd5) (Nar.own_fa (by decide) (Nar.own_fa (by decide) (Nar.own_fa (by decide) (Nar.own_fa (by decide) (Nar.own_fa (by decide) (Nar.own_fa (by decide) (Nar.own_fa (by decide) (Nar.own_fa (by decide) (Nar.own_fa (by decide) (Nar.own_fa (by decide) (Nar.own_fa (by decide) (Nar.own_fa (by decide) (Nar.own_fa (Nar.own_asd hd6) Nar.own_fz))))))))))))))))))))))))))))))))))))))))))))))))))))))))))))))))))))))))))))))))))))))))))))))))
  obtain ⟨kc475, V475⟩ := arx_arv (n := (96 : Int32)) (d := .int (0 : Int32)) (show Arx Z h467 b259 .char (Nar.own_bs [(114 : Int32), (101 : Int32), (113 : Int32), (117 : Int32), (101 : Int32), (115 : Int32), (116 : Int32), (115 : Int32), (32 : Int32), (Int32.ofNat (48 + (d1 + d2 + d3))), (44 : Int32), (32 : Int32), (102 : Int32), (114 : Int32), (101 : Int32), (115 : Int32), (104 : Int32), (32 : Int32), (104 : Int32), (105 : Int32), (116 : Int32), (115 : Int32), (32 : Int32), (Int32.ofNat (48 + d1)), (44 : Int32), (32 : Int32), (115 : Int32), (116 : Int32), (97 : Int32), (108 : Int32), (101 : Int32), (32 : Int32), (104 : Int32), (105 : Int32), (116 : Int32), (115 : Int32), (32 : Int32), (Int32.ofNat (48 + d2)), (44 : Int32), (32 : Int32), (109 : Int32), (105 : Int32), (115 : Int32), (115 : Int32), (101 : Int32), (115 : Int32), (32 : Int32), (Int32.ofNat (48 + d3)), (44 : Int32), (32 : Int32), (115 : Int32), (111 : Int32), (117 : Int32), (114 : Int32), (99 : Int32), (101 : Int32), (32 : Int32), (99 : Int32), (97 : Int32), (108 : Int32), (108 : Int32), (115 : Int32), (32 : Int32), (Int32.ofNat (48 + d4)), (44 : Int32), (32 : Int32), (115 : Int32), (111 : Int32), (117 : Int32), (114 : Int32), (99 : Int32), (101 : Int32), (32 : Int32), (102 : Int32), (97 : Int32), (105 : Int32), (108 : Int32), (117 : Int32), (114 : Int32), (101 : Int32), (115 : Int32), (32 : Int32), (Int32.ofNat (48 + d5)), (44 : Int32), (32 : Int32), (101 : Int32), (118 : Int32), (105 : Int32), (99 : Int32), (116 : Int32), (105 : Int32), (111 : Int32), (110 : Int32), (115 : Int32), (32 : Int32), (Int32.ofNat (48 + d6))]) from f474) rfl (Nar.own_fitc has)
  have hws : ∀ d ∈ StrChars.Road.words, d.before a0 Z = true := fun d hd => hw d ((by decide +kernel : ∀ d ∈ StrChars.Road.words, d ∈ tables_1) d hd)
  refine g_ncallIB X467 (y := (⟨"java/lang/String", "<init>", "([C)V"⟩ : MethodName)) (a := b467) [(.ref b259)] rfl (hw _ m207) (hw _ m208) rfl (hw _ m209) (StrChars.Road.backV (W := 2) X467.hZ hws (kI := 4) (hw _ m55) (cs := [(114 : Int32), (101 : Int32), (113 : Int32), (117 : Int32), (101 : Int32), (115 : Int32), (116 : Int32), (115 : Int32), (32 : Int32), (Int32.ofNat (48 + (d1 + d2 + d3))), (44 : Int32), (32 : Int32), (102 : Int32), (114 : Int32), (101 : Int32), (115 : Int32), (104 : Int32), (32 : Int32), (104 : Int32), (105 : Int32), (116 : Int32), (115 : Int32), (32 : Int32), (Int32.ofNat (48 + d1)), (44 : Int32), (32 : Int32), (115 : Int32), (116 : Int32), (97 : Int32), (108 : Int32), (101 : Int32), (32 : Int32), (104 : Int32), (105 : Int32), (116 : Int32), (115 : Int32), (32 : Int32), (Int32.ofNat (48 + d2)), (44 : Int32), (32 : Int32), (109 : Int32), (105 : Int32), (115 : Int32), (115 : Int32), (101 : Int32), (115 : Int32), (32 : Int32), (Int32.ofNat (48 + d3)), (44 : Int32), (32 : Int32), (115 : Int32), (111 : Int32), (117 : Int32), (114 : Int32), (99 : Int32), (101 : Int32), (32 : Int32), (99 : Int32), (97 : Int32), (108 : Int32), (108 : Int32), (115 : Int32), (32 : Int32), (Int32.ofNat (48 + d4)), (44 : Int32), (32 : Int32), (115 : Int32), (111 : Int32), (117 : Int32), (114 : Int32), (99 : Int32), (101 : Int32), (32 : Int32), (102 : Int32), (97 : Int32), (105 : Int32), (108 : Int32), (117 : Int32), (114 : Int32), (101 : Int32), (115 : Int32), (32 : Int32), (Int32.ofNat (48 + d5)), (44 : Int32), (32 : Int32), (101 : Int32), (118 : Int32), (105 : Int32), (99 : Int32), (116 : Int32), (105 : Int32), (111 : Int32), (110 : Int32), (115 : Int32), (32 : Int32), (Int32.ofNat (48 + d6))]) (bs := [(114 : Int32), (101 : Int32), (113 : Int32), (117 : Int32), (101 : Int32), (115 : Int32), (116 : Int32), (115 : Int32), (32 : Int32), (Int32.ofNat (48 + (d1 + d2 + d3))), (44 : Int32), (32 : Int32), (102 : Int32), (114 : Int32), (101 : Int32), (115 : Int32), (104 : Int32), (32 : Int32), (104 : Int32), (105 : Int32), (116 : Int32), (115 : Int32), (32 : Int32), (Int32.ofNat (48 + d1)), (44 : Int32), (32 : Int32), (115 : Int32), (116 : Int32), (97 : Int32), (108 : Int32), (101 : Int32), (32 : Int32), (104 : Int32), (105 : Int32), (116 : Int32), (115 : Int32), (32 : Int32), (Int32.ofNat (48 + d2)), (44 : Int32), (32 : Int32), (109 : Int32), (105 : Int32), (115 : Int32), (115 : Int32), (101 : Int32), (115 : Int32), (32 : Int32), (Int32.ofNat (48 + d3)), (44 : Int32), (32 : Int32), (115 : Int32), (111 : Int32), (117 : Int32), (114 : Int32), (99 : Int32), (101 : Int32), (32 : Int32), (99 : Int32), (97 : Int32), (108 : Int32), (108 : Int32), (115 : Int32), (32 : Int32), (Int32.ofNat (48 + d4)), (44 : Int32), (32 : Int32), (115 : Int32), (111 : Int32), (117 : Int32), (114 : Int32), (99 : Int32), (101 : Int32), (32 : Int32), (102 : Int32), (97 : Int32), (105 : Int32), (108 : Int32), (117 : Int32), (114 : Int32), (101 : Int32), (115 : Int32), (32 : Int32), (Int32.ofNat (48 + d5)), (44 : Int32), (32 : Int32), (101 : Int32), (118 : Int32), (105 : Int32), (99 : Int32), (116 : Int32), (105 : Int32), (111 : Int32), (110 : Int32), (115 : Int32), (32 : Int32), (Int32.ofNat (48 + d6))]) (n := 96) l467 X467.sz A467 F467_value F467_coder V475 (O2.ext X467.old.2) P5 rfl rfl (by decide) (by decide) (Nar.own_255 has) (Nar.own_map8 has) (by decide) (by decide)) (cc := 1) (ss := 96) (Q := (fun v h' L => StrChars.Road.QV Z b467 (96 : Int32) [(114 : Int32), (101 : Int32), (113 : Int32), (117 : Int32), (101 : Int32), (115 : Int32), (116 : Int32), (115 : Int32), (32 : Int32), (Int32.ofNat (48 + (d1 + d2 + d3))), (44 : Int32), (32 : Int32), (102 : Int32), (114 : Int32), (101 : Int32), (115 : Int32), (104 : Int32), (32 : Int32), (104 : Int32), (105 : Int32), (116 : Int32), (115 : Int32), (32 : Int32), (Int32.ofNat (48 + d1)), (44 : Int32), (32 : Int32), (115 : Int32), (116 : Int32), (97 : Int32), (108 : Int32), (101 : Int32), (32 : Int32), (104 : Int32), (105 : Int32), (116 : Int32), (115 : Int32), (32 : Int32), (Int32.ofNat (48 + d2)), (44 : Int32), (32 : Int32), (109 : Int32), (105 : Int32), (115 : Int32), (115 : Int32), (101 : Int32), (115 : Int32), (32 : Int32), (Int32.ofNat (48 + d3)), (44 : Int32), (32 : Int32), (115 : Int32), (111 : Int32), (117 : Int32), (114 : Int32), (99 : Int32), (101 : Int32), (32 : Int32), (99 : Int32), (97 : Int32), (108 : Int32), (108 : Int32), (115 : Int32), (32 : Int32), (Int32.ofNat (48 + d4)), (44 : Int32), (32 : Int32), (115 : Int32), (111 : Int32), (117 : Int32), (114 : Int32), (99 : Int32), (101 : Int32), (32 : Int32), (102 : Int32), (97 : Int32), (105 : Int32), (108 : Int32), (117 : Int32), (114 : Int32), (101 : Int32), (115 : Int32), (32 : Int32), (Int32.ofNat (48 + d5)), (44 : Int32), (32 : Int32), (101 : Int32), (118 : Int32), (105 : Int32), (99 : Int32), (116 : Int32), (105 : Int32), (111 : Int32), (110 : Int32), (115 : Int32), (32 : Int32), (Int32.ofNat (48 + d6))] h467 n0 v h' L)) (by decide) (by decide) (by decide) rfl pd_28 rfl (rest := [(.ref b467), (.ref a466)]) rfl (W := 2) rfl at_713 (pc' := 716) rfl ?_
  rintro _ T475 h475 L475 Y475 ⟨rfl, N475, K475, E475s, C475s, t475, kb475, u475y, v475y, w475y, F475s, A475s⟩
  have X475 := Y475 (X467.old.keep K475 (allS l467 all0)) N475 K475.1
  have A475x : Arx Z h475 t475 .byte (Nar.own_bs [(114 : Int32), (101 : Int32), (113 : Int32), (117 : Int32), (101 : Int32), (115 : Int32), (116 : Int32), (115 : Int32), (32 : Int32), (Int32.ofNat (48 + (d1 + d2 + d3))), (44 : Int32), (32 : Int32), (102 : Int32), (114 : Int32), (101 : Int32), (115 : Int32), (104 : Int32), (32 : Int32), (104 : Int32), (105 : Int32), (116 : Int32), (115 : Int32), (32 : Int32), (Int32.ofNat (48 + d1)), (44 : Int32), (32 : Int32), (115 : Int32), (116 : Int32), (97 : Int32), (108 : Int32), (101 : Int32), (32 : Int32), (104 : Int32), (105 : Int32), (116 : Int32), (115 : Int32), (32 : Int32), (Int32.ofNat (48 + d2)), (44 : Int32), (32 : Int32), (109 : Int32), (105 : Int32), (115 : Int32), (115 : Int32), (101 : Int32), (115 : Int32), (32 : Int32), (Int32.ofNat (48 + d3)), (44 : Int32), (32 : Int32), (115 : Int32), (111 : Int32), (117 : Int32), (114 : Int32), (99 : Int32), (101 : Int32), (32 : Int32), (99 : Int32), (97 : Int32), (108 : Int32), (108 : Int32), (115 : Int32), (32 : Int32), (Int32.ofNat (48 + d4)), (44 : Int32), (32 : Int32), (115 : Int32), (111 : Int32), (117 : Int32), (114 : Int32), (99 : Int32), (101 : Int32), (32 : Int32), (102 : Int32), (97 : Int32), (105 : Int32), (108 : Int32), (117 : Int32), (114 : Int32), (101 : Int32), (115 : Int32), (32 : Int32), (Int32.ofNat (48 + d5)), (44 : Int32), (32 : Int32), (101 : Int32), (118 : Int32), (105 : Int32), (99 : Int32), (116 : Int32), (105 : Int32), (111 : Int32), (110 : Int32), (115 : Int32), (32 : Int32), (Int32.ofNat (48 + d6))]) := arv_arx A475s rfl
  show Go p e below _ (State.setTop _ (mkF m 716 #[.val (.long x1), .second, .val (.long x2), .second, .val (.long x3), .second, .val (.long x4), .second, .val (.long x5), .second, .val (.long x6), .second, .val (.long (Int64.ofNat d1)), .second, .val (.long (Int64.ofNat d2)), .second, .val (.long (Int64.ofNat d3)), .second, .val (.long (Int64.ofNat d4)), .second, .val (.long (Int64.ofNat d5)), .second, .val (.long (Int64.ofNat d6)), .second, .val (.long (Int64.ofNat (d1 + d2 + d3))), .second, .val (.ref b259), .val (.ref b363), .val (.ref a466)] [(.ref b467), (.ref a466)]))
  have f476 := ((E466s.ext E467).keep K475)
  have f477 := ((C466s.ext E467).keep K475 (nm1 ne472))
  have f478 := ((V466s.ext E467).keep K475 (nm1 ne472))
  have f479 := ((A466s.ext E467).keep K475 (nm1 ne473))
  refine g_ncallV X475 (y := (⟨"java/lang/String", "equals", "(Ljava/lang/Object;)Z"⟩ : MethodName)) (z := (⟨"java/lang/String", "equals", "(Ljava/lang/Object;)Z"⟩ : MethodName)) (a := a466) [(.ref b467)] (hw _ m223) (hw _ m224) (notFace_of_selects (args := #[]) (mvT X475.hZ (hw _ m226))) (hw _ m226) (hw _ m225) f476 (hw _ m227) (hw _ m48) (Nar.rm40 l Z a0 hw a466 b467 h475 n0 X475.old u466 t475 [(114 : Int32), (101 : Int32), (113 : Int32), (117 : Int32), (101 : Int32), (115 : Int32), (116 : Int32), (115 : Int32), (32 : Int32), (Int32.ofNat (48 + (d1 + d2 + d3))), (44 : Int32), (32 : Int32), (102 : Int32), (114 : Int32), (101 : Int32), (115 : Int32), (104 : Int32), (32 : Int32), (104 : Int32), (105 : Int32), (116 : Int32), (115 : Int32), (32 : Int32), (Int32.ofNat (48 + d1)), (44 : Int32), (32 : Int32), (115 : Int32), (116 : Int32), (97 : Int32), (108 : Int32), (101 : Int32), (32 : Int32), (104 : Int32), (105 : Int32), (116 : Int32), (115 : Int32), (32 : Int32), (Int32.ofNat (48 + d2)), (44 : Int32), (32 : Int32), (109 : Int32), (105 : Int32), (115 : Int32), (115 : Int32), (101 : Int32), (115 : Int32), (32 : Int32), (Int32.ofNat (48 + d3)), (44 : Int32), (32 : Int32), (115 : Int32), (111 : Int32), (117 : Int32), (114 : Int32), (99 : Int32), (101 : Int32), (32 : Int32), (99 : Int32), (97 : Int32), (108 : Int32), (108 : Int32), (115 : Int32), (32 : Int32), (Int32.ofNat (48 + d4)), (44 : Int32), (32 : Int32), (115 : Int32), (111 : Int32), (117 : Int32), (114 : Int32), (99 : Int32), (101 : Int32), (32 : Int32), (102 : Int32), (97 : Int32), (105 : Int32), (108 : Int32), (117 : Int32), (114 : Int32), (101 : Int32), (115 : Int32), (32 : Int32), (Int32.ofNat (48 + d5)), (44 : Int32), (32 : Int32), (101 : Int32), (118 : Int32), (105 : Int32), (99 : Int32), (116 : Int32), (105 : Int32), (111 : Int32), (110 : Int32), (115 : Int32), (32 : Int32), (Int32.ofNat (48 + d6))] ⟨f476, f477, f478, f479⟩ ⟨E475s, C475s, F475s, A475x⟩ (by show 96 ≤ 1000; decide) G1 O2 P5) (by decide) (by decide) (by decide) (by decide) (by decide) rfl pd_29 rfl (rest := []) rfl (W := 0) rfl at_716 (pc' := 719) rfl ?_
  rintro _ T480 _ _ Y480 ⟨rfl, rfl, rfl⟩
  have X480 := Y480 X475.old (Fr.nil _) (Nat.le_refl _)
  show Go p e below _ (State.setTop _ (mkF m 719 #[.val (.long x1), .second, .val (.long x2), .second, .val (.long x3), .second, .val (.long x4), .second, .val (.long x5), .second, .val (.long x6), .second, .val (.long (Int64.ofNat d1)), .second, .val (.long (Int64.ofNat d2)), .second, .val (.long (Int64.ofNat d3)), .second, .val (.long (Int64.ofNat d4)), .second, .val (.long (Int64.ofNat d5)), .second, .val (.long (Int64.ofNat d6)), .second, .val (.long (Int64.ofNat (d1 + d2 + d3))), .second, .val (.ref b259), .val (.ref b363), .val (.ref a466)] [(.int (1 : Int32))]))
  exact g_retN X480 (Or.inl rfl) rfl at_719 (by decide) (by decide) ⟨rfl, X480.fr⟩

end Wid
set_option maxRecDepth 65536 in
set_option maxHeartbeats 40000000 in
theorem comes_1 {Post : Tables → Env → Array Value → State → Outcome → State → Prop} (hpost : ∀ tb e args s v u, (limb_1_1.after args s (.returned v) u = true ∧ limb_1_2.after args s (.returned v) u = true ∧ True) → ReturnedEndW s (.returned v) u (Jvm.fieldLocs frame_1_writes args s ++ Jvm.arrayLocs frame_1_arrays args s ++ Jvm.staticLocs frame_1_statics s) 48 8448 → Post tb e args s (.returned v) u) :
    ArmFor flags0 classFile x code maxLocals ret World_1 tables_1 room_1 Calls_1 rest_1 Pre_1 Post := by
  intro l hfl _ _ p e ha hc hk s m args below hf hA hF happ hP
  obtain ⟨hcalls, hrest, hpre⟩ := hP
  obtain ⟨-, -, -, hnamed, -, -, -, hat⟩ := (Spec.applies_iff hf).mp happ
  obtain ⟨hg, hn⟩ := and_e (Cond.before_iff.mp (show (Jvm.Cond.and given_1 narrow_1).before args s = true from hpre))
  obtain ⟨hcount, hg⟩ := and_e hg
  obtain ⟨k0, hg⟩ := and_e hg
  obtain ⟨k1, hg⟩ := and_e hg
  obtain ⟨k2, hg⟩ := and_e hg
  obtain ⟨k3, hg⟩ := and_e hg
  obtain ⟨k4, hg⟩ := and_e hg
  have k5 := hg
  obtain ⟨w0, w1, w2, w3, w4, w5, rfl⟩ : ∃ w0 w1 w2 w3 w4 w5 : Value, args = #[w0, w1, w2, w3, w4, w5] := by
    have hs : args.size = 6 := by simpa [Cond.value, given_1] using hcount
    obtain ⟨L⟩ := args
    match L, hs with
    | [w0, w1, w2, w3, w4, w5], _ => exact ⟨w0, w1, w2, w3, w4, w5, rfl⟩
  have hw := fun d (hd : d ∈ tables_1) => atoms_spec (ws := Jvm.Cond.code x code maxLocals ret :: tables_1) hat d (List.mem_cons_of_mem _ hd)
  obtain ⟨i0, e0⟩ := isL_v k0
  obtain rfl : w0 = (.long i0) := Option.some.inj e0
  obtain ⟨i1, e1⟩ := isL_v k1
  obtain rfl : w1 = (.long i1) := Option.some.inj e1
  obtain ⟨i2, e2⟩ := isL_v k2
  obtain rfl : w2 = (.long i2) := Option.some.inj e2
  obtain ⟨i3, e3⟩ := isL_v k3
  obtain rfl : w3 = (.long i3) := Option.some.inj e3
  obtain ⟨i4, e4⟩ := isL_v k4
  obtain rfl : w4 = (.long i4) := Option.some.inj e4
  obtain ⟨i5, e5⟩ := isL_v k5
  obtain rfl : w5 = (.long i5) := Option.some.inj e5
  obtain ⟨hsets, hown0⟩ := atoms_of _ (rest_1_c_eq ▸ (show rest_1_c.before _ s = true from hrest))
  have n5 := not_v (Cond.before_iff.mp (hsets _ (List.mem_of_getElem? (i := 2) rfl)))
  obtain ⟨G1, eG⟩ := is_v (Cond.before_iff.mp (hsets _ (List.mem_of_getElem? (i := 1) rfl)))
  have O2 : Sta s s.heap "java/lang/String" "COMPACT_STRINGS" "Z" (.int G1) := Sta.start eG (Or.inl (hsets _ (List.mem_of_getElem? (i := 0) rfl)))
  have P5 : ¬ (G1 = (0 : Int32)) := gotF (Cond.eq_ints eG (Term.int_eval (0))) n5
  obtain ⟨dg, tb, evd, AD, hdg⟩ := Nar.own_digits (hw _ m49) (Cond.before_iff.mp (hsets _ (List.mem_of_getElem? (i := 12) rfl))) (Cond.before_iff.mp (hsets _ (List.mem_of_getElem? (i := 13) rfl))) (Cond.before_iff.mp (hsets _ (List.mem_of_getElem? (i := 14) rfl)))
  have OD : Sta s s.heap "java/lang/Integer" "DigitOnes" "[B" (.ref dg) := Sta.start evd (Or.inl (hsets _ (List.mem_of_getElem? (i := 11) rfl)))
  have hCH : CHv s consts_1 s.vm s.heap := CHv.start (Wid.own_ew hw) (fun q hq => hcalls.1 q hq) (hsets _ (List.mem_of_getElem? (i := 2) rfl)) (hw _ m49) (hw _ m55)
  obtain ⟨n, o, h1, h2, h3, _, L, rfl, ⟨rfl, N⟩, hq⟩ := Wid.rm0 l s _ hw tables_1 i0 i1 i2 i3 i4 i5 s.heap s.heap.size (Old.start s) G1 O2 P5 dg tb OD AD hdg p e ha hc hk s m _ below hf ((Spec.applies_iff_loose hf).mp happ).1 ⟨rfl, State.Warmed39.refl s, rfl, hCH⟩ trivial
  refine ⟨n, _, h1, h2, h3, hpost _ _ _ _ _ _ ⟨Cond.after_iff.mpr rfl, Cond.after_iff.mpr (eq_i res_at (Term.int_eval (1)) rfl), trivial⟩ ⟨hq.1, hq.2.1, hq.2.2.1, (hq.2.2.2.sift fun y hy => Or.inr (N y hy)).mono (by decide) (by decide)⟩⟩
theorem main_1_1 : Claimed_1_1 := comes_1 fun _ _ _ _ _ _ h hF => ⟨h.1, hF⟩
theorem main_1_2 : Claimed_1_2 := comes_1 fun _ _ _ _ _ _ h hF => ⟨h.2.1, hF⟩
end Jvm.Pilot.@@N@@
namespace Jvm.Pilot.@@N@@
open Jvm Jvm.ClassFile Sem Op Lib Jvm.Free Jvm.Stand Jvm.Pilot.@@N@@.Jvm.D
/-! MADE BY PROGRAM (witnessworld.py) out of the Statement's table words and the real class files: 29 classes; the members and pool entries that the words name. The judged class is class 1, her method 2. -/
namespace start1
open Jvm.ClassFile
def u (s : String) : CpInfo := .utf8 (stringToUtf16 s)
/-- a pool by its gaps: so many unusable entries, then the entry; so many at the end -/
def gap : Nat → List CpInfo → List CpInfo
  | 0, r => r
  | n + 1, r => .unusable :: gap n r
def poolList (es : List (Nat × CpInfo)) (last : Nat) : List CpInfo := es.foldr (fun e r => gap e.1 (e.2 :: r)) (gap last [])
def pool (es : List (Nat × CpInfo)) (last : Nat) : Array CpInfo := ⟨poolList es last⟩
def fileOf (pool : Array CpInfo) (this : Nat) (attrs : Array Attribute := #[]) (ms : Array MethodInfo := #[]) (fl : Nat := 33) (sup : Nat := 0) (ifs : Array Nat := #[]) (fds : Array FieldInfo := #[]) : ClassFile where
  minorVersion := 0
  majorVersion := 65
  constantPool := pool
  accessFlags := fl
  thisClass := this
  superClass := sup
  interfaces := ifs
  fields := fds
  methods := ms
  attributes := attrs
def plain (name : String) (sup : Option ClassId) : Class where
  name := name
  kind := .ordinary
  loader := none
  accessFlags := 33
  super := sup
  interfaces := #[]
  cf := none
  fields := #[]
  methods := #[]
  instanceTypes := #[]
  staticTypes := #[]
  resolved := #[]
  callSites := []
  init := .initialized
  statics := none
  mirror := none

def pool0 : Array CpInfo := pool [(5, u "<init>"), (0, u "()V"), (1, .class_ 10), (1, u "java/lang/Object")] 113

def k0c0 : Code := { maxStack := 0, maxLocals := 1, code := object_method_1_code, exceptionTable := #[], attributes := #[] }
def k0m0 : Method := { name := "<init>", desc := "()V", sig := { parameters := [], returnType := none }, accessFlags := 1, code := some k0c0 }
/-- java/lang/Object -/
def k0 : Class := { plain "java/lang/Object" none with
  accessFlags := 33
  interfaces := #[]
  cf := some (fileOf pool0 8 #[] #[{ accessFlags := 1, nameIndex := 5, descriptorIndex := 6, attributes := #[] }] 33 0 #[] #[])
  fields := #[]
  methods := #[k0m0]
  instanceTypes := #[]
  staticTypes := #[]
  resolved := Array.replicate 124 none
  statics := none }

def pool1 : Array CpInfo := pool [(2, .class_ 4), (1, u "java/lang/Object"), (0, u "<init>"), (0, u "()V"), (0, .long 9223372036854775807), (1, .long 4), (1, .long 10), (1, .methodref 14 15), (0, .class_ 16), (0, .nameAndType 17 18), (0, u "com/example/freshet/freshet/CacheCountsToStringPinLaw"), (0, u "d"), (0, u "(J)C"), (0, .class_ 20), (0, u "com/example/freshet/freshet/CacheCounts"), (0, .methodref 19 22), (0, .nameAndType 5 23), (0, u "(JJJJJJ)V"), (0, .methodref 19 25), (0, .nameAndType 26 27), (0, u "toString"), (0, u "()Ljava/lang/String;"), (0, .class_ 29), (0, u "java/lang/String"), (0, .methodref 28 31), (0, .nameAndType 5 32), (0, u "([C)V"), (0, .methodref 28 34), (0, .nameAndType 35 36), (0, u "equals"), (0, u "(Ljava/lang/Object;)Z"), (2, u "law"), (0, u "(JJJJJJ)Z")] 2

def k1m0 : Method := { name := "<init>", desc := "()V", sig := { parameters := [], returnType := none }, accessFlags := 1, code := none }
def k1c1 : Code := { maxStack := 3, maxLocals := 2, code := method_2_code, exceptionTable := #[], attributes := #[] }
def k1m1 : Method := { name := "d", desc := "(J)C", sig := { parameters := [.long], returnType := some .char }, accessFlags := 10, code := some k1c1 }
def k1c2 : Code := { maxStack := 14, maxLocals := 29, code := code, exceptionTable := #[], attributes := #[] }
def k1m2 : Method := { name := "law", desc := "(JJJJJJ)Z", sig := { parameters := [.long, .long, .long, .long, .long, .long], returnType := some .boolean }, accessFlags := 9, code := some k1c2 }
/-- com/example/freshet/freshet/CacheCountsToStringPinLaw -/
def k1 : Class := { plain "com/example/freshet/freshet/CacheCountsToStringPinLaw" (some 0) with
  accessFlags := 49
  interfaces := #[]
  cf := some (fileOf pool1 14 #[] #[{ accessFlags := 1, nameIndex := 5, descriptorIndex := 6, attributes := #[] }, { accessFlags := 10, nameIndex := 17, descriptorIndex := 18, attributes := #[] }, { accessFlags := 9, nameIndex := 39, descriptorIndex := 40, attributes := #[] }] 49 2 #[] #[])
  fields := #[]
  methods := #[k1m0, k1m1, k1m2]
  instanceTypes := #[]
  staticTypes := #[]
  resolved := Array.replicate 43 none
  statics := none }

def pool2 : Array CpInfo := pool [(1, .methodref 2 3), (0, .class_ 4), (0, .nameAndType 5 6), (0, u "java/lang/Object"), (0, u "<init>"), (0, u "()V"), (0, .fieldref 8 9), (0, .class_ 10), (0, .nameAndType 11 12), (0, u "com/example/freshet/freshet/CacheCounts"), (0, u "freshHits"), (0, u "J"), (0, .fieldref 8 14), (0, .nameAndType 15 12), (0, u "staleHits"), (0, .fieldref 8 17), (0, .nameAndType 18 12), (0, u "misses"), (0, .fieldref 8 20), (0, .nameAndType 21 12), (0, u "sourceCalls"), (0, .fieldref 8 23), (0, .nameAndType 24 12), (0, u "sourceFailures"), (0, .fieldref 8 26), (0, .nameAndType 27 12), (0, u "evictions"), (0, .class_ 29), (0, u "java/lang/StringBuilder"), (0, .methodref 28 3), (0, .string 32), (0, u "requests "), (0, .methodref 28 34), (0, .nameAndType 35 36), (0, u "append"), (0, u "(Ljava/lang/String;)Ljava/lang/StringBuilder;"), (0, .methodref 8 38), (0, .nameAndType 39 40), (0, u "requests"), (0, u "()J"), (0, .methodref 28 42), (0, .nameAndType 35 43), (0, u "(J)Ljava/lang/StringBuilder;"), (0, .string 45), (0, u ", fresh hits "), (0, .string 47), (0, u ", stale hits "), (0, .string 49), (0, u ", misses "), (0, .string 51), (0, u ", source calls "), (0, .string 53), (0, u ", source failures "), (0, .string 55), (0, u ", evictions "), (0, .methodref 28 57), (0, .nameAndType 58 59), (0, u "toString"), (0, u "()Ljava/lang/String;"), (0, u "(JJJJJJ)V")] 4

def k2c0 : Code := { maxStack := 3, maxLocals := 13, code := prog_4_method_1_code, exceptionTable := #[], attributes := #[] }
def k2m0 : Method := { name := "<init>", desc := "(JJJJJJ)V", sig := { parameters := [.long, .long, .long, .long, .long, .long], returnType := none }, accessFlags := 0, code := some k2c0 }
def k2c1 : Code := { maxStack := 4, maxLocals := 1, code := prog_4_method_2_code, exceptionTable := #[], attributes := #[] }
def k2m1 : Method := { name := "requests", desc := "()J", sig := { parameters := [], returnType := some .long }, accessFlags := 1, code := some k2c1 }
def k2c2 : Code := { maxStack := 3, maxLocals := 1, code := prog_4_method_9_code, exceptionTable := #[], attributes := #[] }
def k2m2 : Method := { name := "toString", desc := "()Ljava/lang/String;", sig := { parameters := [], returnType := some (.object "java/lang/String") }, accessFlags := 1, code := some k2c2 }
/-- com/example/freshet/freshet/CacheCounts -/
def k2 : Class := { plain "com/example/freshet/freshet/CacheCounts" (some 0) with
  accessFlags := 33
  interfaces := #[]
  cf := some (fileOf pool2 8 #[] #[{ accessFlags := 0, nameIndex := 5, descriptorIndex := 60, attributes := #[] }, { accessFlags := 1, nameIndex := 39, descriptorIndex := 40, attributes := #[] }, { accessFlags := 1, nameIndex := 58, descriptorIndex := 59, attributes := #[] }] 33 2 #[] #[{ accessFlags := 18, nameIndex := 11, descriptorIndex := 12, attributes := #[] }, { accessFlags := 18, nameIndex := 15, descriptorIndex := 12, attributes := #[] }, { accessFlags := 18, nameIndex := 18, descriptorIndex := 12, attributes := #[] }, { accessFlags := 18, nameIndex := 21, descriptorIndex := 12, attributes := #[] }, { accessFlags := 18, nameIndex := 24, descriptorIndex := 12, attributes := #[] }, { accessFlags := 18, nameIndex := 27, descriptorIndex := 12, attributes := #[] }])
  fields := #[{ name := "freshHits", type := .long, accessFlags := 18, slot := 0, constantValue := 0 }, { name := "staleHits", type := .long, accessFlags := 18, slot := 1, constantValue := 0 }, { name := "misses", type := .long, accessFlags := 18, slot := 2, constantValue := 0 }, { name := "sourceCalls", type := .long, accessFlags := 18, slot := 3, constantValue := 0 }, { name := "sourceFailures", type := .long, accessFlags := 18, slot := 4, constantValue := 0 }, { name := "evictions", type := .long, accessFlags := 18, slot := 5, constantValue := 0 }]
  methods := #[k2m0, k2m1, k2m2]
  instanceTypes := #[.long, .long, .long, .long, .long, .long]
  staticTypes := #[]
  resolved := Array.replicate 65 none
  statics := none }

def pool3 : Array CpInfo := pool [(1, .class_ 2), (0, u "java/lang/Appendable"), (0, .class_ 4), (0, u "java/lang/Object")] 9

/-- java/lang/Appendable -/
def k3 : Class := { plain "java/lang/Appendable" (some 0) with
  accessFlags := 1537
  interfaces := #[]
  cf := some (fileOf pool3 1 #[] #[] 1537 3 #[] #[])
  fields := #[]
  methods := #[]
  instanceTypes := #[]
  staticTypes := #[]
  resolved := Array.replicate 14 none
  statics := none }

def pool4 : Array CpInfo := pool [(2, .class_ 4), (1, u "java/lang/CharSequence"), (42, .class_ 48), (0, u "java/lang/CharSequence$1CodePointIterator"), (10, .class_ 60), (0, u "java/lang/CharSequence$1CharIterator"), (5, .class_ 67), (0, u "java/lang/Object")] 63

/-- java/lang/CharSequence -/
def k4 : Class := { plain "java/lang/CharSequence" (some 0) with
  accessFlags := 1537
  interfaces := #[]
  cf := some (fileOf pool4 2 #[.nestMembers #[47, 59]] #[] 1537 66 #[] #[])
  fields := #[]
  methods := #[]
  instanceTypes := #[]
  staticTypes := #[]
  resolved := Array.replicate 131 none
  statics := none }

def pool5 : Array CpInfo := pool [(1, .class_ 2), (0, u "java/lang/String"), (0, .methodref 4 5), (0, .class_ 6), (0, .nameAndType 7 8), (0, u "java/lang/Object"), (0, u "<init>"), (0, u "()V"), (1, .class_ 12), (1, u "java/lang/AbstractStringBuilder"), (0, u "EMPTYVALUE"), (0, u "[B"), (0, .fieldref 10 16), (0, .nameAndType 17 14), (0, u "value"), (0, .fieldref 1 19), (0, .nameAndType 20 21), (0, u "COMPACT_STRINGS"), (0, u "Z"), (0, .fieldref 10 23), (0, .nameAndType 24 25), (0, u "coder"), (0, u "B"), (6, .methodref 1 33), (0, .nameAndType 34 35), (0, u "length"), (0, u "()I"), (3, .integer 2147483647), (0, .methodref 1 41), (0, .nameAndType 24 42), (0, u "()B"), (2, u "append"), (0, u "(Ljava/lang/String;)Ljava/lang/AbstractStringBuilder;"), (1, .class_ 49), (0, u "java/lang/CharSequence"), (19, u "(Ljava/lang/String;)V"), (5, u "maybeLatin1"), (3, .fieldref 10 80), (0, .nameAndType 81 82), (0, u "count"), (0, u "I"), (0, .methodref 10 84), (0, .nameAndType 85 86), (0, u "isLatin1"), (0, u "()Z"), (13, .methodref 10 101), (0, .nameAndType 102 103), (0, u "ensureCapacityInternal"), (0, u "(I)V"), (0, .methodref 10 105), (0, .nameAndType 106 107), (0, u "newCapacity"), (0, u "(I)I"), (0, .methodref 109 110), (0, .class_ 111), (0, .nameAndType 112 113), (0, u "java/util/Arrays"), (0, u "copyOf"), (0, u "([BI)[B"), (0, .methodref 115 116), (0, .class_ 117), (0, .nameAndType 118 119), (0, u "jdk/internal/util/ArraysSupport"), (0, u "newLength"), (0, u "(III)I"), (68, u "getChars"), (19, .methodref 10 209), (0, .nameAndType 210 211), (0, u "putStringAt"), (0, u "(ILjava/lang/String;)V"), (5, u "inflateIfNeededFor"), (2, .nameAndType 221 222), (0, u "getBytes"), (0, u "([BIB)V"), (24, u "stringSize"), (6, .methodref 255 256), (0, .class_ 257), (0, .nameAndType 247 258), (0, u "java/lang/Long"), (0, u "(J)I"), (0, .methodref 255 260), (0, .nameAndType 188 261), (0, u "(JI[B)I"), (135, .methodref 10 398), (0, .nameAndType 217 69), (0, .methodref 1 220), (3, u "()[B"), (40, .class_ 445), (0, u "java/lang/Appendable"), (67, u "(J)Ljava/lang/AbstractStringBuilder;"), (38, u "getValue")] 56

def k5m0 : Method := { name := "<init>", desc := "()V", sig := { parameters := [], returnType := none }, accessFlags := 0, code := none }
def k5c1 : Code := { maxStack := 2, maxLocals := 2, code := jdk_68_method_2_code, exceptionTable := #[], attributes := #[] }
def k5m1 : Method := { name := "<init>", desc := "(I)V", sig := { parameters := [.int], returnType := none }, accessFlags := 0, code := some k5c1 }
def k5c2 : Code := { maxStack := 1, maxLocals := 1, code := jdk_68_method_6_code, exceptionTable := #[], attributes := #[] }
def k5m2 : Method := { name := "length", desc := "()I", sig := { parameters := [], returnType := some .int }, accessFlags := 1, code := some k5c2 }
def k5c3 : Code := { maxStack := 4, maxLocals := 3, code := jdk_68_method_9_code, exceptionTable := #[], attributes := #[] }
def k5m3 : Method := { name := "ensureCapacityInternal", desc := "(I)V", sig := { parameters := [.int], returnType := none }, accessFlags := 2, code := some k5c3 }
def k5c4 : Code := { maxStack := 5, maxLocals := 6, code := jdk_68_method_10_code, exceptionTable := #[], attributes := #[] }
def k5m4 : Method := { name := "newCapacity", desc := "(I)I", sig := { parameters := [.int], returnType := some .int }, accessFlags := 2, code := some k5c4 }
def k5c5 : Code := { maxStack := 3, maxLocals := 3, code := jdk_68_method_22_code, exceptionTable := #[], attributes := #[] }
def k5m5 : Method := { name := "append", desc := "(Ljava/lang/String;)Ljava/lang/AbstractStringBuilder;", sig := { parameters := [(.object "java/lang/String")], returnType := some (.object "java/lang/AbstractStringBuilder") }, accessFlags := 1, code := some k5c5 }
def k5c6 : Code := { maxStack := 5, maxLocals := 5, code := jdk_68_method_33_code, exceptionTable := #[], attributes := #[] }
def k5m6 : Method := { name := "append", desc := "(J)Ljava/lang/AbstractStringBuilder;", sig := { parameters := [.long], returnType := some (.object "java/lang/AbstractStringBuilder") }, accessFlags := 1, code := some k5c6 }
def k5c7 : Code := { maxStack := 1, maxLocals := 1, code := jdk_68_method_64_code, exceptionTable := #[], attributes := #[] }
def k5m7 : Method := { name := "getValue", desc := "()[B", sig := { parameters := [], returnType := some (.array .byte) }, accessFlags := 16, code := some k5c7 }
def k5c8 : Code := { maxStack := 1, maxLocals := 1, code := jdk_68_method_68_code, exceptionTable := #[], attributes := #[] }
def k5m8 : Method := { name := "isLatin1", desc := "()Z", sig := { parameters := [], returnType := some .boolean }, accessFlags := 16, code := some k5c8 }
def k5c9 : Code := { maxStack := 2, maxLocals := 2, code := jdk_68_method_71_code, exceptionTable := #[], attributes := #[] }
def k5m9 : Method := { name := "inflateIfNeededFor", desc := "(Ljava/lang/String;)V", sig := { parameters := [(.object "java/lang/String")], returnType := none }, accessFlags := 2, code := some k5c9 }
def k5c10 : Code := { maxStack := 4, maxLocals := 3, code := jdk_68_method_73_code, exceptionTable := #[], attributes := #[] }
def k5m10 : Method := { name := "putStringAt", desc := "(ILjava/lang/String;)V", sig := { parameters := [.int, (.object "java/lang/String")], returnType := none }, accessFlags := 2, code := some k5c10 }
/-- java/lang/AbstractStringBuilder -/
def k5 : Class := { plain "java/lang/AbstractStringBuilder" (some 0) with
  accessFlags := 1056
  interfaces := #[3, 4]
  cf := some (fileOf pool5 10 #[] #[{ accessFlags := 0, nameIndex := 7, descriptorIndex := 8, attributes := #[] }, { accessFlags := 0, nameIndex := 7, descriptorIndex := 103, attributes := #[] }, { accessFlags := 1, nameIndex := 34, descriptorIndex := 35, attributes := #[] }, { accessFlags := 2, nameIndex := 102, descriptorIndex := 103, attributes := #[] }, { accessFlags := 2, nameIndex := 106, descriptorIndex := 107, attributes := #[] }, { accessFlags := 1, nameIndex := 45, descriptorIndex := 46, attributes := #[] }, { accessFlags := 1, nameIndex := 45, descriptorIndex := 513, attributes := #[] }, { accessFlags := 16, nameIndex := 552, descriptorIndex := 403, attributes := #[] }, { accessFlags := 16, nameIndex := 85, descriptorIndex := 86, attributes := #[] }, { accessFlags := 2, nameIndex := 217, descriptorIndex := 69, attributes := #[] }, { accessFlags := 2, nameIndex := 210, descriptorIndex := 211, attributes := #[] }] 1056 4 #[444, 48] #[{ accessFlags := 0, nameIndex := 17, descriptorIndex := 14, attributes := #[] }, { accessFlags := 0, nameIndex := 24, descriptorIndex := 25, attributes := #[] }, { accessFlags := 0, nameIndex := 75, descriptorIndex := 21, attributes := #[] }, { accessFlags := 0, nameIndex := 81, descriptorIndex := 82, attributes := #[] }, { accessFlags := 26, nameIndex := 13, descriptorIndex := 14, attributes := #[] }])
  fields := #[{ name := "value", type := (.array .byte), accessFlags := 0, slot := 0, constantValue := 0 }, { name := "coder", type := .byte, accessFlags := 0, slot := 1, constantValue := 0 }, { name := "maybeLatin1", type := .boolean, accessFlags := 0, slot := 2, constantValue := 0 }, { name := "count", type := .int, accessFlags := 0, slot := 3, constantValue := 0 }, { name := "EMPTYVALUE", type := (.array .byte), accessFlags := 26, slot := 0, constantValue := 0 }]
  methods := #[k5m0, k5m1, k5m2, k5m3, k5m4, k5m5, k5m6, k5m7, k5m8, k5m9, k5m10]
  instanceTypes := #[(.array .byte), .byte, .boolean, .int]
  staticTypes := #[(.array .byte)]
  resolved := Array.replicate 609 none
  statics := none }

def pool6 : Array CpInfo := pool [(1, .class_ 2), (0, u "java/io/Serializable"), (0, .class_ 4), (0, u "java/lang/Object")] 2

/-- java/io/Serializable -/
def k6 : Class := { plain "java/io/Serializable" (some 0) with
  accessFlags := 1537
  interfaces := #[]
  cf := some (fileOf pool6 1 #[] #[] 1537 3 #[] #[])
  fields := #[]
  methods := #[]
  instanceTypes := #[]
  staticTypes := #[]
  resolved := Array.replicate 7 none
  statics := none }

def pool7 : Array CpInfo := pool [(1, .class_ 2), (0, u "java/lang/Comparable"), (0, .class_ 4), (0, u "java/lang/Object")] 7

/-- java/lang/Comparable -/
def k7 : Class := { plain "java/lang/Comparable" (some 0) with
  accessFlags := 1537
  interfaces := #[]
  cf := some (fileOf pool7 1 #[] #[] 1537 3 #[] #[])
  fields := #[]
  methods := #[]
  instanceTypes := #[]
  staticTypes := #[]
  resolved := Array.replicate 12 none
  statics := none }

def pool8 : Array CpInfo := pool [(1, .methodref 2 3), (0, .class_ 4), (0, .nameAndType 5 6), (0, u "java/lang/AbstractStringBuilder"), (0, u "<init>"), (0, u "(I)V"), (11, .class_ 20), (1, u "java/lang/String"), (3, .class_ 26), (1, u "java/lang/StringBuilder"), (0, u "append"), (0, u "(Ljava/lang/String;)Ljava/lang/StringBuilder;"), (0, .methodref 2 30), (0, .nameAndType 27 31), (0, u "(Ljava/lang/String;)Ljava/lang/AbstractStringBuilder;"), (24, .methodref 2 57), (0, .nameAndType 27 58), (0, u "(J)Ljava/lang/AbstractStringBuilder;"), (78, .methodref 18 138), (0, .nameAndType 5 139), (0, u "(Ljava/lang/StringBuilder;)V"), (5, u "()V"), (10, u "()I"), (124, u "(J)Ljava/lang/StringBuilder;"), (61, .methodref 2 344), (0, .nameAndType 345 156), (0, u "length"), (3, .class_ 350), (0, u "java/lang/Appendable"), (0, .class_ 352), (0, u "java/io/Serializable"), (0, .class_ 354), (0, u "java/lang/Comparable"), (0, .class_ 356), (0, u "java/lang/CharSequence"), (0, u "serialVersionUID"), (0, u "J"), (40, u "toString"), (0, u "()Ljava/lang/String;")] 21

def k8c0 : Code := { maxStack := 2, maxLocals := 1, code := jdk_67_method_1_code, exceptionTable := #[], attributes := #[] }
def k8m0 : Method := { name := "<init>", desc := "()V", sig := { parameters := [], returnType := none }, accessFlags := 1, code := some k8c0 }
def k8c1 : Code := { maxStack := 2, maxLocals := 2, code := jdk_67_method_7_code, exceptionTable := #[], attributes := #[] }
def k8m1 : Method := { name := "append", desc := "(Ljava/lang/String;)Ljava/lang/StringBuilder;", sig := { parameters := [(.object "java/lang/String")], returnType := some (.object "java/lang/StringBuilder") }, accessFlags := 1, code := some k8c1 }
def k8c2 : Code := { maxStack := 3, maxLocals := 3, code := jdk_67_method_16_code, exceptionTable := #[], attributes := #[] }
def k8m2 : Method := { name := "append", desc := "(J)Ljava/lang/StringBuilder;", sig := { parameters := [.long], returnType := some (.object "java/lang/StringBuilder") }, accessFlags := 1, code := some k8c2 }
def k8c3 : Code := { maxStack := 3, maxLocals := 1, code := jdk_67_method_42_code, exceptionTable := #[], attributes := #[] }
def k8m3 : Method := { name := "toString", desc := "()Ljava/lang/String;", sig := { parameters := [], returnType := some (.object "java/lang/String") }, accessFlags := 1, code := some k8c3 }
def k8c4 : Code := { maxStack := 1, maxLocals := 1, code := jdk_67_method_93_code, exceptionTable := #[], attributes := #[] }
def k8m4 : Method := { name := "length", desc := "()I", sig := { parameters := [], returnType := some .int }, accessFlags := 4161, code := some k8c4 }
/-- java/lang/StringBuilder -/
def k8 : Class := { plain "java/lang/StringBuilder" (some 5) with
  accessFlags := 49
  interfaces := #[3, 6, 7, 4]
  cf := some (fileOf pool8 24 #[] #[{ accessFlags := 1, nameIndex := 5, descriptorIndex := 145, attributes := #[] }, { accessFlags := 1, nameIndex := 27, descriptorIndex := 28, attributes := #[] }, { accessFlags := 1, nameIndex := 27, descriptorIndex := 281, attributes := #[] }, { accessFlags := 1, nameIndex := 399, descriptorIndex := 400, attributes := #[] }, { accessFlags := 4161, nameIndex := 345, descriptorIndex := 156, attributes := #[] }] 49 2 #[349, 351, 353, 355] #[{ accessFlags := 24, nameIndex := 357, descriptorIndex := 358, attributes := #[] }])
  fields := #[{ name := "serialVersionUID", type := .long, accessFlags := 24, slot := 0, constantValue := 0 }]
  methods := #[k8m0, k8m1, k8m2, k8m3, k8m4]
  instanceTypes := #[(.array .byte), .byte, .boolean, .int]
  staticTypes := #[.long]
  resolved := Array.replicate 422 none
  statics := none }

def pool9 : Array CpInfo := pool [(1, .class_ 2), (0, u "java/lang/constant/Constable"), (0, .class_ 4), (0, u "java/lang/Object")] 6

/-- java/lang/constant/Constable -/
def k9 : Class := { plain "java/lang/constant/Constable" (some 0) with
  accessFlags := 1537
  interfaces := #[]
  cf := some (fileOf pool9 1 #[] #[] 1537 3 #[] #[])
  fields := #[]
  methods := #[]
  instanceTypes := #[]
  staticTypes := #[]
  resolved := Array.replicate 11 none
  statics := none }

def pool10 : Array CpInfo := pool [(1, .class_ 2), (0, u "java/lang/constant/ConstantDesc"), (0, .class_ 4), (0, u "java/lang/Object")] 32

/-- java/lang/constant/ConstantDesc -/
def k10 : Class := { plain "java/lang/constant/ConstantDesc" (some 0) with
  accessFlags := 1537
  interfaces := #[]
  cf := some (fileOf pool10 1 #[] #[] 1537 3 #[] #[])
  fields := #[]
  methods := #[]
  instanceTypes := #[]
  staticTypes := #[]
  resolved := Array.replicate 37 none
  statics := none }

def pool11 : Array CpInfo := pool [(1, .methodref 2 3), (0, .class_ 4), (0, .nameAndType 5 6), (0, u "java/lang/Object"), (0, u "<init>"), (0, u "()V"), (2, .fieldref 10 11), (0, .class_ 12), (0, .nameAndType 13 14), (0, u "java/lang/String"), (0, u "value"), (0, u "[B"), (0, .fieldref 10 16), (0, .nameAndType 17 18), (0, u "coder"), (0, u "B"), (2, u "hash"), (0, u "I"), (2, u "hashIsZero"), (0, u "Z"), (0, .methodref 10 28), (0, .nameAndType 5 29), (0, u "([CIILjava/lang/Void;)V"), (8, .fieldref 10 39), (0, .nameAndType 40 26), (0, u "COMPACT_STRINGS"), (1, .class_ 44), (1, u "java/lang/StringUTF16"), (0, u "compress"), (1, .methodref 42 48), (0, .nameAndType 49 50), (0, u "coderFromArrayLen"), (0, u "([BI)B"), (3, .methodref 55 56), (0, .class_ 57), (0, .nameAndType 58 59), (0, u "java/util/Arrays"), (0, u "copyOfRange"), (0, u "([BII)[B"), (47, .class_ 109), (1, u "java/lang/StringLatin1"), (32, u "()Z"), (34, .methodref 42 178), (0, .nameAndType 45 179), (0, u "([CII)[B"), (13, .class_ 195), (1, u "java/lang/System"), (16, .methodref 193 213), (0, .nameAndType 214 215), (0, u "arraycopy"), (0, u "(Ljava/lang/Object;ILjava/lang/Object;II)V"), (118, u "()I"), (0, .methodref 10 336), (0, .nameAndType 17 337), (0, u "()B"), (2, u "()[B"), (148, .methodref 10 490), (0, .nameAndType 5 491), (0, u "(Ljava/lang/AbstractStringBuilder;Ljava/lang/Void;)V"), (1, .nameAndType 494 142), (0, u "isLatin1"), (11, .nameAndType 507 334), (0, u "length"), (24, u "getBytes"), (8, .methodref 107 542), (0, .nameAndType 543 544), (0, u "equals"), (0, u "([B[B)Z"), (4, .methodref 550 506), (0, .class_ 551), (0, u "java/lang/AbstractStringBuilder"), (0, .methodref 550 553), (0, .nameAndType 554 340), (0, u "getValue"), (18, u "(Ljava/lang/Object;)Z"), (1, .class_ 576), (0, u "java/lang/CharSequence"), (22, u "CASE_INSENSITIVE_ORDER"), (0, u "Ljava/util/Comparator;"), (220, u "([BIB)V"), (188, u "([C)V"), (36, .methodref 550 493), (53, u "serialPersistentFields"), (0, u "[Ljava/io/ObjectStreamField;"), (0, .class_ 1104), (0, u "java/lang/String$CaseInsensitiveComparator"), (1, .class_ 1107), (0, u "java/io/Serializable"), (0, .class_ 1109), (0, u "java/lang/Comparable"), (0, .class_ 1111), (0, u "java/lang/constant/Constable"), (0, .class_ 1113), (0, u "java/lang/constant/ConstantDesc"), (2, u "serialVersionUID"), (0, u "J"), (3, u "REPL"), (0, u "C"), (2, u "LATIN1"), (1, u "UTF16"), (105, u "(Ljava/lang/StringBuilder;)V")] 217

def k11m0 : Method := { name := "<init>", desc := "()V", sig := { parameters := [], returnType := none }, accessFlags := 1, code := none }
def k11c1 : Code := { maxStack := 5, maxLocals := 2, code := jdk_42_method_3_code, exceptionTable := #[], attributes := #[] }
def k11m1 : Method := { name := "<init>", desc := "([C)V", sig := { parameters := [(.array .char)], returnType := none }, accessFlags := 1, code := some k11c1 }
def k11c2 : Code := { maxStack := 3, maxLocals := 2, code := jdk_42_method_53_code, exceptionTable := #[], attributes := #[] }
def k11m2 : Method := { name := "<init>", desc := "(Ljava/lang/StringBuilder;)V", sig := { parameters := [(.object "java/lang/StringBuilder")], returnType := none }, accessFlags := 1, code := some k11c2 }
def k11c3 : Code := { maxStack := 2, maxLocals := 1, code := jdk_42_method_54_code, exceptionTable := #[], attributes := #[] }
def k11m3 : Method := { name := "length", desc := "()I", sig := { parameters := [], returnType := some .int }, accessFlags := 1, code := some k11c3 }
def k11c4 : Code := { maxStack := 2, maxLocals := 3, code := jdk_42_method_66_code, exceptionTable := #[], attributes := #[] }
def k11m4 : Method := { name := "equals", desc := "(Ljava/lang/Object;)Z", sig := { parameters := [(.object "java/lang/Object")], returnType := some .boolean }, accessFlags := 1, code := some k11c4 }
def k11c5 : Code := { maxStack := 5, maxLocals := 4, code := jdk_42_method_147_code, exceptionTable := #[], attributes := #[] }
def k11m5 : Method := { name := "getBytes", desc := "([BIB)V", sig := { parameters := [(.array .byte), .int, .byte], returnType := none }, accessFlags := 0, code := some k11c5 }
def k11c6 : Code := { maxStack := 4, maxLocals := 6, code := jdk_42_method_149_code, exceptionTable := #[], attributes := #[] }
def k11m6 : Method := { name := "<init>", desc := "([CIILjava/lang/Void;)V", sig := { parameters := [(.array .char), .int, .int, (.object "java/lang/Void")], returnType := none }, accessFlags := 2, code := some k11c6 }
def k11c7 : Code := { maxStack := 5, maxLocals := 5, code := jdk_42_method_150_code, exceptionTable := #[], attributes := #[] }
def k11m7 : Method := { name := "<init>", desc := "(Ljava/lang/AbstractStringBuilder;Ljava/lang/Void;)V", sig := { parameters := [(.object "java/lang/AbstractStringBuilder"), (.object "java/lang/Void")], returnType := none }, accessFlags := 0, code := some k11c7 }
def k11c8 : Code := { maxStack := 1, maxLocals := 1, code := jdk_42_method_152_code, exceptionTable := #[], attributes := #[] }
def k11m8 : Method := { name := "coder", desc := "()B", sig := { parameters := [], returnType := some .byte }, accessFlags := 0, code := some k11c8 }
/-- java/lang/String -/
def k11 : Class := { plain "java/lang/String" (some 0) with
  accessFlags := 49
  interfaces := #[6, 7, 4, 9, 10]
  cf := some (fileOf pool11 10 #[.nestMembers #[1103]] #[{ accessFlags := 1, nameIndex := 5, descriptorIndex := 6, attributes := #[] }, { accessFlags := 1, nameIndex := 5, descriptorIndex := 1010, attributes := #[] }, { accessFlags := 1, nameIndex := 5, descriptorIndex := 1233, attributes := #[] }, { accessFlags := 1, nameIndex := 507, descriptorIndex := 334, attributes := #[] }, { accessFlags := 1, nameIndex := 543, descriptorIndex := 573, attributes := #[] }, { accessFlags := 0, nameIndex := 532, descriptorIndex := 821, attributes := #[] }, { accessFlags := 2, nameIndex := 5, descriptorIndex := 29, attributes := #[] }, { accessFlags := 0, nameIndex := 5, descriptorIndex := 491, attributes := #[] }, { accessFlags := 0, nameIndex := 17, descriptorIndex := 337, attributes := #[] }] 49 2 #[1106, 1108, 575, 1110, 1112] #[{ accessFlags := 18, nameIndex := 13, descriptorIndex := 14, attributes := #[] }, { accessFlags := 18, nameIndex := 17, descriptorIndex := 18, attributes := #[] }, { accessFlags := 2, nameIndex := 21, descriptorIndex := 22, attributes := #[] }, { accessFlags := 2, nameIndex := 25, descriptorIndex := 26, attributes := #[] }, { accessFlags := 26, nameIndex := 1116, descriptorIndex := 1117, attributes := #[] }, { accessFlags := 24, nameIndex := 40, descriptorIndex := 26, attributes := #[] }, { accessFlags := 26, nameIndex := 1101, descriptorIndex := 1102, attributes := #[] }, { accessFlags := 26, nameIndex := 1121, descriptorIndex := 1122, attributes := #[] }, { accessFlags := 25, nameIndex := 599, descriptorIndex := 600, attributes := #[] }, { accessFlags := 24, nameIndex := 1125, descriptorIndex := 18, attributes := #[] }, { accessFlags := 24, nameIndex := 1127, descriptorIndex := 18, attributes := #[] }])
  fields := #[{ name := "value", type := (.array .byte), accessFlags := 18, slot := 0, constantValue := 0 }, { name := "coder", type := .byte, accessFlags := 18, slot := 1, constantValue := 0 }, { name := "hash", type := .int, accessFlags := 2, slot := 2, constantValue := 0 }, { name := "hashIsZero", type := .boolean, accessFlags := 2, slot := 3, constantValue := 0 }, { name := "serialVersionUID", type := .long, accessFlags := 26, slot := 0, constantValue := 0 }, { name := "COMPACT_STRINGS", type := .boolean, accessFlags := 24, slot := 1, constantValue := 0 }, { name := "serialPersistentFields", type := (.array (.object "java/io/ObjectStreamField")), accessFlags := 26, slot := 2, constantValue := 0 }, { name := "REPL", type := .char, accessFlags := 26, slot := 3, constantValue := 0 }, { name := "CASE_INSENSITIVE_ORDER", type := (.object "java/util/Comparator"), accessFlags := 25, slot := 4, constantValue := 0 }, { name := "LATIN1", type := .byte, accessFlags := 24, slot := 5, constantValue := 0 }, { name := "UTF16", type := .byte, accessFlags := 24, slot := 6, constantValue := 0 }]
  methods := #[k11m0, k11m1, k11m2, k11m3, k11m4, k11m5, k11m6, k11m7, k11m8]
  instanceTypes := #[(.array .byte), .byte, .int, .boolean]
  staticTypes := #[.long, .boolean, (.array (.object "java/io/ObjectStreamField")), .char, (.object "java/util/Comparator"), .byte, .byte]
  resolved := Array.replicate 1451 none
  statics := some 0 }

def pool12 : Array CpInfo := pool [(2, .class_ 4), (1, u "java/lang/Object"), (0, u "<init>"), (0, u "()V"), (1, .class_ 10), (1, u "java/lang/System"), (0, u "allowSecurityManager"), (0, u "I"), (16, u "cons"), (0, u "Ljava/io/Console;"), (77, .class_ 110), (1, u "java/lang/System$CallersHolder"), (43, u "initialErrStream"), (0, u "Ljava/io/PrintStream;"), (19, u "security"), (0, u "Ljava/lang/SecurityManager;"), (31, .class_ 209), (0, u "java/lang/System$1"), (7, u "props"), (0, u "Ljava/util/Properties;"), (2, u "lineSeparator"), (0, u "Ljava/lang/String;"), (96, .class_ 321), (1, u "java/lang/System$LoggerFinder"), (5, .class_ 328), (0, u "java/lang/System$Logger"), (67, u "err"), (2, u "out"), (91, u "notSupportedJnuEncoding"), (15, u "in"), (17, u "initialIn"), (0, u "Ljava/io/InputStream;"), (35, u "bootLayer"), (0, u "Ljava/lang/ModuleLayer;"), (99, .class_ 664), (0, u "java/lang/System$2"), (9, u "NEVER"), (2, u "MAYBE"), (49, u "arraycopy"), (0, u "(Ljava/lang/Object;ILjava/lang/Object;II)V"), (72, .class_ 802), (0, u "java/lang/System$Logger$Level")] 31

def k12m0 : Method := { name := "<init>", desc := "()V", sig := { parameters := [], returnType := none }, accessFlags := 2, code := none }
def k12m1 : Method := { name := "arraycopy", desc := "(Ljava/lang/Object;ILjava/lang/Object;II)V", sig := { parameters := [(.object "java/lang/Object"), .int, (.object "java/lang/Object"), .int, .int], returnType := none }, accessFlags := 265, code := none }
/-- java/lang/System -/
def k12 : Class := { plain "java/lang/System" (some 0) with
  accessFlags := 49
  interfaces := #[]
  cf := some (fileOf pool12 8 #[.nestMembers #[319, 327, 801, 108, 663, 208]] #[{ accessFlags := 2, nameIndex := 5, descriptorIndex := 6, attributes := #[] }, { accessFlags := 265, nameIndex := 727, descriptorIndex := 728, attributes := #[] }] 49 2 #[] #[{ accessFlags := 25, nameIndex := 507, descriptorIndex := 526, attributes := #[] }, { accessFlags := 25, nameIndex := 399, descriptorIndex := 155, attributes := #[] }, { accessFlags := 25, nameIndex := 396, descriptorIndex := 155, attributes := #[] }, { accessFlags := 10, nameIndex := 525, descriptorIndex := 526, attributes := #[] }, { accessFlags := 26, nameIndex := 674, descriptorIndex := 12, attributes := #[] }, { accessFlags := 26, nameIndex := 677, descriptorIndex := 12, attributes := #[] }, { accessFlags := 10, nameIndex := 11, descriptorIndex := 12, attributes := #[] }, { accessFlags := 74, nameIndex := 175, descriptorIndex := 176, attributes := #[] }, { accessFlags := 10, nameIndex := 491, descriptorIndex := 222, attributes := #[] }, { accessFlags := 74, nameIndex := 29, descriptorIndex := 30, attributes := #[] }, { accessFlags := 74, nameIndex := 154, descriptorIndex := 155, attributes := #[] }, { accessFlags := 10, nameIndex := 217, descriptorIndex := 218, attributes := #[] }, { accessFlags := 10, nameIndex := 221, descriptorIndex := 222, attributes := #[] }, { accessFlags := 8, nameIndex := 562, descriptorIndex := 563, attributes := #[] }])
  fields := #[{ name := "in", type := (.object "java/io/InputStream"), accessFlags := 25, slot := 0, constantValue := 0 }, { name := "out", type := (.object "java/io/PrintStream"), accessFlags := 25, slot := 1, constantValue := 0 }, { name := "err", type := (.object "java/io/PrintStream"), accessFlags := 25, slot := 2, constantValue := 0 }, { name := "initialIn", type := (.object "java/io/InputStream"), accessFlags := 10, slot := 3, constantValue := 0 }, { name := "NEVER", type := .int, accessFlags := 26, slot := 4, constantValue := 0 }, { name := "MAYBE", type := .int, accessFlags := 26, slot := 5, constantValue := 0 }, { name := "allowSecurityManager", type := .int, accessFlags := 10, slot := 6, constantValue := 0 }, { name := "security", type := (.object "java/lang/SecurityManager"), accessFlags := 74, slot := 7, constantValue := 0 }, { name := "notSupportedJnuEncoding", type := (.object "java/lang/String"), accessFlags := 10, slot := 8, constantValue := 0 }, { name := "cons", type := (.object "java/io/Console"), accessFlags := 74, slot := 9, constantValue := 0 }, { name := "initialErrStream", type := (.object "java/io/PrintStream"), accessFlags := 74, slot := 10, constantValue := 0 }, { name := "props", type := (.object "java/util/Properties"), accessFlags := 10, slot := 11, constantValue := 0 }, { name := "lineSeparator", type := (.object "java/lang/String"), accessFlags := 10, slot := 12, constantValue := 0 }, { name := "bootLayer", type := (.object "java/lang/ModuleLayer"), accessFlags := 8, slot := 13, constantValue := 0 }]
  methods := #[k12m0, k12m1]
  instanceTypes := #[]
  staticTypes := #[(.object "java/io/InputStream"), (.object "java/io/PrintStream"), (.object "java/io/PrintStream"), (.object "java/io/InputStream"), .int, .int, .int, (.object "java/lang/SecurityManager"), (.object "java/lang/String"), (.object "java/io/Console"), (.object "java/io/PrintStream"), (.object "java/util/Properties"), (.object "java/lang/String"), (.object "java/lang/ModuleLayer")]
  resolved := Array.replicate 834 none
  statics := none }

def pool13 : Array CpInfo := pool [(2, .class_ 4), (1, u "java/lang/Object"), (0, u "<init>"), (0, u "()V"), (1, .class_ 10), (1, u "java/lang/Number"), (2, .class_ 14), (0, u "java/io/Serializable"), (0, u "serialVersionUID"), (0, u "J")] 20

def k13m0 : Method := { name := "<init>", desc := "()V", sig := { parameters := [], returnType := none }, accessFlags := 1, code := none }
/-- java/lang/Number -/
def k13 : Class := { plain "java/lang/Number" (some 0) with
  accessFlags := 1057
  interfaces := #[6]
  cf := some (fileOf pool13 8 #[] #[{ accessFlags := 1, nameIndex := 5, descriptorIndex := 6, attributes := #[] }] 1057 2 #[13] #[{ accessFlags := 26, nameIndex := 15, descriptorIndex := 16, attributes := #[] }])
  fields := #[{ name := "serialVersionUID", type := .long, accessFlags := 26, slot := 0, constantValue := 0 }]
  methods := #[k13m0]
  instanceTypes := #[]
  staticTypes := #[.long]
  resolved := Array.replicate 37 none
  statics := none }

def pool14 : Array CpInfo := pool [(1, .class_ 2), (0, u "java/lang/Long"), (15, .class_ 20), (1, u "java/lang/Integer"), (80, u "(J)I"), (18, u "stringSize"), (2, u "getChars"), (0, u "(JI[B)I"), (4, .long 18446744071562067968), (3, .fieldref 18 134), (0, .nameAndType 135 136), (0, u "DigitOnes"), (0, u "[B"), (3, .long 18446744073709551606), (94, .class_ 237), (1, u "java/lang/Long$LongCache"), (33, .class_ 272), (0, u "java/lang/Number"), (2, u "value"), (0, u "J"), (84, u "TYPE"), (0, u "Ljava/lang/Class;"), (0, .class_ 364), (0, u "java/lang/Comparable"), (0, .class_ 366), (0, u "java/lang/constant/Constable"), (0, .class_ 368), (0, u "java/lang/constant/ConstantDesc"), (0, u "MIN_VALUE"), (1, u "MAX_VALUE"), (4, u "SIZE"), (0, u "I"), (1, u "BYTES"), (1, u "serialVersionUID")] 142

def k14c0 : Code := { maxStack := 4, maxLocals := 11, code := jdk_35_method_14_code, exceptionTable := #[], attributes := #[] }
def k14m0 : Method := { name := "getChars", desc := "(JI[B)I", sig := { parameters := [.long, .int, (.array .byte)], returnType := some .int }, accessFlags := 8, code := some k14c0 }
def k14c1 : Code := { maxStack := 4, maxLocals := 6, code := jdk_35_method_15_code, exceptionTable := #[], attributes := #[] }
def k14m1 : Method := { name := "stringSize", desc := "(J)I", sig := { parameters := [.long], returnType := some .int }, accessFlags := 8, code := some k14c1 }
/-- java/lang/Long -/
def k14 : Class := { plain "java/lang/Long" (some 13) with
  accessFlags := 49
  interfaces := #[7, 9, 10]
  cf := some (fileOf pool14 1 #[.nestMembers #[235]] #[{ accessFlags := 8, nameIndex := 123, descriptorIndex := 124, attributes := #[] }, { accessFlags := 8, nameIndex := 120, descriptorIndex := 101, attributes := #[] }] 49 271 #[363, 365, 367] #[{ accessFlags := 25, nameIndex := 369, descriptorIndex := 276, attributes := #[] }, { accessFlags := 25, nameIndex := 371, descriptorIndex := 276, attributes := #[] }, { accessFlags := 25, nameIndex := 361, descriptorIndex := 362, attributes := #[] }, { accessFlags := 18, nameIndex := 275, descriptorIndex := 276, attributes := #[] }, { accessFlags := 25, nameIndex := 376, descriptorIndex := 377, attributes := #[] }, { accessFlags := 25, nameIndex := 379, descriptorIndex := 377, attributes := #[] }, { accessFlags := 26, nameIndex := 381, descriptorIndex := 276, attributes := #[] }])
  fields := #[{ name := "MIN_VALUE", type := .long, accessFlags := 25, slot := 0, constantValue := 0 }, { name := "MAX_VALUE", type := .long, accessFlags := 25, slot := 1, constantValue := 0 }, { name := "TYPE", type := (.object "java/lang/Class"), accessFlags := 25, slot := 2, constantValue := 0 }, { name := "value", type := .long, accessFlags := 18, slot := 0, constantValue := 0 }, { name := "SIZE", type := .int, accessFlags := 25, slot := 3, constantValue := 0 }, { name := "BYTES", type := .int, accessFlags := 25, slot := 4, constantValue := 0 }, { name := "serialVersionUID", type := .long, accessFlags := 26, slot := 5, constantValue := 0 }]
  methods := #[k14m0, k14m1]
  instanceTypes := #[.long]
  staticTypes := #[.long, .long, (.object "java/lang/Class"), .int, .int, .long]
  resolved := Array.replicate 524 none
  statics := none }

def pool15 : Array CpInfo := pool [(1, .class_ 2), (0, u "java/lang/Integer"), (16, u "digits"), (0, u "[C"), (64, u "DigitOnes"), (0, u "[B"), (2, u "DigitTens"), (99, .class_ 190), (0, u "java/lang/Integer$IntegerCache"), (3, u "I"), (8, .class_ 204), (0, u "java/lang/Number"), (2, u "value"), (94, u "TYPE"), (0, u "Ljava/lang/Class;"), (0, .class_ 305), (0, u "java/lang/Comparable"), (0, .class_ 307), (0, u "java/lang/constant/Constable"), (0, .class_ 309), (0, u "java/lang/constant/ConstantDesc"), (0, u "MIN_VALUE"), (1, u "MAX_VALUE"), (3, u "SIZE"), (1, u "BYTES"), (1, u "serialVersionUID"), (0, u "J")] 131

/-- java/lang/Integer -/
def k15 : Class := { plain "java/lang/Integer" (some 13) with
  accessFlags := 49
  interfaces := #[7, 9, 10]
  cf := some (fileOf pool15 1 #[.nestMembers #[189]] #[] 49 203 #[304, 306, 308] #[{ accessFlags := 25, nameIndex := 310, descriptorIndex := 194, attributes := #[] }, { accessFlags := 25, nameIndex := 312, descriptorIndex := 194, attributes := #[] }, { accessFlags := 25, nameIndex := 302, descriptorIndex := 303, attributes := #[] }, { accessFlags := 24, nameIndex := 19, descriptorIndex := 20, attributes := #[] }, { accessFlags := 24, nameIndex := 89, descriptorIndex := 86, attributes := #[] }, { accessFlags := 24, nameIndex := 85, descriptorIndex := 86, attributes := #[] }, { accessFlags := 18, nameIndex := 207, descriptorIndex := 194, attributes := #[] }, { accessFlags := 25, nameIndex := 316, descriptorIndex := 194, attributes := #[] }, { accessFlags := 25, nameIndex := 318, descriptorIndex := 194, attributes := #[] }, { accessFlags := 26, nameIndex := 320, descriptorIndex := 321, attributes := #[] }])
  fields := #[{ name := "MIN_VALUE", type := .int, accessFlags := 25, slot := 0, constantValue := 0 }, { name := "MAX_VALUE", type := .int, accessFlags := 25, slot := 1, constantValue := 0 }, { name := "TYPE", type := (.object "java/lang/Class"), accessFlags := 25, slot := 2, constantValue := 0 }, { name := "digits", type := (.array .char), accessFlags := 24, slot := 3, constantValue := 0 }, { name := "DigitTens", type := (.array .byte), accessFlags := 24, slot := 4, constantValue := 0 }, { name := "DigitOnes", type := (.array .byte), accessFlags := 24, slot := 5, constantValue := 0 }, { name := "value", type := .int, accessFlags := 18, slot := 0, constantValue := 0 }, { name := "SIZE", type := .int, accessFlags := 25, slot := 6, constantValue := 0 }, { name := "BYTES", type := .int, accessFlags := 25, slot := 7, constantValue := 0 }, { name := "serialVersionUID", type := .long, accessFlags := 26, slot := 8, constantValue := 0 }]
  methods := #[]
  instanceTypes := #[.int]
  staticTypes := #[.int, .int, (.object "java/lang/Class"), (.array .char), (.array .byte), (.array .byte), .int, .int, .long]
  resolved := Array.replicate 453 none
  statics := some 1 }

def pool16 : Array CpInfo := pool [(9, u "<init>"), (6, .class_ 18), (1, u "java/lang/Object"), (0, u "()V"), (1, .class_ 23), (1, u "jdk/internal/util/ArraysSupport"), (0, u "LOG2_ARRAY_LONG_INDEX_SCALE"), (0, u "I"), (2, u "U"), (0, u "Ljdk/internal/misc/Unsafe;"), (8, u "BIG_ENDIAN"), (0, u "Z"), (8, u "LOG2_BYTE_BIT_SIZE"), (4, u "LOG2_ARRAY_INT_INDEX_SCALE"), (54, u "JLA"), (0, u "Ljdk/internal/access/JavaLangAccess;"), (11, u "LOG2_ARRAY_BOOLEAN_INDEX_SCALE"), (9, u "LOG2_ARRAY_BYTE_INDEX_SCALE"), (5, u "LOG2_ARRAY_CHAR_INDEX_SCALE"), (5, u "LOG2_ARRAY_SHORT_INDEX_SCALE"), (18, u "LOG2_ARRAY_FLOAT_INDEX_SCALE"), (24, u "LOG2_ARRAY_DOUBLE_INDEX_SCALE"), (6, .methodref 195 196), (0, .class_ 197), (0, .nameAndType 198 199), (0, u "java/lang/Math"), (0, u "max"), (0, u "(II)I"), (0, .integer 2147483639), (76, u "T_BOOLEAN"), (2, u "T_CHAR"), (1, u "T_FLOAT"), (1, u "T_DOUBLE"), (1, u "T_BYTE"), (1, u "T_SHORT"), (1, u "T_INT"), (1, u "T_LONG"), (1, u "SOFT_MAX_ARRAY_LENGTH"), (56, u "newLength"), (0, u "(III)I")] 25

def k16m0 : Method := { name := "<init>", desc := "()V", sig := { parameters := [], returnType := none }, accessFlags := 2, code := none }
def k16c1 : Code := { maxStack := 3, maxLocals := 4, code := jdk_48_method_27_code, exceptionTable := #[], attributes := #[] }
def k16m1 : Method := { name := "newLength", desc := "(III)I", sig := { parameters := [.int, .int, .int], returnType := some .int }, accessFlags := 9, code := some k16c1 }
/-- jdk/internal/util/ArraysSupport -/
def k16 : Class := { plain "jdk/internal/util/ArraysSupport" (some 0) with
  accessFlags := 33
  interfaces := #[]
  cf := some (fileOf pool16 21 #[] #[{ accessFlags := 2, nameIndex := 9, descriptorIndex := 19, attributes := #[] }, { accessFlags := 9, nameIndex := 351, descriptorIndex := 352, attributes := #[] }] 33 16 #[] #[{ accessFlags := 24, nameIndex := 28, descriptorIndex := 29, attributes := #[] }, { accessFlags := 26, nameIndex := 38, descriptorIndex := 39, attributes := #[] }, { accessFlags := 25, nameIndex := 121, descriptorIndex := 25, attributes := #[] }, { accessFlags := 25, nameIndex := 131, descriptorIndex := 25, attributes := #[] }, { accessFlags := 25, nameIndex := 137, descriptorIndex := 25, attributes := #[] }, { accessFlags := 25, nameIndex := 143, descriptorIndex := 25, attributes := #[] }, { accessFlags := 25, nameIndex := 53, descriptorIndex := 25, attributes := #[] }, { accessFlags := 25, nameIndex := 24, descriptorIndex := 25, attributes := #[] }, { accessFlags := 25, nameIndex := 162, descriptorIndex := 25, attributes := #[] }, { accessFlags := 25, nameIndex := 187, descriptorIndex := 25, attributes := #[] }, { accessFlags := 26, nameIndex := 48, descriptorIndex := 25, attributes := #[] }, { accessFlags := 25, nameIndex := 277, descriptorIndex := 25, attributes := #[] }, { accessFlags := 25, nameIndex := 280, descriptorIndex := 25, attributes := #[] }, { accessFlags := 25, nameIndex := 282, descriptorIndex := 25, attributes := #[] }, { accessFlags := 25, nameIndex := 284, descriptorIndex := 25, attributes := #[] }, { accessFlags := 25, nameIndex := 286, descriptorIndex := 25, attributes := #[] }, { accessFlags := 25, nameIndex := 288, descriptorIndex := 25, attributes := #[] }, { accessFlags := 25, nameIndex := 290, descriptorIndex := 25, attributes := #[] }, { accessFlags := 25, nameIndex := 292, descriptorIndex := 25, attributes := #[] }, { accessFlags := 26, nameIndex := 108, descriptorIndex := 109, attributes := #[] }, { accessFlags := 25, nameIndex := 294, descriptorIndex := 25, attributes := #[] }])
  fields := #[{ name := "U", type := (.object "jdk/internal/misc/Unsafe"), accessFlags := 24, slot := 0, constantValue := 0 }, { name := "BIG_ENDIAN", type := .boolean, accessFlags := 26, slot := 1, constantValue := 0 }, { name := "LOG2_ARRAY_BOOLEAN_INDEX_SCALE", type := .int, accessFlags := 25, slot := 2, constantValue := 0 }, { name := "LOG2_ARRAY_BYTE_INDEX_SCALE", type := .int, accessFlags := 25, slot := 3, constantValue := 0 }, { name := "LOG2_ARRAY_CHAR_INDEX_SCALE", type := .int, accessFlags := 25, slot := 4, constantValue := 0 }, { name := "LOG2_ARRAY_SHORT_INDEX_SCALE", type := .int, accessFlags := 25, slot := 5, constantValue := 0 }, { name := "LOG2_ARRAY_INT_INDEX_SCALE", type := .int, accessFlags := 25, slot := 6, constantValue := 0 }, { name := "LOG2_ARRAY_LONG_INDEX_SCALE", type := .int, accessFlags := 25, slot := 7, constantValue := 0 }, { name := "LOG2_ARRAY_FLOAT_INDEX_SCALE", type := .int, accessFlags := 25, slot := 8, constantValue := 0 }, { name := "LOG2_ARRAY_DOUBLE_INDEX_SCALE", type := .int, accessFlags := 25, slot := 9, constantValue := 0 }, { name := "LOG2_BYTE_BIT_SIZE", type := .int, accessFlags := 26, slot := 10, constantValue := 0 }, { name := "T_BOOLEAN", type := .int, accessFlags := 25, slot := 11, constantValue := 0 }, { name := "T_CHAR", type := .int, accessFlags := 25, slot := 12, constantValue := 0 }, { name := "T_FLOAT", type := .int, accessFlags := 25, slot := 13, constantValue := 0 }, { name := "T_DOUBLE", type := .int, accessFlags := 25, slot := 14, constantValue := 0 }, { name := "T_BYTE", type := .int, accessFlags := 25, slot := 15, constantValue := 0 }, { name := "T_SHORT", type := .int, accessFlags := 25, slot := 16, constantValue := 0 }, { name := "T_INT", type := .int, accessFlags := 25, slot := 17, constantValue := 0 }, { name := "T_LONG", type := .int, accessFlags := 25, slot := 18, constantValue := 0 }, { name := "JLA", type := (.object "jdk/internal/access/JavaLangAccess"), accessFlags := 26, slot := 19, constantValue := 0 }, { name := "SOFT_MAX_ARRAY_LENGTH", type := .int, accessFlags := 25, slot := 20, constantValue := 0 }]
  methods := #[k16m0, k16m1]
  instanceTypes := #[]
  staticTypes := #[(.object "jdk/internal/misc/Unsafe"), .boolean, .int, .int, .int, .int, .int, .int, .int, .int, .int, .int, .int, .int, .int, .int, .int, .int, .int, (.object "jdk/internal/access/JavaLangAccess"), .int]
  resolved := Array.replicate 378 none
  statics := none }

def pool17 : Array CpInfo := pool [(1, .class_ 2), (0, u "java/lang/Math"), (1, .class_ 6), (1, u "java/lang/Object"), (0, u "<init>"), (0, u "()V"), (89, .class_ 100), (1, u "java/lang/Math$RandomNumberGeneratorHolder"), (71, u "negativeZeroFloatBits"), (0, u "J"), (2, u "negativeZeroDoubleBits"), (21, u "max"), (2, u "min"), (43, u "$assertionsDisabled"), (0, u "Z"), (88, u "(II)I"), (2, u "twoToTheDoubleScaleDown"), (0, u "D"), (4, u "twoToTheDoubleScaleUp"), (9, u "E"), (3, u "PI"), (2, u "TAU"), (2, u "DEGREES_TO_RADIANS"), (0, u "RADIANS_TO_DEGREES")] 94

def k17m0 : Method := { name := "<init>", desc := "()V", sig := { parameters := [], returnType := none }, accessFlags := 2, code := none }
def k17c1 : Code := { maxStack := 2, maxLocals := 2, code := jdk_29_method_65_code, exceptionTable := #[], attributes := #[] }
def k17m1 : Method := { name := "max", desc := "(II)I", sig := { parameters := [.int, .int], returnType := some .int }, accessFlags := 9, code := some k17c1 }
def k17c2 : Code := { maxStack := 2, maxLocals := 2, code := jdk_29_method_69_code, exceptionTable := #[], attributes := #[] }
def k17m2 : Method := { name := "min", desc := "(II)I", sig := { parameters := [.int, .int], returnType := some .int }, accessFlags := 9, code := some k17c2 }
/-- java/lang/Math -/
def k17 : Class := { plain "java/lang/Math" (some 0) with
  accessFlags := 49
  interfaces := #[]
  cf := some (fileOf pool17 1 #[.nestMembers #[98]] #[{ accessFlags := 2, nameIndex := 7, descriptorIndex := 8, attributes := #[] }, { accessFlags := 9, nameIndex := 198, descriptorIndex := 335, attributes := #[] }, { accessFlags := 9, nameIndex := 201, descriptorIndex := 335, attributes := #[] }] 49 4 #[] #[{ accessFlags := 25, nameIndex := 354, descriptorIndex := 339, attributes := #[] }, { accessFlags := 25, nameIndex := 358, descriptorIndex := 339, attributes := #[] }, { accessFlags := 25, nameIndex := 361, descriptorIndex := 339, attributes := #[] }, { accessFlags := 26, nameIndex := 364, descriptorIndex := 339, attributes := #[] }, { accessFlags := 26, nameIndex := 365, descriptorIndex := 339, attributes := #[] }, { accessFlags := 26, nameIndex := 172, descriptorIndex := 173, attributes := #[] }, { accessFlags := 26, nameIndex := 176, descriptorIndex := 173, attributes := #[] }, { accessFlags := 8, nameIndex := 344, descriptorIndex := 339, attributes := #[] }, { accessFlags := 8, nameIndex := 338, descriptorIndex := 339, attributes := #[] }, { accessFlags := 4120, nameIndex := 245, descriptorIndex := 246, attributes := #[] }])
  fields := #[{ name := "E", type := .double, accessFlags := 25, slot := 0, constantValue := 0 }, { name := "PI", type := .double, accessFlags := 25, slot := 1, constantValue := 0 }, { name := "TAU", type := .double, accessFlags := 25, slot := 2, constantValue := 0 }, { name := "DEGREES_TO_RADIANS", type := .double, accessFlags := 26, slot := 3, constantValue := 0 }, { name := "RADIANS_TO_DEGREES", type := .double, accessFlags := 26, slot := 4, constantValue := 0 }, { name := "negativeZeroFloatBits", type := .long, accessFlags := 26, slot := 5, constantValue := 0 }, { name := "negativeZeroDoubleBits", type := .long, accessFlags := 26, slot := 6, constantValue := 0 }, { name := "twoToTheDoubleScaleUp", type := .double, accessFlags := 8, slot := 7, constantValue := 0 }, { name := "twoToTheDoubleScaleDown", type := .double, accessFlags := 8, slot := 8, constantValue := 0 }, { name := "$assertionsDisabled", type := .boolean, accessFlags := 4120, slot := 9, constantValue := 0 }]
  methods := #[k17m0, k17m1, k17m2]
  instanceTypes := #[]
  staticTypes := #[.double, .double, .double, .double, .double, .long, .long, .double, .double, .boolean]
  resolved := Array.replicate 460 none
  statics := none }

def pool18 : Array CpInfo := pool [(2, .class_ 4), (1, u "java/lang/Object"), (0, u "<init>"), (0, u "()V"), (7, .class_ 16), (1, u "java/util/Arrays"), (57, .class_ 76), (1, u "java/util/Arrays$NaturalOrder"), (36, .class_ 115), (1, u "java/util/Arrays$LegacyMergeSort"), (1, u "Z"), (21, u "copyOfRange"), (10, .methodref 151 152), (0, .class_ 153), (0, .nameAndType 154 155), (0, u "java/lang/System"), (0, u "arraycopy"), (0, u "(Ljava/lang/Object;ILjava/lang/Object;II)V"), (146, u "copyOf"), (1, .methodref 305 306), (0, .class_ 307), (0, .nameAndType 308 309), (0, u "java/lang/Math"), (0, u "min"), (0, u "(II)I"), (29, .methodref 14 340), (0, .nameAndType 341 342), (0, u "copyOfRangeByte"), (0, u "([BII)[B"), (0, .methodref 14 344), (0, .nameAndType 345 346), (0, u "checkLength"), (0, u "(II)V"), (28, .class_ 376), (0, u "java/util/Arrays$ArrayList"), (68, u "$assertionsDisabled"), (269, u "MIN_ARRAY_SORT_GRAN"), (0, u "I"), (2, u "INSERTIONSORT_THRESHOLD"), (149, u "([BI)[B"), (105, .class_ 976), (0, u "java/util/Arrays$ArrayItr")] 52

def k18m0 : Method := { name := "<init>", desc := "()V", sig := { parameters := [], returnType := none }, accessFlags := 2, code := none }
def k18c1 : Code := { maxStack := 6, maxLocals := 3, code := jdk_65_method_121_code, exceptionTable := #[], attributes := #[] }
def k18m1 : Method := { name := "copyOf", desc := "([BI)[B", sig := { parameters := [(.array .byte), .int], returnType := some (.array .byte) }, accessFlags := 9, code := some k18c1 }
def k18c2 : Code := { maxStack := 4, maxLocals := 2, code := jdk_65_method_131_code, exceptionTable := #[], attributes := #[] }
def k18m2 : Method := { name := "checkLength", desc := "(II)V", sig := { parameters := [.int, .int], returnType := none }, accessFlags := 10, code := some k18c2 }
def k18c3 : Code := { maxStack := 3, maxLocals := 3, code := jdk_65_method_132_code, exceptionTable := #[], attributes := #[] }
def k18m3 : Method := { name := "copyOfRange", desc := "([BII)[B", sig := { parameters := [(.array .byte), .int, .int], returnType := some (.array .byte) }, accessFlags := 9, code := some k18c3 }
def k18c4 : Code := { maxStack := 6, maxLocals := 5, code := jdk_65_method_133_code, exceptionTable := #[], attributes := #[] }
def k18m4 : Method := { name := "copyOfRangeByte", desc := "([BII)[B", sig := { parameters := [(.array .byte), .int, .int], returnType := some (.array .byte) }, accessFlags := 10, code := some k18c4 }
/-- java/util/Arrays -/
def k18 : Class := { plain "java/util/Arrays" (some 0) with
  accessFlags := 49
  interfaces := #[]
  cf := some (fileOf pool18 14 #[.nestMembers #[975, 375, 113, 74]] #[{ accessFlags := 2, nameIndex := 5, descriptorIndex := 6, attributes := #[] }, { accessFlags := 9, nameIndex := 302, descriptorIndex := 869, attributes := #[] }, { accessFlags := 10, nameIndex := 345, descriptorIndex := 346, attributes := #[] }, { accessFlags := 9, nameIndex := 139, descriptorIndex := 342, attributes := #[] }, { accessFlags := 10, nameIndex := 341, descriptorIndex := 342, attributes := #[] }] 49 2 #[] #[{ accessFlags := 26, nameIndex := 715, descriptorIndex := 716, attributes := #[] }, { accessFlags := 26, nameIndex := 719, descriptorIndex := 716, attributes := #[] }, { accessFlags := 4120, nameIndex := 445, descriptorIndex := 117, attributes := #[] }])
  fields := #[{ name := "MIN_ARRAY_SORT_GRAN", type := .int, accessFlags := 26, slot := 0, constantValue := 0 }, { name := "INSERTIONSORT_THRESHOLD", type := .int, accessFlags := 26, slot := 1, constantValue := 0 }, { name := "$assertionsDisabled", type := .boolean, accessFlags := 4120, slot := 2, constantValue := 0 }]
  methods := #[k18m0, k18m1, k18m2, k18m3, k18m4]
  instanceTypes := #[]
  staticTypes := #[.int, .int, .boolean]
  resolved := Array.replicate 1029 none
  statics := none }

def pool19 : Array CpInfo := pool [(6, .class_ 8), (1, u "java/lang/Object"), (0, u "<init>"), (0, u "()V"), (1, .class_ 14), (1, u "java/lang/StringUTF16"), (31, u "$assertionsDisabled"), (0, u "Z"), (13, u "HI_BYTE_SHIFT"), (0, u "I"), (2, u "LO_BYTE_SHIFT"), (49, .methodref 12 116), (0, .nameAndType 117 118), (0, u "compress"), (0, u "([CI[BII)I"), (3, u "([CII)[B"), (138, u "coderFromArrayLen"), (0, u "([BI)B"), (106, .class_ 371), (1, u "java/lang/StringUTF16$LinesSpliterator"), (58, u "MAX_LENGTH"), (196, .class_ 628), (0, u "java/lang/StringUTF16$CodePointsSpliterator"), (0, .class_ 630), (0, u "java/lang/StringUTF16$CharsSpliterator")] 4

def k19m0 : Method := { name := "<init>", desc := "()V", sig := { parameters := [], returnType := none }, accessFlags := 0, code := none }
def k19c1 : Code := { maxStack := 2, maxLocals := 2, code := jdk_52_method_15_code, exceptionTable := #[], attributes := #[] }
def k19m1 : Method := { name := "coderFromArrayLen", desc := "([BI)B", sig := { parameters := [(.array .byte), .int], returnType := some .byte }, accessFlags := 8, code := some k19c1 }
def k19c2 : Code := { maxStack := 5, maxLocals := 6, code := jdk_52_method_16_code, exceptionTable := #[], attributes := #[] }
def k19m2 : Method := { name := "compress", desc := "([CII)[B", sig := { parameters := [(.array .char), .int, .int], returnType := some (.array .byte) }, accessFlags := 9, code := some k19c2 }
def k19c3 : Code := { maxStack := 3, maxLocals := 7, code := jdk_52_method_21_code, exceptionTable := #[], attributes := #[] }
def k19m3 : Method := { name := "compress", desc := "([CI[BII)I", sig := { parameters := [(.array .char), .int, (.array .byte), .int, .int], returnType := some .int }, accessFlags := 9, code := some k19c3 }
/-- java/lang/StringUTF16 -/
def k19 : Class := { plain "java/lang/StringUTF16" (some 0) with
  accessFlags := 48
  interfaces := #[]
  cf := some (fileOf pool19 12 #[.nestMembers #[627, 629, 369]] #[{ accessFlags := 0, nameIndex := 9, descriptorIndex := 10, attributes := #[] }, { accessFlags := 8, nameIndex := 261, descriptorIndex := 262, attributes := #[] }, { accessFlags := 9, nameIndex := 117, descriptorIndex := 122, attributes := #[] }, { accessFlags := 9, nameIndex := 117, descriptorIndex := 118, attributes := #[] }] 48 6 #[] #[{ accessFlags := 26, nameIndex := 61, descriptorIndex := 62, attributes := #[] }, { accessFlags := 26, nameIndex := 65, descriptorIndex := 62, attributes := #[] }, { accessFlags := 24, nameIndex := 430, descriptorIndex := 62, attributes := #[] }, { accessFlags := 4120, nameIndex := 46, descriptorIndex := 47, attributes := #[] }])
  fields := #[{ name := "HI_BYTE_SHIFT", type := .int, accessFlags := 26, slot := 0, constantValue := 0 }, { name := "LO_BYTE_SHIFT", type := .int, accessFlags := 26, slot := 1, constantValue := 0 }, { name := "MAX_LENGTH", type := .int, accessFlags := 24, slot := 2, constantValue := 0 }, { name := "$assertionsDisabled", type := .boolean, accessFlags := 4120, slot := 3, constantValue := 0 }]
  methods := #[k19m0, k19m1, k19m2, k19m3]
  instanceTypes := #[]
  staticTypes := #[.int, .int, .int, .boolean]
  resolved := Array.replicate 635 none
  statics := none }

def pool20 : Array CpInfo := pool [(4, .class_ 6), (1, u "java/lang/Object"), (0, u "<init>"), (0, u "()V"), (5, .class_ 16), (1, u "java/lang/StringLatin1"), (104, u "$assertionsDisabled"), (0, u "Z"), (98, .class_ 223), (1, u "java/lang/StringLatin1$LinesSpliterator"), (57, u "equals"), (0, u "([B[B)Z"), (107, .class_ 391), (0, u "java/lang/StringLatin1$CharsSpliterator")] 3

def k20m0 : Method := { name := "<init>", desc := "()V", sig := { parameters := [], returnType := none }, accessFlags := 0, code := none }
def k20c1 : Code := { maxStack := 3, maxLocals := 3, code := jdk_43_method_13_code, exceptionTable := #[], attributes := #[] }
def k20m1 : Method := { name := "equals", desc := "([B[B)Z", sig := { parameters := [(.array .byte), (.array .byte)], returnType := some .boolean }, accessFlags := 9, code := some k20c1 }
/-- java/lang/StringLatin1 -/
def k20 : Class := { plain "java/lang/StringLatin1" (some 0) with
  accessFlags := 48
  interfaces := #[]
  cf := some (fileOf pool20 14 #[.nestMembers #[390, 221]] #[{ accessFlags := 0, nameIndex := 7, descriptorIndex := 8, attributes := #[] }, { accessFlags := 9, nameIndex := 281, descriptorIndex := 282, attributes := #[] }] 48 4 #[] #[{ accessFlags := 4120, nameIndex := 121, descriptorIndex := 122, attributes := #[] }])
  fields := #[{ name := "$assertionsDisabled", type := .boolean, accessFlags := 4120, slot := 0, constantValue := 0 }]
  methods := #[k20m0, k20m1]
  instanceTypes := #[]
  staticTypes := #[.boolean]
  resolved := Array.replicate 395 none
  statics := none }

def pool21 : Array CpInfo := pool [(2, .class_ 4), (1, u "java/lang/Object"), (0, u "<init>"), (0, u "()V"), (17, .class_ 26), (1, u "jdk/internal/util/Preconditions"), (28, .class_ 56), (0, u "jdk/internal/util/Preconditions$4"), (57, .class_ 115), (0, u "jdk/internal/util/Preconditions$1"), (7, u "SIOOBE_FORMATTER"), (0, u "Ljava/util/function/BiFunction;"), (0, .class_ 126), (0, u "jdk/internal/util/Preconditions$2"), (3, u "AIOOBE_FORMATTER"), (0, .class_ 132), (0, u "jdk/internal/util/Preconditions$3"), (3, u "IOOBE_FORMATTER")] 57

def k21m0 : Method := { name := "<init>", desc := "()V", sig := { parameters := [], returnType := none }, accessFlags := 1, code := none }
/-- jdk/internal/util/Preconditions -/
def k21 : Class := { plain "jdk/internal/util/Preconditions" (some 0) with
  accessFlags := 33
  interfaces := #[]
  cf := some (fileOf pool21 24 #[.nestMembers #[55, 131, 125, 114]] #[{ accessFlags := 1, nameIndex := 5, descriptorIndex := 6, attributes := #[] }] 33 2 #[] #[{ accessFlags := 25, nameIndex := 123, descriptorIndex := 124, attributes := #[] }, { accessFlags := 25, nameIndex := 130, descriptorIndex := 124, attributes := #[] }, { accessFlags := 25, nameIndex := 136, descriptorIndex := 124, attributes := #[] }])
  fields := #[{ name := "SIOOBE_FORMATTER", type := (.object "java/util/function/BiFunction"), accessFlags := 25, slot := 0, constantValue := 0 }, { name := "AIOOBE_FORMATTER", type := (.object "java/util/function/BiFunction"), accessFlags := 25, slot := 1, constantValue := 0 }, { name := "IOOBE_FORMATTER", type := (.object "java/util/function/BiFunction"), accessFlags := 25, slot := 2, constantValue := 0 }]
  methods := #[k21m0]
  instanceTypes := #[]
  staticTypes := #[(.object "java/util/function/BiFunction"), (.object "java/util/function/BiFunction"), (.object "java/util/function/BiFunction")]
  resolved := Array.replicate 194 none
  statics := some 2 }

def pool22 : Array CpInfo := pool [(1, u "java/lang/Cloneable"), (0, .class_ 1), (0, u "java/lang/Object"), (0, .class_ 3)] 3

/-- java/lang/Cloneable -/
def k22 : Class := { plain "java/lang/Cloneable" (some 0) with
  accessFlags := 1537
  interfaces := #[]
  cf := some (fileOf pool22 2 #[] #[] 1537 4 #[] #[])
  fields := #[]
  methods := #[]
  instanceTypes := #[]
  staticTypes := #[]
  resolved := Array.replicate 8 none
  statics := none }

/-- the primitive byte -/
def k23 : Class := { plain "byte" none with kind := .primitive 'B', accessFlags := 0x411 }
/-- [B -/
def k24 : Class := { plain "[B" (some 0) with kind := .array 23 .byte, interfaces := #[22, 6], accessFlags := 1041 }

/-- the primitive char -/
def k25 : Class := { plain "char" none with kind := .primitive 'C', accessFlags := 0x411 }
/-- [C -/
def k26 : Class := { plain "[C" (some 0) with kind := .array 25 .char, interfaces := #[22, 6], accessFlags := 1041 }

/-- the primitive int -/
def k27 : Class := { plain "int" none with kind := .primitive 'I', accessFlags := 0x411 }
/-- [I -/
def k28 : Class := { plain "[I" (some 0) with kind := .array 27 .int, interfaces := #[22, 6], accessFlags := 1041 }

def heap : Heap := #[{ cls := 11, slots := #[.long 0, .int 1, .null, .int 0, .null, .int 0, .int 0], vm := .statics 11 },
  { cls := 15, slots := #[.int 0, .int 0, .null, .null, .ref 4, .ref 3, .int 0, .int 0, .long 0], vm := .statics 15 },
  { cls := 21, slots := #[.null, .null, .null], vm := .statics 21 },
  { cls := 24, slots := #[.int 48, .int 49, .int 50, .int 51, .int 52, .int 53, .int 54, .int 55, .int 56, .int 57, .int 48, .int 49, .int 50, .int 51, .int 52, .int 53, .int 54, .int 55, .int 56, .int 57, .int 48, .int 49, .int 50, .int 51, .int 52, .int 53, .int 54, .int 55, .int 56, .int 57, .int 48, .int 49, .int 50, .int 51, .int 52, .int 53, .int 54, .int 55, .int 56, .int 57, .int 48, .int 49, .int 50, .int 51, .int 52, .int 53, .int 54, .int 55, .int 56, .int 57, .int 48, .int 49, .int 50, .int 51, .int 52, .int 53, .int 54, .int 55, .int 56, .int 57, .int 48, .int 49, .int 50, .int 51, .int 52, .int 53, .int 54, .int 55, .int 56, .int 57, .int 48, .int 49, .int 50, .int 51, .int 52, .int 53, .int 54, .int 55, .int 56, .int 57, .int 48, .int 49, .int 50, .int 51, .int 52, .int 53, .int 54, .int 55, .int 56, .int 57, .int 48, .int 49, .int 50, .int 51, .int 52, .int 53, .int 54, .int 55, .int 56, .int 57], vm := .none },
  { cls := 24, slots := #[.int 48, .int 48, .int 48, .int 48, .int 48, .int 48, .int 48, .int 48, .int 48, .int 48, .int 49, .int 49, .int 49, .int 49, .int 49, .int 49, .int 49, .int 49, .int 49, .int 49, .int 50, .int 50, .int 50, .int 50, .int 50, .int 50, .int 50, .int 50, .int 50, .int 50, .int 51, .int 51, .int 51, .int 51, .int 51, .int 51, .int 51, .int 51, .int 51, .int 51, .int 52, .int 52, .int 52, .int 52, .int 52, .int 52, .int 52, .int 52, .int 52, .int 52, .int 53, .int 53, .int 53, .int 53, .int 53, .int 53, .int 53, .int 53, .int 53, .int 53, .int 54, .int 54, .int 54, .int 54, .int 54, .int 54, .int 54, .int 54, .int 54, .int 54, .int 55, .int 55, .int 55, .int 55, .int 55, .int 55, .int 55, .int 55, .int 55, .int 55, .int 56, .int 56, .int 56, .int 56, .int 56, .int 56, .int 56, .int 56, .int 56, .int 56, .int 57, .int 57, .int 57, .int 57, .int 57, .int 57, .int 57, .int 57, .int 57, .int 57], vm := .none }]
def classes : Array Class := #[k0, k1, k2, k3, k4, k5, k6, k7, k8, k9, k10, k11, k12, k13, k14, k15, k16, k17, k18, k19, k20, k21, k22, k23, k24, k25, k26, k27, k28]
def interned : List (Array UInt16 × Addr) := []
def slotsUsed : Nat := 219
def theMethod : MethodId := ⟨1, 2⟩
def args0 : Array Value := #[.long 1, .long 2, .long 3, .long 4, .long 5, .long 6]
def aboutOver (below : List Frame) : State where
  vm := { classes := classes, interned := interned.toArray }
  heap := heap
  slotsUsed := slotsUsed
  threads := #[{ frames := .invoking theMethod args0 :: below }]
def below0 : List Frame := [.native { method := ⟨0, 0⟩, args := #[] }]
def about1 : State := aboutOver below0
def p0 : Program := .bare "" "" ""
def e0 : Env := launch0.env 0 0 0
theorem w_frames : about1.frames = Frame.invoking theMethod args0 :: below0 := rfl
set_option maxRecDepth 65536 in
theorem w_args : argsFit about1.vm theMethod args0 = true := by decide +kernel
set_option maxRecDepth 65536 in
theorem w_heap : heapFits about1 = true := by decide +kernel
set_option maxRecDepth 65536 in
theorem w_runnable : about1.curStatus? = some .runnable := by decide +kernel
set_option maxRecDepth 65536 in
theorem w_alone : about1.alone = true := by decide +kernel
set_option maxRecDepth 65536 in
theorem w_named : about1.methodNamed? x = some theMethod := by decide +kernel
set_option maxRecDepth 65536 in
theorem w_hears : about1.hears theMethod below0 = true := by decide +kernel
set_option maxRecDepth 65536 in
theorem w_ripe : about1.ripe theMethod args0 below0 = true := by decide +kernel
theorem w_running : about1.status = .running := rfl
set_option maxRecDepth 65536 in
theorem w_room : about1.hasRoom e0.platform room_1 = true :=
  launch0.hasRoom_least _ room_1 (by decide +kernel) (by decide +kernel) (by decide +kernel) (by decide +kernel) (by decide +kernel) (by decide +kernel)
theorem allAtoms_all (ts : List Jvm.Cond) (a : Array Jvm.Value) (st : Jvm.State) : (allAtoms ts).before a st = ts.all (fun c => c.before a st) := by
  induction ts with
  | nil => rfl
  | cons c t ih =>
    show (Jvm.Cond.and c (allAtoms t)).before a st = _
    rw [Jvm.Cond.before_and, ih, List.all_cons]
def words1 : List Jvm.Cond := Jvm.Cond.code x code maxLocals ret :: tables_1
/-- a 'code' word, met by the world's own term for the bytes: nothing is compared byte by byte -/
theorem code_word {y : MethodName} {bytes : ByteArray} {mx : Nat} {rt : Option FieldType} {a : Array Value} {s : State} {m : MethodId} {meth : Method} {c : Code} (h1 : s.methodNamed? y = some m) (h2 : s.vm.method? m = some meth) (h3 : meth.code = some c) (h4 : c.code = bytes)
    (h5 : (c.maxLocals == mx && c.exceptionTable.isEmpty && decide (c.maxStack ≤ mostOperands) && decide (meth.sig.returnType = rt) && !meth.locks && decide (parseMethodDescriptor y.desc = some meth.sig)) = true) : (Jvm.Cond.code y bytes mx rt).before a s = true := by
  simp only [Bool.and_eq_true, beq_iff_eq, Bool.not_eq_true', decide_eq_true_eq] at h5
  obtain ⟨⟨⟨⟨⟨g1, g2⟩, g3⟩, g4⟩, g5⟩, g6⟩ := h5
  simp [Cond.before, Cond.holds, Cond.value, h1, h2, h3, h4, g1, g2, g3, g4, g5, g6]
def isCode : Jvm.Cond → Bool
  | .code _ _ _ _ => true
  | _ => false
theorem all_split {L : List Jvm.Cond} {P : Jvm.Cond → Bool} (h1 : L.all (fun c => isCode c || P c) = true) (h2 : ∀ c ∈ L.filter isCode, P c = true) : L.all P = true := by
  refine List.all_eq_true.mpr fun c hc => ?_
  have h := List.all_eq_true.mp h1 c hc
  rcases Bool.eq_false_or_eq_true (isCode c) with hi | hi
  · exact h2 c (List.mem_filter.mpr ⟨hc, hi⟩)
  · simpa [hi] using h
set_option maxRecDepth 65536 in
theorem w_c0 : (Jvm.Cond.code x code maxLocals ret).before args0 about1 = true := code_word (m := ⟨1, 2⟩) (meth := k1m2) (c := k1c2) (by decide +kernel) rfl rfl rfl (by decide +kernel)
set_option maxRecDepth 65536 in
theorem w_c1 : (Jvm.Cond.code ({ cls := "com/example/freshet/freshet/CacheCountsToStringPinLaw", name := "d", desc := "(J)C" } : Jvm.MethodName) method_2_code (2 : Nat) (Option.some Jvm.ClassFile.FieldType.char)).before args0 about1 = true := code_word (m := ⟨1, 1⟩) (meth := k1m1) (c := k1c1) (by decide +kernel) rfl rfl rfl (by decide +kernel)
set_option maxRecDepth 65536 in
theorem w_c2 : (Jvm.Cond.code ({ cls := "com/example/freshet/freshet/CacheCounts", name := "<init>", desc := "(JJJJJJ)V" } : Jvm.MethodName) prog_4_method_1_code (13 : Nat) (Option.none : Option Jvm.ClassFile.FieldType)).before args0 about1 = true := code_word (m := ⟨2, 0⟩) (meth := k2m0) (c := k2c0) (by decide +kernel) rfl rfl rfl (by decide +kernel)
set_option maxRecDepth 65536 in
theorem w_c3 : (Jvm.Cond.code ({ cls := "java/lang/Object", name := "<init>", desc := "()V" } : Jvm.MethodName) object_method_1_code (1 : Nat) (Option.none : Option Jvm.ClassFile.FieldType)).before args0 about1 = true := code_word (m := ⟨0, 0⟩) (meth := k0m0) (c := k0c0) (by decide +kernel) rfl rfl rfl (by decide +kernel)
set_option maxRecDepth 65536 in
theorem w_c4 : (Jvm.Cond.code ({ cls := "com/example/freshet/freshet/CacheCounts", name := "toString", desc := "()Ljava/lang/String;" } : Jvm.MethodName) prog_4_method_9_code (1 : Nat) (Option.some (Jvm.ClassFile.FieldType.object "java/lang/String"))).before args0 about1 = true := code_word (m := ⟨2, 2⟩) (meth := k2m2) (c := k2c2) (by decide +kernel) rfl rfl rfl (by decide +kernel)
set_option maxRecDepth 65536 in
theorem w_c5 : (Jvm.Cond.code ({ cls := "java/lang/StringBuilder", name := "<init>", desc := "()V" } : Jvm.MethodName) jdk_67_method_1_code (1 : Nat) (Option.none : Option Jvm.ClassFile.FieldType)).before args0 about1 = true := code_word (m := ⟨8, 0⟩) (meth := k8m0) (c := k8c0) (by decide +kernel) rfl rfl rfl (by decide +kernel)
set_option maxRecDepth 65536 in
theorem w_c6 : (Jvm.Cond.code ({ cls := "java/lang/AbstractStringBuilder", name := "<init>", desc := "(I)V" } : Jvm.MethodName) jdk_68_method_2_code (2 : Nat) (Option.none : Option Jvm.ClassFile.FieldType)).before args0 about1 = true := code_word (m := ⟨5, 1⟩) (meth := k5m1) (c := k5c1) (by decide +kernel) rfl rfl rfl (by decide +kernel)
set_option maxRecDepth 65536 in
theorem w_c7 : (Jvm.Cond.code ({ cls := "java/lang/StringBuilder", name := "append", desc := "(Ljava/lang/String;)Ljava/lang/StringBuilder;" } : Jvm.MethodName) jdk_67_method_7_code (2 : Nat) (Option.some (Jvm.ClassFile.FieldType.object "java/lang/StringBuilder"))).before args0 about1 = true := code_word (m := ⟨8, 1⟩) (meth := k8m1) (c := k8c1) (by decide +kernel) rfl rfl rfl (by decide +kernel)
set_option maxRecDepth 65536 in
theorem w_c8 : (Jvm.Cond.code ({ cls := "java/lang/AbstractStringBuilder", name := "append", desc := "(Ljava/lang/String;)Ljava/lang/AbstractStringBuilder;" } : Jvm.MethodName) jdk_68_method_22_code (3 : Nat) (Option.some (Jvm.ClassFile.FieldType.object "java/lang/AbstractStringBuilder"))).before args0 about1 = true := code_word (m := ⟨5, 5⟩) (meth := k5m5) (c := k5c5) (by decide +kernel) rfl rfl rfl (by decide +kernel)
set_option maxRecDepth 65536 in
theorem w_c9 : (Jvm.Cond.code ({ cls := "java/lang/String", name := "length", desc := "()I" } : Jvm.MethodName) jdk_42_method_54_code (1 : Nat) (Option.some Jvm.ClassFile.FieldType.int)).before args0 about1 = true := code_word (m := ⟨11, 3⟩) (meth := k11m3) (c := k11c3) (by decide +kernel) rfl rfl rfl (by decide +kernel)
set_option maxRecDepth 65536 in
theorem w_c10 : (Jvm.Cond.code ({ cls := "java/lang/String", name := "coder", desc := "()B" } : Jvm.MethodName) jdk_42_method_152_code (1 : Nat) (Option.some Jvm.ClassFile.FieldType.byte)).before args0 about1 = true := code_word (m := ⟨11, 8⟩) (meth := k11m8) (c := k11c8) (by decide +kernel) rfl rfl rfl (by decide +kernel)
set_option maxRecDepth 65536 in
theorem w_c11 : (Jvm.Cond.code ({ cls := "java/lang/AbstractStringBuilder", name := "ensureCapacityInternal", desc := "(I)V" } : Jvm.MethodName) jdk_68_method_9_code (3 : Nat) (Option.none : Option Jvm.ClassFile.FieldType)).before args0 about1 = true := code_word (m := ⟨5, 3⟩) (meth := k5m3) (c := k5c3) (by decide +kernel) rfl rfl rfl (by decide +kernel)
set_option maxRecDepth 65536 in
theorem w_c12 : (Jvm.Cond.code ({ cls := "java/lang/AbstractStringBuilder", name := "putStringAt", desc := "(ILjava/lang/String;)V" } : Jvm.MethodName) jdk_68_method_73_code (3 : Nat) (Option.none : Option Jvm.ClassFile.FieldType)).before args0 about1 = true := code_word (m := ⟨5, 10⟩) (meth := k5m10) (c := k5c10) (by decide +kernel) rfl rfl rfl (by decide +kernel)
set_option maxRecDepth 65536 in
theorem w_c13 : (Jvm.Cond.code ({ cls := "java/lang/AbstractStringBuilder", name := "inflateIfNeededFor", desc := "(Ljava/lang/String;)V" } : Jvm.MethodName) jdk_68_method_71_code (2 : Nat) (Option.none : Option Jvm.ClassFile.FieldType)).before args0 about1 = true := code_word (m := ⟨5, 9⟩) (meth := k5m9) (c := k5c9) (by decide +kernel) rfl rfl rfl (by decide +kernel)
set_option maxRecDepth 65536 in
theorem w_c14 : (Jvm.Cond.code ({ cls := "java/lang/String", name := "getBytes", desc := "([BIB)V" } : Jvm.MethodName) jdk_42_method_147_code (4 : Nat) (Option.none : Option Jvm.ClassFile.FieldType)).before args0 about1 = true := code_word (m := ⟨11, 5⟩) (meth := k11m5) (c := k11c5) (by decide +kernel) rfl rfl rfl (by decide +kernel)
set_option maxRecDepth 65536 in
theorem w_c15 : (Jvm.Cond.code ({ cls := "com/example/freshet/freshet/CacheCounts", name := "requests", desc := "()J" } : Jvm.MethodName) prog_4_method_2_code (1 : Nat) (Option.some Jvm.ClassFile.FieldType.long)).before args0 about1 = true := code_word (m := ⟨2, 1⟩) (meth := k2m1) (c := k2c1) (by decide +kernel) rfl rfl rfl (by decide +kernel)
set_option maxRecDepth 65536 in
theorem w_c16 : (Jvm.Cond.code ({ cls := "java/lang/StringBuilder", name := "append", desc := "(J)Ljava/lang/StringBuilder;" } : Jvm.MethodName) jdk_67_method_16_code (3 : Nat) (Option.some (Jvm.ClassFile.FieldType.object "java/lang/StringBuilder"))).before args0 about1 = true := code_word (m := ⟨8, 2⟩) (meth := k8m2) (c := k8c2) (by decide +kernel) rfl rfl rfl (by decide +kernel)
set_option maxRecDepth 65536 in
theorem w_c17 : (Jvm.Cond.code ({ cls := "java/lang/AbstractStringBuilder", name := "append", desc := "(J)Ljava/lang/AbstractStringBuilder;" } : Jvm.MethodName) jdk_68_method_33_code (5 : Nat) (Option.some (Jvm.ClassFile.FieldType.object "java/lang/AbstractStringBuilder"))).before args0 about1 = true := code_word (m := ⟨5, 6⟩) (meth := k5m6) (c := k5c6) (by decide +kernel) rfl rfl rfl (by decide +kernel)
set_option maxRecDepth 65536 in
theorem w_c18 : (Jvm.Cond.code ({ cls := "java/lang/Long", name := "stringSize", desc := "(J)I" } : Jvm.MethodName) jdk_35_method_15_code (6 : Nat) (Option.some Jvm.ClassFile.FieldType.int)).before args0 about1 = true := code_word (m := ⟨14, 1⟩) (meth := k14m1) (c := k14c1) (by decide +kernel) rfl rfl rfl (by decide +kernel)
set_option maxRecDepth 65536 in
theorem w_c19 : (Jvm.Cond.code ({ cls := "java/lang/AbstractStringBuilder", name := "isLatin1", desc := "()Z" } : Jvm.MethodName) jdk_68_method_68_code (1 : Nat) (Option.some Jvm.ClassFile.FieldType.boolean)).before args0 about1 = true := code_word (m := ⟨5, 8⟩) (meth := k5m8) (c := k5c8) (by decide +kernel) rfl rfl rfl (by decide +kernel)
set_option maxRecDepth 65536 in
theorem w_c20 : (Jvm.Cond.code ({ cls := "java/lang/Long", name := "getChars", desc := "(JI[B)I" } : Jvm.MethodName) jdk_35_method_14_code (11 : Nat) (Option.some Jvm.ClassFile.FieldType.int)).before args0 about1 = true := code_word (m := ⟨14, 0⟩) (meth := k14m0) (c := k14c0) (by decide +kernel) rfl rfl rfl (by decide +kernel)
set_option maxRecDepth 65536 in
theorem w_c21 : (Jvm.Cond.code ({ cls := "java/lang/AbstractStringBuilder", name := "newCapacity", desc := "(I)I" } : Jvm.MethodName) jdk_68_method_10_code (6 : Nat) (Option.some Jvm.ClassFile.FieldType.int)).before args0 about1 = true := code_word (m := ⟨5, 4⟩) (meth := k5m4) (c := k5c4) (by decide +kernel) rfl rfl rfl (by decide +kernel)
set_option maxRecDepth 65536 in
theorem w_c22 : (Jvm.Cond.code ({ cls := "jdk/internal/util/ArraysSupport", name := "newLength", desc := "(III)I" } : Jvm.MethodName) jdk_48_method_27_code (4 : Nat) (Option.some Jvm.ClassFile.FieldType.int)).before args0 about1 = true := code_word (m := ⟨16, 1⟩) (meth := k16m1) (c := k16c1) (by decide +kernel) rfl rfl rfl (by decide +kernel)
set_option maxRecDepth 65536 in
theorem w_c23 : (Jvm.Cond.code ({ cls := "java/lang/Math", name := "max", desc := "(II)I" } : Jvm.MethodName) jdk_29_method_65_code (2 : Nat) (Option.some Jvm.ClassFile.FieldType.int)).before args0 about1 = true := code_word (m := ⟨17, 1⟩) (meth := k17m1) (c := k17c1) (by decide +kernel) rfl rfl rfl (by decide +kernel)
set_option maxRecDepth 65536 in
theorem w_c24 : (Jvm.Cond.code ({ cls := "java/util/Arrays", name := "copyOf", desc := "([BI)[B" } : Jvm.MethodName) jdk_65_method_121_code (3 : Nat) (Option.some (Jvm.ClassFile.FieldType.array Jvm.ClassFile.FieldType.byte))).before args0 about1 = true := code_word (m := ⟨18, 1⟩) (meth := k18m1) (c := k18c1) (by decide +kernel) rfl rfl rfl (by decide +kernel)
set_option maxRecDepth 65536 in
theorem w_c25 : (Jvm.Cond.code ({ cls := "java/lang/Math", name := "min", desc := "(II)I" } : Jvm.MethodName) jdk_29_method_69_code (2 : Nat) (Option.some Jvm.ClassFile.FieldType.int)).before args0 about1 = true := code_word (m := ⟨17, 2⟩) (meth := k17m2) (c := k17c2) (by decide +kernel) rfl rfl rfl (by decide +kernel)
set_option maxRecDepth 65536 in
theorem w_c26 : (Jvm.Cond.code ({ cls := "java/lang/StringBuilder", name := "toString", desc := "()Ljava/lang/String;" } : Jvm.MethodName) jdk_67_method_42_code (1 : Nat) (Option.some (Jvm.ClassFile.FieldType.object "java/lang/String"))).before args0 about1 = true := code_word (m := ⟨8, 3⟩) (meth := k8m3) (c := k8c3) (by decide +kernel) rfl rfl rfl (by decide +kernel)
set_option maxRecDepth 65536 in
theorem w_c27 : (Jvm.Cond.code ({ cls := "java/lang/String", name := "<init>", desc := "(Ljava/lang/StringBuilder;)V" } : Jvm.MethodName) jdk_42_method_53_code (2 : Nat) (Option.none : Option Jvm.ClassFile.FieldType)).before args0 about1 = true := code_word (m := ⟨11, 2⟩) (meth := k11m2) (c := k11c2) (by decide +kernel) rfl rfl rfl (by decide +kernel)
set_option maxRecDepth 65536 in
theorem w_c28 : (Jvm.Cond.code ({ cls := "java/lang/String", name := "<init>", desc := "(Ljava/lang/AbstractStringBuilder;Ljava/lang/Void;)V" } : Jvm.MethodName) jdk_42_method_150_code (5 : Nat) (Option.none : Option Jvm.ClassFile.FieldType)).before args0 about1 = true := code_word (m := ⟨11, 7⟩) (meth := k11m7) (c := k11c7) (by decide +kernel) rfl rfl rfl (by decide +kernel)
set_option maxRecDepth 65536 in
theorem w_c29 : (Jvm.Cond.code ({ cls := "java/lang/AbstractStringBuilder", name := "getValue", desc := "()[B" } : Jvm.MethodName) jdk_68_method_64_code (1 : Nat) (Option.some (Jvm.ClassFile.FieldType.array Jvm.ClassFile.FieldType.byte))).before args0 about1 = true := code_word (m := ⟨5, 7⟩) (meth := k5m7) (c := k5c7) (by decide +kernel) rfl rfl rfl (by decide +kernel)
set_option maxRecDepth 65536 in
theorem w_c30 : (Jvm.Cond.code ({ cls := "java/lang/StringBuilder", name := "length", desc := "()I" } : Jvm.MethodName) jdk_67_method_93_code (1 : Nat) (Option.some Jvm.ClassFile.FieldType.int)).before args0 about1 = true := code_word (m := ⟨8, 4⟩) (meth := k8m4) (c := k8c4) (by decide +kernel) rfl rfl rfl (by decide +kernel)
set_option maxRecDepth 65536 in
theorem w_c31 : (Jvm.Cond.code ({ cls := "java/lang/AbstractStringBuilder", name := "length", desc := "()I" } : Jvm.MethodName) jdk_68_method_6_code (1 : Nat) (Option.some Jvm.ClassFile.FieldType.int)).before args0 about1 = true := code_word (m := ⟨5, 2⟩) (meth := k5m2) (c := k5c2) (by decide +kernel) rfl rfl rfl (by decide +kernel)
set_option maxRecDepth 65536 in
theorem w_c32 : (Jvm.Cond.code ({ cls := "java/util/Arrays", name := "copyOfRange", desc := "([BII)[B" } : Jvm.MethodName) jdk_65_method_132_code (3 : Nat) (Option.some (Jvm.ClassFile.FieldType.array Jvm.ClassFile.FieldType.byte))).before args0 about1 = true := code_word (m := ⟨18, 3⟩) (meth := k18m3) (c := k18c3) (by decide +kernel) rfl rfl rfl (by decide +kernel)
set_option maxRecDepth 65536 in
theorem w_c33 : (Jvm.Cond.code ({ cls := "java/util/Arrays", name := "copyOfRangeByte", desc := "([BII)[B" } : Jvm.MethodName) jdk_65_method_133_code (5 : Nat) (Option.some (Jvm.ClassFile.FieldType.array Jvm.ClassFile.FieldType.byte))).before args0 about1 = true := code_word (m := ⟨18, 4⟩) (meth := k18m4) (c := k18c4) (by decide +kernel) rfl rfl rfl (by decide +kernel)
set_option maxRecDepth 65536 in
theorem w_c34 : (Jvm.Cond.code ({ cls := "java/util/Arrays", name := "checkLength", desc := "(II)V" } : Jvm.MethodName) jdk_65_method_131_code (2 : Nat) (Option.none : Option Jvm.ClassFile.FieldType)).before args0 about1 = true := code_word (m := ⟨18, 2⟩) (meth := k18m2) (c := k18c2) (by decide +kernel) rfl rfl rfl (by decide +kernel)
set_option maxRecDepth 65536 in
theorem w_c35 : (Jvm.Cond.code ({ cls := "java/lang/String", name := "<init>", desc := "([C)V" } : Jvm.MethodName) jdk_42_method_3_code (2 : Nat) (Option.none : Option Jvm.ClassFile.FieldType)).before args0 about1 = true := code_word (m := ⟨11, 1⟩) (meth := k11m1) (c := k11c1) (by decide +kernel) rfl rfl rfl (by decide +kernel)
set_option maxRecDepth 65536 in
theorem w_c36 : (Jvm.Cond.code ({ cls := "java/lang/String", name := "<init>", desc := "([CIILjava/lang/Void;)V" } : Jvm.MethodName) jdk_42_method_149_code (6 : Nat) (Option.none : Option Jvm.ClassFile.FieldType)).before args0 about1 = true := code_word (m := ⟨11, 6⟩) (meth := k11m6) (c := k11c6) (by decide +kernel) rfl rfl rfl (by decide +kernel)
set_option maxRecDepth 65536 in
theorem w_c37 : (Jvm.Cond.code ({ cls := "java/lang/StringUTF16", name := "compress", desc := "([CII)[B" } : Jvm.MethodName) jdk_52_method_16_code (6 : Nat) (Option.some (Jvm.ClassFile.FieldType.array Jvm.ClassFile.FieldType.byte))).before args0 about1 = true := code_word (m := ⟨19, 2⟩) (meth := k19m2) (c := k19c2) (by decide +kernel) rfl rfl rfl (by decide +kernel)
set_option maxRecDepth 65536 in
theorem w_c38 : (Jvm.Cond.code ({ cls := "java/lang/StringUTF16", name := "compress", desc := "([CI[BII)I" } : Jvm.MethodName) jdk_52_method_21_code (7 : Nat) (Option.some Jvm.ClassFile.FieldType.int)).before args0 about1 = true := code_word (m := ⟨19, 3⟩) (meth := k19m3) (c := k19c3) (by decide +kernel) rfl rfl rfl (by decide +kernel)
set_option maxRecDepth 65536 in
theorem w_c39 : (Jvm.Cond.code ({ cls := "java/lang/StringUTF16", name := "coderFromArrayLen", desc := "([BI)B" } : Jvm.MethodName) jdk_52_method_15_code (2 : Nat) (Option.some Jvm.ClassFile.FieldType.byte)).before args0 about1 = true := code_word (m := ⟨19, 1⟩) (meth := k19m1) (c := k19c1) (by decide +kernel) rfl rfl rfl (by decide +kernel)
set_option maxRecDepth 65536 in
theorem w_c40 : (Jvm.Cond.code ({ cls := "java/lang/String", name := "equals", desc := "(Ljava/lang/Object;)Z" } : Jvm.MethodName) jdk_42_method_66_code (3 : Nat) (Option.some Jvm.ClassFile.FieldType.boolean)).before args0 about1 = true := code_word (m := ⟨11, 4⟩) (meth := k11m4) (c := k11c4) (by decide +kernel) rfl rfl rfl (by decide +kernel)
set_option maxRecDepth 65536 in
theorem w_c41 : (Jvm.Cond.code ({ cls := "java/lang/StringLatin1", name := "equals", desc := "([B[B)Z" } : Jvm.MethodName) jdk_43_method_13_code (3 : Nat) (Option.some Jvm.ClassFile.FieldType.boolean)).before args0 about1 = true := code_word (m := ⟨20, 1⟩) (meth := k20m1) (c := k20c1) (by decide +kernel) rfl rfl rfl (by decide +kernel)
def codes1 : List Jvm.Cond := [Jvm.Cond.code x code maxLocals ret, Jvm.Cond.code ({ cls := "com/example/freshet/freshet/CacheCountsToStringPinLaw", name := "d", desc := "(J)C" } : Jvm.MethodName) method_2_code (2 : Nat) (Option.some Jvm.ClassFile.FieldType.char), Jvm.Cond.code ({ cls := "com/example/freshet/freshet/CacheCounts", name := "<init>", desc := "(JJJJJJ)V" } : Jvm.MethodName) prog_4_method_1_code (13 : Nat) (Option.none : Option Jvm.ClassFile.FieldType), Jvm.Cond.code ({ cls := "java/lang/Object", name := "<init>", desc := "()V" } : Jvm.MethodName) object_method_1_code (1 : Nat) (Option.none : Option Jvm.ClassFile.FieldType), Jvm.Cond.code ({ cls := "com/example/freshet/freshet/CacheCounts", name := "toString", desc := "()Ljava/lang/String;" } : Jvm.MethodName) prog_4_method_9_code (1 : Nat) (Option.some (Jvm.ClassFile.FieldType.object "java/lang/String")), Jvm.Cond.code ({ cls := "java/lang/StringBuilder", name := "<init>", desc := "()V" } : Jvm.MethodName) jdk_67_method_1_code (1 : Nat) (Option.none : Option Jvm.ClassFile.FieldType), Jvm.Cond.code ({ cls := "java/lang/AbstractStringBuilder", name := "<init>", desc := "(I)V" } : Jvm.MethodName) jdk_68_method_2_code (2 : Nat) (Option.none : Option Jvm.ClassFile.FieldType), Jvm.Cond.code ({ cls := "java/lang/StringBuilder", name := "append", desc := "(Ljava/lang/String;)Ljava/lang/StringBuilder;" } : Jvm.MethodName) jdk_67_method_7_code (2 : Nat) (Option.some (Jvm.ClassFile.FieldType.object "java/lang/StringBuilder")), Jvm.Cond.code ({ cls := "java/lang/AbstractStringBuilder", name := "append", desc := "(Ljava/lang/String;)Ljava/lang/AbstractStringBuilder;" } : Jvm.MethodName) jdk_68_method_22_code (3 : Nat) (Option.some (Jvm.ClassFile.FieldType.object "java/lang/AbstractStringBuilder")), Jvm.Cond.code ({ cls := "java/lang/String", name := "length", desc := "()I" } : Jvm.MethodName) jdk_42_method_54_code (1 : Nat) (Option.some Jvm.ClassFile.FieldType.int), Jvm.Cond.code ({ cls := "java/lang/String", name := "coder", desc := "()B" } : Jvm.MethodName) jdk_42_method_152_code (1 : Nat) (Option.some Jvm.ClassFile.FieldType.byte), Jvm.Cond.code ({ cls := "java/lang/AbstractStringBuilder", name := "ensureCapacityInternal", desc := "(I)V" } : Jvm.MethodName) jdk_68_method_9_code (3 : Nat) (Option.none : Option Jvm.ClassFile.FieldType), Jvm.Cond.code ({ cls := "java/lang/AbstractStringBuilder", name := "putStringAt", desc := "(ILjava/lang/String;)V" } : Jvm.MethodName) jdk_68_method_73_code (3 : Nat) (Option.none : Option Jvm.ClassFile.FieldType), Jvm.Cond.code ({ cls := "java/lang/AbstractStringBuilder", name := "inflateIfNeededFor", desc := "(Ljava/lang/String;)V" } : Jvm.MethodName) jdk_68_method_71_code (2 : Nat) (Option.none : Option Jvm.ClassFile.FieldType), Jvm.Cond.code ({ cls := "java/lang/String", name := "getBytes", desc := "([BIB)V" } : Jvm.MethodName) jdk_42_method_147_code (4 : Nat) (Option.none : Option Jvm.ClassFile.FieldType), Jvm.Cond.code ({ cls := "com/example/freshet/freshet/CacheCounts", name := "requests", desc := "()J" } : Jvm.MethodName) prog_4_method_2_code (1 : Nat) (Option.some Jvm.ClassFile.FieldType.long), Jvm.Cond.code ({ cls := "java/lang/StringBuilder", name := "append", desc := "(J)Ljava/lang/StringBuilder;" } : Jvm.MethodName) jdk_67_method_16_code (3 : Nat) (Option.some (Jvm.ClassFile.FieldType.object "java/lang/StringBuilder")), Jvm.Cond.code ({ cls := "java/lang/AbstractStringBuilder", name := "append", desc := "(J)Ljava/lang/AbstractStringBuilder;" } : Jvm.MethodName) jdk_68_method_33_code (5 : Nat) (Option.some (Jvm.ClassFile.FieldType.object "java/lang/AbstractStringBuilder")), Jvm.Cond.code ({ cls := "java/lang/Long", name := "stringSize", desc := "(J)I" } : Jvm.MethodName) jdk_35_method_15_code (6 : Nat) (Option.some Jvm.ClassFile.FieldType.int), Jvm.Cond.code ({ cls := "java/lang/AbstractStringBuilder", name := "isLatin1", desc := "()Z" } : Jvm.MethodName) jdk_68_method_68_code (1 : Nat) (Option.some Jvm.ClassFile.FieldType.boolean), Jvm.Cond.code ({ cls := "java/lang/Long", name := "getChars", desc := "(JI[B)I" } : Jvm.MethodName) jdk_35_method_14_code (11 : Nat) (Option.some Jvm.ClassFile.FieldType.int), Jvm.Cond.code ({ cls := "java/lang/AbstractStringBuilder", name := "newCapacity", desc := "(I)I" } : Jvm.MethodName) jdk_68_method_10_code (6 : Nat) (Option.some Jvm.ClassFile.FieldType.int), Jvm.Cond.code ({ cls := "jdk/internal/util/ArraysSupport", name := "newLength", desc := "(III)I" } : Jvm.MethodName) jdk_48_method_27_code (4 : Nat) (Option.some Jvm.ClassFile.FieldType.int), Jvm.Cond.code ({ cls := "java/lang/Math", name := "max", desc := "(II)I" } : Jvm.MethodName) jdk_29_method_65_code (2 : Nat) (Option.some Jvm.ClassFile.FieldType.int), Jvm.Cond.code ({ cls := "java/util/Arrays", name := "copyOf", desc := "([BI)[B" } : Jvm.MethodName) jdk_65_method_121_code (3 : Nat) (Option.some (Jvm.ClassFile.FieldType.array Jvm.ClassFile.FieldType.byte)), Jvm.Cond.code ({ cls := "java/lang/Math", name := "min", desc := "(II)I" } : Jvm.MethodName) jdk_29_method_69_code (2 : Nat) (Option.some Jvm.ClassFile.FieldType.int), Jvm.Cond.code ({ cls := "java/lang/StringBuilder", name := "toString", desc := "()Ljava/lang/String;" } : Jvm.MethodName) jdk_67_method_42_code (1 : Nat) (Option.some (Jvm.ClassFile.FieldType.object "java/lang/String")), Jvm.Cond.code ({ cls := "java/lang/String", name := "<init>", desc := "(Ljava/lang/StringBuilder;)V" } : Jvm.MethodName) jdk_42_method_53_code (2 : Nat) (Option.none : Option Jvm.ClassFile.FieldType), Jvm.Cond.code ({ cls := "java/lang/String", name := "<init>", desc := "(Ljava/lang/AbstractStringBuilder;Ljava/lang/Void;)V" } : Jvm.MethodName) jdk_42_method_150_code (5 : Nat) (Option.none : Option Jvm.ClassFile.FieldType), Jvm.Cond.code ({ cls := "java/lang/AbstractStringBuilder", name := "getValue", desc := "()[B" } : Jvm.MethodName) jdk_68_method_64_code (1 : Nat) (Option.some (Jvm.ClassFile.FieldType.array Jvm.ClassFile.FieldType.byte)), Jvm.Cond.code ({ cls := "java/lang/StringBuilder", name := "length", desc := "()I" } : Jvm.MethodName) jdk_67_method_93_code (1 : Nat) (Option.some Jvm.ClassFile.FieldType.int), Jvm.Cond.code ({ cls := "java/lang/AbstractStringBuilder", name := "length", desc := "()I" } : Jvm.MethodName) jdk_68_method_6_code (1 : Nat) (Option.some Jvm.ClassFile.FieldType.int), Jvm.Cond.code ({ cls := "java/util/Arrays", name := "copyOfRange", desc := "([BII)[B" } : Jvm.MethodName) jdk_65_method_132_code (3 : Nat) (Option.some (Jvm.ClassFile.FieldType.array Jvm.ClassFile.FieldType.byte)), Jvm.Cond.code ({ cls := "java/util/Arrays", name := "copyOfRangeByte", desc := "([BII)[B" } : Jvm.MethodName) jdk_65_method_133_code (5 : Nat) (Option.some (Jvm.ClassFile.FieldType.array Jvm.ClassFile.FieldType.byte)), Jvm.Cond.code ({ cls := "java/util/Arrays", name := "checkLength", desc := "(II)V" } : Jvm.MethodName) jdk_65_method_131_code (2 : Nat) (Option.none : Option Jvm.ClassFile.FieldType), Jvm.Cond.code ({ cls := "java/lang/String", name := "<init>", desc := "([C)V" } : Jvm.MethodName) jdk_42_method_3_code (2 : Nat) (Option.none : Option Jvm.ClassFile.FieldType), Jvm.Cond.code ({ cls := "java/lang/String", name := "<init>", desc := "([CIILjava/lang/Void;)V" } : Jvm.MethodName) jdk_42_method_149_code (6 : Nat) (Option.none : Option Jvm.ClassFile.FieldType), Jvm.Cond.code ({ cls := "java/lang/StringUTF16", name := "compress", desc := "([CII)[B" } : Jvm.MethodName) jdk_52_method_16_code (6 : Nat) (Option.some (Jvm.ClassFile.FieldType.array Jvm.ClassFile.FieldType.byte)), Jvm.Cond.code ({ cls := "java/lang/StringUTF16", name := "compress", desc := "([CI[BII)I" } : Jvm.MethodName) jdk_52_method_21_code (7 : Nat) (Option.some Jvm.ClassFile.FieldType.int), Jvm.Cond.code ({ cls := "java/lang/StringUTF16", name := "coderFromArrayLen", desc := "([BI)B" } : Jvm.MethodName) jdk_52_method_15_code (2 : Nat) (Option.some Jvm.ClassFile.FieldType.byte), Jvm.Cond.code ({ cls := "java/lang/String", name := "equals", desc := "(Ljava/lang/Object;)Z" } : Jvm.MethodName) jdk_42_method_66_code (3 : Nat) (Option.some Jvm.ClassFile.FieldType.boolean), Jvm.Cond.code ({ cls := "java/lang/StringLatin1", name := "equals", desc := "([B[B)Z" } : Jvm.MethodName) jdk_43_method_13_code (3 : Nat) (Option.some Jvm.ClassFile.FieldType.boolean)]
set_option maxRecDepth 65536 in
theorem codes_eq : words1.filter isCode = codes1 := rfl
theorem w_codes : ∀ c ∈ words1.filter isCode, c.before args0 about1 = true := by
  rw [codes_eq]
  intro c hc
  simp only [codes1, List.mem_cons, List.not_mem_nil, or_false] at hc
  rcases hc with rfl | rfl | rfl | rfl | rfl | rfl | rfl | rfl | rfl | rfl | rfl | rfl | rfl | rfl | rfl | rfl | rfl | rfl | rfl | rfl | rfl | rfl | rfl | rfl | rfl | rfl | rfl | rfl | rfl | rfl | rfl | rfl | rfl | rfl | rfl | rfl | rfl | rfl | rfl | rfl | rfl | rfl
  · exact w_c0
  · exact w_c1
  · exact w_c2
  · exact w_c3
  · exact w_c4
  · exact w_c5
  · exact w_c6
  · exact w_c7
  · exact w_c8
  · exact w_c9
  · exact w_c10
  · exact w_c11
  · exact w_c12
  · exact w_c13
  · exact w_c14
  · exact w_c15
  · exact w_c16
  · exact w_c17
  · exact w_c18
  · exact w_c19
  · exact w_c20
  · exact w_c21
  · exact w_c22
  · exact w_c23
  · exact w_c24
  · exact w_c25
  · exact w_c26
  · exact w_c27
  · exact w_c28
  · exact w_c29
  · exact w_c30
  · exact w_c31
  · exact w_c32
  · exact w_c33
  · exact w_c34
  · exact w_c35
  · exact w_c36
  · exact w_c37
  · exact w_c38
  · exact w_c39
  · exact w_c40
  · exact w_c41
set_option maxRecDepth 65536 in
theorem w_t1 : (words1.take 24).all (fun c => isCode c || c.before args0 about1) = true := by decide +kernel
set_option maxRecDepth 65536 in
theorem w_t2 : ((words1.drop 24).take 24).all (fun c => isCode c || c.before args0 about1) = true := by decide +kernel
set_option maxRecDepth 65536 in
theorem w_t3 : (((words1.drop 24).drop 24).take 24).all (fun c => isCode c || c.before args0 about1) = true := by decide +kernel
set_option maxRecDepth 65536 in
theorem w_t4 : ((((words1.drop 24).drop 24).drop 24).take 24).all (fun c => isCode c || c.before args0 about1) = true := by decide +kernel
set_option maxRecDepth 65536 in
theorem w_t5 : (((((words1.drop 24).drop 24).drop 24).drop 24).take 24).all (fun c => isCode c || c.before args0 about1) = true := by decide +kernel
set_option maxRecDepth 65536 in
theorem w_t6 : ((((((words1.drop 24).drop 24).drop 24).drop 24).drop 24).take 24).all (fun c => isCode c || c.before args0 about1) = true := by decide +kernel
set_option maxRecDepth 65536 in
theorem w_t7 : (((((((words1.drop 24).drop 24).drop 24).drop 24).drop 24).drop 24).take 24).all (fun c => isCode c || c.before args0 about1) = true := by decide +kernel
set_option maxRecDepth 65536 in
theorem w_t8 : ((((((((words1.drop 24).drop 24).drop 24).drop 24).drop 24).drop 24).drop 24).take 24).all (fun c => isCode c || c.before args0 about1) = true := by decide +kernel
set_option maxRecDepth 65536 in
theorem w_t9 : (((((((((words1.drop 24).drop 24).drop 24).drop 24).drop 24).drop 24).drop 24).drop 24).take 24).all (fun c => isCode c || c.before args0 about1) = true := by decide +kernel
set_option maxRecDepth 65536 in
theorem w_t10 : (((((((((words1.drop 24).drop 24).drop 24).drop 24).drop 24).drop 24).drop 24).drop 24).drop 24).all (fun c => isCode c || c.before args0 about1) = true := by decide +kernel
theorem w_tables : (allAtoms (Jvm.Cond.code x code maxLocals ret :: tables_1)).before args0 about1 = true := by
  rw [allAtoms_all]
  show words1.all (fun c => c.before args0 about1) = true
  refine all_split ?_ w_codes
  rw [← List.take_append_drop 24 words1, List.all_append, w_t1, ← List.take_append_drop 24 (words1.drop 24), List.all_append, w_t2, ← List.take_append_drop 24 ((words1.drop 24).drop 24), List.all_append, w_t3, ← List.take_append_drop 24 (((words1.drop 24).drop 24).drop 24), List.all_append, w_t4, ← List.take_append_drop 24 ((((words1.drop 24).drop 24).drop 24).drop 24), List.all_append, w_t5, ← List.take_append_drop 24 (((((words1.drop 24).drop 24).drop 24).drop 24).drop 24), List.all_append, w_t6, ← List.take_append_drop 24 ((((((words1.drop 24).drop 24).drop 24).drop 24).drop 24).drop 24), List.all_append, w_t7, ← List.take_append_drop 24 (((((((words1.drop 24).drop 24).drop 24).drop 24).drop 24).drop 24).drop 24), List.all_append, w_t8, ← List.take_append_drop 24 ((((((((words1.drop 24).drop 24).drop 24).drop 24).drop 24).drop 24).drop 24).drop 24), List.all_append, w_t9, w_t10]
  rfl
set_option maxRecDepth 65536 in
theorem w_rest : rest_1_c.before args0 about1 = true := by decide +kernel
set_option maxRecDepth 65536 in
theorem w_case : (Jvm.Cond.and given_1 narrow_1).before args0 about1 = true := by decide +kernel
set_option maxRecDepth 65536 in
theorem w_consts : constsHeld consts_1 about1 := Jvm.Lit.constsHeldB_iff.mp (by decide +kernel)
theorem w_applies : (headSpec (Jvm.Cond.code x code maxLocals ret :: tables_1) room_1).applies x e0.platform about1 = true :=
  (Spec.applies_iff w_frames).mpr ⟨w_running, w_runnable, w_alone, w_named, w_hears, w_ripe, w_room, w_tables⟩
theorem atStart : AtStart classFile x code maxLocals ret World_1 tables_1 room_1 Calls_1 rest_1 Pre_1 launch0 p0 e0 about1 theMethod args0 below0 :=
  ⟨lists_1, trivial, launch0.admits_env _ _ _, launch0.least_env, fairChoices_fair.cas, fairChoices_fair.clock, w_frames, w_args, w_heap, w_applies, ⟨w_consts, trivial⟩, w_rest, w_case⟩
end start1
theorem witness_1 : WitnessClaimed_1 := ⟨start1.p0, start1.e0, start1.about1, start1.theMethod, start1.args0, start1.below0, start1.atStart⟩
end Jvm.Pilot.@@N@@
