import JvmDerived
import JvmDerived.Pilot.@@N@@Statement
import JvmDerived.Pilot.@@N@@Code
set_option linter.unusedVariables false
set_option linter.unusedSimpArgs false
@@BLOCK:NumsL.lean.txt@@
/- laws to paste: Road.backV (cut by pick.py; bodies as the Statement names them) -/
namespace Jvm.Pilot.@@N@@
namespace StrChars
open Jvm Sem ClassFile Op Lib Jvm.Stand Jvm.Free.XT Jvm.Free.ALB Jvm.Free.JM Jvm.Free
open Jvm.Lib.Cold (StaticIs)
/-- a char array whose places are chars -/
def Ch (a : Addr) (A : Cell) (U : State) : Prop := Arr .char a A U ∧ Typed .char A
theorem Ch.mv {a : Addr} {A : Cell} {U U' : State} (h : Ch a A U) (hal : U.vm.Alike U'.vm) (hh : U'.heap = U.heap) : Ch a A U' := ⟨h.1.mv hal hh, h.2⟩
theorem Ch.keep {a : Addr} {A : Cell} {U U' : State} (h : Ch a A U) (hal : U.vm.Alike U'.vm) (hk : U'.heap[a]? = some A) : Ch a A U' := ⟨h.1.keep hal hk, h.2⟩
/-- what place i of a char[]'s cell holds -/
def cv (A : Cell) (i : Nat) : Int32 := match A.slots[i]? with | some (.int x) => x | _ => 0
theorem Ch.get {a : Addr} {A : Cell} {U : State} (h : Ch a A U) {i : Nat} (hi : i < A.slots.size) : A.slots[i]? = some (.int (cv A i)) := by
  have e := Array.getElem?_eq_getElem hi
  have f := h.2 i _ e
  unfold cv; rw [e]
  generalize A.slots[i] = v at f
  cases v <;> simp [fits] at f ⊢
/-- the byte that i2b leaves of a char -/
def lo8 (x : Int32) : Int32 := x.toInt8.toInt32
theorem fits_lo8 (y : Int32) : fits .byte (.int (lo8 y)) = true := by
  have h1 := y.toInt8.le_toInt
  have h2 := y.toInt8.toInt_lt
  simp only [lo8, fits, Bool.and_eq_true, decide_eq_true_eq, Int32.le_iff_toInt_le, Int8.toInt_toInt32, show (-128 : Int32).toInt = -128 from by decide, show (127 : Int32).toInt = 127 from by decide]
  omega
/-- A' is A but that each place j of lo .. hi - 1 holds f j -/
def Laid (A A' : Cell) (lo hi : Nat) (f : Nat → Value) : Prop := A'.cls = A.cls ∧ A'.vm = A.vm ∧ A'.slots.size = A.slots.size ∧ ∀ i, A'.slots[i]? = if lo ≤ i ∧ i < hi then some (f i) else A.slots[i]?
theorem Laid.zero (A : Cell) (lo : Nat) (f : Nat → Value) : Laid A A lo (lo + 0) f := ⟨rfl, rfl, rfl, fun i => by rw [if_neg (by omega)]⟩
theorem Laid.step {A Ak : Cell} {lo k : Nat} {f : Nat → Value} {v : Value} (h : Laid A Ak lo k f) (hlo : lo ≤ k) (hk : k < Ak.slots.size) (hv : v = f k) : Laid A (Ak.setSlot k v) lo (k + 1) f := by
  refine ⟨h.1, h.2.1, by simpa [Cell.setSlot] using h.2.2.1, fun i => ?_⟩
  by_cases e : k = i
  · subst e; rw [Cell.slots_setSlot_self v hk, if_pos (by omega), hv]
  · rw [Cell.slots_setSlot_ne v e, h.2.2.2 i]
    by_cases q : lo ≤ i ∧ i < k
    · rw [if_pos q, if_pos (by omega)]
    · rw [if_neg q, if_neg (by omega)]
def U16 : String := "java/lang/StringUTF16"
namespace Cmp5
def yN : MethodName := ⟨"java/lang/StringUTF16", "compress", "([CI[BII)I"⟩
abbrev yB : ByteArray := jdk_52_method_21_code
theorem d0 : decode yB 0 = .ok (.iconst 0, 1) := by decide +kernel
theorem d1 : decode yB 1 = .ok (.istore 5, 2) := by decide +kernel
theorem d3 : decode yB 3 = .ok (.iload 5, 2) := by decide +kernel
theorem d5 : decode yB 5 = .ok (.iload 4, 2) := by decide +kernel
theorem d7 : decode yB 7 = .ok (.if_icmp (.ge) 37, 3) := by decide +kernel
theorem d10 : decode yB 10 = .ok (.aload_n 0, 1) := by decide +kernel
theorem d11 : decode yB 11 = .ok (.iload_n 1, 1) := by decide +kernel
theorem d12 : decode yB 12 = .ok (.caload, 1) := by decide +kernel
theorem d13 : decode yB 13 = .ok (.istore 6, 2) := by decide +kernel
theorem d15 : decode yB 15 = .ok (.iload 6, 2) := by decide +kernel
theorem d17 : decode yB 17 = .ok (.sipush 255, 3) := by decide +kernel
theorem d20 : decode yB 20 = .ok (.if_icmp (.le) 6, 3) := by decide +kernel
theorem d26 : decode yB 26 = .ok (.aload_n 2, 1) := by decide +kernel
theorem d27 : decode yB 27 = .ok (.iload_n 3, 1) := by decide +kernel
theorem d28 : decode yB 28 = .ok (.iload 6, 2) := by decide +kernel
theorem d30 : decode yB 30 = .ok (.i2b, 1) := by decide +kernel
theorem d31 : decode yB 31 = .ok (.bastore, 1) := by decide +kernel
theorem d32 : decode yB 32 = .ok (.iinc 1 1, 3) := by decide +kernel
theorem d35 : decode yB 35 = .ok (.iinc 3 1, 3) := by decide +kernel
theorem d38 : decode yB 38 = .ok (.iinc 5 1, 3) := by decide +kernel
theorem d41 : decode yB 41 = .ok (.goto (-38), 3) := by decide +kernel
theorem d44 : decode yB 44 = .ok (.iload 4, 2) := by decide +kernel
theorem d46 : decode yB 46 = .ok (.ireturn, 1) := by decide +kernel
def site : List Cond := []
def tab : Cond := tabOf yN yB 7 (some .int) site
def P (b : Addr) (A : Cell) (d : Addr) (B : Cell) (o q len : Nat) (args : Array Value) (s : State) : Prop := args = #[.ref b, .int (Int32.ofNat o), .ref d, .int (Int32.ofNat q), .int (Int32.ofNat len)] ∧ Ch b A s ∧ Arr .byte d B s ∧ b ≠ d ∧ o + len ≤ A.slots.size ∧ q + len ≤ B.slots.size ∧ ∀ i, i < len → ¬ 255 < cv A (o + i)
def E (b : Addr) (A : Cell) (d : Addr) (B : Cell) (o q len : Nat) (r : Option Value) (s u : State) : Prop := r = some (.int (Int32.ofNat len)) ∧ ∃ B', Put d B' s u ∧ Laid B B' q (q + len) (fun j => Value.int (lo8 (cv A (o + (j - q)))))
/-- no char of the range above 255: len; the places written hold each char's low byte -/
theorem law (l : Launch) (b : Addr) (A : Cell) (d : Addr) (B : Cell) (o q len : Nat) : Law l yN 5 5 0 0 yB 7 (some .int) site (P b A d B o q len) (E b A d B o q len) (copyLocs d q len) 0 0 := by
  refine Law.of_walk (plainFor_of_name (by decide +kernel)) (by decide +kernel) (by decide +kernel) (by decide) (fun _ _ h => by rw [h.1]; rfl) (fun _ U U' hal hh h => ⟨h.1, h.2.1.mv hal hh, h.2.2.1.mv hal hh, h.2.2.2⟩) (fun r U U' V V' h1 hal h2 h => ⟨h.1, h.2.elim fun B' q => ⟨B', q.1.mv h1 h2, q.2⟩⟩) ?_
  intro p e s m args below meth c s₁ X0 hexec hbytes hml hret hlk hnm hown hh0 W hP
  obtain ⟨rfl, hA, hB, hne, l1, l2, hp⟩ := hP
  have c1 : Steps p.tables e below (s₁.setTop (entryFrame m #[.ref b, .int (Int32.ofNat o), .ref d, .int (Int32.ofNat q), .int (Int32.ofNat len)] 7)) (s₁.setTop (mkF m 0 #[.val (.ref b), .val (.int (Int32.ofNat o)), .val (.ref d), .val (.int (Int32.ofNat q)), .val (.int (Int32.ofNat len)), .unset, .unset] [])) := entry rfl
  have hA0 := hA.1.mv X0.warmed.alike hh0
  have hB0 := hB.mv X0.warmed.alike hh0
  have a31 := hA.1.2.2.2
  have c2 : Steps p.tables e below (s₁.setTop (entryFrame m #[.ref b, .int (Int32.ofNat o), .ref d, .int (Int32.ofNat q), .int (Int32.ofNat len)] 7)) (s₁.setTop (mkF m 3 #[.val (.ref b), .val (.int (Int32.ofNat o)), .val (.ref d), .val (.int (Int32.ofNat q)), .val (.int (Int32.ofNat len)), .val (.int 0), .unset] [])) := c1.trans (by
    refine iconstV X0.here hexec rfl 0 (hb hbytes d0) (by decide) ?_
    refine XS.istore X0.here hexec rfl (hb hbytes d1) rfl rfl ?_
    exact Steps.refl _)
  have loop : ∀ (r i : Nat), i + r = len → ∀ (z : Slot), (z = .unset ∨ ∃ w, z = .val w ∧ w.category = 1) → ∀ (Tl : State) (Bk : Cell), Stand p l e { frames := 0, locals := 0, cells := 0, slots := 0 } s m #[.ref b, .int (Int32.ofNat o), .ref d, .int (Int32.ofNat q), .int (Int32.ofNat len)] below meth c Tl ([] ++ copyLocs d q i) 0 0 → Put d Bk s₁ Tl → Laid B Bk q (q + i) (fun j => Value.int (lo8 (cv A (o + (j - q))))) →
      Steps p.tables e below (s₁.setTop (entryFrame m #[.ref b, .int (Int32.ofNat o), .ref d, .int (Int32.ofNat q), .int (Int32.ofNat len)] 7)) (Tl.setTop (mkF m 3 #[.val (.ref b), .val (.int (Int32.ofNat (o + i))), .val (.ref d), .val (.int (Int32.ofNat (q + i))), .val (.int (Int32.ofNat len)), .val (.int (Int32.ofNat i)), z] [])) → ∃ (T' : State) (B' : Cell) (z' : Slot), Stand p l e { frames := 0, locals := 0, cells := 0, slots := 0 } s m #[.ref b, .int (Int32.ofNat o), .ref d, .int (Int32.ofNat q), .int (Int32.ofNat len)] below meth c T' ([] ++ copyLocs d q len) 0 0 ∧ Put d B' s₁ T' ∧ Laid B B' q (q + len) (fun j => Value.int (lo8 (cv A (o + (j - q))))) ∧
      Steps p.tables e below (s₁.setTop (entryFrame m #[.ref b, .int (Int32.ofNat o), .ref d, .int (Int32.ofNat q), .int (Int32.ofNat len)] 7)) (T'.setTop (mkF m 3 #[.val (.ref b), .val (.int (Int32.ofNat (o + len))), .val (.ref d), .val (.int (Int32.ofNat (q + len))), .val (.int (Int32.ofNat len)), .val (.int (Int32.ofNat len)), z'] [])) := by
    intro r
    induction r with
    | zero =>
      intro i hi z hz Tl Bk Xl pl fl cl
      have hil : i = len := by omega
      rw [hil] at Xl fl cl
      exact ⟨Tl, Bk, z, Xl, pl, fl, cl⟩
    | succ r ih =>
      intro i hi z hz Tl Bk Xl pl fl cl
      have all := X0.warmed.alike.symm.trans Xl.warmed.alike
      have hAl := hA0.keep all (pl.other hne hA0.1)
      have hBk := hB0.like all pl.1 fl.1 fl.2.1 fl.2.2.1
      have hlt : q + i < Bk.slots.size := by rw [fl.2.2.1]; omega
      have c3 : Steps p.tables e below (s₁.setTop (entryFrame m #[.ref b, .int (Int32.ofNat o), .ref d, .int (Int32.ofNat q), .int (Int32.ofNat len)] 7)) (Tl.setTop (mkF m 12 #[.val (.ref b), .val (.int (Int32.ofNat (o + i))), .val (.ref d), .val (.int (Int32.ofNat (q + i))), .val (.int (Int32.ofNat len)), .val (.int (Int32.ofNat i)), z] [.int (Int32.ofNat (o + i)), .ref b])) := cl.trans (by
        refine XS.iload Xl.here hexec rfl (hb hbytes d3) rfl ?_
        refine XS.iload Xl.here hexec rfl (hb hbytes d5) rfl ?_
        refine XS.icmpNo Xl.here hexec rfl (hb hbytes d7) rfl (ii_ge_f (lt32 (by omega) (by omega))) ?_
        refine XS.aloadN Xl.here hexec rfl (hb hbytes d10) rfl rfl ?_
        refine XS.iloadN Xl.here hexec rfl (hb hbytes d11) rfl ?_
        exact Steps.refl _)
      have c4 : Steps p.tables e below (s₁.setTop (entryFrame m #[.ref b, .int (Int32.ofNat o), .ref d, .int (Int32.ofNat q), .int (Int32.ofNat len)] 7)) (Tl.setTop (mkF m 13 #[.val (.ref b), .val (.int (Int32.ofNat (o + i))), .val (.ref d), .val (.int (Int32.ofNat (q + i))), .val (.int (Int32.ofNat len)), .val (.int (Int32.ofNat i)), z] [.int (cv A (o + i))])) := c3.trans (by
        refine Xl.aget hexec hAl rfl (hA.get (i := o + i) (by omega)) rfl rfl (hb hbytes d12) ?_
        exact Steps.refl _)
      have c5 : Steps p.tables e below (s₁.setTop (entryFrame m #[.ref b, .int (Int32.ofNat o), .ref d, .int (Int32.ofNat q), .int (Int32.ofNat len)] 7)) (Tl.setTop (mkF m 15 #[.val (.ref b), .val (.int (Int32.ofNat (o + i))), .val (.ref d), .val (.int (Int32.ofNat (q + i))), .val (.int (Int32.ofNat len)), .val (.int (Int32.ofNat i)), .val (.int (cv A (o + i)))] [])) := c4.trans (by
        refine XS.istoreS Xl.here hexec rfl (hb hbytes d13) rfl rfl hz ?_
        exact Steps.refl _)
      have c6 : Steps p.tables e below (s₁.setTop (entryFrame m #[.ref b, .int (Int32.ofNat o), .ref d, .int (Int32.ofNat q), .int (Int32.ofNat len)] 7)) (Tl.setTop (mkF m 31 #[.val (.ref b), .val (.int (Int32.ofNat (o + i))), .val (.ref d), .val (.int (Int32.ofNat (q + i))), .val (.int (Int32.ofNat len)), .val (.int (Int32.ofNat i)), .val (.int (cv A (o + i)))] [.int (lo8 (cv A (o + i))), .int (Int32.ofNat (q + i)), .ref d])) := c5.trans (by
        refine XS.iload Xl.here hexec rfl (hb hbytes d15) rfl ?_
        refine sipushV Xl.here hexec rfl 255 (hb hbytes d17) (by decide) ?_
        refine XS.icmpYes Xl.here hexec rfl (pc0 := 20) rfl (hb hbytes d20) rfl (ii_le_t (hp i (by omega))) (by decide) rfl ?_
        refine XS.aloadN Xl.here hexec rfl (hb hbytes d26) rfl rfl ?_
        refine XS.iloadN Xl.here hexec rfl (hb hbytes d27) rfl ?_
        refine XS.iload Xl.here hexec rfl (hb hbytes d28) rfl ?_
        refine i2b Xl.here hexec rfl (hb hbytes d30) rfl ?_
        exact Steps.refl _)
      obtain ⟨T7, X7, p7, st7⟩ := Xl.aput hexec hBk rfl hlt rfl (fits_lo8 (cv A (o + i))) (g := (mkF m 31 #[.val (.ref b), .val (.int (Int32.ofNat (o + i))), .val (.ref d), .val (.int (Int32.ofNat (q + i))), .val (.int (Int32.ofNat len)), .val (.int (Int32.ofNat i)), .val (.int (cv A (o + i)))] [.int (lo8 (cv A (o + i))), .int (Int32.ofNat (q + i)), .ref d])) rfl (rest := []) rfl (hb hbytes d31)
      have c8 : Steps p.tables e below (s₁.setTop (entryFrame m #[.ref b, .int (Int32.ofNat o), .ref d, .int (Int32.ofNat q), .int (Int32.ofNat len)] 7)) (T7.setTop (mkF m 32 #[.val (.ref b), .val (.int (Int32.ofNat (o + i))), .val (.ref d), .val (.int (Int32.ofNat (q + i))), .val (.int (Int32.ofNat len)), .val (.int (Int32.ofNat i)), .val (.int (cv A (o + i)))] [])) := c6.trans (st7 _ (Steps.refl _))
      have c9 : Steps p.tables e below (s₁.setTop (entryFrame m #[.ref b, .int (Int32.ofNat o), .ref d, .int (Int32.ofNat q), .int (Int32.ofNat len)] 7)) (T7.setTop (mkF m 3 #[.val (.ref b), .val (.int (Int32.ofNat (o + i) + 1)), .val (.ref d), .val (.int (Int32.ofNat (q + i) + 1)), .val (.int (Int32.ofNat len)), .val (.int (Int32.ofNat i + 1)), .val (.int (cv A (o + i)))] [])) := c8.trans (by
        refine iincV X7.here hexec rfl 1 (hb hbytes d32) (by decide) rfl rfl ?_
        refine iincV X7.here hexec rfl 1 (hb hbytes d35) (by decide) rfl rfl ?_
        refine iincV X7.here hexec rfl 1 (hb hbytes d38) (by decide) rfl rfl ?_
        refine XS.goto X7.here hexec rfl (pc0 := 41) rfl (hb hbytes d41) (by decide) rfl ?_
        exact Steps.refl _)
      have c10 : Steps p.tables e below (s₁.setTop (entryFrame m #[.ref b, .int (Int32.ofNat o), .ref d, .int (Int32.ofNat q), .int (Int32.ofNat len)] 7)) (T7.setTop (mkF m 3 #[.val (.ref b), .val (.int (Int32.ofNat (o + (i + 1)))), .val (.ref d), .val (.int (Int32.ofNat (q + (i + 1)))), .val (.int (Int32.ofNat len)), .val (.int (Int32.ofNat (i + 1))), .val (.int (cv A (o + i)))] [])) := by
        have := c9
        rw [succ32, succ32, succ32] at this
        exact this
      exact ih (i + 1) (by omega) _ (Or.inr ⟨_, rfl, rfl⟩) T7 _ (by rw [copyLocs_step, ← List.append_assoc]; exact X7) (pl.trans p7) (fl.step (by omega) hlt (by simp)) c10
  obtain ⟨T9, B9, z9, X9, p9, f9, g9⟩ := loop len 0 (by omega) .unset (Or.inl rfl) s₁ B (by simpa [copyLocs] using X0) ⟨hB0.1, fun _ _ => rfl, rfl⟩ (Laid.zero _ _ _) c2
  have c11 : Steps p.tables e below (s₁.setTop (entryFrame m #[.ref b, .int (Int32.ofNat o), .ref d, .int (Int32.ofNat q), .int (Int32.ofNat len)] 7)) (T9.setTop (mkF m 46 #[.val (.ref b), .val (.int (Int32.ofNat (o + len))), .val (.ref d), .val (.int (Int32.ofNat (q + len))), .val (.int (Int32.ofNat len)), .val (.int (Int32.ofNat len)), z9] [.int (Int32.ofNat len)])) := g9.trans (by
    refine XS.iload X9.here hexec rfl (hb hbytes d3) rfl ?_
    refine XS.iload X9.here hexec rfl (hb hbytes d5) rfl ?_
    refine XS.icmpYes X9.here hexec rfl (pc0 := 7) rfl (hb hbytes d7) rfl (ii_ge_t (nlt32 (by omega) (Nat.le_refl _))) (by decide) rfl ?_
    refine XS.iload X9.here hexec rfl (hb hbytes d44) rfl ?_
    exact Steps.refl _)
  exact ⟨T9, some (.int (Int32.ofNat len)), _, _, _, X9, by simp, rfl, rfl, (fun h => by cases h), ⟨rfl, B9, p9.from hh0, f9⟩, fun fs hl => c11.trans (X9.ireturnOut hexec hret rfl (Or.inl rfl) (hb hbytes d46) hl)⟩
end Cmp5
namespace Cmp3
def yN : MethodName := ⟨"java/lang/StringUTF16", "compress", "([CII)[B"⟩
abbrev yB : ByteArray := jdk_52_method_16_code
theorem d0 : decode yB 0 = .ok (.iload_n 2, 1) := by decide +kernel
theorem d1 : decode yB 1 = .ok (.newarray .byte, 2) := by decide +kernel
theorem d3 : decode yB 3 = .ok (.astore_n 3, 1) := by decide +kernel
theorem d4 : decode yB 4 = .ok (.aload_n 0, 1) := by decide +kernel
theorem d5 : decode yB 5 = .ok (.iload_n 1, 1) := by decide +kernel
theorem d6 : decode yB 6 = .ok (.aload_n 3, 1) := by decide +kernel
theorem d7 : decode yB 7 = .ok (.iconst 0, 1) := by decide +kernel
theorem d8 : decode yB 8 = .ok (.iload_n 2, 1) := by decide +kernel
theorem d9 : decode yB 9 = .ok (.invokestatic 115, 3) := by decide +kernel
theorem d12 : decode yB 12 = .ok (.istore 4, 2) := by decide +kernel
theorem d14 : decode yB 14 = .ok (.iload 4, 2) := by decide +kernel
theorem d16 : decode yB 16 = .ok (.iload_n 2, 1) := by decide +kernel
theorem d17 : decode yB 17 = .ok (.if_icmp (.eq) 40, 3) := by decide +kernel
theorem d57 : decode yB 57 = .ok (.aload_n 3, 1) := by decide +kernel
theorem d58 : decode yB 58 = .ok (.areturn, 1) := by decide +kernel
def site : List Cond := [.arrayClass .byte, Cmp5.tab] ++ staticW U16 115 Cmp5.yN
def tab : Cond := tabOf yN yB 6 (some (.array .byte)) site
def P (b : Addr) (A : Cell) (o len : Nat) (args : Array Value) (s : State) : Prop := args = #[.ref b, .int (Int32.ofNat o), .int (Int32.ofNat len)] ∧ Ch b A s ∧ o + len ≤ A.slots.size ∧ len ≤ 536870912 ∧ ∀ i, i < len → ¬ 255 < cv A (o + i)
def E (b : Addr) (A : Cell) (o len : Nat) (r : Option Value) (s u : State) : Prop := NewArr .byte "[B" len (fun j => .int (lo8 (cv A (o + j)))) r s u ∧ u.heap.size = s.heap.size + 1
/-- no char of the range above 255: a new byte[] of their low bytes -/
theorem law (l : Launch) (b : Addr) (A : Cell) (o len : Nat) : Law l yN 3 3 1 18 yB 6 (some (.array .byte)) site (P b A o len) (E b A o len) [] 1 len := by
  refine Law.of_walk (plainFor_of_name (by decide +kernel)) (by decide +kernel) (by decide +kernel) (by decide) (fun _ _ h => by rw [h.1]; rfl) (fun _ U U' hal hh h => ⟨h.1, h.2.1.mv hal hh, h.2.2⟩) (fun r U U' V V' h1 hal h2 h => ⟨NewArr.mv r U U' V V' h1 hal h2 h.1, by rw [h1, h2]; exact h.2⟩) ?_
  intro p e s m args below meth c s₁ X0 hexec hbytes hml hret hlk hnm hown hh0 W hP
  obtain ⟨rfl, hA, l1, l2, hp⟩ := hP
  have a31 := hA.1.2.2.2
  have c1 : Steps p.tables e below (s₁.setTop (entryFrame m #[.ref b, .int (Int32.ofNat o), .int (Int32.ofNat len)] 6)) (s₁.setTop (mkF m 0 #[.val (.ref b), .val (.int (Int32.ofNat o)), .val (.int (Int32.ofNat len)), .unset, .unset, .unset] [])) := entry rfl
  have c2 : Steps p.tables e below (s₁.setTop (entryFrame m #[.ref b, .int (Int32.ofNat o), .int (Int32.ofNat len)] 6)) (s₁.setTop (mkF m 1 #[.val (.ref b), .val (.int (Int32.ofNat o)), .val (.int (Int32.ofNat len)), .unset, .unset, .unset] [.int (Int32.ofNat len)])) := c1.trans (by
    refine XS.iloadN X0.here hexec rfl (hb hbytes d0) rfl ?_
    exact Steps.refl _)
  obtain ⟨T3, B3, X3, ba3, bs3, bv3, bh3, bf3, st3⟩ := X0.anew hexec (atype := .byte) (wk W (.arrayClass .byte)) rfl (by show len * 1 ≤ _; omega) (by omega) (g := (mkF m 1 #[.val (.ref b), .val (.int (Int32.ofNat o)), .val (.int (Int32.ofNat len)), .unset, .unset, .unset] [.int (Int32.ofNat len)])) rfl (hb hbytes d1) (rest := []) rfl (Nat.le_refl _) (by show 0 + len ≤ len; omega)
  rw [hh0] at ba3 st3
  have kp3 : XT.Kept s T3 := (XT.Kept.of_eq hh0).push bh3
  have hA3 := hA.keep X3.warmed.alike (kp3 _ _ hA.1.1)
  have hne : b ≠ s.heap.size := hA.1.ne
  have c4 : Steps p.tables e below (s₁.setTop (entryFrame m #[.ref b, .int (Int32.ofNat o), .int (Int32.ofNat len)] 6)) (T3.setTop (mkF m 3 #[.val (.ref b), .val (.int (Int32.ofNat o)), .val (.int (Int32.ofNat len)), .unset, .unset, .unset] [.ref s.heap.size])) := c2.trans (st3 _ (Steps.refl _))
  have c5 : Steps p.tables e below (s₁.setTop (entryFrame m #[.ref b, .int (Int32.ofNat o), .int (Int32.ofNat len)] 6)) (T3.setTop (mkF m 9 #[.val (.ref b), .val (.int (Int32.ofNat o)), .val (.int (Int32.ofNat len)), .val (.ref s.heap.size), .unset, .unset] [.int (Int32.ofNat len), .int 0, .ref s.heap.size, .int (Int32.ofNat o), .ref b])) := c4.trans (by
    refine XS.astoreN X3.here hexec rfl (hb hbytes d3) rfl rfl rfl ?_
    refine XS.aloadN X3.here hexec rfl (hb hbytes d4) rfl rfl ?_
    refine XS.iloadN X3.here hexec rfl (hb hbytes d5) rfl ?_
    refine XS.aloadN X3.here hexec rfl (hb hbytes d6) rfl rfl ?_
    refine iconstV X3.here hexec rfl 0 (hb hbytes d7) (by decide) ?_
    refine XS.iloadN X3.here hexec rfl (hb hbytes d8) rfl ?_
    exact Steps.refl _)
  obtain ⟨v6, T6, X6, E6, g6⟩ := X3.callS hexec (Cmp5.law l b A s.heap.size B3 o 0 len) hown (wks W (staticW U16 115 Cmp5.yN)) (wk W Cmp5.tab) (W := 0) (Nat.le_of_ble_eq_true rfl) (Nat.le_of_ble_eq_true rfl) (Nat.le_refl _) (by show 0 + len + 0 ≤ len; omega) (g := (mkF m 9 #[.val (.ref b), .val (.int (Int32.ofNat o)), .val (.int (Int32.ofNat len)), .val (.ref s.heap.size), .unset, .unset] [.int (Int32.ofNat len), .int (Int32.ofNat 0), .ref s.heap.size, .int (Int32.ofNat o), .ref b])) rfl (by rw [hml]; rfl) c5 (argsL := [.ref b, .int (Int32.ofNat o), .ref s.heap.size, .int (Int32.ofNat 0), .int (Int32.ofNat len)]) (rest := []) rfl rfl (by show 2 * 0 + 0 ≤ _; decide) (hb hbytes d9) (⟨rfl, hA3, ba3, hne, l1, by rw [bs3]; simp, hp⟩)
  obtain ⟨rfl, B6, p6, f6⟩ := E6
  have c7 : Steps p.tables e below (s₁.setTop (entryFrame m #[.ref b, .int (Int32.ofNat o), .int (Int32.ofNat len)] 6)) (T6.setTop (mkF m 12 #[.val (.ref b), .val (.int (Int32.ofNat o)), .val (.int (Int32.ofNat len)), .val (.ref s.heap.size), .unset, .unset] [.int (Int32.ofNat len)])) := g6
  have c8 : Steps p.tables e below (s₁.setTop (entryFrame m #[.ref b, .int (Int32.ofNat o), .int (Int32.ofNat len)] 6)) (T6.setTop (mkF m 58 #[.val (.ref b), .val (.int (Int32.ofNat o)), .val (.int (Int32.ofNat len)), .val (.ref s.heap.size), .val (.int (Int32.ofNat len)), .unset] [.ref s.heap.size])) := c7.trans (by
    refine XS.istore X6.here hexec rfl (hb hbytes d12) rfl rfl ?_
    refine XS.iload X6.here hexec rfl (hb hbytes d14) rfl ?_
    refine XS.iloadN X6.here hexec rfl (hb hbytes d16) rfl ?_
    refine XS.icmpYes X6.here hexec rfl (pc0 := 17) rfl (hb hbytes d17) rfl (ii_eq_t rfl) (by decide) rfl ?_
    refine XS.aloadN X6.here hexec rfl (hb hbytes d57) rfl rfl ?_
    exact Steps.refl _)
  have X8 := X6.wide (L' := []) (cells' := 1) (slots' := len) (fun x hx hlt => by
    simp only [List.nil_append, copyLocs, List.mem_map, List.mem_range] at hx
    obtain ⟨i, -, rfl⟩ := hx
    exact absurd hlt (Nat.lt_irrefl _)) (Nat.le_refl _) (by omega)
  exact ⟨T6, some (.ref s.heap.size), _, _, _, X8, rfl, rfl, rfl, (fun h => by cases h), ⟨⟨rfl, B6, ba3.like (X3.warmed.alike.symm.trans X6.warmed.alike) p6.1 f6.1 f6.2.1 f6.2.2.1, f6.2.1.trans bv3, by rw [X6.warmed.alike.findClass, f6.1]; exact bf3, by rw [f6.2.2.1, bs3]; simp, fun j hj => by rw [f6.2.2.2 j, if_pos (by omega)]; rfl, kp3.put p6 (Nat.le_refl _)⟩, by rw [p6.2.2, bh3, hh0]; simp⟩, fun fs hl => c8.trans (X8.areturnOut hexec rfl hret rfl (hb hbytes d58) hl)⟩
end Cmp3
namespace CodL
def yN : MethodName := ⟨"java/lang/StringUTF16", "coderFromArrayLen", "([BI)B"⟩
abbrev yB : ByteArray := jdk_52_method_15_code
theorem d0 : decode yB 0 = .ok (.iload_n 1, 1) := by decide +kernel
theorem d1 : decode yB 1 = .ok (.aload_n 0, 1) := by decide +kernel
theorem d2 : decode yB 2 = .ok (.arraylength, 1) := by decide +kernel
theorem d3 : decode yB 3 = .ok (.isub, 1) := by decide +kernel
theorem d4 : decode yB 4 = .ok (.bipush 31, 2) := by decide +kernel
theorem d6 : decode yB 6 = .ok (.iushr, 1) := by decide +kernel
theorem d7 : decode yB 7 = .ok (.i2b, 1) := by decide +kernel
theorem d8 : decode yB 8 = .ok (.ireturn, 1) := by decide +kernel
def site : List Cond := []
def tab : Cond := tabOf yN yB 2 (some .byte) site
def P (d : Addr) (B : Cell) (args : Array Value) (s : State) : Prop := args = #[.ref d, .int (Int32.ofNat B.slots.size)] ∧ Arr .byte d B s
def E (r : Option Value) (s u : State) : Prop := XT.PureE (some (.int 0)) r s u
/-- an array as long as the number of chars: LATIN1 -/
theorem law (l : Launch) (d : Addr) (B : Cell) : Law l yN 2 2 0 0 yB 2 (some .byte) site (P d B) E [] 0 0 := by
  refine Law.of_walk (plainFor_of_name (by decide +kernel)) (by decide +kernel) (by decide +kernel) (by decide) (fun _ _ h => by rw [h.1]; rfl) (fun _ U U' hal hh h => ⟨h.1, h.2.mv hal hh⟩) (fun r U U' V V' h1 hal h2 h => XT.PureE.mv r U U' V V' h1 hal h2 h) ?_
  intro p e s m args below meth c s₁ X0 hexec hbytes hml hret hlk hnm hown hh0 W hP
  obtain ⟨rfl, hB⟩ := hP
  have hB0 := hB.mv X0.warmed.alike hh0
  have c1 : Steps p.tables e below (s₁.setTop (entryFrame m #[.ref d, .int (Int32.ofNat B.slots.size)] 2)) (s₁.setTop (mkF m 0 #[.val (.ref d), .val (.int (Int32.ofNat B.slots.size))] [])) := entry rfl
  have c2 : Steps p.tables e below (s₁.setTop (entryFrame m #[.ref d, .int (Int32.ofNat B.slots.size)] 2)) (s₁.setTop (mkF m 2 #[.val (.ref d), .val (.int (Int32.ofNat B.slots.size))] [.ref d, .int (Int32.ofNat B.slots.size)])) := c1.trans (by
    refine XS.iloadN X0.here hexec rfl (hb hbytes d0) rfl ?_
    refine XS.aloadN X0.here hexec rfl (hb hbytes d1) rfl rfl ?_
    exact Steps.refl _)
  have c3 : Steps p.tables e below (s₁.setTop (entryFrame m #[.ref d, .int (Int32.ofNat B.slots.size)] 2)) (s₁.setTop (mkF m 8 #[.val (.ref d), .val (.int (Int32.ofNat B.slots.size))] [.int (lo8 (ushr (Int32.ofNat B.slots.size - Int32.ofNat B.slots.size) 31))])) := c2.trans (by
    refine X0.alen hexec hB0 rfl rfl (hb hbytes d2) ?_
    refine XS.isub X0.here hexec rfl (hb hbytes d3) rfl ?_
    refine bipushV X0.here hexec rfl 31 (hb hbytes d4) (by decide) ?_
    refine iushr X0.here hexec rfl (hb hbytes d6) rfl ?_
    refine i2b X0.here hexec rfl (hb hbytes d7) rfl ?_
    exact Steps.refl _)
  have e0 : lo8 (ushr (Int32.ofNat B.slots.size - Int32.ofNat B.slots.size) 31) = 0 := by rw [Int32.sub_self]; decide
  rw [e0] at c3
  exact ⟨s₁, some (.int 0), _, _, _, X0, rfl, rfl, rfl, (fun h => by cases h), ⟨rfl, hh0⟩, fun fs hl => c3.trans (X0.ireturnOut hexec hret rfl (Or.inr (Or.inr (Or.inl rfl))) (hb hbytes d8) hl)⟩
end CodL
/-- the String at a is Latin-1 over a new byte[] (the heap's one new cell): the low bytes of the len chars of A from o on; every cell but a is kept -/
def Got (a : Addr) (D : Cell) (fV fC : Field) (A : Cell) (o len : Nat) (r : Option Value) (s u : State) : Prop := r = none ∧ ∃ D' V : Cell, Blank "java/lang/String" a D' u ∧ Same D D' [fV.slot, fC.slot] ∧ D'.slots[fV.slot]? = some (.ref s.heap.size) ∧ D'.slots[fC.slot]? = some (.int 0) ∧ Arr .byte s.heap.size V u ∧ V.vm = .none ∧ u.vm.findClass "[B" = some V.cls ∧ V.slots.size = len ∧ (∀ j, j < len → V.slots[j]? = some (.int (lo8 (cv A (o + j))))) ∧ (∀ (y : Addr) (c : Cell), y ≠ a → s.heap[y]? = some c → u.heap[y]? = some c) ∧ u.heap.size = s.heap.size + 1
theorem Got.mv {a : Addr} {D A : Cell} {fV fC : Field} {o len : Nat} : ∀ r (U U' V V' : State), U'.heap = U.heap → V.vm.Alike V'.vm → V'.heap = V.heap → Got a D fV fC A o len r U V → Got a D fV fC A o len r U' V' :=
  fun r U U' V V' h1 hal h2 ⟨e0, D', X, a1, a2, a3, a4, a5, a6, a7, a8, a9, a10, a11⟩ => ⟨e0, D', X, a1.mv hal h2, a2, by rw [h1]; exact a3, a4, by rw [h1]; exact a5.mv hal h2, a6, by rw [hal.findClass]; exact a7, a8, a9, by rw [h1, h2]; exact a10, by rw [h1, h2]; exact a11⟩
namespace New4
def yN : MethodName := ⟨"java/lang/String", "<init>", "([CIILjava/lang/Void;)V"⟩
abbrev yB : ByteArray := jdk_42_method_149_code
theorem d0 : decode yB 0 = .ok (.aload_n 0, 1) := by decide +kernel
theorem d1 : decode yB 1 = .ok (.invokespecial 1, 3) := by decide +kernel
theorem d4 : decode yB 4 = .ok (.iload_n 3, 1) := by decide +kernel
theorem d5 : decode yB 5 = .ok (.ifCond (.ne) 22, 3) := by decide +kernel
theorem d27 : decode yB 27 = .ok (.getstatic 38, 3) := by decide +kernel
theorem d30 : decode yB 30 = .ok (.ifCond (.eq) 28, 3) := by decide +kernel
theorem d33 : decode yB 33 = .ok (.aload_n 1, 1) := by decide +kernel
theorem d34 : decode yB 34 = .ok (.iload_n 2, 1) := by decide +kernel
theorem d35 : decode yB 35 = .ok (.iload_n 3, 1) := by decide +kernel
theorem d36 : decode yB 36 = .ok (.invokestatic 177, 3) := by decide +kernel
theorem d39 : decode yB 39 = .ok (.astore 5, 2) := by decide +kernel
theorem d41 : decode yB 41 = .ok (.aload_n 0, 1) := by decide +kernel
theorem d42 : decode yB 42 = .ok (.aload 5, 2) := by decide +kernel
theorem d44 : decode yB 44 = .ok (.iload_n 3, 1) := by decide +kernel
theorem d45 : decode yB 45 = .ok (.invokestatic 47, 3) := by decide +kernel
theorem d48 : decode yB 48 = .ok (.putfield 15, 3) := by decide +kernel
theorem d51 : decode yB 51 = .ok (.aload_n 0, 1) := by decide +kernel
theorem d52 : decode yB 52 = .ok (.aload 5, 2) := by decide +kernel
theorem d54 : decode yB 54 = .ok (.putfield 9, 3) := by decide +kernel
theorem d57 : decode yB 57 = .ok (.return_, 1) := by decide +kernel
def site : List Cond := [.fieldLink "java/lang/String" 38 "java/lang/String" "COMPACT_STRINGS" "Z", Cmp3.tab, CodL.tab, .laysFinal "java/lang/String" "java/lang/String" "value" "[B", .fieldLink "java/lang/String" 9 "java/lang/String" "value" "[B", .laysFinal "java/lang/String" "java/lang/String" "coder" "B", .fieldLink "java/lang/String" 15 "java/lang/String" "coder" "B"] ++ objW "java/lang/String" 1 ++ staticW "java/lang/String" 177 Cmp3.yN ++ staticW "java/lang/String" 47 CodL.yN
def tab : Cond := tabOf yN yB 6 none site
def P (a : Addr) (D : Cell) (fV fC : Field) (b : Addr) (A : Cell) (z : Int32) (o len : Nat) (args : Array Value) (s : State) : Prop := args = #[.ref a, .ref b, .int (Int32.ofNat o), .int (Int32.ofNat len), .null] ∧ Blank "java/lang/String" a D s ∧ Found "java/lang/String" "value" "[B" fV s ∧ Found "java/lang/String" "coder" "B" fC s ∧ Ch b A s ∧ StaticIs s "java/lang/String" "COMPACT_STRINGS" "Z" (.int z) ∧ ¬ z = 0 ∧ 0 < len ∧ o + len ≤ A.slots.size ∧ len ≤ 536870912 ∧ ∀ i, i < len → ¬ 255 < cv A (o + i)
def E (a : Addr) (D : Cell) (fV fC : Field) (A : Cell) (o len : Nat) (r : Option Value) (s u : State) : Prop := Got a D fV fC A o len r s u
/-- len > 0, no char of the range above 255: a Latin-1 String of their low bytes -/
theorem law (l : Launch) (a : Addr) (D : Cell) (fV fC : Field) (b : Addr) (A : Cell) (z : Int32) (o len : Nat) : Law l yN 5 4 2 35 yB 6 none site (P a D fV fC b A z o len) (E a D fV fC A o len) [⟨a, fC.slot⟩, ⟨a, fV.slot⟩] 1 len := by
  refine Law.of_walk (plainFor_of_name (by decide +kernel)) (by decide +kernel) (by decide +kernel) (by decide) (fun _ _ h => by rw [h.1]; rfl) (fun _ U U' hal hh h => ⟨h.1, h.2.1.mv hal hh, h.2.2.1.al hal, h.2.2.2.1.al hal, h.2.2.2.2.1.mv hal hh, h.2.2.2.2.2.1.there hal hh, h.2.2.2.2.2.2⟩) (fun r U U' V V' h1 hal h2 h => Got.mv r U U' V V' h1 hal h2 h) ?_
  intro p e s m args below meth c s₁ X0 hexec hbytes hml hret hlk hnm hown hh0 W hP
  obtain ⟨rfl, hB, f1, f2, hA, s1, hz, l0, l1, l2, hp⟩ := hP
  have a31 := hA.1.2.2.2
  have c1 : Steps p.tables e below (s₁.setTop (entryFrame m #[.ref a, .ref b, .int (Int32.ofNat o), .int (Int32.ofNat len), .null] 6)) (s₁.setTop (mkF m 0 #[.val (.ref a), .val (.ref b), .val (.int (Int32.ofNat o)), .val (.int (Int32.ofNat len)), .val .null, .unset] [])) := entry rfl
  have c2 : Steps p.tables e below (s₁.setTop (entryFrame m #[.ref a, .ref b, .int (Int32.ofNat o), .int (Int32.ofNat len), .null] 6)) (s₁.setTop (mkF m 1 #[.val (.ref a), .val (.ref b), .val (.int (Int32.ofNat o)), .val (.int (Int32.ofNat len)), .val .null, .unset] [.ref a])) := c1.trans (by
    refine XS.aloadN X0.here hexec rfl (hb hbytes d0) rfl rfl ?_
    exact Steps.refl _)
  obtain ⟨T3, X3, q3, st3⟩ := X0.oinit hexec hown (wks W (objW "java/lang/String" 1)) (g := (mkF m 1 #[.val (.ref a), .val (.ref b), .val (.int (Int32.ofNat o)), .val (.int (Int32.ofNat len)), .val .null, .unset] [.ref a])) rfl (by rw [hml]; rfl) (rest := []) rfl (hb hbytes d1) (W := 0) (by show 2 * 0 + 0 ≤ _; decide) (Nat.le_of_ble_eq_true rfl) (Nat.le_of_ble_eq_true rfl)
  have hh3 := q3.trans hh0
  have c4 : Steps p.tables e below (s₁.setTop (entryFrame m #[.ref a, .ref b, .int (Int32.ofNat o), .int (Int32.ofNat len), .null] 6)) (T3.setTop (mkF m 27 #[.val (.ref a), .val (.ref b), .val (.int (Int32.ofNat o)), .val (.int (Int32.ofNat len)), .val .null, .unset] [])) := (c2.trans (st3 _ (Steps.refl _))).trans (by
    refine XS.iloadN X3.here hexec rfl (hb hbytes d4) rfl ?_
    refine XS.ifYes X3.here hexec rfl (pc0 := 5) rfl (hb hbytes d5) rfl (i0_ne_t (nz32 (by omega) l0)) (by decide) rfl ?_
    exact Steps.refl _)
  obtain ⟨T5, X5, q5, st5⟩ := X3.sget hexec hown (wk W (.fieldLink "java/lang/String" 38 "java/lang/String" "COMPACT_STRINGS" "Z")) s1 (fun _ _ h => by rw [hh3]; exact h) (g := (mkF m 27 #[.val (.ref a), .val (.ref b), .val (.int (Int32.ofNat o)), .val (.int (Int32.ofNat len)), .val .null, .unset] [])) rfl (hb hbytes d27)
  have hh5 := q5.trans hh3
  have c6 : Steps p.tables e below (s₁.setTop (entryFrame m #[.ref a, .ref b, .int (Int32.ofNat o), .int (Int32.ofNat len), .null] 6)) (T5.setTop (mkF m 30 #[.val (.ref a), .val (.ref b), .val (.int (Int32.ofNat o)), .val (.int (Int32.ofNat len)), .val .null, .unset] [.int z])) := c4.trans (st5 _ (Steps.refl _))
  have c7 : Steps p.tables e below (s₁.setTop (entryFrame m #[.ref a, .ref b, .int (Int32.ofNat o), .int (Int32.ofNat len), .null] 6)) (T5.setTop (mkF m 36 #[.val (.ref a), .val (.ref b), .val (.int (Int32.ofNat o)), .val (.int (Int32.ofNat len)), .val .null, .unset] [.int (Int32.ofNat len), .int (Int32.ofNat o), .ref b])) := c6.trans (by
    refine XS.ifNo X5.here hexec rfl (hb hbytes d30) rfl (i0_eq_f hz) ?_
    refine XS.aloadN X5.here hexec rfl (hb hbytes d33) rfl rfl ?_
    refine XS.iloadN X5.here hexec rfl (hb hbytes d34) rfl ?_
    refine XS.iloadN X5.here hexec rfl (hb hbytes d35) rfl ?_
    exact Steps.refl _)
  obtain ⟨v8, T8, X8, E8, g8⟩ := X5.callS hexec (Cmp3.law l b A o len) hown (wks W (staticW "java/lang/String" 177 Cmp3.yN)) (wk W Cmp3.tab) (W := 0) (Nat.le_of_ble_eq_true rfl) (Nat.le_of_ble_eq_true rfl) (Nat.le_refl _) (by show 0 + len ≤ len; omega) (g := (mkF m 36 #[.val (.ref a), .val (.ref b), .val (.int (Int32.ofNat o)), .val (.int (Int32.ofNat len)), .val .null, .unset] [.int (Int32.ofNat len), .int (Int32.ofNat o), .ref b])) rfl (by rw [hml]; rfl) c7 (argsL := [.ref b, .int (Int32.ofNat o), .int (Int32.ofNat len)]) (rest := []) rfl rfl (by show 2 * 0 + 0 ≤ _; decide) (hb hbytes d36) (⟨rfl, hA.mv X5.warmed.alike hh5, l1, l2, hp⟩)
  obtain ⟨e8, z8⟩ := E8
  obtain ⟨rfl, N, n1, n2, n3, n4, n5, n6⟩ := NewArr.mv _ T5 s _ _ hh5.symm (Vm.Alike.refl _) rfl e8
  rw [hh5] at z8
  have hB1 := hB.keep X8.warmed.alike (n6 _ _ hB.1)
  have hne : s.heap.size ≠ a := (Nat.ne_of_lt (Array.getElem?_eq_some_iff.mp hB.1).1).symm
  have c9 : Steps p.tables e below (s₁.setTop (entryFrame m #[.ref a, .ref b, .int (Int32.ofNat o), .int (Int32.ofNat len), .null] 6)) (T8.setTop (mkF m 39 #[.val (.ref a), .val (.ref b), .val (.int (Int32.ofNat o)), .val (.int (Int32.ofNat len)), .val .null, .unset] [.ref s.heap.size])) := g8
  have c10 : Steps p.tables e below (s₁.setTop (entryFrame m #[.ref a, .ref b, .int (Int32.ofNat o), .int (Int32.ofNat len), .null] 6)) (T8.setTop (mkF m 45 #[.val (.ref a), .val (.ref b), .val (.int (Int32.ofNat o)), .val (.int (Int32.ofNat len)), .val .null, .val (.ref s.heap.size)] [.int (Int32.ofNat N.slots.size), .ref s.heap.size, .ref a])) := by
    have hc : Steps p.tables e below (s₁.setTop (entryFrame m #[.ref a, .ref b, .int (Int32.ofNat o), .int (Int32.ofNat len), .null] 6)) (T8.setTop (mkF m 45 #[.val (.ref a), .val (.ref b), .val (.int (Int32.ofNat o)), .val (.int (Int32.ofNat len)), .val .null, .val (.ref s.heap.size)] [.int (Int32.ofNat len), .ref s.heap.size, .ref a])) := c9.trans (by
      refine XS.astore X8.here hexec rfl (hb hbytes d39) rfl rfl rfl ?_
      refine XS.aloadN X8.here hexec rfl (hb hbytes d41) rfl rfl ?_
      refine XS.aload X8.here hexec rfl (hb hbytes d42) rfl rfl ?_
      refine XS.iloadN X8.here hexec rfl (hb hbytes d44) rfl ?_
      exact Steps.refl _)
    rw [n4]; exact hc
  obtain ⟨v11, T11, X11, E11, g11⟩ := X8.callS hexec (CodL.law l s.heap.size N) hown (wks W (staticW "java/lang/String" 47 CodL.yN)) (wk W CodL.tab) (W := 1) (Nat.le_of_ble_eq_true rfl) (Nat.le_of_ble_eq_true rfl) (Nat.le_refl _) (by show 0 + len + 0 ≤ len; omega) (g := (mkF m 45 #[.val (.ref a), .val (.ref b), .val (.int (Int32.ofNat o)), .val (.int (Int32.ofNat len)), .val .null, .val (.ref s.heap.size)] [.int (Int32.ofNat N.slots.size), .ref s.heap.size, .ref a])) rfl (by rw [hml]; rfl) c10 (argsL := [.ref s.heap.size, .int (Int32.ofNat N.slots.size)]) (rest := [.ref a]) rfl rfl (by show 2 * 0 + (1 + 0) ≤ _; decide) (hb hbytes d45) (⟨rfl, n1⟩)
  obtain ⟨rfl, q11⟩ := E11
  have hB11 := hB1.mv (X8.warmed.alike.symm.trans X11.warmed.alike) q11
  have c12 : Steps p.tables e below (s₁.setTop (entryFrame m #[.ref a, .ref b, .int (Int32.ofNat o), .int (Int32.ofNat len), .null] 6)) (T11.setTop (mkF m 48 #[.val (.ref a), .val (.ref b), .val (.int (Int32.ofNat o)), .val (.int (Int32.ofNat len)), .val .null, .val (.ref s.heap.size)] [.int 0, .ref a])) := g11
  obtain ⟨T13, X13, p13, bl13, sl13, st13⟩ := X11.finit hexec hown (wk W (.fieldLink "java/lang/String" 15 "java/lang/String" "coder" "B")) (Or.inr ⟨_, (wk W (.laysFinal "java/lang/String" "java/lang/String" "coder" "B"))⟩) (Or.inl ⟨rfl, hnm⟩) f2 (Or.inl rfl) hB11 (t := .byte) (by decide +kernel) rfl (g := (mkF m 48 #[.val (.ref a), .val (.ref b), .val (.int (Int32.ofNat o)), .val (.int (Int32.ofNat len)), .val .null, .val (.ref s.heap.size)] [.int 0, .ref a])) rfl (rest := []) rfl (hb hbytes d48)
  have c14 : Steps p.tables e below (s₁.setTop (entryFrame m #[.ref a, .ref b, .int (Int32.ofNat o), .int (Int32.ofNat len), .null] 6)) (T13.setTop (mkF m 54 #[.val (.ref a), .val (.ref b), .val (.int (Int32.ofNat o)), .val (.int (Int32.ofNat len)), .val .null, .val (.ref s.heap.size)] [.ref s.heap.size, .ref a])) := (c12.trans (st13 _ (Steps.refl _))).trans (by
    refine XS.aloadN X13.here hexec rfl (hb hbytes d51) rfl rfl ?_
    refine XS.aload X13.here hexec rfl (hb hbytes d52) rfl rfl ?_
    exact Steps.refl _)
  obtain ⟨T15, X15, p15, bl15, sl15, st15⟩ := X13.finit hexec hown (wk W (.fieldLink "java/lang/String" 9 "java/lang/String" "value" "[B")) (Or.inr ⟨_, (wk W (.laysFinal "java/lang/String" "java/lang/String" "value" "[B"))⟩) (Or.inl ⟨rfl, hnm⟩) f1 (Or.inl rfl) bl13 (t := (.array .byte)) (by decide +kernel) rfl (g := (mkF m 54 #[.val (.ref a), .val (.ref b), .val (.int (Int32.ofNat o)), .val (.int (Int32.ofNat len)), .val .null, .val (.ref s.heap.size)] [.ref s.heap.size, .ref a])) rfl (rest := []) rfl (hb hbytes d54)
  have c16 : Steps p.tables e below (s₁.setTop (entryFrame m #[.ref a, .ref b, .int (Int32.ofNat o), .int (Int32.ofNat len), .null] 6)) (T15.setTop (mkF m 57 #[.val (.ref a), .val (.ref b), .val (.int (Int32.ofNat o)), .val (.int (Int32.ofNat len)), .val .null, .val (.ref s.heap.size)] [])) := c14.trans (st15 _ (Steps.refl _))
  have ap := apart (Or.inr ⟨_, (wk W (.laysFinal "java/lang/String" "java/lang/String" "value" "[B"))⟩) (Or.inr ⟨_, (wk W (.laysFinal "java/lang/String" "java/lang/String" "coder" "B"))⟩) f1 f2 (t₁ := .array .byte) (t₂ := .byte) (by decide +kernel) (by decide +kernel) (by decide)
  have al := X8.warmed.alike.symm.trans X15.warmed.alike
  have n7 : T11.heap[s.heap.size]? = some N := by rw [q11]; exact n1.1
  exact ⟨T15, none, _, _, _, X15, by simp, rfl, by omega, (fun _ => rfl), ⟨rfl, _, N, bl15, ((Same.refl D _).set _ (by simp)).set _ (by simp), sl15, (Cell.slots_setSlot_ne _ ap).trans sl13, n1.keep al (p15.other hne (p13.other hne n7)), n2, by rw [al.findClass]; exact n3, n4, n5, fun y c h1 h2 => p15.other h1 (p13.other h1 (by rw [q11]; exact n6 y c h2)), by rw [p15.2.2, p13.2.2, q11]; exact z8⟩, fun fs hl => c16.trans (X15.returnOut hexec hret (hb hbytes d57) hl)⟩
end New4
namespace New1
def yN : MethodName := ⟨"java/lang/String", "<init>", "([C)V"⟩
abbrev yB : ByteArray := jdk_42_method_3_code
theorem d0 : decode yB 0 = .ok (.aload_n 0, 1) := by decide +kernel
theorem d1 : decode yB 1 = .ok (.aload_n 1, 1) := by decide +kernel
theorem d2 : decode yB 2 = .ok (.iconst 0, 1) := by decide +kernel
theorem d3 : decode yB 3 = .ok (.aload_n 1, 1) := by decide +kernel
theorem d4 : decode yB 4 = .ok (.arraylength, 1) := by decide +kernel
theorem d5 : decode yB 5 = .ok (.aconst_null, 1) := by decide +kernel
theorem d6 : decode yB 6 = .ok (.invokespecial 27, 3) := by decide +kernel
theorem d9 : decode yB 9 = .ok (.return_, 1) := by decide +kernel
def site : List Cond := [New4.tab] ++ initW "java/lang/String" 27 New4.yN
def tab : Cond := tabOf yN yB 2 none site
def P (a : Addr) (D : Cell) (fV fC : Field) (b : Addr) (A : Cell) (z : Int32) (args : Array Value) (s : State) : Prop := args = #[.ref a, .ref b] ∧ Blank "java/lang/String" a D s ∧ Found "java/lang/String" "value" "[B" fV s ∧ Found "java/lang/String" "coder" "B" fC s ∧ Ch b A s ∧ StaticIs s "java/lang/String" "COMPACT_STRINGS" "Z" (.int z) ∧ ¬ z = 0 ∧ 0 < A.slots.size ∧ A.slots.size ≤ 536870912 ∧ ∀ i, i < A.slots.size → ¬ 255 < cv A i
def E (a : Addr) (D : Cell) (fV fC : Field) (A : Cell) (r : Option Value) (s u : State) : Prop := Got a D fV fC A 0 A.slots.size r s u
/-- new String(chars), not empty, no char above 255: a Latin-1 String of their low bytes -/
theorem law (l : Launch) (a : Addr) (D : Cell) (fV fC : Field) (b : Addr) (A : Cell) (z : Int32) : Law l yN 2 1 3 52 yB 2 none site (P a D fV fC b A z) (E a D fV fC A) [⟨a, fC.slot⟩, ⟨a, fV.slot⟩] 1 A.slots.size := by
  refine Law.of_walk (plainFor_of_name (by decide +kernel)) (by decide +kernel) (by decide +kernel) (by decide) (fun _ _ h => by rw [h.1]; rfl) (fun _ U U' hal hh h => ⟨h.1, h.2.1.mv hal hh, h.2.2.1.al hal, h.2.2.2.1.al hal, h.2.2.2.2.1.mv hal hh, h.2.2.2.2.2.1.there hal hh, h.2.2.2.2.2.2⟩) (fun r U U' V V' h1 hal h2 h => Got.mv r U U' V V' h1 hal h2 h) ?_
  intro p e s m args below meth c s₁ X0 hexec hbytes hml hret hlk hnm hown hh0 W hP
  obtain ⟨rfl, hB, f1, f2, hA, s1, hz, l0, l2, hp⟩ := hP
  have c1 : Steps p.tables e below (s₁.setTop (entryFrame m #[.ref a, .ref b] 2)) (s₁.setTop (mkF m 0 #[.val (.ref a), .val (.ref b)] [])) := entry rfl
  have c2 : Steps p.tables e below (s₁.setTop (entryFrame m #[.ref a, .ref b] 2)) (s₁.setTop (mkF m 6 #[.val (.ref a), .val (.ref b)] [.null, .int (Int32.ofNat A.slots.size), .int 0, .ref b, .ref a])) := c1.trans (by
    refine XS.aloadN X0.here hexec rfl (hb hbytes d0) rfl rfl ?_
    refine XS.aloadN X0.here hexec rfl (hb hbytes d1) rfl rfl ?_
    refine iconstV X0.here hexec rfl 0 (hb hbytes d2) (by decide) ?_
    refine XS.aloadN X0.here hexec rfl (hb hbytes d3) rfl rfl ?_
    refine X0.alen hexec (hA.1.mv X0.warmed.alike hh0) rfl rfl (hb hbytes d4) ?_
    refine XS.aconstNull X0.here hexec rfl (hb hbytes d5) ?_
    exact Steps.refl _)
  obtain ⟨v3, T3, X3, E3, g3⟩ := X0.callN hexec (New4.law l a D fV fC b A z 0 A.slots.size) rfl hown (wks W (initW "java/lang/String" 27 New4.yN)) (W New4.tab (by simp only [site, List.mem_cons, List.mem_append, true_or, or_true])) (W := 0) (Nat.le_of_ble_eq_true rfl) (Nat.le_of_ble_eq_true rfl) (Nat.le_refl _) (by show 0 + A.slots.size ≤ A.slots.size; omega) (g := (mkF m 6 #[.val (.ref a), .val (.ref b)] [.null, .int (Int32.ofNat A.slots.size), .int (Int32.ofNat 0), .ref b, .ref a])) rfl (by rw [hml]; rfl) c2 (argsL := [.ref b, .int (Int32.ofNat 0), .int (Int32.ofNat A.slots.size), .null]) (rest := []) rfl rfl (by show 2 * 0 + 0 ≤ _; decide) (hb hbytes d6) (⟨rfl, hB.mv X0.warmed.alike hh0, f1.al X0.warmed.alike, f2.al X0.warmed.alike, hA.mv X0.warmed.alike hh0, s1.there X0.warmed.alike hh0, hz, l0, by omega, l2, fun i hi => by rw [Nat.zero_add]; exact hp i hi⟩)
  have e0 := Got.mv _ s₁ s _ _ hh0.symm (Vm.Alike.refl _) rfl E3
  obtain rfl := e0.1
  have c4 : Steps p.tables e below (s₁.setTop (entryFrame m #[.ref a, .ref b] 2)) (T3.setTop (mkF m 9 #[.val (.ref a), .val (.ref b)] [])) := g3
  exact ⟨T3, none, _, _, _, X3, by simp, rfl, by omega, (fun _ => rfl), e0, fun fs hl => c4.trans (X3.returnOut hexec hret (hb hbytes d9) hl)⟩
theorem pays {l : Launch} {R : Room} {p : Program} {e : Env} {below : List Frame} {s : State} {sargs : Array Value} {len W : Nat} (a : Addr) (D : Cell) (fV fC : Field) (b : Addr) (A : Cell) (z : Int32) (htab : tab.before sargs s = true) (hfr : 4 ≤ R.frames) (hlo : W + 65 ≤ R.locals) :
    Back l R p e below s sargs yN len W (fun A₁ a₁ => A₁.cells + 1 ≤ R.cells ∧ A₁.slots + A.slots.size ≤ R.slots ∧ P a D fV fC b A z a₁ A₁.U) (fun A₁ _ v₁ B₁ => E a D fV fC A v₁ A₁.U B₁.U ∧ B₁.locs = A₁.locs ++ [⟨a, fC.slot⟩, ⟨a, fV.slot⟩] ∧ B₁.cells = A₁.cells + 1 ∧ B₁.slots = A₁.slots + A.slots.size) :=
  (law l a D fV fC b A z).pays htab hfr (by omega)
end New1
end StrChars
namespace StrChars.Road
open Jvm Sem ClassFile Op Lib Jvm.Stand Jvm.Free Jvm.Free.XT
open Jvm.Lib.Cold (StaticIs)
abbrev ST : String := "java/lang/String"
/-- every table word that New1's law asks, flat -/
abbrev words : List Jvm.Cond := [.code New1.yN New1.yB 2 none, .initialized ST, .methodLink ST 27 New4.yN, .instanceMethod New4.yN,
  .code New4.yN New4.yB 6 none, .fieldLink ST 38 ST "COMPACT_STRINGS" "Z", .laysFinal ST ST "value" "[B", .fieldLink ST 9 ST "value" "[B", .laysFinal ST ST "coder" "B", .fieldLink ST 15 ST "coder" "B",
  .methodLink ST 1 Lib.objectInit, .instanceMethod Lib.objectInit, .code Lib.objectInit ⟨#[0xb1]⟩ 1 none, .methodLink ST 177 Cmp3.yN, .static Cmp3.yN, .methodLink ST 47 CodL.yN, .static CodL.yN,
  .code Cmp3.yN Cmp3.yB 6 (some (.array .byte)), .initialized U16, .arrayClass .byte, .methodLink U16 115 Cmp5.yN, .static Cmp5.yN, .code Cmp5.yN Cmp5.yB 7 (some .int), .code CodL.yN CodL.yB 2 (some .byte)]
theorem tab_of {a : Array Value} {s : State} (h : ∀ w ∈ words, w.before a s = true) : New1.tab.before a s = true := by
  have h5 : Cmp5.tab.before a s = true := unparts (wk h (.code Cmp5.yN Cmp5.yB 7 (some .int))) (wks h (.initialized Cmp5.yN.cls :: Cmp5.site))
  have hc : CodL.tab.before a s = true := unparts (wk h (.code CodL.yN CodL.yB 2 (some .byte))) (wks h (.initialized CodL.yN.cls :: CodL.site))
  have q5 : ∀ w ∈ Cmp5.tab :: words, w.before a s = true := fun w hw => (List.mem_cons.mp hw).elim (fun e => e ▸ h5) (h w)
  have h3 : Cmp3.tab.before a s = true := unparts (wk q5 (.code Cmp3.yN Cmp3.yB 6 (some (.array .byte)))) (wks q5 (.initialized Cmp3.yN.cls :: Cmp3.site))
  have q3 : ∀ w ∈ Cmp3.tab :: CodL.tab :: words, w.before a s = true := fun w hw => (List.mem_cons.mp hw).elim (fun e => e ▸ h3) fun hw => (List.mem_cons.mp hw).elim (fun e => e ▸ hc) (h w)
  have h4 : New4.tab.before a s = true := unparts (wk q3 (.code New4.yN New4.yB 6 none)) (wks q3 (.initialized New4.yN.cls :: New4.site))
  have q4 : ∀ w ∈ New4.tab :: words, w.before a s = true := fun w hw => (List.mem_cons.mp hw).elim (fun e => e ▸ h4) (h w)
  exact unparts (wk q4 (.code New1.yN New1.yB 2 none)) (wks q4 (.initialized New1.yN.cls :: New1.site))
/-- the words ride from the start Z to the walk's own state -/
theorem moved {Z s : State} {a0 args : Array Value} (hZ : Z.Warmed39 s.vm) (hw : ∀ d ∈ words, d.before a0 Z = true) : ∀ d ∈ words, d.before args s = true := fun d hd => by
  have q := hw d hd
  have t : ∀ d ∈ words, d = .arrayClass .byte ∨ (d.onTables && d.keepsFace) = true := by decide +kernel
  rcases t d hd with rfl | t
  · exact RoadKit.mvA hZ q
  · exact RoadKit.mv hZ q t
/-- WHAT COMES BACK, over the tables of the start Z: h the heap at the call, h' behind it -/
def Q (Z : State) (x : Addr) (A : Cell) (h : Heap) (v : Option Value) (h' : Heap) (L : List Loc) : Prop := v = none ∧ (∀ y ∈ L, y.base = x) ∧ RoadKit.Keep h h' [x] ∧ h'.size = h.size + 1 ∧ RoadKit.Exa Z h' x ST ∧ RoadKit.Fld Z h' x ST "value" "[B" (.ref h.size) ∧ RoadKit.Fld Z h' x ST "coder" "B" (.int 0) ∧
  (∃ V : Cell, RoadKit.Arr Z h' h.size V .byte ∧ V.vm = .none ∧ Z.vm.findClass "[B" = some V.cls ∧ V.slots.size = A.slots.size ∧ ∀ j, j < A.slots.size → V.slots[j]? = some (.int (lo8 (cv A j)))) ∧
  ∀ (O n d : String) (w : Value), RoadKit.Fld Z h x O n d w → RoadKit.slotOf Z O n d ≠ RoadKit.slotOf Z ST "value" "[B" → RoadKit.slotOf Z O n d ≠ RoadKit.slotOf Z ST "coder" "B" → RoadKit.Fld Z h' x O n d w
/-- **new String(chars) AT A CALL, IN THE ROAD'S FORM**: for specialBack behind newO: x the fresh String, b the char[] with the cell A -/
theorem back {p : Program} {l : Launch} {e : Env} {R : Room} {s : State} {args : Array Value} {below : List Frame} {len W : Nat} {Z : State} {a0 : Array Value} {h : Heap} (hZ : Z.Warmed39 s.vm) (hw : ∀ d ∈ words, d.before a0 Z = true) {kI : Nat} (wi : (Jvm.Cond.instantiable ST kI).before a0 Z = true)
    {x b : Addr} {A : Cell} {z : Int32} {v0 c0 : Value} (E : RoadKit.Exa Z h x ST) (V : RoadKit.Fld Z h x ST "value" "[B" v0) (C : RoadKit.Fld Z h x ST "coder" "B" c0) (K : RoadKit.Arr Z h b A .char) (hty : Typed .char A) (S : RoadKit.Sta Z h ST "COMPACT_STRINGS" "Z" (.int z)) (hz : ¬ z = 0)
    (l0 : 0 < A.slots.size) (l2 : A.slots.size ≤ 536870912) (hp : ∀ i, i < A.slots.size → ¬ 255 < cv A i) (hfr : 4 ≤ R.frames) (hlo : W + 65 ≤ R.locals) :
    Back l R p e below s args New1.yN len W (fun P a => a = #[.ref x, .ref b] ∧ P.U.heap = h ∧ P.cells + 1 ≤ R.cells ∧ P.slots + A.slots.size ≤ R.slots)
      (fun P _ v B => ∃ L, Q Z x A h v B.U.heap L ∧ B.locs = P.locs ++ L ∧ B.cells = P.cells + 1 ∧ B.slots = P.slots + A.slots.size) := by
  intro m meth c P g ig mk a X hg hsize hdg hW hn hp'
  obtain ⟨rfl, rfl, r1, r2⟩ := hp'
  have al : Z.vm.Alike P.U.vm := hZ.alike.trans X.warmed.alike
  obtain ⟨D, cfV, kV, iV, fV, hD, gV, stV, knV, obV, asV, slV⟩ := id V
  obtain ⟨D', cfC, kC, iC, fC, hD', gC, stC, -, -, asC, slC⟩ := id C
  cases hD.symm.trans hD'
  obtain ⟨D2, kD, e1, e2, e3, e4, e5⟩ := id E
  cases hD.symm.trans e1
  obtain ⟨c2, k2, i1, i2, i3, -⟩ := Cond.instantiable_spec wi
  cases e2.symm.trans i1
  cases e3.symm.trans i2
  obtain ⟨kU, u1, u2⟩ := al.2.2 _ _ e3
  have hB : Blank ST x D P.U := ⟨hD, ⟨knV, fun q hq => by rw [hq] at obV; cases obV⟩, by rw [al.findClass]; exact e2, kU, u1, by rw [u2]; exact i3, by rw [u2]; exact e5 i3⟩
  have F1 : Found ST "value" "[B" fV P.U := ⟨SBG.found_only al ⟨cfV, kV, iV, gV⟩, stV⟩
  have F2 : Found ST "coder" "B" fC P.U := ⟨SBG.found_only al ⟨cfC, kC, iC, gC⟩, stC⟩
  have hA : Ch b A P.U := ⟨⟨K.1, State.isArrayOf_alike al K.2.1, K.2.2, by omega⟩, hty⟩
  have hS : StaticIs P.U ST "COMPACT_STRINGS" "Z" (.int z) := by
    obtain ⟨cfS, iS, kS, fS, st, cS, t1, t2, t3, t4, t5, t6, t7⟩ := S
    exact StaticIs.there (s := { Z with heap := P.U.heap }) ⟨cfS, iS, kS, fS, st, cS, t1, t2, t3, t4, t5, (fun q => by rw [q] at t6; cases t6), t7⟩ al rfl
  obtain ⟨v, B, X', ⟨⟨hv, E', V', q1, q2, q3, q4, q5, q6, q7, q8, q9, q10, q11⟩, hl, hc, hs⟩, st⟩ := New1.pays x D fV fC b A z (tab_of (moved hZ hw)) hfr hlo m meth c P g ig mk _ X hg hsize hdg hW hn ⟨r1, r2, rfl, hB, F1, F2, hA, hS, hz, l0, l2, hp⟩
  have al' : Z.vm.Alike B.U.vm := hZ.alike.trans X'.warmed.alike
  have hsz : E'.slots.size = D.slots.size := by
    obtain ⟨-, -, -, kB, w1, w2, w3⟩ := q1
    obtain ⟨kB', y1, y2⟩ := al'.2.2 _ _ e3
    rw [q2.2.1] at w1
    cases w1.symm.trans y1
    rw [w3, e5 i3, y2]
  refine ⟨v, B, X', ⟨_, ⟨hv, ?_, ⟨by omega, fun y cy hy hn' => q10 y cy (by simpa using hn') hy, fun y cy hy => ?_⟩, q11, ⟨E', _, q1.1, by rw [q2.2.1]; exact e2, by rw [q2.2.1]; exact e3, by rw [q2.1]; exact obV, fun _ => by rw [hsz]; exact e5 i3⟩,
    ⟨E', cfV, kV, iV, fV, q1.1, gV, stV, by rw [q2.1]; exact knV, by rw [q2.1]; exact obV, by rw [q2.2.1]; exact asV, q3⟩, ⟨E', cfC, kC, iC, fC, q1.1, gC, stC, by rw [q2.1]; exact knV, by rw [q2.1]; exact obV, by rw [q2.2.1]; exact asC, q4⟩,
    ⟨V', ⟨q5.1, State.isArrayOf_alike al'.symm q5.2.1, q5.2.2.1⟩, q6, by rw [← al'.findClass]; exact q7, q8, fun j hj => by have := q9 j hj; rwa [Nat.zero_add] at this⟩, fun O n d w F n1 n2 => ?_⟩, hl, hc, hs⟩, st⟩
  · intro y hy
    simp only [List.mem_cons, List.not_mem_nil, or_false] at hy
    rcases hy with rfl | rfl <;> rfl
  · by_cases q : y = x
    · subst q
      cases hD.symm.trans hy
      exact ⟨E', q1.1, q2.2.1, q2.1, hsz⟩
    · exact ⟨cy, q10 y cy q hy, rfl, rfl, rfl⟩
  · obtain ⟨D3, cf, k, i, f, g1, g2, g3, g4, g5, g6, g7⟩ := F
    cases hD.symm.trans g1
    simp only [RoadKit.slotOf, g2, gV, gC, Option.map_some, Option.getD_some] at n1 n2
    exact ⟨E', cf, k, i, f, q1.1, g2, g3, by rw [q2.1]; exact g4, by rw [q2.1]; exact g5, by rw [q2.2.1]; exact g6, by rw [q2.2.2 f.slot (by simp [n1, n2])]; exact g7⟩
end StrChars.Road
namespace StrChars.Road
open Jvm Sem ClassFile Op Lib Jvm.Stand Jvm.Free Jvm.Free.XT
/-- WHAT COMES BACK, the byte[] as a list of values -/
def QA (Z : State) (x : Addr) (zn : Int32) (cs : List Int32) (h : Heap) (v : Option Value) (h' : Heap) (L : List Loc) : Prop := v = none ∧ (∀ y ∈ L, y.base = x) ∧ RoadKit.Keep h h' [x] ∧ h'.size = h.size + 1 ∧ RoadKit.Exa Z h' x ST ∧ RoadKit.Fld Z h' x ST "value" "[B" (.ref h.size) ∧ RoadKit.Fld Z h' x ST "coder" "B" (.int 0) ∧
  (∃ kb, Z.vm.findClass "[B" = some kb ∧ RoadKit.Arv Z h' h.size kb .byte zn (cs.map fun c => .int (lo8 c)) (.int 0)) ∧
  ∀ (O n d : String) (w : Value), RoadKit.Fld Z h x O n d w → RoadKit.slotOf Z O n d ≠ RoadKit.slotOf Z ST "value" "[B" → RoadKit.slotOf Z O n d ≠ RoadKit.slotOf Z ST "coder" "B" → RoadKit.Fld Z h' x O n d w
/-- **new String(chars) AT A CALL, THE ARRAYS AS LISTS**: the char[] at b holds cs, not empty, no char above 255 -/
theorem backArv {p : Program} {l : Launch} {e : Env} {R : Room} {s : State} {args : Array Value} {below : List Frame} {len W : Nat} {Z : State} {a0 : Array Value} {h : Heap} (hZ : Z.Warmed39 s.vm) (hw : ∀ d ∈ words, d.before a0 Z = true) {kI : Nat} (wi : (Jvm.Cond.instantiable ST kI).before a0 Z = true)
    {x b : Addr} {k : ClassId} {zn z : Int32} {cs : List Int32} {dv v0 c0 : Value} (E : RoadKit.Exa Z h x ST) (V : RoadKit.Fld Z h x ST "value" "[B" v0) (C : RoadKit.Fld Z h x ST "coder" "B" c0) (K : RoadKit.Arv Z h b k .char zn (cs.map Value.int) dv) (S : RoadKit.Sta Z h ST "COMPACT_STRINGS" "Z" (.int z)) (hz : ¬ z = 0)
    (hlen : zn.toNatClampNeg = cs.length) (h0 : 0 < cs.length) (hbig : cs.length ≤ 536870912) (hall : ∀ c ∈ cs, ¬ 255 < c) (hfr : 4 ≤ R.frames) (hlo : W + 65 ≤ R.locals) :
    Back l R p e below s args New1.yN len W (fun P a => a = #[.ref x, .ref b] ∧ P.U.heap = h ∧ P.cells + 1 ≤ R.cells ∧ P.slots + cs.length ≤ R.slots)
      (fun P _ v B => ∃ L, QA Z x zn cs h v B.U.heap L ∧ B.locs = P.locs ++ L ∧ B.cells = P.cells + 1 ∧ B.slots = P.slots + cs.length) := by
  obtain ⟨A, K1, K2, K3, K4, K5, K6⟩ := K
  have e : A.slots.size = cs.length := K3.trans hlen
  have hat : ∀ (i : Nat) (hi : i < cs.length), A.slots[i]? = some (.int cs[i]) := fun i hi => by rw [K5 i (by omega)]; simp [List.getD_eq_getElem?_getD, hi]
  have hcv : ∀ (i : Nat) (hi : i < cs.length), cv A i = cs[i] := fun i hi => by unfold cv; rw [hat i hi]
  have hty : Typed .char A := fun i v hv => by
    have hi : i < A.slots.size := (Array.getElem?_eq_some_iff.mp hv).1
    have q := K5 i hi
    rw [hv] at q
    rw [Option.some.inj q]
    exact K6 i hi
  refine Back.mono (back hZ hw wi E V C K1 hty S hz (by omega) (by omega) (fun i hi => by rw [hcv i (by omega)]; exact hall _ (List.getElem_mem _)) hfr hlo) (fun P a hp => ⟨hp.1, hp.2.1, hp.2.2.1, by rw [e]; exact hp.2.2.2⟩) (fun P a v B hp hq => ?_)
  obtain ⟨L, ⟨q1, q2, q3, q4, q5, q6, q7, ⟨V', v1, v2, v3, v4, v5⟩, q9⟩, hl, hc, hs⟩ := hq
  refine ⟨L, ⟨q1, q2, q3, q4, q5, q6, q7, ⟨V'.cls, v3, V', v1, rfl, by rw [v4, e, hlen], K4, fun i hi => ?_, fun i hi => ?_⟩, q9⟩, hl, hc, by rw [hs, e]⟩
  · have hi' : i < cs.length := by omega
    rw [v5 i (by omega), hcv i hi']; simp [List.getD_eq_getElem?_getD, hi']
  · have hi' : i < cs.length := by omega
    simp only [List.getD_eq_getElem?_getD, List.getElem?_map, List.getElem?_eq_getElem hi', Option.map_some, Option.getD_some]
    exact fits_lo8 _
end StrChars.Road
namespace StrChars.Road
open Jvm Sem ClassFile Op Lib Jvm.Stand Jvm.Free Jvm.Free.XT
/-- WHAT COMES BACK, in the writer's own shape -/
def QV (Z : State) (x : Addr) (N : Int32) (bs : List Int32) (h : Heap) (n0 : Nat) (v : Option Value) (h' : Heap) (L : List Loc) : Prop := v = none ∧ RoadKit.Fr n0 L ∧ RoadKit.Keep h h' [x] ∧ RoadKit.Exa Z h' x ST ∧ RoadKit.Fld Z h' x ST "coder" "B" (.int 0) ∧
  ∃ (t : Addr) (kb : ClassId), n0 ≤ t ∧ h.size ≤ t ∧ ¬ t = x ∧ RoadKit.Fld Z h' x ST "value" "[B" (.ref t) ∧ RoadKit.Arv Z h' t kb .byte N (bs.map Value.int) (.int 0)
/-- **new String(chars) AT A CALL, FOR THE WRITER**: a char[] of n known ints, each 0 to 255 -/
theorem backV {p : Program} {l : Launch} {e : Env} {R : Room} {s : State} {args : Array Value} {below : List Frame} {len W : Nat} {Z : State} {a0 : Array Value} {h : Heap} (hZ : Z.Warmed39 s.vm) (hw : ∀ d ∈ words, d.before a0 Z = true) {kI : Nat} (wi : (Jvm.Cond.instantiable ST kI).before a0 Z = true)
    {x b : Addr} {kC : ClassId} {cs bs : List Int32} {d v0 c0 : Value} {z N : Int32} {n n0 : Nat} (hx0 : n0 ≤ x) (hh0 : n0 ≤ h.size) (E : RoadKit.Exa Z h x ST) (V : RoadKit.Fld Z h x ST "value" "[B" v0) (C : RoadKit.Fld Z h x ST "coder" "B" c0) (K : RoadKit.Arv Z h b kC .char N (cs.map Value.int) d) (S : RoadKit.Sta Z h ST "COMPACT_STRINGS" "Z" (.int z)) (hz : ¬ z = 0)
    (hn : cs.length = n) (hN : N = Int32.ofNat n) (l0 : 0 < n) (l2 : n ≤ 4000) (hp : ∀ c ∈ cs, ¬ c < 0 ∧ ¬ (255 : Int32) < c) (hb : bs = cs.map (fun c => c.toInt8.toInt32)) (hfr : 4 ≤ R.frames) (hlo : W + 65 ≤ R.locals) :
    Back l R p e below s args (⟨"java/lang/String", "<init>", "([C)V"⟩ : MethodName) len W (fun P a => a = #[.ref x, .ref b] ∧ P.U.heap = h ∧ P.cells + 1 ≤ R.cells ∧ P.slots + n ≤ R.slots)
      (fun P _ v B => ∃ L, QV Z x N bs h n0 v B.U.heap L ∧ B.locs = P.locs ++ L ∧ B.cells = P.cells + 1 ∧ B.slots = P.slots + n) := by
  subst hn hN hb
  refine Back.mono (backArv hZ hw wi E V C K S hz (n32 (by omega)) l0 (by omega) (fun c hc => (hp c hc).2) hfr hlo) (fun P a hp => hp) (fun P a v B hp hq => ?_)
  obtain ⟨L, ⟨q1, q2, q3, q4, q5, q6, q7, ⟨kb, v1, v2⟩, q9⟩, hl, hc, hs⟩ := hq
  exact ⟨L, ⟨q1, fun y hy => by rw [q2 y hy]; exact hx0, q3, q5, q7, h.size, kb, hh0, Nat.le_refl _, Nat.ne_of_gt E.lt, q6, by rw [List.map_map]; exact v2⟩, hl, hc, hs⟩
end StrChars.Road
end Jvm.Pilot.@@N@@

namespace Jvm.Pilot.@@N@@
open Jvm Jvm.ClassFile Sem Op Lib Jvm.Free Jvm.Stand Jvm.LawKit Jvm.RoadKit Bundle Jvm.Pilot.@@N@@.Jvm.D
section Own
variable {p : Program} {l : Launch} {e : Env} {R : Room} {s : State} {m : MethodId} {args : Array Value} {below : List Frame} {meth : Method} {c : Code} {own nm : String} {bytes : ByteArray} {ml : Nat} {ret : Option FieldType} {T : State} {locs : List Loc} {cells slots : Nat} {Z : State} {a0 : Array Value} {h : Heap} {n0 : Nat} {K : State → Outcome → Prop} {pc pc' pt : Nat} {L L' : Array Slot} {S : List Value}
/-- what is left of a run, from a state on -/
def Go (p : Program) (e : Env) (below : List Frame) (K : State → Outcome → Prop) (U : State) : Prop := ∃ s₂ o, Steps p.tables e below U s₂ ∧ s₂.status = .running ∧ Ended s₂ below o ∧ K s₂ o
theorem Go.of {U U' : State} (g : Go p e below K U') (st : ∀ t, Steps p.tables e below U' t → Steps p.tables e below U t) : Go p e below K U := by
  obtain ⟨s₂, o, h1, h2⟩ := g; exact ⟨s₂, o, st _ h1, h2⟩
/-- where a walk stands -/
def St (Z : State) (n0 : Nat) (p : Program) (l : Launch) (e : Env) (R : Room) (s : State) (m : MethodId) (args : Array Value) (below : List Frame) (meth : Method) (c : Code) (own nm : String) (bytes : ByteArray) (ml : Nat) (ret : Option FieldType) (T : State) (locs : List Loc) (cells slots : Nat) (h : Heap) : Prop :=
  Stand p l e R s m args below meth c T locs cells slots ∧ (p.tables.exec = Jvm.exec ∧ c.code = bytes ∧ c.maxLocals = ml ∧ s.vm.findClass own = some m.cls ∧ Z.Warmed39 s.vm ∧ meth.sig.returnType = ret ∧ meth.locks = false ∧ meth.name = nm) ∧ T.heap = h ∧ Fr n0 locs ∧ Old Z n0 h
theorem St.X (X : St Z n0 p l e R s m args below meth c own nm bytes ml ret T locs cells slots h) : Stand p l e R s m args below meth c T locs cells slots := X.1
theorem St.hx (X : St Z n0 p l e R s m args below meth c own nm bytes ml ret T locs cells slots h) : p.tables.exec = Jvm.exec := X.2.1.1
theorem St.by_ (X : St Z n0 p l e R s m args below meth c own nm bytes ml ret T locs cells slots h) : c.code = bytes := X.2.1.2.1
theorem St.ml_ (X : St Z n0 p l e R s m args below meth c own nm bytes ml ret T locs cells slots h) : c.maxLocals = ml := X.2.1.2.2.1
theorem St.own_ (X : St Z n0 p l e R s m args below meth c own nm bytes ml ret T locs cells slots h) : s.vm.findClass own = some m.cls := X.2.1.2.2.2.1
theorem St.hZ (X : St Z n0 p l e R s m args below meth c own nm bytes ml ret T locs cells slots h) : Z.Warmed39 s.vm := X.2.1.2.2.2.2.1
theorem St.ret_ (X : St Z n0 p l e R s m args below meth c own nm bytes ml ret T locs cells slots h) : meth.sig.returnType = ret := X.2.1.2.2.2.2.2.1
theorem St.lk (X : St Z n0 p l e R s m args below meth c own nm bytes ml ret T locs cells slots h) : meth.locks = false := X.2.1.2.2.2.2.2.2.1
theorem St.nm_ (X : St Z n0 p l e R s m args below meth c own nm bytes ml ret T locs cells slots h) : meth.name = nm := X.2.1.2.2.2.2.2.2.2
theorem St.eT (X : St Z n0 p l e R s m args below meth c own nm bytes ml ret T locs cells slots h) : T.heap = h := X.2.2.1
theorem St.fr (X : St Z n0 p l e R s m args below meth c own nm bytes ml ret T locs cells slots h) : Fr n0 locs := X.2.2.2.1
theorem St.old (X : St Z n0 p l e R s m args below meth c own nm bytes ml ret T locs cells slots h) : Old Z n0 h := X.2.2.2.2
theorem St.sz (X : St Z n0 p l e R s m args below meth c own nm bytes ml ret T locs cells slots h) : n0 ≤ h.size := X.2.2.2.2.1 ▸ X.2.2.2.2.2.1
theorem St.to (X : St Z n0 p l e R s m args below meth c own nm bytes ml ret T locs cells slots h) {T' : State} {locs' : List Loc} {cells' slots' : Nat} {h' : Heap} (Y : Stand p l e R s m args below meth c T' locs' cells' slots') (e' : T'.heap = h') (N : Fr n0 locs') (z : Old Z n0 h') : St Z n0 p l e R s m args below meth c own nm bytes ml ret T' locs' cells' slots' h' := ⟨Y, X.2.1, e', N, z⟩
theorem St.more (X : St Z n0 p l e R s m args below meth c own nm bytes ml ret T locs cells slots h) {c' n' : Nat} (q1 : cells ≤ c') (q2 : slots ≤ n') : St Z n0 p l e R s m args below meth c own nm bytes ml ret T locs c' n' h := ⟨X.X.mono q1 q2, X.2⟩
theorem St.d (X : St Z n0 p l e R s m args below meth c own nm bytes ml ret T locs cells slots h) {r : Except DecodeError (Instr × Nat)} (hd : decode bytes pc = r) : decode c.code pc = r := hb X.by_ hd
/-- a body's contract -/
def Con (l : Launch) (Z : State) (y : MethodName) (bytes : ByteArray) (ml : Nat) (ret : Option FieldType) (ws : List Jvm.Cond) (rm : Room) (C N : Nat) (as' : Array Value) (h : Heap) (Q : Option Value → Heap → List Loc → Prop) : Prop :=
  MetFree l y (head1 (Jvm.Cond.code y bytes ml ret :: ws) rm) (fun a U => a = as' ∧ Z.Warmed39 U.vm ∧ U.heap = h) (fun _ _ _ _ _ => True) (fun _ U o U' => ∃ v L, o = .returned v ∧ Q v U'.heap L ∧ FrameEnd U o U' L C N)
def Kq (s : State) (C N : Nat) (Q : Option Value → Heap → List Loc → Prop) (t : State) (o : Outcome) : Prop := ∃ v L, o = .returned v ∧ Q v t.heap L ∧ FrameEnd s o t L C N
theorem Con.intro {y : MethodName} {ws : List Jvm.Cond} {rm : Room} {C N : Nat} {as' : Array Value} {Q : Option Value → Heap → List Loc → Prop} (hy : plainFor y = true) (ef : ∀ m, entryFrame m as' ml = mkF m 0 L []) (hz : Old Z n0 h)
    (body : ∀ p e s m below meth c T, s.heap = h → St Z n0 p l e rm s m as' below meth c y.cls y.name bytes ml ret T [] 0 0 h → Go p e below (Kq s C N Q) (T.setTop (mkF m 0 L []))) : Con l Z y bytes ml ret ws rm C N as' h Q := by
  refine MetFree.of_bodySF hy hisR ?_
  intro p e s m args below meth c s₁ Bd hml0 hP hK
  obtain ⟨rfl, hZ, hh⟩ := hP
  have e0 : s₁.heap = h := by rw [← hh, Bd.state]; rfl
  obtain ⟨s₂, o, h1, h2, h3, h4⟩ := body p e s m below meth c s₁ hh ⟨Stand.of_body Bd, ⟨Bd.exec, Bd.bytes, hml0, findClass_of_methodNamed Bd.named, hZ, Bd.returns, Bd.notSynchronized, (name_of_methodNamed Bd.named Bd.method).1⟩, e0, Fr.nil n0, hz⟩
  exact ⟨s₂, o, castTop (ef m) h1, h2, h3, h4⟩
theorem go_eq {f g : JFrame} (q : f = g) (k : Go p e below K (T.setTop g)) : Go p e below K (T.setTop f) := q ▸ k
theorem g_iloadN (X : St Z n0 p l e R s m args below meth c own nm bytes ml ret T locs cells slots h) {k : Fin 4} {v : Int32} (hd : decode bytes pc = .ok (.iload_n k, 1)) (hp : pc + 1 = pc') (hl : L[k.val]? = some (.val (.int v))) (k : Go p e below K (T.setTop (mkF m pc' L (.int v :: S)))) : Go p e below K (T.setTop (mkF m pc L S)) := by
  subst hp; exact k.of (fun _ q => XS.iloadN X.X.here X.hx rfl (X.d hd) hl q)
theorem g_iload (X : St Z n0 p l e R s m args below meth c own nm bytes ml ret T locs cells slots h) {k : Nat} {v : Int32} (hd : decode bytes pc = .ok (.iload k, 2)) (hp : pc + 2 = pc') (hl : L[k]? = some (.val (.int v))) (k : Go p e below K (T.setTop (mkF m pc' L (.int v :: S)))) : Go p e below K (T.setTop (mkF m pc L S)) := by
  subst hp; exact k.of (fun _ q => XS.iload X.X.here X.hx rfl (X.d hd) hl q)
theorem g_lloadN (X : St Z n0 p l e R s m args below meth c own nm bytes ml ret T locs cells slots h) {k : Fin 4} {v : Int64} (hd : decode bytes pc = .ok (.lload_n k, 1)) (hp : pc + 1 = pc') (hl : L[k.val]? = some (.val (.long v))) (k : Go p e below K (T.setTop (mkF m pc' L (.long v :: S)))) : Go p e below K (T.setTop (mkF m pc L S)) := by
  subst hp; exact k.of (fun _ q => XS.lloadN X.X.here X.hx rfl (X.d hd) hl q)
theorem g_lload (X : St Z n0 p l e R s m args below meth c own nm bytes ml ret T locs cells slots h) {k : Nat} {v : Int64} (hd : decode bytes pc = .ok (.lload k, 2)) (hp : pc + 2 = pc') (hl : L[k]? = some (.val (.long v))) (k : Go p e below K (T.setTop (mkF m pc' L (.long v :: S)))) : Go p e below K (T.setTop (mkF m pc L S)) := by
  subst hp; exact k.of (fun _ q => XS.lload X.X.here X.hx rfl (X.d hd) hl q)
theorem g_aloadN (X : St Z n0 p l e R s m args below meth c own nm bytes ml ret T locs cells slots h) {k : Fin 4} {v : Value} (hd : decode bytes pc = .ok (.aload_n k, 1)) (hp : pc + 1 = pc') (hl : L[k.val]? = some (.val v)) (hv : v.isRef = true) (k : Go p e below K (T.setTop (mkF m pc' L (v :: S)))) : Go p e below K (T.setTop (mkF m pc L S)) := by
  subst hp; exact k.of (fun _ q => XS.aloadN X.X.here X.hx rfl (X.d hd) hl hv q)
theorem g_aload (X : St Z n0 p l e R s m args below meth c own nm bytes ml ret T locs cells slots h) {k : Nat} {v : Value} (hd : decode bytes pc = .ok (.aload k, 2)) (hp : pc + 2 = pc') (hl : L[k]? = some (.val v)) (hv : v.isRef = true) (k : Go p e below K (T.setTop (mkF m pc' L (v :: S)))) : Go p e below K (T.setTop (mkF m pc L S)) := by
  subst hp; exact k.of (fun _ q => XS.aload X.X.here X.hx rfl (X.d hd) hl hv q)
theorem g_istoreN (X : St Z n0 p l e R s m args below meth c own nm bytes ml ret T locs cells slots h) {k : Fin 4} {v : Int32} (hd : decode bytes pc = .ok (.istore_n k, 1)) (hp : pc + 1 = pc') (hl : storeLocals L k.val (.int v) = some L') (k : Go p e below K (T.setTop (mkF m pc' L' S))) : Go p e below K (T.setTop (mkF m pc L (.int v :: S))) := by
  subst hp; exact k.of (fun _ q => XS.istoreN X.X.here X.hx rfl (X.d hd) rfl hl q)
theorem g_istore (X : St Z n0 p l e R s m args below meth c own nm bytes ml ret T locs cells slots h) {k : Nat} {v : Int32} (hd : decode bytes pc = .ok (.istore k, 2)) (hp : pc + 2 = pc') (hl : storeLocals L k (.int v) = some L') (k : Go p e below K (T.setTop (mkF m pc' L' S))) : Go p e below K (T.setTop (mkF m pc L (.int v :: S))) := by
  subst hp; exact k.of (fun _ q => XS.istore X.X.here X.hx rfl (X.d hd) rfl hl q)
theorem g_lstoreN (X : St Z n0 p l e R s m args below meth c own nm bytes ml ret T locs cells slots h) {k : Fin 4} {v : Int64} (hd : decode bytes pc = .ok (.lstore_n k, 1)) (hp : pc + 1 = pc') (hl : storeLocals L k.val (.long v) = some L') (k : Go p e below K (T.setTop (mkF m pc' L' S))) : Go p e below K (T.setTop (mkF m pc L (.long v :: S))) := by
  subst hp; exact k.of (fun _ q => XS.lstoreN X.X.here X.hx rfl (X.d hd) rfl hl q)
theorem g_lstore (X : St Z n0 p l e R s m args below meth c own nm bytes ml ret T locs cells slots h) {k : Nat} {v : Int64} (hd : decode bytes pc = .ok (.lstore k, 2)) (hp : pc + 2 = pc') (hl : storeLocals L k (.long v) = some L') (k : Go p e below K (T.setTop (mkF m pc' L' S))) : Go p e below K (T.setTop (mkF m pc L (.long v :: S))) := by
  subst hp; exact k.of (fun _ q => XS.lstore X.X.here X.hx rfl (X.d hd) rfl hl q)
theorem g_astoreN (X : St Z n0 p l e R s m args below meth c own nm bytes ml ret T locs cells slots h) {k : Fin 4} {v : Value} (hd : decode bytes pc = .ok (.astore_n k, 1)) (hp : pc + 1 = pc') (hv : v.isRef = true) (hl : storeLocals L k.val v = some L') (k : Go p e below K (T.setTop (mkF m pc' L' S))) : Go p e below K (T.setTop (mkF m pc L (v :: S))) := by
  subst hp; exact k.of (fun _ q => XS.astoreN X.X.here X.hx rfl (X.d hd) rfl hv hl q)
theorem g_astore (X : St Z n0 p l e R s m args below meth c own nm bytes ml ret T locs cells slots h) {k : Nat} {v : Value} (hd : decode bytes pc = .ok (.astore k, 2)) (hp : pc + 2 = pc') (hv : v.isRef = true) (hl : storeLocals L k v = some L') (k : Go p e below K (T.setTop (mkF m pc' L' S))) : Go p e below K (T.setTop (mkF m pc L (v :: S))) := by
  subst hp; exact k.of (fun _ q => XS.astore X.X.here X.hx rfl (X.d hd) rfl hv hl q)
theorem g_iinc (X : St Z n0 p l e R s m args below meth c own nm bytes ml ret T locs cells slots h) {k : Nat} {z : Int} {v : Int32} (hd : decode bytes pc = .ok (.iinc k z, 3)) (hp : pc + 3 = pc') (hl : L[k]? = some (.val (.int v))) (hl' : storeLocals L k (.int (v + Int32.ofInt z)) = some L') (k : Go p e below K (T.setTop (mkF m pc' L' S))) : Go p e below K (T.setTop (mkF m pc L S)) := by
  subst hp; exact k.of (fun _ q => XS.iinc X.X.here X.hx rfl (X.d hd) hl hl' q)
theorem g_iconst (X : St Z n0 p l e R s m args below meth c own nm bytes ml ret T locs cells slots h) {i : Int} {v : Int32} (hd : decode bytes pc = .ok (.iconst i, 1)) (hp : pc + 1 = pc') (hv : Int32.ofInt i = v) (k : Go p e below K (T.setTop (mkF m pc' L (.int v :: S)))) : Go p e below K (T.setTop (mkF m pc L S)) := by
  subst hp; exact k.of (fun _ q => XS.iconst X.X.here X.hx rfl (X.d hd) (hv ▸ q))
theorem g_bipush (X : St Z n0 p l e R s m args below meth c own nm bytes ml ret T locs cells slots h) {i : Int} {v : Int32} (hd : decode bytes pc = .ok (.bipush i, 2)) (hp : pc + 2 = pc') (hv : (Int8.ofInt i).toInt32 = v) (k : Go p e below K (T.setTop (mkF m pc' L (.int v :: S)))) : Go p e below K (T.setTop (mkF m pc L S)) := by
  subst hp; exact k.of (fun _ q => XS.bipush X.X.here X.hx rfl (X.d hd) (hv ▸ q))
theorem g_sipush (X : St Z n0 p l e R s m args below meth c own nm bytes ml ret T locs cells slots h) {i : Int} {v : Int32} (hd : decode bytes pc = .ok (.sipush i, 3)) (hp : pc + 3 = pc') (hv : (Int16.ofInt i).toInt32 = v) (k : Go p e below K (T.setTop (mkF m pc' L (.int v :: S)))) : Go p e below K (T.setTop (mkF m pc L S)) := by
  subst hp; exact k.of (fun _ q => XS.sipush X.X.here X.hx rfl (X.d hd) (hv ▸ q))
theorem g_lconst (X : St Z n0 p l e R s m args below meth c own nm bytes ml ret T locs cells slots h) {i : Fin 2} {v : Int64} (hd : decode bytes pc = .ok (.lconst i, 1)) (hp : pc + 1 = pc') (hv : Int64.ofNat i = v) (k : Go p e below K (T.setTop (mkF m pc' L (.long v :: S)))) : Go p e below K (T.setTop (mkF m pc L S)) := by
  subst hp; exact k.of (fun _ q => XS.lconst X.X.here X.hx rfl (X.d hd) (hv ▸ q))
theorem g_aconst_null (X : St Z n0 p l e R s m args below meth c own nm bytes ml ret T locs cells slots h) (hd : decode bytes pc = .ok (.aconst_null, 1)) (hp : pc + 1 = pc') (k : Go p e below K (T.setTop (mkF m pc' L (.null :: S)))) : Go p e below K (T.setTop (mkF m pc L S)) := by
  subst hp; exact k.of (fun _ q => XS.aconstNull X.X.here X.hx rfl (X.d hd) q)
theorem g_iadd (X : St Z n0 p l e R s m args below meth c own nm bytes ml ret T locs cells slots h) {x y : Int32} (hd : decode bytes pc = .ok (.iadd, 1)) (hp : pc + 1 = pc') (k : Go p e below K (T.setTop (mkF m pc' L (.int (x + y) :: S)))) : Go p e below K (T.setTop (mkF m pc L (.int y :: .int x :: S))) := by
  subst hp; exact k.of (fun _ q => XS.iadd X.X.here X.hx rfl (X.d hd) rfl q)
theorem g_isub (X : St Z n0 p l e R s m args below meth c own nm bytes ml ret T locs cells slots h) {x y : Int32} (hd : decode bytes pc = .ok (.isub, 1)) (hp : pc + 1 = pc') (k : Go p e below K (T.setTop (mkF m pc' L (.int (x - y) :: S)))) : Go p e below K (T.setTop (mkF m pc L (.int y :: .int x :: S))) := by
  subst hp; exact k.of (fun _ q => XS.isub X.X.here X.hx rfl (X.d hd) rfl q)
theorem g_imul (X : St Z n0 p l e R s m args below meth c own nm bytes ml ret T locs cells slots h) {x y : Int32} (hd : decode bytes pc = .ok (.imul, 1)) (hp : pc + 1 = pc') (k : Go p e below K (T.setTop (mkF m pc' L (.int (x * y) :: S)))) : Go p e below K (T.setTop (mkF m pc L (.int y :: .int x :: S))) := by
  subst hp; exact k.of (fun _ q => XS.imul X.X.here X.hx rfl (X.d hd) rfl q)
theorem g_iand (X : St Z n0 p l e R s m args below meth c own nm bytes ml ret T locs cells slots h) {x y : Int32} (hd : decode bytes pc = .ok (.iand, 1)) (hp : pc + 1 = pc') (k : Go p e below K (T.setTop (mkF m pc' L (.int (x &&& y) :: S)))) : Go p e below K (T.setTop (mkF m pc L (.int y :: .int x :: S))) := by
  subst hp; exact k.of (fun _ q => XS.iand X.X.here X.hx rfl (X.d hd) rfl q)
theorem g_ior (X : St Z n0 p l e R s m args below meth c own nm bytes ml ret T locs cells slots h) {x y : Int32} (hd : decode bytes pc = .ok (.ior, 1)) (hp : pc + 1 = pc') (k : Go p e below K (T.setTop (mkF m pc' L (.int (x ||| y) :: S)))) : Go p e below K (T.setTop (mkF m pc L (.int y :: .int x :: S))) := by
  subst hp; exact k.of (fun _ q => XS.ior X.X.here X.hx rfl (X.d hd) rfl q)
theorem g_ixor (X : St Z n0 p l e R s m args below meth c own nm bytes ml ret T locs cells slots h) {x y : Int32} (hd : decode bytes pc = .ok (.ixor, 1)) (hp : pc + 1 = pc') (k : Go p e below K (T.setTop (mkF m pc' L (.int (x ^^^ y) :: S)))) : Go p e below K (T.setTop (mkF m pc L (.int y :: .int x :: S))) := by
  subst hp; exact k.of (fun _ q => XS.ixor X.X.here X.hx rfl (X.d hd) rfl q)
theorem g_ishl (X : St Z n0 p l e R s m args below meth c own nm bytes ml ret T locs cells slots h) {x y : Int32} (hd : decode bytes pc = .ok (.ishl, 1)) (hp : pc + 1 = pc') (k : Go p e below K (T.setTop (mkF m pc' L (.int (x <<< (y &&& 31)) :: S)))) : Go p e below K (T.setTop (mkF m pc L (.int y :: .int x :: S))) := by
  subst hp; exact k.of (fun _ q => XS.ishl X.X.here X.hx rfl (X.d hd) rfl q)
theorem g_ishr (X : St Z n0 p l e R s m args below meth c own nm bytes ml ret T locs cells slots h) {x y : Int32} (hd : decode bytes pc = .ok (.ishr, 1)) (hp : pc + 1 = pc') (k : Go p e below K (T.setTop (mkF m pc' L (.int (x >>> (y &&& 31)) :: S)))) : Go p e below K (T.setTop (mkF m pc L (.int y :: .int x :: S))) := by
  subst hp; exact k.of (fun _ q => XS.ishr X.X.here X.hx rfl (X.d hd) rfl q)
theorem g_iushr (X : St Z n0 p l e R s m args below meth c own nm bytes ml ret T locs cells slots h) {x y : Int32} (hd : decode bytes pc = .ok (.iushr, 1)) (hp : pc + 1 = pc') (k : Go p e below K (T.setTop (mkF m pc' L (.int ((x.toUInt32 >>> (y &&& 31).toUInt32).toInt32) :: S)))) : Go p e below K (T.setTop (mkF m pc L (.int y :: .int x :: S))) := by
  subst hp; exact k.of (fun _ q => XS.iushr X.X.here X.hx rfl (X.d hd) rfl q)
theorem g_idiv (X : St Z n0 p l e R s m args below meth c own nm bytes ml ret T locs cells slots h) {x y : Int32} (hd : decode bytes pc = .ok (.idiv, 1)) (hp : pc + 1 = pc') (hy : y ≠ 0) (k : Go p e below K (T.setTop (mkF m pc' L (.int (x / y) :: S)))) : Go p e below K (T.setTop (mkF m pc L (.int y :: .int x :: S))) := by
  subst hp; exact k.of (fun _ q => XS.idiv X.X.here X.hx rfl (X.d hd) rfl hy q)
theorem g_irem (X : St Z n0 p l e R s m args below meth c own nm bytes ml ret T locs cells slots h) {x y : Int32} (hd : decode bytes pc = .ok (.irem, 1)) (hp : pc + 1 = pc') (hy : y ≠ 0) (k : Go p e below K (T.setTop (mkF m pc' L (.int (x % y) :: S)))) : Go p e below K (T.setTop (mkF m pc L (.int y :: .int x :: S))) := by
  subst hp; exact k.of (fun _ q => iremM X.X X.hx rfl (X.d hd) rfl hy q)
theorem g_ladd (X : St Z n0 p l e R s m args below meth c own nm bytes ml ret T locs cells slots h) {x y : Int64} (hd : decode bytes pc = .ok (.ladd, 1)) (hp : pc + 1 = pc') (k : Go p e below K (T.setTop (mkF m pc' L (.long (x + y) :: S)))) : Go p e below K (T.setTop (mkF m pc L (.long y :: .long x :: S))) := by
  subst hp; exact k.of (fun _ q => XS.ladd X.X.here X.hx rfl (X.d hd) rfl q)
theorem g_lsub (X : St Z n0 p l e R s m args below meth c own nm bytes ml ret T locs cells slots h) {x y : Int64} (hd : decode bytes pc = .ok (.lsub, 1)) (hp : pc + 1 = pc') (k : Go p e below K (T.setTop (mkF m pc' L (.long (x - y) :: S)))) : Go p e below K (T.setTop (mkF m pc L (.long y :: .long x :: S))) := by
  subst hp; exact k.of (fun _ q => XS.lsub X.X.here X.hx rfl (X.d hd) rfl q)
theorem g_lmul (X : St Z n0 p l e R s m args below meth c own nm bytes ml ret T locs cells slots h) {x y : Int64} (hd : decode bytes pc = .ok (.lmul, 1)) (hp : pc + 1 = pc') (k : Go p e below K (T.setTop (mkF m pc' L (.long (x * y) :: S)))) : Go p e below K (T.setTop (mkF m pc L (.long y :: .long x :: S))) := by
  subst hp; exact k.of (fun _ q => XS.lmul X.X.here X.hx rfl (X.d hd) rfl q)
theorem g_land (X : St Z n0 p l e R s m args below meth c own nm bytes ml ret T locs cells slots h) {x y : Int64} (hd : decode bytes pc = .ok (.land, 1)) (hp : pc + 1 = pc') (k : Go p e below K (T.setTop (mkF m pc' L (.long (x &&& y) :: S)))) : Go p e below K (T.setTop (mkF m pc L (.long y :: .long x :: S))) := by
  subst hp; exact k.of (fun _ q => XS.land X.X.here X.hx rfl (X.d hd) rfl q)
theorem g_lor (X : St Z n0 p l e R s m args below meth c own nm bytes ml ret T locs cells slots h) {x y : Int64} (hd : decode bytes pc = .ok (.lor, 1)) (hp : pc + 1 = pc') (k : Go p e below K (T.setTop (mkF m pc' L (.long (x ||| y) :: S)))) : Go p e below K (T.setTop (mkF m pc L (.long y :: .long x :: S))) := by
  subst hp; exact k.of (fun _ q => XS.lor X.X.here X.hx rfl (X.d hd) rfl q)
theorem g_lxor (X : St Z n0 p l e R s m args below meth c own nm bytes ml ret T locs cells slots h) {x y : Int64} (hd : decode bytes pc = .ok (.lxor, 1)) (hp : pc + 1 = pc') (k : Go p e below K (T.setTop (mkF m pc' L (.long (x ^^^ y) :: S)))) : Go p e below K (T.setTop (mkF m pc L (.long y :: .long x :: S))) := by
  subst hp; exact k.of (fun _ q => XS.lxor X.X.here X.hx rfl (X.d hd) rfl q)
theorem g_ldiv (X : St Z n0 p l e R s m args below meth c own nm bytes ml ret T locs cells slots h) {x y : Int64} (hd : decode bytes pc = .ok (.ldiv, 1)) (hp : pc + 1 = pc') (hy : y ≠ 0) (k : Go p e below K (T.setTop (mkF m pc' L (.long (x / y) :: S)))) : Go p e below K (T.setTop (mkF m pc L (.long y :: .long x :: S))) := by
  subst hp; exact k.of (fun _ q => XS.ldiv X.X.here X.hx rfl (X.d hd) rfl hy q)
theorem g_lrem (X : St Z n0 p l e R s m args below meth c own nm bytes ml ret T locs cells slots h) {x y : Int64} (hd : decode bytes pc = .ok (.lrem, 1)) (hp : pc + 1 = pc') (hy : y ≠ 0) (k : Go p e below K (T.setTop (mkF m pc' L (.long (x - (x / y) * y) :: S)))) : Go p e below K (T.setTop (mkF m pc L (.long y :: .long x :: S))) := by
  subst hp; exact k.of (fun _ q => XS.lrem X.X.here X.hx rfl (X.d hd) rfl hy q)
theorem g_lshl (X : St Z n0 p l e R s m args below meth c own nm bytes ml ret T locs cells slots h) {x : Int64} {y : Int32} (hd : decode bytes pc = .ok (.lshl, 1)) (hp : pc + 1 = pc') (k : Go p e below K (T.setTop (mkF m pc' L (.long (x <<< (y &&& 0x3f).toInt64) :: S)))) : Go p e below K (T.setTop (mkF m pc L (.int y :: .long x :: S))) := by
  subst hp; exact k.of (fun _ q => XS.lshl X.X.here X.hx rfl (X.d hd) rfl q)
theorem g_lshr (X : St Z n0 p l e R s m args below meth c own nm bytes ml ret T locs cells slots h) {x : Int64} {y : Int32} (hd : decode bytes pc = .ok (.lshr, 1)) (hp : pc + 1 = pc') (k : Go p e below K (T.setTop (mkF m pc' L (.long (x >>> (y &&& 0x3f).toInt64) :: S)))) : Go p e below K (T.setTop (mkF m pc L (.int y :: .long x :: S))) := by
  subst hp; exact k.of (fun _ q => XS.lshr X.X.here X.hx rfl (X.d hd) rfl q)
theorem g_lushr (X : St Z n0 p l e R s m args below meth c own nm bytes ml ret T locs cells slots h) {x : Int64} {y : Int32} (hd : decode bytes pc = .ok (.lushr, 1)) (hp : pc + 1 = pc') (k : Go p e below K (T.setTop (mkF m pc' L (.long ((x.toUInt64 >>> (y &&& 0x3f).toInt64.toUInt64).toInt64) :: S)))) : Go p e below K (T.setTop (mkF m pc L (.int y :: .long x :: S))) := by
  subst hp; exact k.of (fun _ q => XS.lushr X.X.here X.hx rfl (X.d hd) rfl q)
theorem g_i2b (X : St Z n0 p l e R s m args below meth c own nm bytes ml ret T locs cells slots h) {v : Int32} (hd : decode bytes pc = .ok (.i2b, 1)) (hp : pc + 1 = pc') (k : Go p e below K (T.setTop (mkF m pc' L (.int (v.toInt8.toInt32) :: S)))) : Go p e below K (T.setTop (mkF m pc L (.int v :: S))) := by
  subst hp; exact k.of (fun _ q => XS.i2b X.X.here X.hx rfl (X.d hd) rfl q)
theorem g_i2c (X : St Z n0 p l e R s m args below meth c own nm bytes ml ret T locs cells slots h) {v : Int32} (hd : decode bytes pc = .ok (.i2c, 1)) (hp : pc + 1 = pc') (k : Go p e below K (T.setTop (mkF m pc' L (.int (v.toUInt32.toUInt16.toUInt32.toInt32) :: S)))) : Go p e below K (T.setTop (mkF m pc L (.int v :: S))) := by
  subst hp; exact k.of (fun _ q => XS.i2c X.X.here X.hx rfl (X.d hd) rfl q)
theorem g_i2s (X : St Z n0 p l e R s m args below meth c own nm bytes ml ret T locs cells slots h) {v : Int32} (hd : decode bytes pc = .ok (.i2s, 1)) (hp : pc + 1 = pc') (k : Go p e below K (T.setTop (mkF m pc' L (.int (v.toInt16.toInt32) :: S)))) : Go p e below K (T.setTop (mkF m pc L (.int v :: S))) := by
  subst hp; exact k.of (fun _ q => XS.i2s X.X.here X.hx rfl (X.d hd) rfl q)
theorem g_ineg (X : St Z n0 p l e R s m args below meth c own nm bytes ml ret T locs cells slots h) {v : Int32} (hd : decode bytes pc = .ok (.ineg, 1)) (hp : pc + 1 = pc') (k : Go p e below K (T.setTop (mkF m pc' L (.int (-v) :: S)))) : Go p e below K (T.setTop (mkF m pc L (.int v :: S))) := by
  subst hp; exact k.of (fun _ q => XS.ineg X.X.here X.hx rfl (X.d hd) rfl q)
theorem g_i2l (X : St Z n0 p l e R s m args below meth c own nm bytes ml ret T locs cells slots h) {v : Int32} (hd : decode bytes pc = .ok (.i2l, 1)) (hp : pc + 1 = pc') (k : Go p e below K (T.setTop (mkF m pc' L (.long (v.toInt64) :: S)))) : Go p e below K (T.setTop (mkF m pc L (.int v :: S))) := by
  subst hp; exact k.of (fun _ q => XS.i2l X.X.here X.hx rfl (X.d hd) rfl q)
theorem g_l2i (X : St Z n0 p l e R s m args below meth c own nm bytes ml ret T locs cells slots h) {v : Int64} (hd : decode bytes pc = .ok (.l2i, 1)) (hp : pc + 1 = pc') (k : Go p e below K (T.setTop (mkF m pc' L (.int (v.toInt32) :: S)))) : Go p e below K (T.setTop (mkF m pc L (.long v :: S))) := by
  subst hp; exact k.of (fun _ q => XS.l2i X.X.here X.hx rfl (X.d hd) rfl q)
theorem g_lneg (X : St Z n0 p l e R s m args below meth c own nm bytes ml ret T locs cells slots h) {v : Int64} (hd : decode bytes pc = .ok (.lneg, 1)) (hp : pc + 1 = pc') (k : Go p e below K (T.setTop (mkF m pc' L (.long (-v) :: S)))) : Go p e below K (T.setTop (mkF m pc L (.long v :: S))) := by
  subst hp; exact k.of (fun _ q => XS.lneg X.X.here X.hx rfl (X.d hd) rfl q)
theorem g_lcmp (X : St Z n0 p l e R s m args below meth c own nm bytes ml ret T locs cells slots h) {x y : Int64} (hd : decode bytes pc = .ok (.lcmp, 1)) (hp : pc + 1 = pc') (k : Go p e below K (T.setTop (mkF m pc' L (.int (lcmpW x y) :: S)))) : Go p e below K (T.setTop (mkF m pc L (.long y :: .long x :: S))) := by
  subst hp; exact k.of (fun _ q => XS.lcmp X.X.here X.hx rfl (X.d hd) rfl q)
theorem g_dup (X : St Z n0 p l e R s m args below meth c own nm bytes ml ret T locs cells slots h) {v : Value} (hd : decode bytes pc = .ok (.dup, 1)) (hp : pc + 1 = pc') (hc : v.category = 1) (k : Go p e below K (T.setTop (mkF m pc' L (v :: v :: S)))) : Go p e below K (T.setTop (mkF m pc L (v :: S))) := by
  subst hp; exact k.of (fun _ q => XS.dup X.X.here X.hx rfl (X.d hd) rfl hc q)
theorem g_pop (X : St Z n0 p l e R s m args below meth c own nm bytes ml ret T locs cells slots h) {v : Value} (hd : decode bytes pc = .ok (.pop, 1)) (hp : pc + 1 = pc') (hc : v.category = 1) (k : Go p e below K (T.setTop (mkF m pc' L S))) : Go p e below K (T.setTop (mkF m pc L (v :: S))) := by
  subst hp; exact k.of (fun _ q => XS.pop X.X.here X.hx rfl (X.d hd) rfl hc q)
theorem g_dup_x1 (X : St Z n0 p l e R s m args below meth c own nm bytes ml ret T locs cells slots h) {v w : Value} (hd : decode bytes pc = .ok (.dup_x1, 1)) (hp : pc + 1 = pc') (hc : v.category = 1) (hc2 : w.category = 1) (k : Go p e below K (T.setTop (mkF m pc' L (v :: w :: v :: S)))) : Go p e below K (T.setTop (mkF m pc L (v :: w :: S))) := by
  subst hp; exact k.of (fun _ q => XS.dupX1 X.X.here X.hx rfl (X.d hd) rfl hc hc2 q)
theorem g_goto (X : St Z n0 p l e R s m args below meth c own nm bytes ml ret T locs cells slots h) {o : Int} (hd : decode bytes pc = .ok (.goto o, 3)) (ho : (pc : Int) + o = (pt : Int)) (k : Go p e below K (T.setTop (mkF m pt L S))) : Go p e below K (T.setTop (mkF m pc L S)) :=
  k.of (fun _ q => XS.goto X.X.here X.hx rfl rfl (X.d hd) (ho ▸ Int.natCast_nonneg _) (by rw [ho]; rfl) q)
theorem g_icmp_eq_t (X : St Z n0 p l e R s m args below meth c own nm bytes ml ret T locs cells slots h) {x y : Int32} {o : Int} (hd : decode bytes pc = .ok (.if_icmp .eq o, 3)) (ho : (pc : Int) + o = (pt : Int)) (hc : x = y) (k : Go p e below K (T.setTop (mkF m pt L S))) : Go p e below K (T.setTop (mkF m pc L (.int y :: .int x :: S))) :=
  k.of (fun _ q => XS.icmpYes X.X.here X.hx rfl rfl (X.d hd) rfl ((teq hc).1) (ho ▸ Int.natCast_nonneg _) (by rw [ho]; rfl) q)
theorem g_icmp_eq_f (X : St Z n0 p l e R s m args below meth c own nm bytes ml ret T locs cells slots h) {x y : Int32} {o : Int} (hd : decode bytes pc = .ok (.if_icmp .eq o, 3)) (hp : pc + 3 = pc') (hc : ¬ x = y) (k : Go p e below K (T.setTop (mkF m pc' L S))) : Go p e below K (T.setTop (mkF m pc L (.int y :: .int x :: S))) := by
  subst hp; exact k.of (fun _ q => XS.icmpNo X.X.here X.hx rfl (X.d hd) rfl ((feq hc).1) q)
theorem g_icmp_eq (X : St Z n0 p l e R s m args below meth c own nm bytes ml ret T locs cells slots h) {x y : Int32} {o : Int} (hd : decode bytes pc = .ok (.if_icmp .eq o, 3)) (ho : (pc : Int) + o = (pt : Int)) (hp : pc + 3 = pc') (yes : x = y → Go p e below K (T.setTop (mkF m pt L S))) (no : ¬ x = y → Go p e below K (T.setTop (mkF m pc' L S))) : Go p e below K (T.setTop (mkF m pc L (.int y :: .int x :: S))) := by
  by_cases hc : x = y
  · exact g_icmp_eq_t X hd ho hc (yes hc)
  · exact g_icmp_eq_f X hd hp hc (no hc)
theorem g_if_eq_t (X : St Z n0 p l e R s m args below meth c own nm bytes ml ret T locs cells slots h) {x : Int32} {o : Int} (hd : decode bytes pc = .ok (.ifCond .eq o, 3)) (ho : (pc : Int) + o = (pt : Int)) (hc : x = 0) (k : Go p e below K (T.setTop (mkF m pt L S))) : Go p e below K (T.setTop (mkF m pc L (.int x :: S))) :=
  k.of (fun _ q => XS.ifYes X.X.here X.hx rfl rfl (X.d hd) rfl ((if0 _ _).trans ((teq hc).1)) (ho ▸ Int.natCast_nonneg _) (by rw [ho]; rfl) q)
theorem g_if_eq_f (X : St Z n0 p l e R s m args below meth c own nm bytes ml ret T locs cells slots h) {x : Int32} {o : Int} (hd : decode bytes pc = .ok (.ifCond .eq o, 3)) (hp : pc + 3 = pc') (hc : ¬ x = 0) (k : Go p e below K (T.setTop (mkF m pc' L S))) : Go p e below K (T.setTop (mkF m pc L (.int x :: S))) := by
  subst hp; exact k.of (fun _ q => XS.ifNo X.X.here X.hx rfl (X.d hd) rfl ((if0 _ _).trans ((feq hc).1)) q)
theorem g_if_eq (X : St Z n0 p l e R s m args below meth c own nm bytes ml ret T locs cells slots h) {x : Int32} {o : Int} (hd : decode bytes pc = .ok (.ifCond .eq o, 3)) (ho : (pc : Int) + o = (pt : Int)) (hp : pc + 3 = pc') (yes : x = 0 → Go p e below K (T.setTop (mkF m pt L S))) (no : ¬ x = 0 → Go p e below K (T.setTop (mkF m pc' L S))) : Go p e below K (T.setTop (mkF m pc L (.int x :: S))) := by
  by_cases hc : x = 0
  · exact g_if_eq_t X hd ho hc (yes hc)
  · exact g_if_eq_f X hd hp hc (no hc)
theorem g_icmp_ne_t (X : St Z n0 p l e R s m args below meth c own nm bytes ml ret T locs cells slots h) {x y : Int32} {o : Int} (hd : decode bytes pc = .ok (.if_icmp .ne o, 3)) (ho : (pc : Int) + o = (pt : Int)) (hc : ¬ x = y) (k : Go p e below K (T.setTop (mkF m pt L S))) : Go p e below K (T.setTop (mkF m pc L (.int y :: .int x :: S))) :=
  k.of (fun _ q => XS.icmpYes X.X.here X.hx rfl rfl (X.d hd) rfl ((feq hc).2) (ho ▸ Int.natCast_nonneg _) (by rw [ho]; rfl) q)
theorem g_icmp_ne_f (X : St Z n0 p l e R s m args below meth c own nm bytes ml ret T locs cells slots h) {x y : Int32} {o : Int} (hd : decode bytes pc = .ok (.if_icmp .ne o, 3)) (hp : pc + 3 = pc') (hc : x = y) (k : Go p e below K (T.setTop (mkF m pc' L S))) : Go p e below K (T.setTop (mkF m pc L (.int y :: .int x :: S))) := by
  subst hp; exact k.of (fun _ q => XS.icmpNo X.X.here X.hx rfl (X.d hd) rfl ((teq hc).2) q)
theorem g_icmp_ne (X : St Z n0 p l e R s m args below meth c own nm bytes ml ret T locs cells slots h) {x y : Int32} {o : Int} (hd : decode bytes pc = .ok (.if_icmp .ne o, 3)) (ho : (pc : Int) + o = (pt : Int)) (hp : pc + 3 = pc') (yes : ¬ x = y → Go p e below K (T.setTop (mkF m pt L S))) (no : x = y → Go p e below K (T.setTop (mkF m pc' L S))) : Go p e below K (T.setTop (mkF m pc L (.int y :: .int x :: S))) := by
  by_cases hc : x = y
  · exact g_icmp_ne_f X hd hp hc (no hc)
  · exact g_icmp_ne_t X hd ho hc (yes hc)
theorem g_if_ne_t (X : St Z n0 p l e R s m args below meth c own nm bytes ml ret T locs cells slots h) {x : Int32} {o : Int} (hd : decode bytes pc = .ok (.ifCond .ne o, 3)) (ho : (pc : Int) + o = (pt : Int)) (hc : ¬ x = 0) (k : Go p e below K (T.setTop (mkF m pt L S))) : Go p e below K (T.setTop (mkF m pc L (.int x :: S))) :=
  k.of (fun _ q => XS.ifYes X.X.here X.hx rfl rfl (X.d hd) rfl ((if0 _ _).trans ((feq hc).2)) (ho ▸ Int.natCast_nonneg _) (by rw [ho]; rfl) q)
theorem g_if_ne_f (X : St Z n0 p l e R s m args below meth c own nm bytes ml ret T locs cells slots h) {x : Int32} {o : Int} (hd : decode bytes pc = .ok (.ifCond .ne o, 3)) (hp : pc + 3 = pc') (hc : x = 0) (k : Go p e below K (T.setTop (mkF m pc' L S))) : Go p e below K (T.setTop (mkF m pc L (.int x :: S))) := by
  subst hp; exact k.of (fun _ q => XS.ifNo X.X.here X.hx rfl (X.d hd) rfl ((if0 _ _).trans ((teq hc).2)) q)
theorem g_if_ne (X : St Z n0 p l e R s m args below meth c own nm bytes ml ret T locs cells slots h) {x : Int32} {o : Int} (hd : decode bytes pc = .ok (.ifCond .ne o, 3)) (ho : (pc : Int) + o = (pt : Int)) (hp : pc + 3 = pc') (yes : ¬ x = 0 → Go p e below K (T.setTop (mkF m pt L S))) (no : x = 0 → Go p e below K (T.setTop (mkF m pc' L S))) : Go p e below K (T.setTop (mkF m pc L (.int x :: S))) := by
  by_cases hc : x = 0
  · exact g_if_ne_f X hd hp hc (no hc)
  · exact g_if_ne_t X hd ho hc (yes hc)
theorem g_icmp_lt_t (X : St Z n0 p l e R s m args below meth c own nm bytes ml ret T locs cells slots h) {x y : Int32} {o : Int} (hd : decode bytes pc = .ok (.if_icmp .lt o, 3)) (ho : (pc : Int) + o = (pt : Int)) (hc : x < y) (k : Go p e below K (T.setTop (mkF m pt L S))) : Go p e below K (T.setTop (mkF m pc L (.int y :: .int x :: S))) :=
  k.of (fun _ q => XS.icmpYes X.X.here X.hx rfl rfl (X.d hd) rfl ((tlt hc).1) (ho ▸ Int.natCast_nonneg _) (by rw [ho]; rfl) q)
theorem g_icmp_lt_f (X : St Z n0 p l e R s m args below meth c own nm bytes ml ret T locs cells slots h) {x y : Int32} {o : Int} (hd : decode bytes pc = .ok (.if_icmp .lt o, 3)) (hp : pc + 3 = pc') (hc : ¬ x < y) (k : Go p e below K (T.setTop (mkF m pc' L S))) : Go p e below K (T.setTop (mkF m pc L (.int y :: .int x :: S))) := by
  subst hp; exact k.of (fun _ q => XS.icmpNo X.X.here X.hx rfl (X.d hd) rfl ((flt hc).1) q)
theorem g_icmp_lt (X : St Z n0 p l e R s m args below meth c own nm bytes ml ret T locs cells slots h) {x y : Int32} {o : Int} (hd : decode bytes pc = .ok (.if_icmp .lt o, 3)) (ho : (pc : Int) + o = (pt : Int)) (hp : pc + 3 = pc') (yes : x < y → Go p e below K (T.setTop (mkF m pt L S))) (no : ¬ x < y → Go p e below K (T.setTop (mkF m pc' L S))) : Go p e below K (T.setTop (mkF m pc L (.int y :: .int x :: S))) := by
  by_cases hc : x < y
  · exact g_icmp_lt_t X hd ho hc (yes hc)
  · exact g_icmp_lt_f X hd hp hc (no hc)
theorem g_if_lt_t (X : St Z n0 p l e R s m args below meth c own nm bytes ml ret T locs cells slots h) {x : Int32} {o : Int} (hd : decode bytes pc = .ok (.ifCond .lt o, 3)) (ho : (pc : Int) + o = (pt : Int)) (hc : x < 0) (k : Go p e below K (T.setTop (mkF m pt L S))) : Go p e below K (T.setTop (mkF m pc L (.int x :: S))) :=
  k.of (fun _ q => XS.ifYes X.X.here X.hx rfl rfl (X.d hd) rfl ((if0 _ _).trans ((tlt hc).1)) (ho ▸ Int.natCast_nonneg _) (by rw [ho]; rfl) q)
theorem g_if_lt_f (X : St Z n0 p l e R s m args below meth c own nm bytes ml ret T locs cells slots h) {x : Int32} {o : Int} (hd : decode bytes pc = .ok (.ifCond .lt o, 3)) (hp : pc + 3 = pc') (hc : ¬ x < 0) (k : Go p e below K (T.setTop (mkF m pc' L S))) : Go p e below K (T.setTop (mkF m pc L (.int x :: S))) := by
  subst hp; exact k.of (fun _ q => XS.ifNo X.X.here X.hx rfl (X.d hd) rfl ((if0 _ _).trans ((flt hc).1)) q)
theorem g_if_lt (X : St Z n0 p l e R s m args below meth c own nm bytes ml ret T locs cells slots h) {x : Int32} {o : Int} (hd : decode bytes pc = .ok (.ifCond .lt o, 3)) (ho : (pc : Int) + o = (pt : Int)) (hp : pc + 3 = pc') (yes : x < 0 → Go p e below K (T.setTop (mkF m pt L S))) (no : ¬ x < 0 → Go p e below K (T.setTop (mkF m pc' L S))) : Go p e below K (T.setTop (mkF m pc L (.int x :: S))) := by
  by_cases hc : x < 0
  · exact g_if_lt_t X hd ho hc (yes hc)
  · exact g_if_lt_f X hd hp hc (no hc)
theorem g_icmp_ge_t (X : St Z n0 p l e R s m args below meth c own nm bytes ml ret T locs cells slots h) {x y : Int32} {o : Int} (hd : decode bytes pc = .ok (.if_icmp .ge o, 3)) (ho : (pc : Int) + o = (pt : Int)) (hc : ¬ x < y) (k : Go p e below K (T.setTop (mkF m pt L S))) : Go p e below K (T.setTop (mkF m pc L (.int y :: .int x :: S))) :=
  k.of (fun _ q => XS.icmpYes X.X.here X.hx rfl rfl (X.d hd) rfl ((flt hc).2.1) (ho ▸ Int.natCast_nonneg _) (by rw [ho]; rfl) q)
theorem g_icmp_ge_f (X : St Z n0 p l e R s m args below meth c own nm bytes ml ret T locs cells slots h) {x y : Int32} {o : Int} (hd : decode bytes pc = .ok (.if_icmp .ge o, 3)) (hp : pc + 3 = pc') (hc : x < y) (k : Go p e below K (T.setTop (mkF m pc' L S))) : Go p e below K (T.setTop (mkF m pc L (.int y :: .int x :: S))) := by
  subst hp; exact k.of (fun _ q => XS.icmpNo X.X.here X.hx rfl (X.d hd) rfl ((tlt hc).2.1) q)
theorem g_icmp_ge (X : St Z n0 p l e R s m args below meth c own nm bytes ml ret T locs cells slots h) {x y : Int32} {o : Int} (hd : decode bytes pc = .ok (.if_icmp .ge o, 3)) (ho : (pc : Int) + o = (pt : Int)) (hp : pc + 3 = pc') (yes : ¬ x < y → Go p e below K (T.setTop (mkF m pt L S))) (no : x < y → Go p e below K (T.setTop (mkF m pc' L S))) : Go p e below K (T.setTop (mkF m pc L (.int y :: .int x :: S))) := by
  by_cases hc : x < y
  · exact g_icmp_ge_f X hd hp hc (no hc)
  · exact g_icmp_ge_t X hd ho hc (yes hc)
theorem g_if_ge_t (X : St Z n0 p l e R s m args below meth c own nm bytes ml ret T locs cells slots h) {x : Int32} {o : Int} (hd : decode bytes pc = .ok (.ifCond .ge o, 3)) (ho : (pc : Int) + o = (pt : Int)) (hc : ¬ x < 0) (k : Go p e below K (T.setTop (mkF m pt L S))) : Go p e below K (T.setTop (mkF m pc L (.int x :: S))) :=
  k.of (fun _ q => XS.ifYes X.X.here X.hx rfl rfl (X.d hd) rfl ((if0 _ _).trans ((flt hc).2.1)) (ho ▸ Int.natCast_nonneg _) (by rw [ho]; rfl) q)
theorem g_if_ge_f (X : St Z n0 p l e R s m args below meth c own nm bytes ml ret T locs cells slots h) {x : Int32} {o : Int} (hd : decode bytes pc = .ok (.ifCond .ge o, 3)) (hp : pc + 3 = pc') (hc : x < 0) (k : Go p e below K (T.setTop (mkF m pc' L S))) : Go p e below K (T.setTop (mkF m pc L (.int x :: S))) := by
  subst hp; exact k.of (fun _ q => XS.ifNo X.X.here X.hx rfl (X.d hd) rfl ((if0 _ _).trans ((tlt hc).2.1)) q)
theorem g_if_ge (X : St Z n0 p l e R s m args below meth c own nm bytes ml ret T locs cells slots h) {x : Int32} {o : Int} (hd : decode bytes pc = .ok (.ifCond .ge o, 3)) (ho : (pc : Int) + o = (pt : Int)) (hp : pc + 3 = pc') (yes : ¬ x < 0 → Go p e below K (T.setTop (mkF m pt L S))) (no : x < 0 → Go p e below K (T.setTop (mkF m pc' L S))) : Go p e below K (T.setTop (mkF m pc L (.int x :: S))) := by
  by_cases hc : x < 0
  · exact g_if_ge_f X hd hp hc (no hc)
  · exact g_if_ge_t X hd ho hc (yes hc)
theorem g_icmp_gt_t (X : St Z n0 p l e R s m args below meth c own nm bytes ml ret T locs cells slots h) {x y : Int32} {o : Int} (hd : decode bytes pc = .ok (.if_icmp .gt o, 3)) (ho : (pc : Int) + o = (pt : Int)) (hc : y < x) (k : Go p e below K (T.setTop (mkF m pt L S))) : Go p e below K (T.setTop (mkF m pc L (.int y :: .int x :: S))) :=
  k.of (fun _ q => XS.icmpYes X.X.here X.hx rfl rfl (X.d hd) rfl ((tlt hc).2.2.1) (ho ▸ Int.natCast_nonneg _) (by rw [ho]; rfl) q)
theorem g_icmp_gt_f (X : St Z n0 p l e R s m args below meth c own nm bytes ml ret T locs cells slots h) {x y : Int32} {o : Int} (hd : decode bytes pc = .ok (.if_icmp .gt o, 3)) (hp : pc + 3 = pc') (hc : ¬ y < x) (k : Go p e below K (T.setTop (mkF m pc' L S))) : Go p e below K (T.setTop (mkF m pc L (.int y :: .int x :: S))) := by
  subst hp; exact k.of (fun _ q => XS.icmpNo X.X.here X.hx rfl (X.d hd) rfl ((flt hc).2.2.1) q)
theorem g_icmp_gt (X : St Z n0 p l e R s m args below meth c own nm bytes ml ret T locs cells slots h) {x y : Int32} {o : Int} (hd : decode bytes pc = .ok (.if_icmp .gt o, 3)) (ho : (pc : Int) + o = (pt : Int)) (hp : pc + 3 = pc') (yes : y < x → Go p e below K (T.setTop (mkF m pt L S))) (no : ¬ y < x → Go p e below K (T.setTop (mkF m pc' L S))) : Go p e below K (T.setTop (mkF m pc L (.int y :: .int x :: S))) := by
  by_cases hc : y < x
  · exact g_icmp_gt_t X hd ho hc (yes hc)
  · exact g_icmp_gt_f X hd hp hc (no hc)
theorem g_if_gt_t (X : St Z n0 p l e R s m args below meth c own nm bytes ml ret T locs cells slots h) {x : Int32} {o : Int} (hd : decode bytes pc = .ok (.ifCond .gt o, 3)) (ho : (pc : Int) + o = (pt : Int)) (hc : 0 < x) (k : Go p e below K (T.setTop (mkF m pt L S))) : Go p e below K (T.setTop (mkF m pc L (.int x :: S))) :=
  k.of (fun _ q => XS.ifYes X.X.here X.hx rfl rfl (X.d hd) rfl ((if0 _ _).trans ((tlt hc).2.2.1)) (ho ▸ Int.natCast_nonneg _) (by rw [ho]; rfl) q)
theorem g_if_gt_f (X : St Z n0 p l e R s m args below meth c own nm bytes ml ret T locs cells slots h) {x : Int32} {o : Int} (hd : decode bytes pc = .ok (.ifCond .gt o, 3)) (hp : pc + 3 = pc') (hc : ¬ 0 < x) (k : Go p e below K (T.setTop (mkF m pc' L S))) : Go p e below K (T.setTop (mkF m pc L (.int x :: S))) := by
  subst hp; exact k.of (fun _ q => XS.ifNo X.X.here X.hx rfl (X.d hd) rfl ((if0 _ _).trans ((flt hc).2.2.1)) q)
theorem g_if_gt (X : St Z n0 p l e R s m args below meth c own nm bytes ml ret T locs cells slots h) {x : Int32} {o : Int} (hd : decode bytes pc = .ok (.ifCond .gt o, 3)) (ho : (pc : Int) + o = (pt : Int)) (hp : pc + 3 = pc') (yes : 0 < x → Go p e below K (T.setTop (mkF m pt L S))) (no : ¬ 0 < x → Go p e below K (T.setTop (mkF m pc' L S))) : Go p e below K (T.setTop (mkF m pc L (.int x :: S))) := by
  by_cases hc : 0 < x
  · exact g_if_gt_t X hd ho hc (yes hc)
  · exact g_if_gt_f X hd hp hc (no hc)
theorem g_icmp_le_t (X : St Z n0 p l e R s m args below meth c own nm bytes ml ret T locs cells slots h) {x y : Int32} {o : Int} (hd : decode bytes pc = .ok (.if_icmp .le o, 3)) (ho : (pc : Int) + o = (pt : Int)) (hc : ¬ y < x) (k : Go p e below K (T.setTop (mkF m pt L S))) : Go p e below K (T.setTop (mkF m pc L (.int y :: .int x :: S))) :=
  k.of (fun _ q => XS.icmpYes X.X.here X.hx rfl rfl (X.d hd) rfl ((flt hc).2.2.2) (ho ▸ Int.natCast_nonneg _) (by rw [ho]; rfl) q)
theorem g_icmp_le_f (X : St Z n0 p l e R s m args below meth c own nm bytes ml ret T locs cells slots h) {x y : Int32} {o : Int} (hd : decode bytes pc = .ok (.if_icmp .le o, 3)) (hp : pc + 3 = pc') (hc : y < x) (k : Go p e below K (T.setTop (mkF m pc' L S))) : Go p e below K (T.setTop (mkF m pc L (.int y :: .int x :: S))) := by
  subst hp; exact k.of (fun _ q => XS.icmpNo X.X.here X.hx rfl (X.d hd) rfl ((tlt hc).2.2.2) q)
theorem g_icmp_le (X : St Z n0 p l e R s m args below meth c own nm bytes ml ret T locs cells slots h) {x y : Int32} {o : Int} (hd : decode bytes pc = .ok (.if_icmp .le o, 3)) (ho : (pc : Int) + o = (pt : Int)) (hp : pc + 3 = pc') (yes : ¬ y < x → Go p e below K (T.setTop (mkF m pt L S))) (no : y < x → Go p e below K (T.setTop (mkF m pc' L S))) : Go p e below K (T.setTop (mkF m pc L (.int y :: .int x :: S))) := by
  by_cases hc : y < x
  · exact g_icmp_le_f X hd hp hc (no hc)
  · exact g_icmp_le_t X hd ho hc (yes hc)
theorem g_if_le_t (X : St Z n0 p l e R s m args below meth c own nm bytes ml ret T locs cells slots h) {x : Int32} {o : Int} (hd : decode bytes pc = .ok (.ifCond .le o, 3)) (ho : (pc : Int) + o = (pt : Int)) (hc : ¬ 0 < x) (k : Go p e below K (T.setTop (mkF m pt L S))) : Go p e below K (T.setTop (mkF m pc L (.int x :: S))) :=
  k.of (fun _ q => XS.ifYes X.X.here X.hx rfl rfl (X.d hd) rfl ((if0 _ _).trans ((flt hc).2.2.2)) (ho ▸ Int.natCast_nonneg _) (by rw [ho]; rfl) q)
theorem g_if_le_f (X : St Z n0 p l e R s m args below meth c own nm bytes ml ret T locs cells slots h) {x : Int32} {o : Int} (hd : decode bytes pc = .ok (.ifCond .le o, 3)) (hp : pc + 3 = pc') (hc : 0 < x) (k : Go p e below K (T.setTop (mkF m pc' L S))) : Go p e below K (T.setTop (mkF m pc L (.int x :: S))) := by
  subst hp; exact k.of (fun _ q => XS.ifNo X.X.here X.hx rfl (X.d hd) rfl ((if0 _ _).trans ((tlt hc).2.2.2)) q)
theorem g_if_le (X : St Z n0 p l e R s m args below meth c own nm bytes ml ret T locs cells slots h) {x : Int32} {o : Int} (hd : decode bytes pc = .ok (.ifCond .le o, 3)) (ho : (pc : Int) + o = (pt : Int)) (hp : pc + 3 = pc') (yes : ¬ 0 < x → Go p e below K (T.setTop (mkF m pt L S))) (no : 0 < x → Go p e below K (T.setTop (mkF m pc' L S))) : Go p e below K (T.setTop (mkF m pc L (.int x :: S))) := by
  by_cases hc : 0 < x
  · exact g_if_le_f X hd hp hc (no hc)
  · exact g_if_le_t X hd ho hc (yes hc)
theorem g_lcmp_eq (X : St Z n0 p l e R s m args below meth c own nm bytes ml ret T locs cells slots h) {x y : Int64} {o : Int} (hd : decode bytes pc = .ok (.lcmp, 1)) (hd' : decode bytes (pc + 1) = .ok (.ifCond .eq o, 3)) (ho : ((pc + 1 : Nat) : Int) + o = (pt : Int)) (hp : pc + 1 + 3 = pc') (yes : x = y → Go p e below K (T.setTop (mkF m pt L S))) (no : ¬ x = y → Go p e below K (T.setTop (mkF m pc' L S))) : Go p e below K (T.setTop (mkF m pc L (.long y :: .long x :: S))) := by
  refine g_lcmp X hd rfl ?_
  refine g_if_eq X hd' ho hp (fun q => yes ?_) (fun q => no ?_)
  · rwa [lw_eq] at q
  · rwa [lw_eq] at q
theorem g_lcmp_ne (X : St Z n0 p l e R s m args below meth c own nm bytes ml ret T locs cells slots h) {x y : Int64} {o : Int} (hd : decode bytes pc = .ok (.lcmp, 1)) (hd' : decode bytes (pc + 1) = .ok (.ifCond .ne o, 3)) (ho : ((pc + 1 : Nat) : Int) + o = (pt : Int)) (hp : pc + 1 + 3 = pc') (yes : ¬ x = y → Go p e below K (T.setTop (mkF m pt L S))) (no : x = y → Go p e below K (T.setTop (mkF m pc' L S))) : Go p e below K (T.setTop (mkF m pc L (.long y :: .long x :: S))) := by
  refine g_lcmp X hd rfl ?_
  refine g_if_ne X hd' ho hp (fun q => yes ?_) (fun q => no ?_)
  · rwa [lw_eq] at q
  · rwa [lw_eq] at q
theorem g_lcmp_lt (X : St Z n0 p l e R s m args below meth c own nm bytes ml ret T locs cells slots h) {x y : Int64} {o : Int} (hd : decode bytes pc = .ok (.lcmp, 1)) (hd' : decode bytes (pc + 1) = .ok (.ifCond .lt o, 3)) (ho : ((pc + 1 : Nat) : Int) + o = (pt : Int)) (hp : pc + 1 + 3 = pc') (yes : x < y → Go p e below K (T.setTop (mkF m pt L S))) (no : ¬ x < y → Go p e below K (T.setTop (mkF m pc' L S))) : Go p e below K (T.setTop (mkF m pc L (.long y :: .long x :: S))) := by
  refine g_lcmp X hd rfl ?_
  refine g_if_lt X hd' ho hp (fun q => yes ?_) (fun q => no ?_)
  · rwa [lw_lt] at q
  · rwa [lw_lt] at q
theorem g_lcmp_ge (X : St Z n0 p l e R s m args below meth c own nm bytes ml ret T locs cells slots h) {x y : Int64} {o : Int} (hd : decode bytes pc = .ok (.lcmp, 1)) (hd' : decode bytes (pc + 1) = .ok (.ifCond .ge o, 3)) (ho : ((pc + 1 : Nat) : Int) + o = (pt : Int)) (hp : pc + 1 + 3 = pc') (yes : ¬ x < y → Go p e below K (T.setTop (mkF m pt L S))) (no : x < y → Go p e below K (T.setTop (mkF m pc' L S))) : Go p e below K (T.setTop (mkF m pc L (.long y :: .long x :: S))) := by
  refine g_lcmp X hd rfl ?_
  refine g_if_ge X hd' ho hp (fun q => yes ?_) (fun q => no ?_)
  · rwa [lw_lt] at q
  · rwa [lw_lt] at q
theorem g_lcmp_gt (X : St Z n0 p l e R s m args below meth c own nm bytes ml ret T locs cells slots h) {x y : Int64} {o : Int} (hd : decode bytes pc = .ok (.lcmp, 1)) (hd' : decode bytes (pc + 1) = .ok (.ifCond .gt o, 3)) (ho : ((pc + 1 : Nat) : Int) + o = (pt : Int)) (hp : pc + 1 + 3 = pc') (yes : y < x → Go p e below K (T.setTop (mkF m pt L S))) (no : ¬ y < x → Go p e below K (T.setTop (mkF m pc' L S))) : Go p e below K (T.setTop (mkF m pc L (.long y :: .long x :: S))) := by
  refine g_lcmp X hd rfl ?_
  refine g_if_gt X hd' ho hp (fun q => yes ?_) (fun q => no ?_)
  · rwa [lw_gt] at q
  · rwa [lw_gt] at q
theorem g_lcmp_le (X : St Z n0 p l e R s m args below meth c own nm bytes ml ret T locs cells slots h) {x y : Int64} {o : Int} (hd : decode bytes pc = .ok (.lcmp, 1)) (hd' : decode bytes (pc + 1) = .ok (.ifCond .le o, 3)) (ho : ((pc + 1 : Nat) : Int) + o = (pt : Int)) (hp : pc + 1 + 3 = pc') (yes : ¬ y < x → Go p e below K (T.setTop (mkF m pt L S))) (no : y < x → Go p e below K (T.setTop (mkF m pc' L S))) : Go p e below K (T.setTop (mkF m pc L (.long y :: .long x :: S))) := by
  refine g_lcmp X hd rfl ?_
  refine g_if_le X hd' ho hp (fun q => yes ?_) (fun q => no ?_)
  · rwa [lw_gt] at q
  · rwa [lw_gt] at q
theorem g_ifnull_t (X : St Z n0 p l e R s m args below meth c own nm bytes ml ret T locs cells slots h) {o : Int} (hd : decode bytes pc = .ok (.ifnull o, 3)) (ho : (pc : Int) + o = (pt : Int)) (k : Go p e below K (T.setTop (mkF m pt L S))) : Go p e below K (T.setTop (mkF m pc L (.null :: S))) :=
  k.of (fun _ q => XS.ifnullYes X.X.here X.hx rfl rfl (X.d hd) rfl (ho ▸ Int.natCast_nonneg _) (by rw [ho]; rfl) q)
theorem g_ifnull_f (X : St Z n0 p l e R s m args below meth c own nm bytes ml ret T locs cells slots h) {o : Int} {a : Addr} (hd : decode bytes pc = .ok (.ifnull o, 3)) (hp : pc + 3 = pc') (k : Go p e below K (T.setTop (mkF m pc' L S))) : Go p e below K (T.setTop (mkF m pc L (.ref a :: S))) := by
  subst hp; exact k.of (fun _ q => XS.ifnullNo X.X.here X.hx rfl (X.d hd) rfl q)
theorem g_ifnonnull_t (X : St Z n0 p l e R s m args below meth c own nm bytes ml ret T locs cells slots h) {o : Int} {a : Addr} (hd : decode bytes pc = .ok (.ifnonnull o, 3)) (ho : (pc : Int) + o = (pt : Int)) (k : Go p e below K (T.setTop (mkF m pt L S))) : Go p e below K (T.setTop (mkF m pc L (.ref a :: S))) :=
  k.of (fun _ q => XS.ifnonnullYes X.X.here X.hx rfl rfl (X.d hd) rfl (ho ▸ Int.natCast_nonneg _) (by rw [ho]; rfl) q)
theorem g_ifnonnull_f (X : St Z n0 p l e R s m args below meth c own nm bytes ml ret T locs cells slots h) {o : Int} (hd : decode bytes pc = .ok (.ifnonnull o, 3)) (hp : pc + 3 = pc') (k : Go p e below K (T.setTop (mkF m pc' L S))) : Go p e below K (T.setTop (mkF m pc L (.null :: S))) := by
  subst hp; exact k.of (fun _ q => XS.ifnonnullNo X.X.here X.hx rfl (X.d hd) rfl q)
theorem g_acmp (X : St Z n0 p l e R s m args below meth c own nm bytes ml ret T locs cells slots h) {cd : ACond} {x y : Value} {o : Int} {same : Bool} (h1 : x.isRef = true) (h2 : y.isRef = true) (hd : decode bytes pc = .ok (.if_acmp cd o, 3)) (ho : (pc : Int) + o = (pt : Int)) (hq : decide (x = y) = same) (hp : pc' = if acV cd same = true then pt else pc + 3) (k : Go p e below K (T.setTop (mkF m pc' L S))) : Go p e below K (T.setTop (mkF m pc L (y :: x :: S))) :=
  k.of (fun _ q => Jvm.RoadKit.acmp X.X X.hx rfl h1 h2 rfl (X.d hd) rfl hq (ho ▸ Int.natCast_nonneg _) (by rw [hp, ho]; rfl) q)
theorem g_acmp_eq (X : St Z n0 p l e R s m args below meth c own nm bytes ml ret T locs cells slots h) {a b : Addr} {o : Int} (hd : decode bytes pc = .ok (.if_acmp .eq o, 3)) (ho : (pc : Int) + o = (pt : Int)) (hp : pc + 3 = pc') (yes : a = b → Go p e below K (T.setTop (mkF m pt L S))) (no : ¬ a = b → Go p e below K (T.setTop (mkF m pc' L S))) : Go p e below K (T.setTop (mkF m pc L (.ref b :: .ref a :: S))) := by
  subst hp
  by_cases hc : a = b
  · exact g_acmp X (same := true) rfl rfl hd ho (decide_eq_true (congrArg Value.ref hc)) rfl (yes hc)
  · exact g_acmp X (same := false) rfl rfl hd ho (decide_eq_false fun q => hc (Value.ref.inj q)) rfl (no hc)
theorem g_acmp_ne (X : St Z n0 p l e R s m args below meth c own nm bytes ml ret T locs cells slots h) {a b : Addr} {o : Int} (hd : decode bytes pc = .ok (.if_acmp .ne o, 3)) (ho : (pc : Int) + o = (pt : Int)) (hp : pc + 3 = pc') (yes : ¬ a = b → Go p e below K (T.setTop (mkF m pt L S))) (no : a = b → Go p e below K (T.setTop (mkF m pc' L S))) : Go p e below K (T.setTop (mkF m pc L (.ref b :: .ref a :: S))) := by
  subst hp
  by_cases hc : a = b
  · exact g_acmp X (same := true) rfl rfl hd ho (decide_eq_true (congrArg Value.ref hc)) rfl (no hc)
  · exact g_acmp X (same := false) rfl rfl hd ho (decide_eq_false fun q => hc (Value.ref.inj q)) rfl (yes hc)
theorem g_ldc (X : St Z n0 p l e R s m args below meth c own nm bytes ml ret T locs cells slots h) {i : Nat} {v : Int32} (w : (Jvm.Cond.constant own i v).before a0 Z = true) (hd : decode bytes pc = .ok (.ldc i, 2)) (hp : pc + 2 = pc') (k : Go p e below K (T.setTop (mkF m pc' L (.int v :: S)))) : Go p e below K (T.setTop (mkF m pc L S)) := by
  subst hp; exact k.of (X.X.ldcInt X.hx X.own_ (mvT X.hZ w) (g := mkF m pc L S) rfl (X.d hd))
theorem g_ldc2 (X : St Z n0 p l e R s m args below meth c own nm bytes ml ret T locs cells slots h) {i : Nat} {v : Int64} (w : (Jvm.Cond.constantLong own i v).before a0 Z = true) (hd : decode bytes pc = .ok (.ldc2_w i, 3)) (hp : pc + 3 = pc') (k : Go p e below K (T.setTop (mkF m pc' L (.long v :: S)))) : Go p e below K (T.setTop (mkF m pc L S)) := by
  subst hp; exact k.of (X.X.ldc2Long X.hx X.own_ (mvT X.hZ w) (g := mkF m pc L S) rfl (X.d hd))
theorem g_getF (X : St Z n0 p l e R s m args below meth c own nm bytes ml ret T locs cells slots h) {R0 O n d host : String} {i : Nat} {a : Addr} {v : Value} (w : (Jvm.Cond.fieldLink own i R0 n d).before a0 Z = true ∨ (Jvm.Cond.fieldLinkNest own i R0 n d host).before a0 Z = true) (via : Via Z R0 O n d) (F : Fld Z h a O n d v) (hd : decode bytes pc = .ok (.getfield i, 3)) (hp : pc + 3 = pc') (k : ∀ T', St Z n0 p l e R s m args below meth c own nm bytes ml ret T' locs cells slots h → Go p e below K (T'.setTop (mkF m pc' L (v :: S)))) : Go p e below K (T.setTop (mkF m pc L (.ref a :: S))) := by
  obtain ⟨T', X', e', st'⟩ := getF X.X X.hx X.hZ X.own_ w via X.eT F (g := mkF m pc L (.ref a :: S)) rfl rfl (X.d hd)
  subst hp; exact (k T' (X.to X' e' X.fr X.old)).of st'
theorem g_getS (X : St Z n0 p l e R s m args below meth c own nm bytes ml ret T locs cells slots h) {O n d : String} {i : Nat} {v : Value} (w : (Jvm.Cond.fieldLink own i O n d).before a0 Z = true) (F : Sta Z h O n d v) (hd : decode bytes pc = .ok (.getstatic i, 3)) (hp : pc + 3 = pc') (k : ∀ T', St Z n0 p l e R s m args below meth c own nm bytes ml ret T' locs cells slots h → Go p e below K (T'.setTop (mkF m pc' L (v :: S)))) : Go p e below K (T.setTop (mkF m pc L S)) := by
  obtain ⟨T', X', e', st'⟩ := getS X.X X.hx X.hZ (host := "") X.own_ w Via.refl X.eT F (g := mkF m pc L S) rfl (X.d hd)
  subst hp; exact (k T' (X.to X' e' X.fr X.old)).of st'
theorem g_putF (X : St Z n0 p l e R s m args below meth c own nm bytes ml ret T locs cells slots h) {R0 O n d host C : String} {i kk : Nat} {ty : FieldType} {a : Addr} {v old : Value} (w : (Jvm.Cond.fieldLink own i R0 n d).before a0 Z = true ∨ (Jvm.Cond.fieldLinkNest own i R0 n d host).before a0 Z = true) (via : Via Z R0 O n d) (F : Fld Z h a O n d old) (E : Exa Z h a C)
    (La : (Jvm.Cond.lays C O n d).before a0 Z = true ∨ ((Jvm.Cond.laysFinal C O n d).before a0 Z = true ∧ own = O ∧ nm = "<init>")) (wi : (Jvm.Cond.instantiable C kk).before a0 Z = true) (hty : parseFieldDescriptor d = some ty) (hn : narrow ty v = v) (hf : fits ty v = true) (ga : n0 ≤ a) (hd : decode bytes pc = .ok (.putfield i, 3)) (hp : pc + 3 = pc') (k : ∀ T' h', St Z n0 p l e R s m args below meth c own nm bytes ml ret T' (locs ++ [⟨a, Jvm.RoadKit.slotOf Z O n d⟩]) cells slots h' → Wr h h' a (Jvm.RoadKit.slotOf Z O n d) v → Go p e below K (T'.setTop (mkF m pc' L S))) : Go p e below K (T.setTop (mkF m pc L (v :: .ref a :: S))) := by
  obtain ⟨T', h', X', e', W, st'⟩ := putF X.X X.hx X.hZ X.own_ w via X.eT F E (La.imp id fun q => ⟨q.1, q.2.1, X.nm_.trans q.2.2⟩) wi hty hn hf (g := mkF m pc L (v :: .ref a :: S)) rfl rfl (X.d hd)
  subst hp; exact (k T' h' (X.to X' e' (Fr.snoc X' X.fr ga) (X.old.wr W ga)) W).of st'
theorem g_putFN (X : St Z n0 p l e R s m args below meth c own nm bytes ml ret T locs cells slots h) {R0 O n d C : String} {i kk : Nat} {ty : FieldType} {a : Addr} {v v' old : Value} (w : (Jvm.Cond.fieldLink own i R0 n d).before a0 Z = true) (via : Via Z R0 O n d) (F : Fld Z h a O n d old) (E : Exa Z h a C)
    (La : (Jvm.Cond.lays C O n d).before a0 Z = true ∨ ((Jvm.Cond.laysFinal C O n d).before a0 Z = true ∧ own = O ∧ nm = "<init>")) (wi : (Jvm.Cond.instantiable C kk).before a0 Z = true) (hty : parseFieldDescriptor d = some ty) (hn : narrow ty v = v') (hf : fits ty v' = true) (ga : n0 ≤ a) (hd : decode bytes pc = .ok (.putfield i, 3)) (hp : pc + 3 = pc') (k : ∀ T' h', St Z n0 p l e R s m args below meth c own nm bytes ml ret T' (locs ++ [⟨a, Jvm.RoadKit.slotOf Z O n d⟩]) cells slots h' → Wr h h' a (Jvm.RoadKit.slotOf Z O n d) v' → Go p e below K (T'.setTop (mkF m pc' L S))) : Go p e below K (T.setTop (mkF m pc L (v :: .ref a :: S))) := by
  obtain ⟨T', h', X', e', W, st'⟩ := putFN X.X X.hx X.hZ X.own_ w via X.eT F E (La.imp id fun q => ⟨q.1, q.2.1, X.nm_.trans q.2.2⟩) wi hty hn hf (g := mkF m pc L (v :: .ref a :: S)) rfl rfl (X.d hd)
  subst hp; exact (k T' h' (X.to X' e' (Fr.snoc X' X.fr ga) (X.old.wr W ga)) W).of st'
theorem g_new (X : St Z n0 p l e R s m args below meth c own nm bytes ml ret T locs cells slots h) {C : String} {i n : Nat} (w : (Jvm.Cond.classLink own i C).before a0 Z = true) (wi : (Jvm.Cond.instantiable C n).before a0 Z = true) (wz : (Jvm.Cond.initialized C).before a0 Z = true) (hd : decode bytes pc = .ok (.new i, 3)) (hp : pc + 3 = pc') (hc : cells + 1 ≤ R.cells) (hl : slots + n ≤ R.slots)
    (k : ∀ T' h' a, St Z n0 p l e R s m args below meth c own nm bytes ml ret T' locs (cells + 1) (slots + n) h' → a = h.size → Ext h h' → Exa Z h' a C → (∀ {O nm d : String} {ty : FieldType}, Laid Z a0 C O nm d → parseFieldDescriptor d = some ty → Fld Z h' a O nm d (defaultValue ty)) → n0 ≤ a → Go p e below K (T'.setTop (mkF m pc' L (.ref a :: S)))) : Go p e below K (T.setTop (mkF m pc L S)) := by
  obtain ⟨T', h', X', e', E, A, D, -, st'⟩ := newO X.X X.hx X.hZ X.own_ w wi wz X.eT (g := mkF m pc L S) rfl (X.d hd) hc hl
  subst hp; exact (k T' h' _ (X.to X' e' X.fr (X.old.ext E)) rfl E A D X.sz).of st'
theorem g_initO (X : St Z n0 p l e R s m args below meth c own nm bytes ml ret T locs cells slots h) {i : Nat} {a : Addr} (w1 : (Jvm.Cond.methodLink own i Lib.objectInit).before a0 Z = true) (w2 : (Jvm.Cond.instanceMethod Lib.objectInit).before a0 Z = true) (w3 : (Jvm.Cond.code Lib.objectInit ⟨#[0xb1]⟩ 1 none).before a0 Z = true) (hL : L.size = ml) (hd : decode bytes pc = .ok (.invokespecial i, 3)) (hp : pc + 3 = pc') (hf : 1 ≤ R.frames) {W : Nat} (hW : (S.map fun v => v.category).sum = W) (hl : W + 12 ≤ R.locals) (k : ∀ T', St Z n0 p l e R s m args below meth c own nm bytes ml ret T' locs cells slots h → Go p e below K (T'.setTop (mkF m pc' L S))) : Go p e below K (T.setTop (mkF m pc L (.ref a :: S))) := by
  obtain ⟨T', X', e', st'⟩ := initO X.X X.hx X.hZ X.own_ w1 w2 w3 X.eT (g := mkF m pc L (.ref a :: S)) rfl (by rw [X.ml_]; exact hL) rfl (X.d hd) hf (W := W) (by show 2 * 0 + _ ≤ _; rw [hW, Nat.mul_zero, Nat.zero_add]; exact Nat.le_refl _) hl
  subst hp; exact (k T' (X.to X' e' X.fr X.old)).of st'
theorem g_castNull (X : St Z n0 p l e R s m args below meth c own nm bytes ml ret T locs cells slots h) {i : Nat} (hd : decode bytes pc = .ok (.checkcast i, 3)) (hp : pc + 3 = pc') (k : Go p e below K (T.setTop (mkF m pc' L (.null :: S)))) : Go p e below K (T.setTop (mkF m pc L (.null :: S))) := by
  subst hp; exact k.of (fun _ q => X.X.checkcastNull X.hx (g := mkF m pc L (.null :: S)) rfl rfl (X.d hd) _ q)
theorem g_instNull (X : St Z n0 p l e R s m args below meth c own nm bytes ml ret T locs cells slots h) {i : Nat} (hd : decode bytes pc = .ok (.instanceof i, 3)) (hp : pc + 3 = pc') (k : Go p e below K (T.setTop (mkF m pc' L (.int 0 :: S)))) : Go p e below K (T.setTop (mkF m pc L (.null :: S))) := by
  subst hp; exact k.of (fun _ q => X.X.instanceofNull X.hx (g := mkF m pc L (.null :: S)) rfl rfl (X.d hd) _ q)
theorem g_cast (X : St Z n0 p l e R s m args below meth c own nm bytes ml ret T locs cells slots h) {k0 : String} {i : Nat} {a : Addr} (w : (Jvm.Cond.classLink own i k0).before a0 Z = true) (F : Ins Z h a k0 true) (hd : decode bytes pc = .ok (.checkcast i, 3)) (hp : pc + 3 = pc') (k : ∀ T', St Z n0 p l e R s m args below meth c own nm bytes ml ret T' locs cells slots h → Go p e below K (T'.setTop (mkF m pc' L (.ref a :: S)))) : Go p e below K (T.setTop (mkF m pc L (.ref a :: S))) := by
  obtain ⟨T', X', e', st'⟩ := castY X.X X.hx X.hZ X.own_ w X.eT F (g := mkF m pc L (.ref a :: S)) rfl rfl (X.d hd)
  subst hp; exact (k T' (X.to X' e' X.fr X.old)).of st'
theorem g_inst (X : St Z n0 p l e R s m args below meth c own nm bytes ml ret T locs cells slots h) {k0 : String} {i : Nat} {a : Addr} (w : (Jvm.Cond.classLink own i k0).before a0 Z = true) (F : Ins Z h a k0 true) (hd : decode bytes pc = .ok (.instanceof i, 3)) (hp : pc + 3 = pc') (k : ∀ T', St Z n0 p l e R s m args below meth c own nm bytes ml ret T' locs cells slots h → Go p e below K (T'.setTop (mkF m pc' L (.int 1 :: S)))) : Go p e below K (T.setTop (mkF m pc L (.ref a :: S))) := by
  obtain ⟨T', X', e', st'⟩ := instY X.X X.hx X.hZ X.own_ w X.eT F (g := mkF m pc L (.ref a :: S)) rfl rfl (X.d hd)
  subst hp; exact (k T' (X.to X' e' X.fr X.old)).of st'
theorem g_instN (X : St Z n0 p l e R s m args below meth c own nm bytes ml ret T locs cells slots h) {k0 c0 : String} {i : Nat} {a : Addr} (w : (Jvm.Cond.classLink own i k0).before a0 Z = true) (F : Ins Z s.heap a k0 false) (E : Exa Z s.heap a c0) (hd : decode bytes pc = .ok (.instanceof i, 3)) (hp : pc + 3 = pc') (k : ∀ T', St Z n0 p l e R s m args below meth c own nm bytes ml ret T' locs cells slots h → Go p e below K (T'.setTop (mkF m pc' L (.int 0 :: S)))) : Go p e below K (T.setTop (mkF m pc L (.ref a :: S))) := by
  obtain ⟨T', X', e', st'⟩ := instN X.X X.hx X.hZ X.own_ w X.eT F E (g := mkF m pc L (.ref a :: S)) rfl rfl (X.d hd)
  subst hp; exact (k T' (X.to X' e' X.fr X.old)).of st'
/-- an array, by the list of what it holds -/
def Arx (Z : State) (h : Heap) (a : Addr) (ty : FieldType) (vs : List Value) : Prop := ∃ c : Cell, Arr Z h a c ty ∧ c.slots.toList = vs ∧ vs.length < 2 ^ 31
theorem Arx.keep {h' : Heap} {ws : List Addr} {a : Addr} {ty : FieldType} {vs : List Value} (A : Arx Z h a ty vs) (K : Keep h h' ws) (q : a ∉ ws) : Arx Z h' a ty vs := by obtain ⟨c, A, r⟩ := A; exact ⟨c, ⟨K.2.1 a c A.1 q, A.2⟩, r⟩
theorem Arx.ext {h' : Heap} {a : Addr} {ty : FieldType} {vs : List Value} (A : Arx Z h a ty vs) (E : Ext h h') : Arx Z h' a ty vs := by obtain ⟨c, A, r⟩ := A; exact ⟨c, A.ext E, r⟩
theorem Arx.other {h' : Heap} {a b : Addr} {sl : Nat} {v : Value} {ty : FieldType} {vs : List Value} (A : Arx Z h b ty vs) (W : Wr h h' a sl v) (q : b ≠ a) : Arx Z h' b ty vs := by obtain ⟨c, A, r⟩ := A; exact ⟨c, A.other W q, r⟩
theorem Arx.lt {a : Addr} {ty : FieldType} {vs : List Value} (A : Arx Z h a ty vs) : a < h.size := by obtain ⟨c, A, r⟩ := A; exact A.lt
theorem Arx.le {a : Addr} {ty : FieldType} {vs : List Value} (A : Arx Z h a ty vs) : vs.length < 2 ^ 31 := by obtain ⟨c, A, r, q⟩ := A; exact q
theorem arx_in {cl : Cell} {vs : List Value} (q : cl.slots.toList = vs) {j : Int32} {i : Nat} (hj : j.toInt = (i : Int)) (hi : i < vs.length) : ¬ (j < 0 ∨ cl.slots.size ≤ j.toNatClampNeg) ∧ j.toNatClampNeg = i := by
  have e1 : j.toNatClampNeg = i := by simp only [Int32.toNatClampNeg, hj]; omega
  have e2 : cl.slots.size = vs.length := by rw [← q]; simp
  refine ⟨?_, e1⟩
  rw [e1, e2, Int32.lt_iff_toInt_lt, hj]
  have : (0 : Int32).toInt = 0 := rfl
  omega
theorem arx_at {cl : Cell} {vs : List Value} (q : cl.slots.toList = vs) {i : Nat} {v : Value} (hv : vs[i]? = some v) : cl.slots[i]? = some v := by rw [← q] at hv; simpa using hv
theorem arx_arv {a : Addr} {ty : FieldType} {vs : List Value} {n : Int32} {d : Value} (A : Arx Z h a ty vs) (hn : n.toInt = (vs.length : Int)) (hf : ∀ v ∈ vs, fits ty v = true) : ∃ k, Arv Z h a k ty n vs d := by
  obtain ⟨c, A, q, hl⟩ := A
  have e1 : n.toNatClampNeg = vs.length := by simp only [Int32.toNatClampNeg, hn]; omega
  have e2 : c.slots.size = vs.length := by rw [← q]; simp
  have e3 : ∀ i, i < c.slots.size → vs[i]? = some (vs.getD i d) := fun i hi => by rw [e2] at hi; simp [List.getD_eq_getElem?_getD, hi]
  refine ⟨c.cls, c, A, rfl, e2.trans e1.symm, ?_, fun i hi => ?_, fun i hi => hf _ (List.mem_of_getElem? (e3 i hi))⟩
  · rw [Int32.lt_iff_toInt_lt, hn]; have : (0 : Int32).toInt = 0 := rfl
    omega
  · have := e3 i hi
    rw [← q] at this; rw [← q]; simpa using this
theorem arv_arx {a : Addr} {k : ClassId} {ty : FieldType} {vs : List Value} {n : Int32} {d : Value} (A : Arv Z h a k ty n vs d) (hn : n.toInt = (vs.length : Int)) : Arx Z h a ty vs := by
  obtain ⟨c, A, -, e2, -, H, -⟩ := A
  have e1 : n.toNatClampNeg = vs.length := by simp only [Int32.toNatClampNeg, hn]; omega
  refine ⟨c, A, ?_, by have := n.toInt_lt; omega⟩
  apply List.ext_getElem?
  intro i
  by_cases hi : i < c.slots.size
  · have h1 := H i hi
    rw [e2, e1] at hi
    rw [Array.getElem?_toList, h1]; simp [List.getD_eq_getElem?_getD, hi]
  · rw [List.getElem?_eq_none (by simpa using hi), List.getElem?_eq_none (by rw [← e1, ← e2]; omega)]
theorem arx_new (k : ClassId) (ty : FieldType) (n : Int32) : (newA k ty n).slots.toList = List.replicate n.toNatClampNeg (defaultValue ty) := by simp [newA]
theorem g_iaload (X : St Z n0 p l e R s m args below meth c own nm bytes ml ret T locs cells slots h) {a : Addr} {j : Int32} {i : Nat} {v : Value} {vs : List Value} (A : Arx Z h a .int vs) (hj : j.toInt = (i : Int)) (hv : vs[i]? = some v) (hd : decode bytes pc = .ok (.iaload, 1)) (hp : pc + 1 = pc') (k : Go p e below K (T.setTop (mkF m pc' L (v :: S)))) : Go p e below K (T.setTop (mkF m pc L (.int j :: .ref a :: S))) := by
  obtain ⟨cl, A, q, -⟩ := A
  obtain ⟨hin, hi⟩ := arx_in q hj (List.getElem?_eq_some_iff.mp hv).1
  subst hp; exact k.of (fun _ z => X.X.iaload X.hx (by rw [X.eT]; exact A.1) (State.isArrayOf_alike X.hZ.alike A.2.1) A.2.2 hin (by rw [hi]; exact arx_at q hv) (g := mkF m pc L (.int j :: .ref a :: S)) rfl rfl (X.d hd) _ z)
theorem g_laload (X : St Z n0 p l e R s m args below meth c own nm bytes ml ret T locs cells slots h) {a : Addr} {j : Int32} {i : Nat} {v : Value} {vs : List Value} (A : Arx Z h a .long vs) (hj : j.toInt = (i : Int)) (hv : vs[i]? = some v) (hd : decode bytes pc = .ok (.laload, 1)) (hp : pc + 1 = pc') (k : Go p e below K (T.setTop (mkF m pc' L (v :: S)))) : Go p e below K (T.setTop (mkF m pc L (.int j :: .ref a :: S))) := by
  obtain ⟨cl, A, q, -⟩ := A
  obtain ⟨hin, hi⟩ := arx_in q hj (List.getElem?_eq_some_iff.mp hv).1
  subst hp; exact k.of (fun _ z => X.X.laload X.hx (by rw [X.eT]; exact A.1) (State.isArrayOf_alike X.hZ.alike A.2.1) A.2.2 hin (by rw [hi]; exact arx_at q hv) (g := mkF m pc L (.int j :: .ref a :: S)) rfl rfl (X.d hd) _ z)
theorem g_caload (X : St Z n0 p l e R s m args below meth c own nm bytes ml ret T locs cells slots h) {a : Addr} {j : Int32} {i : Nat} {v : Value} {vs : List Value} (A : Arx Z h a .char vs) (hj : j.toInt = (i : Int)) (hv : vs[i]? = some v) (hd : decode bytes pc = .ok (.caload, 1)) (hp : pc + 1 = pc') (k : Go p e below K (T.setTop (mkF m pc' L (v :: S)))) : Go p e below K (T.setTop (mkF m pc L (.int j :: .ref a :: S))) := by
  obtain ⟨cl, A, q, -⟩ := A
  obtain ⟨hin, hi⟩ := arx_in q hj (List.getElem?_eq_some_iff.mp hv).1
  subst hp; exact k.of (fun _ z => X.X.caload X.hx (by rw [X.eT]; exact A.1) (State.isArrayOf_alike X.hZ.alike A.2.1) A.2.2 hin (by rw [hi]; exact arx_at q hv) (g := mkF m pc L (.int j :: .ref a :: S)) rfl rfl (X.d hd) _ z)
theorem g_baload (X : St Z n0 p l e R s m args below meth c own nm bytes ml ret T locs cells slots h) {a : Addr} {j : Int32} {i : Nat} {v : Value} {vs : List Value} (A : Arx Z h a .byte vs) (hj : j.toInt = (i : Int)) (hv : vs[i]? = some v) (hd : decode bytes pc = .ok (.baload, 1)) (hp : pc + 1 = pc') (k : Go p e below K (T.setTop (mkF m pc' L (v :: S)))) : Go p e below K (T.setTop (mkF m pc L (.int j :: .ref a :: S))) := by
  obtain ⟨cl, A, q, -⟩ := A
  obtain ⟨hin, hi⟩ := arx_in q hj (List.getElem?_eq_some_iff.mp hv).1
  subst hp; exact k.of (fun _ z => X.X.baloadBytes X.hx (by rw [X.eT]; exact A.1) (State.isArrayOf_alike X.hZ.alike A.2.1) A.2.2 hin (by rw [hi]; exact arx_at q hv) (g := mkF m pc L (.int j :: .ref a :: S)) rfl rfl (X.d hd) _ z)
theorem g_aaload (X : St Z n0 p l e R s m args below meth c own nm bytes ml ret T locs cells slots h) {a : Addr} {j : Int32} {i : Nat} {v : Value} {ty : FieldType} {vs : List Value} (A : Arx Z h a ty vs) (hty : ty.isReference = true) (hj : j.toInt = (i : Int)) (hv : vs[i]? = some v) (hd : decode bytes pc = .ok (.aaload, 1)) (hp : pc + 1 = pc') (k : Go p e below K (T.setTop (mkF m pc' L (v :: S)))) : Go p e below K (T.setTop (mkF m pc L (.int j :: .ref a :: S))) := by
  obtain ⟨cl, A, q, -⟩ := A
  obtain ⟨hin, hi⟩ := arx_in q hj (List.getElem?_eq_some_iff.mp hv).1
  subst hp; exact k.of (fun _ z => X.X.aaload X.hx (by rw [X.eT]; exact A.1) (State.isArrayOf_alike X.hZ.alike A.2.1) hty A.2.2 hin (by rw [hi]; exact arx_at q hv) (g := mkF m pc L (.int j :: .ref a :: S)) rfl rfl (X.d hd) _ z)
theorem g_arraylength (X : St Z n0 p l e R s m args below meth c own nm bytes ml ret T locs cells slots h) {a : Addr} {ty : FieldType} {vs : List Value} {n : Int32} (A : Arx Z h a ty vs) (hn : vs.length.toInt32 = n) (hd : decode bytes pc = .ok (.arraylength, 1)) (hp : pc + 1 = pc') (k : Go p e below K (T.setTop (mkF m pc' L (.int n :: S)))) : Go p e below K (T.setTop (mkF m pc L (.ref a :: S))) := by
  obtain ⟨cl, A, q, -⟩ := A
  have e2 : cl.slots.size.toInt32 = n := by rw [← hn, ← q]; simp
  subst hp; exact k.of (fun _ z => X.X.arraylength X.hx (by rw [X.eT]; exact A.1) (State.isArrayOf_alike X.hZ.alike A.2.1) (g := mkF m pc L (.ref a :: S)) rfl rfl (X.d hd) _ (by rw [e2]; exact z))
theorem g_iastore (X : St Z n0 p l e R s m args below meth c own nm bytes ml ret T locs cells slots h) {a : Addr} {j : Int32} {i : Nat} {x : Int32} {vs : List Value} (A : Arx Z h a .int vs) (hj : j.toInt = (i : Int)) (hi : i < vs.length) (ga : n0 ≤ a) (hd : decode bytes pc = .ok (.iastore, 1)) (hp : pc + 1 = pc') (k : ∀ T' h', St Z n0 p l e R s m args below meth c own nm bytes ml ret T' (locs ++ [⟨a, i⟩]) cells slots h' → Wr h h' a i (.int x) → Arx Z h' a .int (vs.set i (.int x)) → Go p e below K (T'.setTop (mkF m pc' L S))) : Go p e below K (T.setTop (mkF m pc L (.int x :: .int j :: .ref a :: S))) := by
  obtain ⟨cl, A, q, hl⟩ := A
  obtain ⟨hin, hn⟩ := arx_in q hj hi
  obtain ⟨T', h', X', e', W, st'⟩ := stI X.X X.hx X.hZ X.eT A hin (g := mkF m pc L (.int x :: .int j :: .ref a :: S)) rfl rfl (X.d hd)
  rw [hn] at W X'
  subst hp; exact (k T' h' (X.to X' e' (Fr.snoc X' X.fr ga) (X.old.wr W ga)) W ⟨_, A.same W, by rw [← q]; simp [Cell.setSlot], by simpa using hl⟩).of st'
theorem g_lastore (X : St Z n0 p l e R s m args below meth c own nm bytes ml ret T locs cells slots h) {a : Addr} {j : Int32} {i : Nat} {x : Int64} {vs : List Value} (A : Arx Z h a .long vs) (hj : j.toInt = (i : Int)) (hi : i < vs.length) (ga : n0 ≤ a) (hd : decode bytes pc = .ok (.lastore, 1)) (hp : pc + 1 = pc') (k : ∀ T' h', St Z n0 p l e R s m args below meth c own nm bytes ml ret T' (locs ++ [⟨a, i⟩]) cells slots h' → Wr h h' a i (.long x) → Arx Z h' a .long (vs.set i (.long x)) → Go p e below K (T'.setTop (mkF m pc' L S))) : Go p e below K (T.setTop (mkF m pc L (.long x :: .int j :: .ref a :: S))) := by
  obtain ⟨cl, A, q, hl⟩ := A
  obtain ⟨hin, hn⟩ := arx_in q hj hi
  obtain ⟨T', h', X', e', W, st'⟩ := stJ X.X X.hx X.hZ X.eT A hin (g := mkF m pc L (.long x :: .int j :: .ref a :: S)) rfl rfl (X.d hd)
  rw [hn] at W X'
  subst hp; exact (k T' h' (X.to X' e' (Fr.snoc X' X.fr ga) (X.old.wr W ga)) W ⟨_, A.same W, by rw [← q]; simp [Cell.setSlot], by simpa using hl⟩).of st'
theorem g_castore (X : St Z n0 p l e R s m args below meth c own nm bytes ml ret T locs cells slots h) {a : Addr} {j : Int32} {i : Nat} {x : Int32} {vs : List Value} (A : Arx Z h a .char vs) (hj : j.toInt = (i : Int)) (hi : i < vs.length) (ga : n0 ≤ a) (hd : decode bytes pc = .ok (.castore, 1)) (hp : pc + 1 = pc') (k : ∀ T' h', St Z n0 p l e R s m args below meth c own nm bytes ml ret T' (locs ++ [⟨a, i⟩]) cells slots h' → Wr h h' a i (.int (nar .char x)) → Arx Z h' a .char (vs.set i (.int (nar .char x))) → Go p e below K (T'.setTop (mkF m pc' L S))) : Go p e below K (T.setTop (mkF m pc L (.int x :: .int j :: .ref a :: S))) := by
  obtain ⟨cl, A, q, hl⟩ := A
  obtain ⟨hin, hn⟩ := arx_in q hj hi
  obtain ⟨T', h', X', e', W, st'⟩ := stC X.X X.hx X.hZ X.eT A hin (g := mkF m pc L (.int x :: .int j :: .ref a :: S)) rfl rfl (X.d hd)
  rw [hn] at W X'
  subst hp; exact (k T' h' (X.to X' e' (Fr.snoc X' X.fr ga) (X.old.wr W ga)) W ⟨_, A.same W, by rw [← q]; simp [Cell.setSlot], by simpa using hl⟩).of st'
theorem g_bastore (X : St Z n0 p l e R s m args below meth c own nm bytes ml ret T locs cells slots h) {a : Addr} {j : Int32} {i : Nat} {x : Int32} {vs : List Value} (A : Arx Z h a .byte vs) (hj : j.toInt = (i : Int)) (hi : i < vs.length) (ga : n0 ≤ a) (hd : decode bytes pc = .ok (.bastore, 1)) (hp : pc + 1 = pc') (k : ∀ T' h', St Z n0 p l e R s m args below meth c own nm bytes ml ret T' (locs ++ [⟨a, i⟩]) cells slots h' → Wr h h' a i (.int (nar .byte x)) → Arx Z h' a .byte (vs.set i (.int (nar .byte x))) → Go p e below K (T'.setTop (mkF m pc' L S))) : Go p e below K (T.setTop (mkF m pc L (.int x :: .int j :: .ref a :: S))) := by
  obtain ⟨cl, A, q, hl⟩ := A
  obtain ⟨hin, hn⟩ := arx_in q hj hi
  obtain ⟨T', h', X', e', W, st'⟩ := stB X.X X.hx X.hZ X.eT A hin (g := mkF m pc L (.int x :: .int j :: .ref a :: S)) rfl rfl (X.d hd)
  rw [hn] at W X'
  subst hp; exact (k T' h' (X.to X' e' (Fr.snoc X' X.fr ga) (X.old.wr W ga)) W ⟨_, A.same W, by rw [← q]; simp [Cell.setSlot], by simpa using hl⟩).of st'
theorem g_newarray (X : St Z n0 p l e R s m args below meth c own nm bytes ml ret T locs cells slots h) {aty : ArrayType} {n : Int32} {cap : Nat} {vs : List Value} (w : (Jvm.Cond.arrayClass (newarray.typeOf aty)).before a0 Z = true) (hn : ¬ n < 0) (hcap : n.toNatClampNeg ≤ cap) (hvs : List.replicate n.toNatClampNeg (defaultValue (newarray.typeOf aty)) = vs) (hb : cap * 8 ≤ 536870912) (hd : decode bytes pc = .ok (.newarray aty, 2)) (hp : pc + 2 = pc') (hc : cells + 1 ≤ R.cells) (hl : slots + cap ≤ R.slots)
    (k : ∀ T' h' a, St Z n0 p l e R s m args below meth c own nm bytes ml ret T' locs (cells + 1) (slots + cap) h' → a = h.size → Ext h h' → Arx Z h' a (newarray.typeOf aty) vs → n0 ≤ a → Go p e below K (T'.setTop (mkF m pc' L (.ref a :: S)))) : Go p e below K (T.setTop (mkF m pc L (.int n :: S))) := by
  obtain ⟨T', h', cA, X', e', E, A, st'⟩ := newP X.X X.hx X.hZ w X.eT (g := mkF m pc L (.int n :: S)) rfl (X.d hd) rfl hn hcap hb hc hl
  subst hp; exact (k T' h' _ (X.to X' e' X.fr (X.old.ext E)) rfl E ⟨_, A, (arx_new _ _ _).trans hvs, by rw [← hvs, List.length_replicate]; omega⟩ X.sz).of st'
theorem g_callSB (X : St Z n0 p l e R s m args below meth c own nm bytes ml ret T locs cells slots h) {i : Nat} {y : MethodName} {b' : ByteArray} {ml' : Nat} {ret' : Option FieldType} {cc ss : Nat} {Q : Option Value → Heap → List Loc → Prop} {ps : List FieldType} {r : Option FieldType} {W : Nat} {S0 rest : List Value} (argsL : List Value) (w1 : (Jvm.Cond.methodLink own i y).before a0 Z = true) (w2 : (Jvm.Cond.static y).before a0 Z = true) (w0 : (Jvm.Cond.initialized y.cls).before a0 Z = true) (w4 : (Jvm.Cond.code y b' ml' ret').before a0 Z = true) (Bk : Back l R p e below s args y 3 W (fun A a' => a' = argsL.toArray ∧ A.U.heap = h ∧ A.cells + cc ≤ R.cells ∧ A.slots + ss ≤ R.slots) (fun A _ v B => ∃ L, Q v B.U.heap L ∧ B.locs = A.locs ++ L ∧ B.cells = A.cells + cc ∧ B.slots = A.slots + ss)) (hy : y.cls ≠ "java/lang/invoke/MethodHandle" ∧ y.cls ≠ "java/lang/invoke/VarHandle") (hc : cells + cc ≤ R.cells) (hs : slots + ss ≤ R.slots) (hL : L.size = ml) (hps : parseMethodDescriptor y.desc = some ⟨ps, r⟩) (hlen : argsL.length = ps.length) (hS : S0 = argsL.reverse ++ rest) (hW : (rest.map fun v => v.category).sum = W) (hd : decode bytes pc = .ok (.invokestatic i, 3)) (hp : pc + 3 = pc') (k : ∀ v T' h' L'', (Old Z n0 h' → Fr n0 L'' → St Z n0 p l e R s m args below meth c own nm bytes ml ret T' (locs ++ L'') (cells + cc) (slots + ss) h') → Q v h' L'' → Go p e below K (T'.setTop (mkF m pc' L (v.toList ++ rest)))) : Go p e below K (T.setTop (mkF m pc L S0)) := by
  subst hS hp
  obtain ⟨v, _, ⟨T', L'', k', n'⟩, -, X', ⟨Lc, hQ, l', y', z'⟩, st'⟩ := Jvm.LawKit.callS X.X X.hx (y := y) X.own_ (mvT X.hZ w1) (mvT X.hZ w2) (mvT X.hZ w0) (mvT X.hZ w4) hy Bk (g := mkF m pc L (argsL.reverse ++ rest)) rfl (by rw [X.ml_]; exact hL) (argsL := argsL) (rest := rest) (lenOf hps hlen) rfl (by show 2 * 0 + _ ≤ _; rw [hW, Nat.mul_zero, Nat.zero_add]; exact Nat.le_refl _) (X.d hd) (fun _ _ => ⟨rfl, X.eT, hc, hs⟩)
  dsimp only [Pt.U, Pt.locs, Pt.cells, Pt.slots] at X' l' y' z' st' hQ
  subst l' y' z'
  exact (k v T' T'.heap Lc (fun hz hF => ⟨X', X.2.1, rfl, X.fr.app hF, hz⟩) hQ).of st'
theorem g_callS (X : St Z n0 p l e R s m args below meth c own nm bytes ml ret T locs cells slots h) {i : Nat} {y : MethodName} {b' : ByteArray} {ml' : Nat} {ret' : Option FieldType} {rm : Room} {Q : Option Value → Heap → List Loc → Prop} {ps : List FieldType} {r : Option FieldType} {W : Nat} {S0 rest : List Value} (argsL : List Value) (w1 : (Jvm.Cond.methodLink own i y).before a0 Z = true) (w2 : (Jvm.Cond.static y).before a0 Z = true) (w0 : (Jvm.Cond.initialized y.cls).before a0 Z = true) (w4 : (Jvm.Cond.code y b' ml' ret').before a0 Z = true) (w3 : (Jvm.Cond.initialized y.cls).before a0 Z = true) (C : Con l Z y b' ml' ret' [] rm rm.cells rm.slots argsL.toArray h Q) (hy : y.cls ≠ "java/lang/invoke/MethodHandle" ∧ y.cls ≠ "java/lang/invoke/VarHandle") (hf : rm.frames + 1 ≤ R.frames) (hl : W + (ml' + 11) + rm.locals ≤ R.locals) (hc : cells + rm.cells ≤ R.cells) (hs : slots + rm.slots ≤ R.slots) (hL : L.size = ml) (hps : parseMethodDescriptor y.desc = some ⟨ps, r⟩) (hlen : argsL.length = ps.length) (hS : S0 = argsL.reverse ++ rest) (hW : (rest.map fun v => v.category).sum = W) (hd : decode bytes pc = .ok (.invokestatic i, 3)) (hp : pc + 3 = pc') (k : ∀ v T' h' L'', (Old Z n0 h' → Fr n0 L'' → St Z n0 p l e R s m args below meth c own nm bytes ml ret T' (locs ++ L'') (cells + rm.cells) (slots + rm.slots) h') → Q v h' L'' → Go p e below K (T'.setTop (mkF m pc' L (v.toList ++ rest)))) : Go p e below K (T.setTop (mkF m pc L S0)) :=
  g_callSB X argsL w1 w2 w0 w4 (backOf (W := W) C X.hZ w4 w3 hf hl) hy hc hs hL hps hlen hS hW hd hp k
theorem g_callIB (X : St Z n0 p l e R s m args below meth c own nm bytes ml ret T locs cells slots h) {i : Nat} {y : MethodName} {b' : ByteArray} {ml' : Nat} {ret' : Option FieldType} {cc ss : Nat} {Q : Option Value → Heap → List Loc → Prop} {ps : List FieldType} {r : Option FieldType} {W : Nat} {S0 rest : List Value} (argsL : List Value) {a : Addr} (hinit : y.name = "<init>") (w1 : (Jvm.Cond.methodLink own i y).before a0 Z = true) (w2 : (Jvm.Cond.instanceMethod y).before a0 Z = true) (hr : ret' = none) (w4 : (Jvm.Cond.code y b' ml' ret').before a0 Z = true) (Bk : Back l R p e below s args y 3 W (fun A a' => a' = (.ref a :: argsL).toArray ∧ A.U.heap = h ∧ A.cells + cc ≤ R.cells ∧ A.slots + ss ≤ R.slots) (fun A _ v B => ∃ L, Q v B.U.heap L ∧ B.locs = A.locs ++ L ∧ B.cells = A.cells + cc ∧ B.slots = A.slots + ss)) (hy : y.cls ≠ "java/lang/invoke/MethodHandle" ∧ y.cls ≠ "java/lang/invoke/VarHandle") (hc : cells + cc ≤ R.cells) (hs : slots + ss ≤ R.slots) (hL : L.size = ml) (hps : parseMethodDescriptor y.desc = some ⟨ps, r⟩) (hlen : argsL.length = ps.length) (hS : S0 = argsL.reverse ++ .ref a :: rest) (hW : (rest.map fun v => v.category).sum = W) (hd : decode bytes pc = .ok (.invokespecial i, 3)) (hp : pc + 3 = pc') (k : ∀ v T' h' L'', (Old Z n0 h' → Fr n0 L'' → St Z n0 p l e R s m args below meth c own nm bytes ml ret T' (locs ++ L'') (cells + cc) (slots + ss) h') → Q v h' L'' → Go p e below K (T'.setTop (mkF m pc' L (v.toList ++ rest)))) : Go p e below K (T.setTop (mkF m pc L S0)) := by
  subst hS hp
  subst hr
  obtain ⟨v, _, ⟨T', L'', k', n'⟩, -, X', ⟨Lc, hQ, l', y', z'⟩, st'⟩ := X.X.specialBack X.hx (y := y) hinit X.own_ (mvT X.hZ w1) (mvT X.hZ w2) (mvT X.hZ w4) hy Bk (g := mkF m pc L (argsL.reverse ++ .ref a :: rest)) rfl (by rw [X.ml_]; exact hL) (Steps.refl _) (a := a) (argsL := argsL) (rest := rest) (lenOf hps hlen) rfl (by show 2 * 0 + _ ≤ _; rw [hW, Nat.mul_zero, Nat.zero_add]; exact Nat.le_refl _) (X.d hd) (fun _ _ => ⟨rfl, X.eT, hc, hs⟩)
  dsimp only [Pt.U, Pt.locs, Pt.cells, Pt.slots] at X' l' y' z' st' hQ
  subst l' y' z'
  exact (k v T' T'.heap Lc (fun hz hF => ⟨X', X.2.1, rfl, X.fr.app hF, hz⟩) hQ).of (fun _ q => st'.trans q)
theorem g_callI (X : St Z n0 p l e R s m args below meth c own nm bytes ml ret T locs cells slots h) {i : Nat} {y : MethodName} {b' : ByteArray} {ml' : Nat} {ret' : Option FieldType} {rm : Room} {Q : Option Value → Heap → List Loc → Prop} {ps : List FieldType} {r : Option FieldType} {W : Nat} {S0 rest : List Value} (argsL : List Value) {a : Addr} (hinit : y.name = "<init>") (w1 : (Jvm.Cond.methodLink own i y).before a0 Z = true) (w2 : (Jvm.Cond.instanceMethod y).before a0 Z = true) (hr : ret' = none) (w4 : (Jvm.Cond.code y b' ml' ret').before a0 Z = true) (w3 : (Jvm.Cond.initialized y.cls).before a0 Z = true) (C : Con l Z y b' ml' ret' [] rm rm.cells rm.slots (.ref a :: argsL).toArray h Q) (hy : y.cls ≠ "java/lang/invoke/MethodHandle" ∧ y.cls ≠ "java/lang/invoke/VarHandle") (hf : rm.frames + 1 ≤ R.frames) (hl : W + (ml' + 11) + rm.locals ≤ R.locals) (hc : cells + rm.cells ≤ R.cells) (hs : slots + rm.slots ≤ R.slots) (hL : L.size = ml) (hps : parseMethodDescriptor y.desc = some ⟨ps, r⟩) (hlen : argsL.length = ps.length) (hS : S0 = argsL.reverse ++ .ref a :: rest) (hW : (rest.map fun v => v.category).sum = W) (hd : decode bytes pc = .ok (.invokespecial i, 3)) (hp : pc + 3 = pc') (k : ∀ v T' h' L'', (Old Z n0 h' → Fr n0 L'' → St Z n0 p l e R s m args below meth c own nm bytes ml ret T' (locs ++ L'') (cells + rm.cells) (slots + rm.slots) h') → Q v h' L'' → Go p e below K (T'.setTop (mkF m pc' L (v.toList ++ rest)))) : Go p e below K (T.setTop (mkF m pc L S0)) :=
  g_callIB X argsL hinit w1 w2 hr w4 (backOf (W := W) C X.hZ w4 w3 hf hl) hy hc hs hL hps hlen hS hW hd hp k
theorem g_callVB (X : St Z n0 p l e R s m args below meth c own nm bytes ml ret T locs cells slots h) {i : Nat} {y : MethodName} {b' : ByteArray} {ml' : Nat} {ret' : Option FieldType} {cc ss : Nat} {Q : Option Value → Heap → List Loc → Prop} {ps : List FieldType} {r : Option FieldType} {W : Nat} {S0 rest : List Value} (argsL : List Value) {C0 : String} {z : MethodName} {a : Addr} (w1 : (Jvm.Cond.methodLink own i y).before a0 Z = true) (w2 : (Jvm.Cond.declares y).before a0 Z = true) (nf : NotFace s y) (w5 : (Jvm.Cond.selects C0 y z).before a0 Z = true) (w6 : (Jvm.Cond.instanceMethod z).before a0 Z = true) (E : Exa Z h a C0) (w4 : (Jvm.Cond.code z b' ml' ret').before a0 Z = true) (Bk : Back l R p e below s args z 3 W (fun A a' => a' = (.ref a :: argsL).toArray ∧ A.U.heap = h ∧ A.cells + cc ≤ R.cells ∧ A.slots + ss ≤ R.slots) (fun A _ v B => ∃ L, Q v B.U.heap L ∧ B.locs = A.locs ++ L ∧ B.cells = A.cells + cc ∧ B.slots = A.slots + ss)) (hy : y.cls ≠ "java/lang/invoke/MethodHandle" ∧ y.cls ≠ "java/lang/invoke/VarHandle") (hc : cells + cc ≤ R.cells) (hs : slots + ss ≤ R.slots) (hL : L.size = ml) (hps : parseMethodDescriptor y.desc = some ⟨ps, r⟩) (hlen : argsL.length = ps.length) (hS : S0 = argsL.reverse ++ .ref a :: rest) (hW : (rest.map fun v => v.category).sum = W) (hd : decode bytes pc = .ok (.invokevirtual i, 3)) (hp : pc + 3 = pc') (k : ∀ v T' h' L'', (Old Z n0 h' → Fr n0 L'' → St Z n0 p l e R s m args below meth c own nm bytes ml ret T' (locs ++ L'') (cells + cc) (slots + ss) h') → Q v h' L'' → Go p e below K (T'.setTop (mkF m pc' L (v.toList ++ rest)))) : Go p e below K (T.setTop (mkF m pc L S0)) := by
  subst hS hp
  obtain ⟨cq, kq, q1, q2, q3⟩ := isOf X.hZ X.eT E
  obtain ⟨v, _, ⟨T', L'', k', n'⟩, -, X', ⟨Lc, hQ, l', y', z'⟩, st'⟩ := X.X.virtualBack X.hx (y := y) (z := z) X.own_ (mvT X.hZ w1) (mvT X.hZ w2) nf (mvT X.hZ w5) (mvT X.hZ w6) hy Bk q1 q3 (g := mkF m pc L (argsL.reverse ++ .ref a :: rest)) rfl (by rw [X.ml_]; exact hL) (Steps.refl _) (argsL := argsL) (rest := rest) (lenOf hps hlen) rfl (by show 2 * 0 + _ ≤ _; rw [hW, Nat.mul_zero, Nat.zero_add]; exact Nat.le_refl _) (X.d hd) (fun _ _ => ⟨rfl, X.eT, hc, hs⟩)
  dsimp only [Pt.U, Pt.locs, Pt.cells, Pt.slots] at X' l' y' z' st' hQ
  subst l' y' z'
  exact (k v T' T'.heap Lc (fun hz hF => ⟨X', X.2.1, rfl, X.fr.app hF, hz⟩) hQ).of (fun _ q => st'.trans q)
theorem g_callV (X : St Z n0 p l e R s m args below meth c own nm bytes ml ret T locs cells slots h) {i : Nat} {y : MethodName} {b' : ByteArray} {ml' : Nat} {ret' : Option FieldType} {rm : Room} {Q : Option Value → Heap → List Loc → Prop} {ps : List FieldType} {r : Option FieldType} {W : Nat} {S0 rest : List Value} (argsL : List Value) {C0 : String} {z : MethodName} {a : Addr} (w1 : (Jvm.Cond.methodLink own i y).before a0 Z = true) (w2 : (Jvm.Cond.declares y).before a0 Z = true) (nf : NotFace s y) (w5 : (Jvm.Cond.selects C0 y z).before a0 Z = true) (w6 : (Jvm.Cond.instanceMethod z).before a0 Z = true) (E : Exa Z h a C0) (w4 : (Jvm.Cond.code z b' ml' ret').before a0 Z = true) (w3 : (Jvm.Cond.initialized z.cls).before a0 Z = true) (C : Con l Z z b' ml' ret' [] rm rm.cells rm.slots (.ref a :: argsL).toArray h Q) (hy : y.cls ≠ "java/lang/invoke/MethodHandle" ∧ y.cls ≠ "java/lang/invoke/VarHandle") (hf : rm.frames + 1 ≤ R.frames) (hl : W + (ml' + 11) + rm.locals ≤ R.locals) (hc : cells + rm.cells ≤ R.cells) (hs : slots + rm.slots ≤ R.slots) (hL : L.size = ml) (hps : parseMethodDescriptor y.desc = some ⟨ps, r⟩) (hlen : argsL.length = ps.length) (hS : S0 = argsL.reverse ++ .ref a :: rest) (hW : (rest.map fun v => v.category).sum = W) (hd : decode bytes pc = .ok (.invokevirtual i, 3)) (hp : pc + 3 = pc') (k : ∀ v T' h' L'', (Old Z n0 h' → Fr n0 L'' → St Z n0 p l e R s m args below meth c own nm bytes ml ret T' (locs ++ L'') (cells + rm.cells) (slots + rm.slots) h') → Q v h' L'' → Go p e below K (T'.setTop (mkF m pc' L (v.toList ++ rest)))) : Go p e below K (T.setTop (mkF m pc L S0)) :=
  g_callVB X argsL w1 w2 nf w5 w6 E w4 (backOf (W := W) C X.hZ w4 w3 hf hl) hy hc hs hL hps hlen hS hW hd hp k
theorem g_retI (X : St Z n0 p l e R s m args below meth c own nm bytes ml ret T locs cells slots h) {C N : Nat} {Q : Option Value → Heap → List Loc → Prop} {z : Int32} (hr : ret = some .int) (hd : decode bytes pc = .ok (.ireturn, 1)) (hc : cells ≤ C) (hs : slots ≤ N) (q : Q (some (.int z)) h locs) : Go p e below (Kq s C N Q) (T.setTop (mkF m pc L (.int z :: S))) := by
  obtain ⟨fs, hl, hrun, hended, hW, hsame⟩ := X.X.leave (v := (some (.int z))) (fun h => by rw [X.ret_, hr] at h; cases h) X.lk
  exact ⟨_, _, retOut X.X X.hx (t := .int) (X.ret_.trans hr) rfl (Or.inl ⟨rfl, Or.inl rfl, _, rfl⟩) (X.d hd) hl, hrun, hended, _, _, rfl, (show Q _ T.heap _ by rw [X.eT]; exact q), ⟨_, rfl⟩, hW, hsame.mono hc hs⟩
theorem g_retL (X : St Z n0 p l e R s m args below meth c own nm bytes ml ret T locs cells slots h) {C N : Nat} {Q : Option Value → Heap → List Loc → Prop} {z : Int64} (hr : ret = some .long) (hd : decode bytes pc = .ok (.lreturn, 1)) (hc : cells ≤ C) (hs : slots ≤ N) (q : Q (some (.long z)) h locs) : Go p e below (Kq s C N Q) (T.setTop (mkF m pc L (.long z :: S))) := by
  obtain ⟨fs, hl, hrun, hended, hW, hsame⟩ := X.X.leave (v := (some (.long z))) (fun h => by rw [X.ret_, hr] at h; cases h) X.lk
  exact ⟨_, _, retOut X.X X.hx (t := .long) (X.ret_.trans hr) rfl (Or.inr (Or.inl ⟨rfl, rfl, _, rfl⟩)) (X.d hd) hl, hrun, hended, _, _, rfl, (show Q _ T.heap _ by rw [X.eT]; exact q), ⟨_, rfl⟩, hW, hsame.mono hc hs⟩
theorem g_retA (X : St Z n0 p l e R s m args below meth c own nm bytes ml ret T locs cells slots h) {C N : Nat} {Q : Option Value → Heap → List Loc → Prop} {z : Value} {t : FieldType} (hz : z.isRef = true) (ht : t.isReference = true) (hr : ret = some t) (hd : decode bytes pc = .ok (.areturn, 1)) (hc : cells ≤ C) (hs : slots ≤ N) (q : Q (some z) h locs) : Go p e below (Kq s C N Q) (T.setTop (mkF m pc L (z :: S))) := by
  obtain ⟨fs, hl, hrun, hended, hW, hsame⟩ := X.X.leave (v := (some z)) (fun h => by rw [X.ret_, hr] at h; cases h) X.lk
  exact ⟨_, _, retOut X.X X.hx (t := t) (X.ret_.trans hr) (by cases z <;> cases t <;> simp [Value.isRef, FieldType.isReference, narrow] at hz ht ⊢) (Or.inr (Or.inr (Or.inr (Or.inr ⟨rfl, ht, hz⟩)))) (X.d hd) hl, hrun, hended, _, _, rfl, (show Q _ T.heap _ by rw [X.eT]; exact q), ⟨_, rfl⟩, hW, hsame.mono hc hs⟩
theorem g_retN (X : St Z n0 p l e R s m args below meth c own nm bytes ml ret T locs cells slots h) {C N : Nat} {Q : Option Value → Heap → List Loc → Prop} {z : Int32} {t : FieldType} (ht : t = .boolean ∨ t = .byte ∨ t = .char ∨ t = .short) (hr : ret = some t) (hd : decode bytes pc = .ok (.ireturn, 1)) (hc : cells ≤ C) (hs : slots ≤ N) (q : Q (some (.int (nar t z))) h locs) : Go p e below (Kq s C N Q) (T.setTop (mkF m pc L (.int z :: S))) := by
  obtain ⟨fs, hl, hrun, hended, hW, hsame⟩ := X.X.leave (v := (some (.int (nar t z)))) (fun h => by rw [X.ret_, hr] at h; cases h) X.lk
  exact ⟨_, _, retN X.X X.hx (t := t) (X.ret_.trans hr) ht (X.d hd) hl, hrun, hended, _, _, rfl, (show Q _ T.heap _ by rw [X.eT]; exact q), ⟨_, rfl⟩, hW, hsame.mono hc hs⟩
theorem g_ret (X : St Z n0 p l e R s m args below meth c own nm bytes ml ret T locs cells slots h) {C N : Nat} {Q : Option Value → Heap → List Loc → Prop} (hr : ret = none) (hd : decode bytes pc = .ok (.return_, 1)) (hc : cells ≤ C) (hs : slots ≤ N) (q : Q none h locs) : Go p e below (Kq s C N Q) (T.setTop (mkF m pc L [])) := by
  obtain ⟨fs, hl, hrun, hended, hW, hsame⟩ := X.X.leave (v := none) (fun _ => rfl) X.lk
  exact ⟨_, _, X.X.returnOut X.hx (X.ret_.trans hr) (X.d hd) hl, hrun, hended, _, _, rfl, (show Q _ T.heap _ by rw [X.eT]; exact q), ⟨_, rfl⟩, hW, hsame.mono hc hs⟩
theorem nm0 {a : Addr} : a ∉ ([] : List Addr) := List.not_mem_nil
theorem nm1 {a b : Addr} (h : a ≠ b) : a ∉ [b] := by simpa using h
theorem nm2 {a b d : Addr} (h : a ≠ b) (h' : a ≠ d) : a ∉ [b, d] := by simp [h, h']
theorem keep_ext {h' : Heap} (E : Ext h h') (ws : List Addr) : Keep h h' ws := (Keep.refl h ws).ext E
theorem ne_new {a b k : Nat} (h1 : a < k) (h2 : b = k) : a ≠ b := by omega
theorem ne_new' {a b k : Nat} (h1 : a < k) (h2 : b = k) : b ≠ a := by omega
end Own

theorem m0 : (Jvm.Cond.methodLink "com/example/lease/lease/model/WholeNumbersRequirePinLaw" (7 : Nat) ({ cls := "java/lang/Math", name := "min", desc := "(II)I" } : Jvm.MethodName)) ∈ tables_1 := List.mem_of_getElem? (i := 0) rfl
theorem m1 : (Jvm.Cond.static ({ cls := "java/lang/Math", name := "min", desc := "(II)I" } : Jvm.MethodName)) ∈ tables_1 := List.mem_of_getElem? (i := 1) rfl
theorem m2 : (Jvm.Cond.initialized "java/lang/Math") ∈ tables_1 := List.mem_of_getElem? (i := 2) rfl
theorem m3 : (Jvm.Cond.code ({ cls := "java/lang/Math", name := "min", desc := "(II)I" } : Jvm.MethodName) jdk_29_method_69_code (2 : Nat) (Option.some Jvm.ClassFile.FieldType.int)) ∈ tables_1 := List.mem_of_getElem? (i := 3) rfl
theorem m4 : (Jvm.Cond.methodLink "com/example/lease/lease/model/WholeNumbersRequirePinLaw" (13 : Nat) ({ cls := "java/lang/Math", name := "max", desc := "(II)I" } : Jvm.MethodName)) ∈ tables_1 := List.mem_of_getElem? (i := 4) rfl
theorem m5 : (Jvm.Cond.static ({ cls := "java/lang/Math", name := "max", desc := "(II)I" } : Jvm.MethodName)) ∈ tables_1 := List.mem_of_getElem? (i := 5) rfl
theorem m6 : (Jvm.Cond.code ({ cls := "java/lang/Math", name := "max", desc := "(II)I" } : Jvm.MethodName) jdk_29_method_65_code (2 : Nat) (Option.some Jvm.ClassFile.FieldType.int)) ∈ tables_1 := List.mem_of_getElem? (i := 6) rfl
theorem m7 : (Jvm.Cond.arrayClass Jvm.ClassFile.FieldType.char) ∈ tables_1 := List.mem_of_getElem? (i := 7) rfl
theorem m8 : (Jvm.Cond.classLink "com/example/lease/lease/model/WholeNumbersRequirePinLaw" (16 : Nat) "java/lang/String") ∈ tables_1 := List.mem_of_getElem? (i := 8) rfl
theorem m9 : (Jvm.Cond.instantiable "java/lang/String" (4 : Nat)) ∈ tables_1 := List.mem_of_getElem? (i := 9) rfl
theorem m10 : (Jvm.Cond.initialized "java/lang/String") ∈ tables_1 := List.mem_of_getElem? (i := 10) rfl
theorem m11 : (Jvm.Cond.methodLink "com/example/lease/lease/model/WholeNumbersRequirePinLaw" (18 : Nat) ({ cls := "java/lang/String", name := "<init>", desc := "([C)V" } : Jvm.MethodName)) ∈ tables_1 := List.mem_of_getElem? (i := 11) rfl
theorem m12 : (Jvm.Cond.instanceMethod ({ cls := "java/lang/String", name := "<init>", desc := "([C)V" } : Jvm.MethodName)) ∈ tables_1 := List.mem_of_getElem? (i := 12) rfl
theorem m13 : (Jvm.Cond.code ({ cls := "java/lang/String", name := "<init>", desc := "([C)V" } : Jvm.MethodName) jdk_42_method_3_code (2 : Nat) (Option.none : Option Jvm.ClassFile.FieldType)) ∈ tables_1 := List.mem_of_getElem? (i := 13) rfl
theorem m34 : (Jvm.Cond.laysFinal "java/lang/String" "java/lang/String" "coder" "B") ∈ tables_1 := List.mem_of_getElem? (i := 34) rfl
theorem m36 : (Jvm.Cond.laysFinal "java/lang/String" "java/lang/String" "value" "[B") ∈ tables_1 := List.mem_of_getElem? (i := 36) rfl
theorem m37 : (Jvm.Cond.methodLink "com/example/lease/lease/model/WholeNumbersRequirePinLaw" (21 : Nat) ({ cls := "com/example/lease/lease/model/WholeNumbers", name := "require", desc := "(Ljava/lang/String;III)I" } : Jvm.MethodName)) ∈ tables_1 := List.mem_of_getElem? (i := 37) rfl
theorem m38 : (Jvm.Cond.static ({ cls := "com/example/lease/lease/model/WholeNumbers", name := "require", desc := "(Ljava/lang/String;III)I" } : Jvm.MethodName)) ∈ tables_1 := List.mem_of_getElem? (i := 38) rfl
theorem m39 : (Jvm.Cond.initialized "com/example/lease/lease/model/WholeNumbers") ∈ tables_1 := List.mem_of_getElem? (i := 39) rfl
theorem m40 : (Jvm.Cond.code ({ cls := "com/example/lease/lease/model/WholeNumbers", name := "require", desc := "(Ljava/lang/String;III)I" } : Jvm.MethodName) prog_50_method_3_code (4 : Nat) (Option.some Jvm.ClassFile.FieldType.int)) ∈ tables_1 := List.mem_of_getElem? (i := 40) rfl
theorem pd_0 : parseMethodDescriptor "(II)I" = some ⟨[.int, .int], some .int⟩ := by decide +kernel
theorem pd_1 : parseMethodDescriptor "([C)V" = some ⟨[(.array .char)], none⟩ := by decide +kernel
theorem pd_2 : parseMethodDescriptor "(Ljava/lang/String;III)I" = some ⟨[(.object "java/lang/String"), .int, .int, .int], some .int⟩ := by decide +kernel
theorem pn_0 : plainName "com/example/lease/lease/model/WholeNumbers" = true := by first | (simp [plainName, overriddenIn]; done) | decide +kernel
theorem pn_1 : plainName "com/example/lease/lease/model/WholeNumbersRequirePinLaw" = true := by first | (simp [plainName, overriddenIn]; done) | decide +kernel
theorem own_ch (y : Int32) : ¬ nar .char ((y &&& (255 : Int32)).toUInt32.toUInt16.toUInt32.toInt32) < 0 ∧ ¬ (255 : Int32) < nar .char ((y &&& (255 : Int32)).toUInt32.toUInt16.toUInt32.toInt32) := by
  have e : nar .char ((y &&& (255 : Int32)).toUInt32.toUInt16.toUInt32.toInt32) = y &&& (255 : Int32) := by rw [i2c_mask]; exact i2c_mask y
  rw [e]
  have e1 : (y &&& (255 : Int32)).toInt = y.toInt % 2 ^ 8 := Jvm.Kit.i32_mask y 255 (k := 8) (by decide) (by decide)
  rw [Int32.lt_iff_toInt_lt, Int32.lt_iff_toInt_lt, e1]
  have e2 : (0 : Int32).toInt = 0 := rfl
  have e3 : (255 : Int32).toInt = 255 := rfl
  omega
theorem d1_0 : decode jdk_29_method_69_code 0 = .ok (.iload_n 0, 1) := by decide +kernel
theorem d1_1 : decode jdk_29_method_69_code 1 = .ok (.iload_n 1, 1) := by decide +kernel
theorem d1_2 : decode jdk_29_method_69_code 2 = .ok (.if_icmp .gt 7, 3) := by decide +kernel
theorem d1_5 : decode jdk_29_method_69_code 5 = .ok (.iload_n 0, 1) := by decide +kernel
theorem d1_6 : decode jdk_29_method_69_code 6 = .ok (.goto 4, 3) := by decide +kernel
theorem d1_9 : decode jdk_29_method_69_code 9 = .ok (.iload_n 1, 1) := by decide +kernel
theorem d1_10 : decode jdk_29_method_69_code 10 = .ok (.ireturn, 1) := by decide +kernel
theorem ef_1 (m : MethodId) (a : Int32) (b : Int32) : entryFrame m #[(.int a), (.int b)] 2 = mkF m 0 #[.val (.int a), .val (.int b)] [] := by first | (simp [entryFrame, mkF, argsToLocals, Value.category]; done) | rfl
def R1 : Room := ({ frames := 0, cells := 0, slots := 0, locals := 0 } : Room)
set_option maxRecDepth 65536 in
set_option maxHeartbeats 40000000 in
theorem rm1 (l : Launch) (Z : State) (a0 : Array Value) (hw : ∀ d ∈ tables_1, d.before a0 Z = true) (a : Int32) (b : Int32) (h0 : Heap) (n0 : Nat) (hO : Old Z n0 h0)  :
    Con l Z (⟨"java/lang/Math", "min", "(II)I"⟩ : MethodName) jdk_29_method_69_code 2 (some .int) [] R1 R1.cells R1.slots #[(.int a), (.int b)] h0 (fun v h L => ∃ z : Int32, v = some (.int z) ∧ ¬ b < z ∧ h0 = h ∧ L = []) := by
  refine Con.intro (n0 := n0) (Jvm.Free.JP.mathPlain rfl (by decide +kernel)) (fun m => ef_1 m a b) hO ?_
  intro p e s m below meth c T hs0 X0
  refine g_iloadN X0 d1_0 (pc' := 1) rfl rfl ?_
  refine g_iloadN X0 d1_1 (pc' := 2) rfl rfl ?_
  refine g_icmp_gt X0 d1_2 (pt := 9) (by decide) (pc' := 5) rfl (fun hc2 => ?_) (fun hc2 => ?_)
  · refine g_iloadN X0 d1_9 (pc' := 10) rfl rfl ?_
    exact g_retI X0 rfl d1_10 (by decide) (by decide) ⟨_, rfl, (fun q => Int32.lt_irrefl q), rfl, rfl⟩
  · refine g_iloadN X0 d1_5 (pc' := 6) rfl rfl ?_
    refine g_goto X0 d1_6 (pt := 10) (by decide) ?_
    exact g_retI X0 rfl d1_10 (by decide) (by decide) ⟨_, rfl, hc2, rfl, rfl⟩

theorem d2_0 : decode jdk_29_method_65_code 0 = .ok (.iload_n 0, 1) := by decide +kernel
theorem d2_1 : decode jdk_29_method_65_code 1 = .ok (.iload_n 1, 1) := by decide +kernel
theorem d2_2 : decode jdk_29_method_65_code 2 = .ok (.if_icmp .lt 7, 3) := by decide +kernel
theorem d2_5 : decode jdk_29_method_65_code 5 = .ok (.iload_n 0, 1) := by decide +kernel
theorem d2_6 : decode jdk_29_method_65_code 6 = .ok (.goto 4, 3) := by decide +kernel
theorem d2_9 : decode jdk_29_method_65_code 9 = .ok (.iload_n 1, 1) := by decide +kernel
theorem d2_10 : decode jdk_29_method_65_code 10 = .ok (.ireturn, 1) := by decide +kernel
theorem ef_2 (m : MethodId) (a : Int32) (b : Int32) : entryFrame m #[(.int a), (.int b)] 2 = mkF m 0 #[.val (.int a), .val (.int b)] [] := by first | (simp [entryFrame, mkF, argsToLocals, Value.category]; done) | rfl
def R2 : Room := ({ frames := 0, cells := 0, slots := 0, locals := 0 } : Room)
set_option maxRecDepth 65536 in
set_option maxHeartbeats 40000000 in
theorem rm2 (l : Launch) (Z : State) (a0 : Array Value) (hw : ∀ d ∈ tables_1, d.before a0 Z = true) (a : Int32) (b : Int32) (h0 : Heap) (n0 : Nat) (hO : Old Z n0 h0)  :
    Con l Z (⟨"java/lang/Math", "max", "(II)I"⟩ : MethodName) jdk_29_method_65_code 2 (some .int) [] R2 R2.cells R2.slots #[(.int a), (.int b)] h0 (fun v h L => ∃ z : Int32, v = some (.int z) ∧ ¬ z < b ∧ h0 = h ∧ L = []) := by
  refine Con.intro (n0 := n0) (Jvm.Free.JP.mathPlain rfl (by decide +kernel)) (fun m => ef_2 m a b) hO ?_
  intro p e s m below meth c T hs0 X0
  refine g_iloadN X0 d2_0 (pc' := 1) rfl rfl ?_
  refine g_iloadN X0 d2_1 (pc' := 2) rfl rfl ?_
  refine g_icmp_lt X0 d2_2 (pt := 9) (by decide) (pc' := 5) rfl (fun hc2 => ?_) (fun hc2 => ?_)
  · refine g_iloadN X0 d2_9 (pc' := 10) rfl rfl ?_
    exact g_retI X0 rfl d2_10 (by decide) (by decide) ⟨_, rfl, (fun q => Int32.lt_irrefl q), rfl, rfl⟩
  · refine g_iloadN X0 d2_5 (pc' := 6) rfl rfl ?_
    refine g_goto X0 d2_6 (pt := 10) (by decide) ?_
    exact g_retI X0 rfl d2_10 (by decide) (by decide) ⟨_, rfl, hc2, rfl, rfl⟩

theorem d9_0 : decode prog_50_method_3_code 0 = .ok (.iload_n 1, 1) := by decide +kernel
theorem d9_1 : decode prog_50_method_3_code 1 = .ok (.iload_n 2, 1) := by decide +kernel
theorem d9_2 : decode prog_50_method_3_code 2 = .ok (.if_icmp .lt 8, 3) := by decide +kernel
theorem d9_5 : decode prog_50_method_3_code 5 = .ok (.iload_n 1, 1) := by decide +kernel
theorem d9_6 : decode prog_50_method_3_code 6 = .ok (.iload_n 3, 1) := by decide +kernel
theorem d9_7 : decode prog_50_method_3_code 7 = .ok (.if_icmp .le 14, 3) := by decide +kernel
theorem d9_21 : decode prog_50_method_3_code 21 = .ok (.iload_n 1, 1) := by decide +kernel
theorem d9_22 : decode prog_50_method_3_code 22 = .ok (.ireturn, 1) := by decide +kernel
theorem ef_9 (m : MethodId) (a : Addr) (n : Int32) (lo : Int32) (hi : Int32) : entryFrame m #[(.ref a), (.int n), (.int lo), (.int hi)] 4 = mkF m 0 #[.val (.ref a), .val (.int n), .val (.int lo), .val (.int hi)] [] := by first | (simp [entryFrame, mkF, argsToLocals, Value.category]; done) | rfl
def R9 : Room := ({ frames := 0, cells := 0, slots := 0, locals := 0 } : Room)
set_option maxRecDepth 65536 in
set_option maxHeartbeats 40000000 in
theorem rm9 (l : Launch) (Z : State) (a0 : Array Value) (hw : ∀ d ∈ tables_1, d.before a0 Z = true) (a : Addr) (n : Int32) (lo : Int32) (hi : Int32) (h0 : Heap) (n0 : Nat) (hO : Old Z n0 h0) (hlo : ¬ n < lo) (hhi : ¬ hi < n) :
    Con l Z (⟨"com/example/lease/lease/model/WholeNumbers", "require", "(Ljava/lang/String;III)I"⟩ : MethodName) prog_50_method_3_code 4 (some .int) [] R9 R9.cells R9.slots #[(.ref a), (.int n), (.int lo), (.int hi)] h0 (fun v h L => v = some (.int n) ∧ h0 = h ∧ L = []) := by
  refine Con.intro (n0 := n0) (plainFor_of_name pn_0) (fun m => ef_9 m a n lo hi) hO ?_
  intro p e s m below meth c T hs0 X0
  refine g_iloadN X0 d9_0 (pc' := 1) rfl rfl ?_
  refine g_iloadN X0 d9_1 (pc' := 2) rfl rfl ?_
  refine g_icmp_lt_f X0 d9_2 (pc' := 5) rfl hlo ?_
  refine g_iloadN X0 d9_5 (pc' := 6) rfl rfl ?_
  refine g_iloadN X0 d9_6 (pc' := 7) rfl rfl ?_
  refine g_icmp_le_t X0 d9_7 (pt := 21) (by decide) hhi ?_
  refine g_iloadN X0 d9_21 (pc' := 22) rfl rfl ?_
  exact g_retI X0 rfl d9_22 (by decide) (by decide) ⟨rfl, rfl, rfl⟩

theorem ef_0 (m : MethodId) (number : Int32) (a : Int32) (b : Int32) (cc : Int32) : entryFrame m #[(.int number), (.int a), (.int b), (.int cc)] maxLocals = mkF m 0 #[.val (.int number), .val (.int a), .val (.int b), .val (.int cc), .unset, .unset, .unset, .unset, .unset] [] := by first | (simp [entryFrame, mkF, argsToLocals, Value.category, maxLocals]; done) | rfl
set_option maxRecDepth 65536 in
set_option maxHeartbeats 40000000 in
theorem rm0 (l : Launch) (Z : State) (a0 : Array Value) (hw : ∀ d ∈ tables_1, d.before a0 Z = true) (ws : List Jvm.Cond) (number : Int32) (a : Int32) (b : Int32) (cc : Int32) (h0 : Heap) (n0 : Nat) (hO : Old Z n0 h0) (G1 : Int32) (O2 : Sta Z Z.heap "java/lang/String" "COMPACT_STRINGS" "Z" (.int G1)) (P5 : ¬ G1 = (0 : Int32)) :
    Con l Z x code maxLocals ret ws room_1 16 128 #[(.int number), (.int a), (.int b), (.int cc)] h0 (fun v h L => v = some (.int 1) ∧ Fr n0 L) := by
  refine Con.intro (n0 := n0) (plainFor_of_name pn_1) (fun m => ef_0 m number a b cc) hO ?_
  intro p e s m below meth c T hs0 X0
  refine g_iloadN X0 at_0 (pc' := 1) rfl rfl ?_
  refine g_iloadN X0 at_1 (pc' := 2) rfl rfl ?_
  refine g_callS X0 (y := (⟨"java/lang/Math", "min", "(II)I"⟩ : MethodName)) [(.int a), (.int number)] (hw _ m0) (hw _ m1) (hw _ m2) (hw _ m3) (hw _ m2) (rm1 l Z a0 hw a number h0 n0 X0.old) (by decide) (by decide) (by decide) (by decide) (by decide) rfl pd_0 rfl (rest := []) rfl (W := 0) rfl at_2 (pc' := 5) rfl ?_
  rintro _ T1 _ _ Y1 ⟨z1, rfl, r1, rfl, rfl⟩
  have X1 := Y1 X0.old (Fr.nil _)
  show Go p e below _ (State.setTop _ (mkF m 5 #[.val (.int number), .val (.int a), .val (.int b), .val (.int cc), .unset, .unset, .unset, .unset, .unset] [(.int z1)]))
  refine g_istore X1 at_5 (pc' := 7) rfl (L' := #[.val (.int number), .val (.int a), .val (.int b), .val (.int cc), .val (.int z1), .unset, .unset, .unset, .unset]) rfl ?_
  refine g_iloadN X1 at_7 (pc' := 8) rfl rfl ?_
  refine g_iloadN X1 at_8 (pc' := 9) rfl rfl ?_
  refine g_callS X1 (y := (⟨"java/lang/Math", "max", "(II)I"⟩ : MethodName)) [(.int b), (.int number)] (hw _ m4) (hw _ m5) (hw _ m2) (hw _ m6) (hw _ m2) (rm2 l Z a0 hw b number h0 n0 X1.old) (by decide) (by decide) (by decide) (by decide) (by decide) rfl pd_0 rfl (rest := []) rfl (W := 0) rfl at_9 (pc' := 12) rfl ?_
  rintro _ T2 _ _ Y2 ⟨z2, rfl, r2, rfl, rfl⟩
  have X2 := Y2 X1.old (Fr.nil _)
  show Go p e below _ (State.setTop _ (mkF m 12 #[.val (.int number), .val (.int a), .val (.int b), .val (.int cc), .val (.int z1), .unset, .unset, .unset, .unset] [(.int z2)]))
  refine g_istore X2 at_12 (pc' := 14) rfl (L' := #[.val (.int number), .val (.int a), .val (.int b), .val (.int cc), .val (.int z1), .val (.int z2), .unset, .unset, .unset]) rfl ?_
  refine g_iconst X2 at_14 (pc' := 15) rfl (v := (2 : Int32)) rfl ?_
  refine g_newarray X2 (aty := .char) (cap := 2) (vs := [(.int (0 : Int32)), (.int (0 : Int32))]) (hw _ m7) (by decide) (by decide) rfl (by decide) at_15 (pc' := 17) rfl (by decide) (by decide) (fun T3 h3 b3 X3 g3 E3 A3 l3 => ?_)
  refine g_dup X3 at_17 (pc' := 18) rfl rfl ?_
  refine g_iconst X3 at_18 (pc' := 19) rfl (v := (0 : Int32)) rfl ?_
  refine g_iloadN X3 at_19 (pc' := 20) rfl rfl ?_
  refine g_sipush X3 at_20 (pc' := 23) rfl (v := (255 : Int32)) rfl ?_
  refine g_iand X3 at_23 (pc' := 24) rfl ?_
  refine g_i2c X3 at_24 (pc' := 25) rfl ?_
  refine g_castore X3 (i := 0) A3 (by decide) (by simp) l3 at_25 (pc' := 26) rfl (fun T4 h4 X4 W4 A4 => ?_)
  have A4 : Arx Z h4 b3 .char [(.int (nar .char ((cc &&& (255 : Int32)).toUInt32.toUInt16.toUInt32.toInt32))), (.int (0 : Int32))] := A4
  refine g_dup X4 at_26 (pc' := 27) rfl rfl ?_
  refine g_iconst X4 at_27 (pc' := 28) rfl (v := (1 : Int32)) rfl ?_
  refine g_iloadN X4 at_28 (pc' := 29) rfl rfl ?_
  refine g_bipush X4 at_29 (pc' := 31) rfl (v := (8 : Int32)) rfl ?_
  refine g_iushr X4 at_31 (pc' := 32) rfl ?_
  refine g_sipush X4 at_32 (pc' := 35) rfl (v := (255 : Int32)) rfl ?_
  refine g_iand X4 at_35 (pc' := 36) rfl ?_
  refine g_i2c X4 at_36 (pc' := 37) rfl ?_
  refine g_castore X4 (i := 1) A4 (by decide) (by simp) l3 at_37 (pc' := 38) rfl (fun T5 h5 X5 W5 A5 => ?_)
  have A5 : Arx Z h5 b3 .char [(.int (nar .char ((cc &&& (255 : Int32)).toUInt32.toUInt16.toUInt32.toInt32))), (.int (nar .char ((((cc.toUInt32 >>> ((8 : Int32) &&& 31).toUInt32).toInt32) &&& (255 : Int32)).toUInt32.toUInt16.toUInt32.toInt32)))] := A5
  refine g_astore X5 at_38 (pc' := 40) rfl rfl (L' := #[.val (.int number), .val (.int a), .val (.int b), .val (.int cc), .val (.int z1), .val (.int z2), .val (.ref b3), .unset, .unset]) rfl ?_
  refine g_new X5 (hw _ m8) (hw _ m9) (hw _ m10) at_40 (pc' := 43) rfl (by decide) (by decide) (fun T6 h6 b6 X6 g6 E6 A6 D6 l6 => ?_)
  have ne7 : b3 ≠ b6 := ne_new A5.lt g6
  have F6_coder : Fld Z h6 b6 "java/lang/String" "coder" "B" (.int (0 : Int32)) := D6 (Or.inr (hw _ m34)) (ty := .byte) (by decide)
  have F6_value : Fld Z h6 b6 "java/lang/String" "value" "[B" .null := D6 (Or.inr (hw _ m36)) (ty := (.array .byte)) (by decide)
  refine g_dup X6 at_43 (pc' := 44) rfl rfl ?_
  refine g_aload X6 at_44 (pc' := 46) rfl rfl rfl ?_
  have f8 := (A5.ext E6)
  obtain ⟨kc9, V9⟩ := arx_arv (n := (2 : Int32)) (d := .int (0 : Int32)) f8 rfl (by intro v hv; simp only [List.mem_cons, List.not_mem_nil, or_false] at hv; rcases hv with rfl | rfl <;> exact fits_nar_char _)
  have hws : ∀ d ∈ StrChars.Road.words, d.before a0 Z = true := fun d hd => hw d ((by decide +kernel : ∀ d ∈ StrChars.Road.words, d ∈ tables_1) d hd)
  have hp9 : ∀ c ∈ ([(nar .char ((cc &&& (255 : Int32)).toUInt32.toUInt16.toUInt32.toInt32)), (nar .char ((((cc.toUInt32 >>> ((8 : Int32) &&& 31).toUInt32).toInt32) &&& (255 : Int32)).toUInt32.toUInt16.toUInt32.toInt32))] : List Int32), ¬ c < 0 ∧ ¬ (255 : Int32) < c := by intro c hc; simp only [List.mem_cons, List.not_mem_nil, or_false] at hc; rcases hc with rfl | rfl <;> exact own_ch _
  refine g_callIB X6 (y := (⟨"java/lang/String", "<init>", "([C)V"⟩ : MethodName)) (a := b6) [(.ref b3)] rfl (hw _ m11) (hw _ m12) rfl (hw _ m13) (StrChars.Road.backV (W := 1) X6.hZ hws (kI := 4) (hw _ m9) (cs := ([(nar .char ((cc &&& (255 : Int32)).toUInt32.toUInt16.toUInt32.toInt32)), (nar .char ((((cc.toUInt32 >>> ((8 : Int32) &&& 31).toUInt32).toInt32) &&& (255 : Int32)).toUInt32.toUInt16.toUInt32.toInt32))] : List Int32)) (bs := (([(nar .char ((cc &&& (255 : Int32)).toUInt32.toUInt16.toUInt32.toInt32)), (nar .char ((((cc.toUInt32 >>> ((8 : Int32) &&& 31).toUInt32).toInt32) &&& (255 : Int32)).toUInt32.toUInt16.toUInt32.toInt32))] : List Int32).map (fun c => c.toInt8.toInt32))) (n := 2) l6 X6.sz A6 F6_value F6_coder V9 (O2.ext X6.old.2) P5 rfl rfl (by decide) (by decide) hp9 rfl (by decide) (by decide)) (cc := 1) (ss := 2) (Q := (fun v h' L => StrChars.Road.QV Z b6 (2 : Int32) (([(nar .char ((cc &&& (255 : Int32)).toUInt32.toUInt16.toUInt32.toInt32)), (nar .char ((((cc.toUInt32 >>> ((8 : Int32) &&& 31).toUInt32).toInt32) &&& (255 : Int32)).toUInt32.toUInt16.toUInt32.toInt32))] : List Int32).map (fun c => c.toInt8.toInt32)) h6 n0 v h' L)) (by decide) (by decide) (by decide) rfl pd_1 rfl (rest := [(.ref b6)]) rfl (W := 1) rfl at_46 (pc' := 49) rfl ?_
  rintro _ T9 h9 L9 Y9 ⟨rfl, N9, K9, E9s, C9s, t9, kb9, u9, v9, w9, F9s, A9s⟩
  have X9 := Y9 (X6.old.keep K9 (allS l6 all0)) N9
  show Go p e below _ (State.setTop _ (mkF m 49 #[.val (.int number), .val (.int a), .val (.int b), .val (.int cc), .val (.int z1), .val (.int z2), .val (.ref b3), .unset, .unset] [(.ref b6)]))
  refine g_astore X9 at_49 (pc' := 51) rfl rfl (L' := #[.val (.int number), .val (.int a), .val (.int b), .val (.int cc), .val (.int z1), .val (.int z2), .val (.ref b3), .val (.ref b6), .unset]) rfl ?_
  refine g_aload X9 at_51 (pc' := 53) rfl rfl rfl ?_
  refine g_iloadN X9 at_53 (pc' := 54) rfl rfl ?_
  refine g_iload X9 at_54 (pc' := 56) rfl rfl ?_
  refine g_iload X9 at_56 (pc' := 58) rfl rfl ?_
  refine g_callS X9 (y := (⟨"com/example/lease/lease/model/WholeNumbers", "require", "(Ljava/lang/String;III)I"⟩ : MethodName)) [(.ref b6), (.int number), (.int z1), (.int z2)] (hw _ m37) (hw _ m38) (hw _ m39) (hw _ m40) (hw _ m39) (rm9 l Z a0 hw b6 number z1 z2 h9 n0 X9.old r1 r2) (by decide) (by decide) (by decide) (by decide) (by decide) rfl pd_2 rfl (rest := []) rfl (W := 0) rfl at_58 (pc' := 61) rfl ?_
  rintro _ T10 _ _ Y10 ⟨rfl, rfl, rfl⟩
  have X10 := Y10 X9.old (Fr.nil _)
  show Go p e below _ (State.setTop _ (mkF m 61 #[.val (.int number), .val (.int a), .val (.int b), .val (.int cc), .val (.int z1), .val (.int z2), .val (.ref b3), .val (.ref b6), .unset] [(.int number)]))
  refine g_istore X10 at_61 (pc' := 63) rfl (L' := #[.val (.int number), .val (.int a), .val (.int b), .val (.int cc), .val (.int z1), .val (.int z2), .val (.ref b3), .val (.ref b6), .val (.int number)]) rfl ?_
  refine g_iload X10 at_63 (pc' := 65) rfl rfl ?_
  refine g_iloadN X10 at_65 (pc' := 66) rfl rfl ?_
  refine g_icmp_ne_f X10 at_66 (pc' := 69) rfl rfl ?_
  refine g_iconst X10 at_69 (pc' := 70) rfl (v := (1 : Int32)) rfl ?_
  refine g_goto X10 at_70 (pt := 74) (by decide) ?_
  exact g_retN X10 (Or.inl rfl) rfl at_74 (by decide) (by decide) ⟨rfl, X10.fr⟩

set_option maxRecDepth 65536 in
set_option maxHeartbeats 40000000 in
theorem comes_1 {Post : Tables → Env → Array Value → State → Outcome → State → Prop} (hpost : ∀ tb e args s v u, (limb_1_1.after args s (.returned v) u = true ∧ limb_1_2.after args s (.returned v) u = true ∧ True) → FrameEnd s (.returned v) u (Jvm.fieldLocs frame_1_writes args s ++ Jvm.arrayLocs frame_1_arrays args s ++ Jvm.staticLocs frame_1_statics s) 16 128 → Post tb e args s (.returned v) u) :
    ArmFor flags0 classFile x code maxLocals ret World_1 tables_1 room_1 Calls_1 rest_1 Pre_1 Post := by
  intro l hfl _ _ p e ha hc hk s m args below hf hA hF happ hP
  obtain ⟨hcalls, hrest, hpre⟩ := hP
  obtain ⟨-, -, -, hnamed, -, -, -, hat⟩ := (Spec.applies_iff hf).mp happ
  obtain ⟨hg, hn⟩ := and_e (Cond.before_iff.mp (show (Jvm.Cond.and given_1 narrow_1).before args s = true from hpre))
  obtain ⟨hcount, hg⟩ := and_e hg
  obtain ⟨k0, hg⟩ := and_e hg
  obtain ⟨k1, hg⟩ := and_e hg
  obtain ⟨k2, hg⟩ := and_e hg
  have k3 := hg
  obtain ⟨w0, w1, w2, w3, rfl⟩ : ∃ w0 w1 w2 w3 : Value, args = #[w0, w1, w2, w3] := by
    have hs : args.size = 4 := by simpa [Cond.value, given_1] using hcount
    obtain ⟨L⟩ := args
    match L, hs with
    | [w0, w1, w2, w3], _ => exact ⟨w0, w1, w2, w3, rfl⟩
  have hw := fun d (hd : d ∈ tables_1) => atoms_spec (ws := Jvm.Cond.code x code maxLocals ret :: tables_1) hat d (List.mem_cons_of_mem _ hd)
  obtain ⟨i0, e0⟩ := is_v k0
  obtain rfl : w0 = (.int i0) := Option.some.inj e0
  obtain ⟨i1, e1⟩ := is_v k1
  obtain rfl : w1 = (.int i1) := Option.some.inj e1
  obtain ⟨i2, e2⟩ := is_v k2
  obtain rfl : w2 = (.int i2) := Option.some.inj e2
  obtain ⟨i3, e3⟩ := is_v k3
  obtain rfl : w3 = (.int i3) := Option.some.inj e3
  obtain ⟨hsets, hown0⟩ := atoms_of _ (rest_1_c_eq ▸ (show rest_1_c.before _ s = true from hrest))
  have n5 := not_v (Cond.before_iff.mp (hsets _ (List.mem_of_getElem? (i := 2) rfl)))
  obtain ⟨G1, eG⟩ := is_v (Cond.before_iff.mp (hsets _ (List.mem_of_getElem? (i := 1) rfl)))
  have O2 : Sta s s.heap "java/lang/String" "COMPACT_STRINGS" "Z" (.int G1) := Sta.start eG (Or.inl (hsets _ (List.mem_of_getElem? (i := 0) rfl)))
  have P5 : ¬ (G1 = (0 : Int32)) := gotF (Cond.eq_ints eG (Term.int_eval (0))) n5
  obtain ⟨n, o, h1, h2, h3, _, L, rfl, ⟨rfl, N⟩, hq⟩ := rm0 l s _ hw tables_1 i0 i1 i2 i3 s.heap s.heap.size (Old.start s) G1 O2 P5 p e ha hc hk s m _ below hf ((Spec.applies_iff_loose hf).mp happ).1 ⟨rfl, State.Warmed39.refl s, rfl⟩ trivial
  refine ⟨n, _, h1, h2, h3, hpost _ _ _ _ _ _ ⟨Cond.after_iff.mpr rfl, Cond.after_iff.mpr (eq_i res_at (Term.int_eval (1)) rfl), trivial⟩ ⟨hq.1, hq.2.1, (hq.2.2.sift fun y hy => Or.inr (N y hy)).mono (by decide) (by decide)⟩⟩
theorem main_1_1 : Claimed_1_1 := comes_1 fun _ _ _ _ _ _ h hF => ⟨h.1, hF⟩
theorem main_1_2 : Claimed_1_2 := comes_1 fun _ _ _ _ _ _ h hF => ⟨h.2.1, hF⟩
end Jvm.Pilot.@@N@@
namespace Jvm.Pilot.@@N@@
open Jvm Jvm.ClassFile Sem Op Lib Jvm.Free Jvm.Stand Jvm.Pilot.@@N@@.Jvm.D
/-! MADE BY PROGRAM (witnessworld.py) out of the Statement's table words and the real class files: 21 classes; the members and pool entries that the words name. The judged class is class 1, her method 1. -/
namespace start1
open Jvm.ClassFile
def u (s : String) : CpInfo := .utf8 (stringToUtf16 s)
/-- a pool by its gaps: so many unusable entries, then the entry; so many at the end -/
def gap : Nat → List CpInfo → List CpInfo
  | 0, r => r
  | n + 1, r => .unusable :: gap n r
def poolList (es : List (Nat × CpInfo)) (last : Nat) : List CpInfo := es.foldr (fun e r => gap e.1 (e.2 :: r)) (gap last [])
def pool (es : List (Nat × CpInfo)) (last : Nat) : Array CpInfo := ⟨poolList es last⟩
def fileOf (pool : Array CpInfo) (this : Nat) (attrs : Array Attribute := #[]) (ms : Array MethodInfo := #[]) (fl : Nat := 33) (sup : Nat := 0) (ifs : Array Nat := #[]) (fds : Array FieldInfo := #[]) : ClassFile where
  minorVersion := 0
  majorVersion := 65
  constantPool := pool
  accessFlags := fl
  thisClass := this
  superClass := sup
  interfaces := ifs
  fields := fds
  methods := ms
  attributes := attrs
def plain (name : String) (sup : Option ClassId) : Class where
  name := name
  kind := .ordinary
  loader := none
  accessFlags := 33
  super := sup
  interfaces := #[]
  cf := none
  fields := #[]
  methods := #[]
  instanceTypes := #[]
  staticTypes := #[]
  resolved := #[]
  callSites := []
  init := .initialized
  statics := none
  mirror := none

def pool0 : Array CpInfo := pool [(5, u "<init>"), (0, u "()V"), (1, .class_ 10), (1, u "java/lang/Object")] 113

def k0c0 : Code := { maxStack := 0, maxLocals := 1, code := object_method_1_code, exceptionTable := #[], attributes := #[] }
def k0m0 : Method := { name := "<init>", desc := "()V", sig := { parameters := [], returnType := none }, accessFlags := 1, code := some k0c0 }
/-- java/lang/Object -/
def k0 : Class := { plain "java/lang/Object" none with
  accessFlags := 33
  interfaces := #[]
  cf := some (fileOf pool0 8 #[] #[{ accessFlags := 1, nameIndex := 5, descriptorIndex := 6, attributes := #[] }] 33 0 #[] #[])
  fields := #[]
  methods := #[k0m0]
  instanceTypes := #[]
  staticTypes := #[]
  resolved := Array.replicate 124 none
  statics := none }

def pool1 : Array CpInfo := pool [(2, .class_ 4), (1, u "java/lang/Object"), (0, u "<init>"), (0, u "()V"), (0, .methodref 8 9), (0, .class_ 10), (0, .nameAndType 11 12), (0, u "java/lang/Math"), (0, u "min"), (0, u "(II)I"), (0, .methodref 8 14), (0, .nameAndType 15 12), (0, u "max"), (0, .class_ 17), (0, u "java/lang/String"), (0, .methodref 16 19), (0, .nameAndType 5 20), (0, u "([C)V"), (0, .methodref 22 23), (0, .class_ 24), (0, .nameAndType 25 26), (0, u "com/example/lease/lease/model/WholeNumbers"), (0, u "require"), (0, u "(Ljava/lang/String;III)I"), (0, .class_ 28), (0, u "com/example/lease/lease/model/WholeNumbersRequirePinLaw"), (2, u "law"), (0, u "(IIII)Z")] 5

def k1m0 : Method := { name := "<init>", desc := "()V", sig := { parameters := [], returnType := none }, accessFlags := 2, code := none }
def k1c1 : Code := { maxStack := 5, maxLocals := 9, code := code, exceptionTable := #[], attributes := #[] }
def k1m1 : Method := { name := "law", desc := "(IIII)Z", sig := { parameters := [.int, .int, .int, .int], returnType := some .boolean }, accessFlags := 9, code := some k1c1 }
/-- com/example/lease/lease/model/WholeNumbersRequirePinLaw -/
def k1 : Class := { plain "com/example/lease/lease/model/WholeNumbersRequirePinLaw" (some 0) with
  accessFlags := 49
  interfaces := #[]
  cf := some (fileOf pool1 27 #[] #[{ accessFlags := 2, nameIndex := 5, descriptorIndex := 6, attributes := #[] }, { accessFlags := 9, nameIndex := 31, descriptorIndex := 32, attributes := #[] }] 49 2 #[] #[])
  fields := #[]
  methods := #[k1m0, k1m1]
  instanceTypes := #[]
  staticTypes := #[]
  resolved := Array.replicate 38 none
  statics := none }

def pool2 : Array CpInfo := pool [(1, .class_ 2), (0, u "java/lang/Math"), (1, .class_ 6), (1, u "java/lang/Object"), (0, u "<init>"), (0, u "()V"), (89, .class_ 100), (1, u "java/lang/Math$RandomNumberGeneratorHolder"), (71, u "negativeZeroFloatBits"), (0, u "J"), (2, u "negativeZeroDoubleBits"), (21, u "max"), (2, u "min"), (43, u "$assertionsDisabled"), (0, u "Z"), (88, u "(II)I"), (2, u "twoToTheDoubleScaleDown"), (0, u "D"), (4, u "twoToTheDoubleScaleUp"), (9, u "E"), (3, u "PI"), (2, u "TAU"), (2, u "DEGREES_TO_RADIANS"), (0, u "RADIANS_TO_DEGREES")] 94

def k2m0 : Method := { name := "<init>", desc := "()V", sig := { parameters := [], returnType := none }, accessFlags := 2, code := none }
def k2c1 : Code := { maxStack := 2, maxLocals := 2, code := jdk_29_method_65_code, exceptionTable := #[], attributes := #[] }
def k2m1 : Method := { name := "max", desc := "(II)I", sig := { parameters := [.int, .int], returnType := some .int }, accessFlags := 9, code := some k2c1 }
def k2c2 : Code := { maxStack := 2, maxLocals := 2, code := jdk_29_method_69_code, exceptionTable := #[], attributes := #[] }
def k2m2 : Method := { name := "min", desc := "(II)I", sig := { parameters := [.int, .int], returnType := some .int }, accessFlags := 9, code := some k2c2 }
/-- java/lang/Math -/
def k2 : Class := { plain "java/lang/Math" (some 0) with
  accessFlags := 49
  interfaces := #[]
  cf := some (fileOf pool2 1 #[.nestMembers #[98]] #[{ accessFlags := 2, nameIndex := 7, descriptorIndex := 8, attributes := #[] }, { accessFlags := 9, nameIndex := 198, descriptorIndex := 335, attributes := #[] }, { accessFlags := 9, nameIndex := 201, descriptorIndex := 335, attributes := #[] }] 49 4 #[] #[{ accessFlags := 25, nameIndex := 354, descriptorIndex := 339, attributes := #[] }, { accessFlags := 25, nameIndex := 358, descriptorIndex := 339, attributes := #[] }, { accessFlags := 25, nameIndex := 361, descriptorIndex := 339, attributes := #[] }, { accessFlags := 26, nameIndex := 364, descriptorIndex := 339, attributes := #[] }, { accessFlags := 26, nameIndex := 365, descriptorIndex := 339, attributes := #[] }, { accessFlags := 26, nameIndex := 172, descriptorIndex := 173, attributes := #[] }, { accessFlags := 26, nameIndex := 176, descriptorIndex := 173, attributes := #[] }, { accessFlags := 8, nameIndex := 344, descriptorIndex := 339, attributes := #[] }, { accessFlags := 8, nameIndex := 338, descriptorIndex := 339, attributes := #[] }, { accessFlags := 4120, nameIndex := 245, descriptorIndex := 246, attributes := #[] }])
  fields := #[{ name := "E", type := .double, accessFlags := 25, slot := 0, constantValue := 0 }, { name := "PI", type := .double, accessFlags := 25, slot := 1, constantValue := 0 }, { name := "TAU", type := .double, accessFlags := 25, slot := 2, constantValue := 0 }, { name := "DEGREES_TO_RADIANS", type := .double, accessFlags := 26, slot := 3, constantValue := 0 }, { name := "RADIANS_TO_DEGREES", type := .double, accessFlags := 26, slot := 4, constantValue := 0 }, { name := "negativeZeroFloatBits", type := .long, accessFlags := 26, slot := 5, constantValue := 0 }, { name := "negativeZeroDoubleBits", type := .long, accessFlags := 26, slot := 6, constantValue := 0 }, { name := "twoToTheDoubleScaleUp", type := .double, accessFlags := 8, slot := 7, constantValue := 0 }, { name := "twoToTheDoubleScaleDown", type := .double, accessFlags := 8, slot := 8, constantValue := 0 }, { name := "$assertionsDisabled", type := .boolean, accessFlags := 4120, slot := 9, constantValue := 0 }]
  methods := #[k2m0, k2m1, k2m2]
  instanceTypes := #[]
  staticTypes := #[.double, .double, .double, .double, .double, .long, .long, .double, .double, .boolean]
  resolved := Array.replicate 460 none
  statics := none }

def pool3 : Array CpInfo := pool [(1, .class_ 2), (0, u "java/io/Serializable"), (0, .class_ 4), (0, u "java/lang/Object")] 2

/-- java/io/Serializable -/
def k3 : Class := { plain "java/io/Serializable" (some 0) with
  accessFlags := 1537
  interfaces := #[]
  cf := some (fileOf pool3 1 #[] #[] 1537 3 #[] #[])
  fields := #[]
  methods := #[]
  instanceTypes := #[]
  staticTypes := #[]
  resolved := Array.replicate 7 none
  statics := none }

def pool4 : Array CpInfo := pool [(1, .class_ 2), (0, u "java/lang/Comparable"), (0, .class_ 4), (0, u "java/lang/Object")] 7

/-- java/lang/Comparable -/
def k4 : Class := { plain "java/lang/Comparable" (some 0) with
  accessFlags := 1537
  interfaces := #[]
  cf := some (fileOf pool4 1 #[] #[] 1537 3 #[] #[])
  fields := #[]
  methods := #[]
  instanceTypes := #[]
  staticTypes := #[]
  resolved := Array.replicate 12 none
  statics := none }

def pool5 : Array CpInfo := pool [(2, .class_ 4), (1, u "java/lang/CharSequence"), (42, .class_ 48), (0, u "java/lang/CharSequence$1CodePointIterator"), (10, .class_ 60), (0, u "java/lang/CharSequence$1CharIterator"), (5, .class_ 67), (0, u "java/lang/Object")] 63

/-- java/lang/CharSequence -/
def k5 : Class := { plain "java/lang/CharSequence" (some 0) with
  accessFlags := 1537
  interfaces := #[]
  cf := some (fileOf pool5 2 #[.nestMembers #[47, 59]] #[] 1537 66 #[] #[])
  fields := #[]
  methods := #[]
  instanceTypes := #[]
  staticTypes := #[]
  resolved := Array.replicate 131 none
  statics := none }

def pool6 : Array CpInfo := pool [(1, .class_ 2), (0, u "java/lang/constant/Constable"), (0, .class_ 4), (0, u "java/lang/Object")] 6

/-- java/lang/constant/Constable -/
def k6 : Class := { plain "java/lang/constant/Constable" (some 0) with
  accessFlags := 1537
  interfaces := #[]
  cf := some (fileOf pool6 1 #[] #[] 1537 3 #[] #[])
  fields := #[]
  methods := #[]
  instanceTypes := #[]
  staticTypes := #[]
  resolved := Array.replicate 11 none
  statics := none }

def pool7 : Array CpInfo := pool [(1, .class_ 2), (0, u "java/lang/constant/ConstantDesc"), (0, .class_ 4), (0, u "java/lang/Object")] 32

/-- java/lang/constant/ConstantDesc -/
def k7 : Class := { plain "java/lang/constant/ConstantDesc" (some 0) with
  accessFlags := 1537
  interfaces := #[]
  cf := some (fileOf pool7 1 #[] #[] 1537 3 #[] #[])
  fields := #[]
  methods := #[]
  instanceTypes := #[]
  staticTypes := #[]
  resolved := Array.replicate 37 none
  statics := none }

def pool8 : Array CpInfo := pool [(1, .methodref 2 3), (0, .class_ 4), (0, .nameAndType 5 6), (0, u "java/lang/Object"), (0, u "<init>"), (0, u "()V"), (2, .fieldref 10 11), (0, .class_ 12), (0, .nameAndType 13 14), (0, u "java/lang/String"), (0, u "value"), (0, u "[B"), (0, .fieldref 10 16), (0, .nameAndType 17 18), (0, u "coder"), (0, u "B"), (2, u "hash"), (0, u "I"), (2, u "hashIsZero"), (0, u "Z"), (0, .methodref 10 28), (0, .nameAndType 5 29), (0, u "([CIILjava/lang/Void;)V"), (8, .fieldref 10 39), (0, .nameAndType 40 26), (0, u "COMPACT_STRINGS"), (1, .class_ 44), (1, u "java/lang/StringUTF16"), (0, u "compress"), (1, .methodref 42 48), (0, .nameAndType 49 50), (0, u "coderFromArrayLen"), (0, u "([BI)B"), (126, .methodref 42 178), (0, .nameAndType 45 179), (0, u "([CII)[B"), (395, .class_ 576), (0, u "java/lang/CharSequence"), (22, u "CASE_INSENSITIVE_ORDER"), (0, u "Ljava/util/Comparator;"), (409, u "([C)V"), (90, u "serialPersistentFields"), (0, u "[Ljava/io/ObjectStreamField;"), (0, .class_ 1104), (0, u "java/lang/String$CaseInsensitiveComparator"), (1, .class_ 1107), (0, u "java/io/Serializable"), (0, .class_ 1109), (0, u "java/lang/Comparable"), (0, .class_ 1111), (0, u "java/lang/constant/Constable"), (0, .class_ 1113), (0, u "java/lang/constant/ConstantDesc"), (2, u "serialVersionUID"), (0, u "J"), (3, u "REPL"), (0, u "C"), (2, u "LATIN1"), (1, u "UTF16")] 323

def k8m0 : Method := { name := "<init>", desc := "()V", sig := { parameters := [], returnType := none }, accessFlags := 1, code := none }
def k8c1 : Code := { maxStack := 5, maxLocals := 2, code := jdk_42_method_3_code, exceptionTable := #[], attributes := #[] }
def k8m1 : Method := { name := "<init>", desc := "([C)V", sig := { parameters := [(.array .char)], returnType := none }, accessFlags := 1, code := some k8c1 }
def k8c2 : Code := { maxStack := 4, maxLocals := 6, code := jdk_42_method_149_code, exceptionTable := #[], attributes := #[] }
def k8m2 : Method := { name := "<init>", desc := "([CIILjava/lang/Void;)V", sig := { parameters := [(.array .char), .int, .int, (.object "java/lang/Void")], returnType := none }, accessFlags := 2, code := some k8c2 }
/-- java/lang/String -/
def k8 : Class := { plain "java/lang/String" (some 0) with
  accessFlags := 49
  interfaces := #[3, 4, 5, 6, 7]
  cf := some (fileOf pool8 10 #[.nestMembers #[1103]] #[{ accessFlags := 1, nameIndex := 5, descriptorIndex := 6, attributes := #[] }, { accessFlags := 1, nameIndex := 5, descriptorIndex := 1010, attributes := #[] }, { accessFlags := 2, nameIndex := 5, descriptorIndex := 29, attributes := #[] }] 49 2 #[1106, 1108, 575, 1110, 1112] #[{ accessFlags := 18, nameIndex := 13, descriptorIndex := 14, attributes := #[] }, { accessFlags := 18, nameIndex := 17, descriptorIndex := 18, attributes := #[] }, { accessFlags := 2, nameIndex := 21, descriptorIndex := 22, attributes := #[] }, { accessFlags := 2, nameIndex := 25, descriptorIndex := 26, attributes := #[] }, { accessFlags := 26, nameIndex := 1116, descriptorIndex := 1117, attributes := #[] }, { accessFlags := 24, nameIndex := 40, descriptorIndex := 26, attributes := #[] }, { accessFlags := 26, nameIndex := 1101, descriptorIndex := 1102, attributes := #[] }, { accessFlags := 26, nameIndex := 1121, descriptorIndex := 1122, attributes := #[] }, { accessFlags := 25, nameIndex := 599, descriptorIndex := 600, attributes := #[] }, { accessFlags := 24, nameIndex := 1125, descriptorIndex := 18, attributes := #[] }, { accessFlags := 24, nameIndex := 1127, descriptorIndex := 18, attributes := #[] }])
  fields := #[{ name := "value", type := (.array .byte), accessFlags := 18, slot := 0, constantValue := 0 }, { name := "coder", type := .byte, accessFlags := 18, slot := 1, constantValue := 0 }, { name := "hash", type := .int, accessFlags := 2, slot := 2, constantValue := 0 }, { name := "hashIsZero", type := .boolean, accessFlags := 2, slot := 3, constantValue := 0 }, { name := "serialVersionUID", type := .long, accessFlags := 26, slot := 0, constantValue := 0 }, { name := "COMPACT_STRINGS", type := .boolean, accessFlags := 24, slot := 1, constantValue := 0 }, { name := "serialPersistentFields", type := (.array (.object "java/io/ObjectStreamField")), accessFlags := 26, slot := 2, constantValue := 0 }, { name := "REPL", type := .char, accessFlags := 26, slot := 3, constantValue := 0 }, { name := "CASE_INSENSITIVE_ORDER", type := (.object "java/util/Comparator"), accessFlags := 25, slot := 4, constantValue := 0 }, { name := "LATIN1", type := .byte, accessFlags := 24, slot := 5, constantValue := 0 }, { name := "UTF16", type := .byte, accessFlags := 24, slot := 6, constantValue := 0 }]
  methods := #[k8m0, k8m1, k8m2]
  instanceTypes := #[(.array .byte), .byte, .int, .boolean]
  staticTypes := #[.long, .boolean, (.array (.object "java/io/ObjectStreamField")), .char, (.object "java/util/Comparator"), .byte, .byte]
  resolved := Array.replicate 1451 none
  statics := some 0 }

def pool9 : Array CpInfo := pool [(6, .class_ 8), (1, u "java/lang/Object"), (0, u "<init>"), (0, u "()V"), (1, .class_ 14), (1, u "java/lang/StringUTF16"), (31, u "$assertionsDisabled"), (0, u "Z"), (13, u "HI_BYTE_SHIFT"), (0, u "I"), (2, u "LO_BYTE_SHIFT"), (49, .methodref 12 116), (0, .nameAndType 117 118), (0, u "compress"), (0, u "([CI[BII)I"), (3, u "([CII)[B"), (138, u "coderFromArrayLen"), (0, u "([BI)B"), (106, .class_ 371), (1, u "java/lang/StringUTF16$LinesSpliterator"), (58, u "MAX_LENGTH"), (196, .class_ 628), (0, u "java/lang/StringUTF16$CodePointsSpliterator"), (0, .class_ 630), (0, u "java/lang/StringUTF16$CharsSpliterator")] 4

def k9m0 : Method := { name := "<init>", desc := "()V", sig := { parameters := [], returnType := none }, accessFlags := 0, code := none }
def k9c1 : Code := { maxStack := 2, maxLocals := 2, code := jdk_52_method_15_code, exceptionTable := #[], attributes := #[] }
def k9m1 : Method := { name := "coderFromArrayLen", desc := "([BI)B", sig := { parameters := [(.array .byte), .int], returnType := some .byte }, accessFlags := 8, code := some k9c1 }
def k9c2 : Code := { maxStack := 5, maxLocals := 6, code := jdk_52_method_16_code, exceptionTable := #[], attributes := #[] }
def k9m2 : Method := { name := "compress", desc := "([CII)[B", sig := { parameters := [(.array .char), .int, .int], returnType := some (.array .byte) }, accessFlags := 9, code := some k9c2 }
def k9c3 : Code := { maxStack := 3, maxLocals := 7, code := jdk_52_method_21_code, exceptionTable := #[], attributes := #[] }
def k9m3 : Method := { name := "compress", desc := "([CI[BII)I", sig := { parameters := [(.array .char), .int, (.array .byte), .int, .int], returnType := some .int }, accessFlags := 9, code := some k9c3 }
/-- java/lang/StringUTF16 -/
def k9 : Class := { plain "java/lang/StringUTF16" (some 0) with
  accessFlags := 48
  interfaces := #[]
  cf := some (fileOf pool9 12 #[.nestMembers #[627, 629, 369]] #[{ accessFlags := 0, nameIndex := 9, descriptorIndex := 10, attributes := #[] }, { accessFlags := 8, nameIndex := 261, descriptorIndex := 262, attributes := #[] }, { accessFlags := 9, nameIndex := 117, descriptorIndex := 122, attributes := #[] }, { accessFlags := 9, nameIndex := 117, descriptorIndex := 118, attributes := #[] }] 48 6 #[] #[{ accessFlags := 26, nameIndex := 61, descriptorIndex := 62, attributes := #[] }, { accessFlags := 26, nameIndex := 65, descriptorIndex := 62, attributes := #[] }, { accessFlags := 24, nameIndex := 430, descriptorIndex := 62, attributes := #[] }, { accessFlags := 4120, nameIndex := 46, descriptorIndex := 47, attributes := #[] }])
  fields := #[{ name := "HI_BYTE_SHIFT", type := .int, accessFlags := 26, slot := 0, constantValue := 0 }, { name := "LO_BYTE_SHIFT", type := .int, accessFlags := 26, slot := 1, constantValue := 0 }, { name := "MAX_LENGTH", type := .int, accessFlags := 24, slot := 2, constantValue := 0 }, { name := "$assertionsDisabled", type := .boolean, accessFlags := 4120, slot := 3, constantValue := 0 }]
  methods := #[k9m0, k9m1, k9m2, k9m3]
  instanceTypes := #[]
  staticTypes := #[.int, .int, .int, .boolean]
  resolved := Array.replicate 635 none
  statics := none }

def pool10 : Array CpInfo := pool [(2, .class_ 4), (1, u "java/lang/Object"), (0, u "<init>"), (0, u "()V"), (15, .class_ 24), (1, u "com/example/lease/lease/model/WholeNumbers"), (28, u "require"), (0, u "(Ljava/lang/String;III)I")] 17

def k10m0 : Method := { name := "<init>", desc := "()V", sig := { parameters := [], returnType := none }, accessFlags := 2, code := none }
def k10c1 : Code := { maxStack := 4, maxLocals := 4, code := prog_50_method_3_code, exceptionTable := #[], attributes := #[] }
def k10m1 : Method := { name := "require", desc := "(Ljava/lang/String;III)I", sig := { parameters := [(.object "java/lang/String"), .int, .int, .int], returnType := some .int }, accessFlags := 9, code := some k10c1 }
/-- com/example/lease/lease/model/WholeNumbers -/
def k10 : Class := { plain "com/example/lease/lease/model/WholeNumbers" (some 0) with
  accessFlags := 33
  interfaces := #[]
  cf := some (fileOf pool10 22 #[] #[{ accessFlags := 2, nameIndex := 5, descriptorIndex := 6, attributes := #[] }, { accessFlags := 9, nameIndex := 53, descriptorIndex := 54, attributes := #[] }] 33 2 #[] #[])
  fields := #[]
  methods := #[k10m0, k10m1]
  instanceTypes := #[]
  staticTypes := #[]
  resolved := Array.replicate 72 none
  statics := none }

def pool11 : Array CpInfo := pool [(4, .class_ 6), (1, u "java/lang/Object"), (0, u "<init>"), (0, u "()V"), (5, .class_ 16), (1, u "java/lang/StringLatin1"), (104, u "$assertionsDisabled"), (0, u "Z"), (98, .class_ 223), (1, u "java/lang/StringLatin1$LinesSpliterator"), (166, .class_ 391), (0, u "java/lang/StringLatin1$CharsSpliterator")] 3

def k11m0 : Method := { name := "<init>", desc := "()V", sig := { parameters := [], returnType := none }, accessFlags := 0, code := none }
/-- java/lang/StringLatin1 -/
def k11 : Class := { plain "java/lang/StringLatin1" (some 0) with
  accessFlags := 48
  interfaces := #[]
  cf := some (fileOf pool11 14 #[.nestMembers #[390, 221]] #[{ accessFlags := 0, nameIndex := 7, descriptorIndex := 8, attributes := #[] }] 48 4 #[] #[{ accessFlags := 4120, nameIndex := 121, descriptorIndex := 122, attributes := #[] }])
  fields := #[{ name := "$assertionsDisabled", type := .boolean, accessFlags := 4120, slot := 0, constantValue := 0 }]
  methods := #[k11m0]
  instanceTypes := #[]
  staticTypes := #[.boolean]
  resolved := Array.replicate 395 none
  statics := none }

def pool12 : Array CpInfo := pool [(2, .class_ 4), (1, u "java/lang/Object"), (0, u "<init>"), (0, u "()V"), (17, .class_ 26), (1, u "jdk/internal/util/Preconditions"), (28, .class_ 56), (0, u "jdk/internal/util/Preconditions$4"), (57, .class_ 115), (0, u "jdk/internal/util/Preconditions$1"), (7, u "SIOOBE_FORMATTER"), (0, u "Ljava/util/function/BiFunction;"), (0, .class_ 126), (0, u "jdk/internal/util/Preconditions$2"), (3, u "AIOOBE_FORMATTER"), (0, .class_ 132), (0, u "jdk/internal/util/Preconditions$3"), (3, u "IOOBE_FORMATTER")] 57

def k12m0 : Method := { name := "<init>", desc := "()V", sig := { parameters := [], returnType := none }, accessFlags := 1, code := none }
/-- jdk/internal/util/Preconditions -/
def k12 : Class := { plain "jdk/internal/util/Preconditions" (some 0) with
  accessFlags := 33
  interfaces := #[]
  cf := some (fileOf pool12 24 #[.nestMembers #[55, 131, 125, 114]] #[{ accessFlags := 1, nameIndex := 5, descriptorIndex := 6, attributes := #[] }] 33 2 #[] #[{ accessFlags := 25, nameIndex := 123, descriptorIndex := 124, attributes := #[] }, { accessFlags := 25, nameIndex := 130, descriptorIndex := 124, attributes := #[] }, { accessFlags := 25, nameIndex := 136, descriptorIndex := 124, attributes := #[] }])
  fields := #[{ name := "SIOOBE_FORMATTER", type := (.object "java/util/function/BiFunction"), accessFlags := 25, slot := 0, constantValue := 0 }, { name := "AIOOBE_FORMATTER", type := (.object "java/util/function/BiFunction"), accessFlags := 25, slot := 1, constantValue := 0 }, { name := "IOOBE_FORMATTER", type := (.object "java/util/function/BiFunction"), accessFlags := 25, slot := 2, constantValue := 0 }]
  methods := #[k12m0]
  instanceTypes := #[]
  staticTypes := #[(.object "java/util/function/BiFunction"), (.object "java/util/function/BiFunction"), (.object "java/util/function/BiFunction")]
  resolved := Array.replicate 194 none
  statics := some 1 }

def pool13 : Array CpInfo := pool [(9, u "<init>"), (6, .class_ 18), (1, u "java/lang/Object"), (0, u "()V"), (1, .class_ 23), (1, u "jdk/internal/util/ArraysSupport"), (0, u "LOG2_ARRAY_LONG_INDEX_SCALE"), (0, u "I"), (2, u "U"), (0, u "Ljdk/internal/misc/Unsafe;"), (8, u "BIG_ENDIAN"), (0, u "Z"), (8, u "LOG2_BYTE_BIT_SIZE"), (4, u "LOG2_ARRAY_INT_INDEX_SCALE"), (54, u "JLA"), (0, u "Ljdk/internal/access/JavaLangAccess;"), (11, u "LOG2_ARRAY_BOOLEAN_INDEX_SCALE"), (9, u "LOG2_ARRAY_BYTE_INDEX_SCALE"), (5, u "LOG2_ARRAY_CHAR_INDEX_SCALE"), (5, u "LOG2_ARRAY_SHORT_INDEX_SCALE"), (18, u "LOG2_ARRAY_FLOAT_INDEX_SCALE"), (24, u "LOG2_ARRAY_DOUBLE_INDEX_SCALE"), (89, u "T_BOOLEAN"), (2, u "T_CHAR"), (1, u "T_FLOAT"), (1, u "T_DOUBLE"), (1, u "T_BYTE"), (1, u "T_SHORT"), (1, u "T_INT"), (1, u "T_LONG"), (1, u "SOFT_MAX_ARRAY_LENGTH")] 83

def k13m0 : Method := { name := "<init>", desc := "()V", sig := { parameters := [], returnType := none }, accessFlags := 2, code := none }
/-- jdk/internal/util/ArraysSupport -/
def k13 : Class := { plain "jdk/internal/util/ArraysSupport" (some 0) with
  accessFlags := 33
  interfaces := #[]
  cf := some (fileOf pool13 21 #[] #[{ accessFlags := 2, nameIndex := 9, descriptorIndex := 19, attributes := #[] }] 33 16 #[] #[{ accessFlags := 24, nameIndex := 28, descriptorIndex := 29, attributes := #[] }, { accessFlags := 26, nameIndex := 38, descriptorIndex := 39, attributes := #[] }, { accessFlags := 25, nameIndex := 121, descriptorIndex := 25, attributes := #[] }, { accessFlags := 25, nameIndex := 131, descriptorIndex := 25, attributes := #[] }, { accessFlags := 25, nameIndex := 137, descriptorIndex := 25, attributes := #[] }, { accessFlags := 25, nameIndex := 143, descriptorIndex := 25, attributes := #[] }, { accessFlags := 25, nameIndex := 53, descriptorIndex := 25, attributes := #[] }, { accessFlags := 25, nameIndex := 24, descriptorIndex := 25, attributes := #[] }, { accessFlags := 25, nameIndex := 162, descriptorIndex := 25, attributes := #[] }, { accessFlags := 25, nameIndex := 187, descriptorIndex := 25, attributes := #[] }, { accessFlags := 26, nameIndex := 48, descriptorIndex := 25, attributes := #[] }, { accessFlags := 25, nameIndex := 277, descriptorIndex := 25, attributes := #[] }, { accessFlags := 25, nameIndex := 280, descriptorIndex := 25, attributes := #[] }, { accessFlags := 25, nameIndex := 282, descriptorIndex := 25, attributes := #[] }, { accessFlags := 25, nameIndex := 284, descriptorIndex := 25, attributes := #[] }, { accessFlags := 25, nameIndex := 286, descriptorIndex := 25, attributes := #[] }, { accessFlags := 25, nameIndex := 288, descriptorIndex := 25, attributes := #[] }, { accessFlags := 25, nameIndex := 290, descriptorIndex := 25, attributes := #[] }, { accessFlags := 25, nameIndex := 292, descriptorIndex := 25, attributes := #[] }, { accessFlags := 26, nameIndex := 108, descriptorIndex := 109, attributes := #[] }, { accessFlags := 25, nameIndex := 294, descriptorIndex := 25, attributes := #[] }])
  fields := #[{ name := "U", type := (.object "jdk/internal/misc/Unsafe"), accessFlags := 24, slot := 0, constantValue := 0 }, { name := "BIG_ENDIAN", type := .boolean, accessFlags := 26, slot := 1, constantValue := 0 }, { name := "LOG2_ARRAY_BOOLEAN_INDEX_SCALE", type := .int, accessFlags := 25, slot := 2, constantValue := 0 }, { name := "LOG2_ARRAY_BYTE_INDEX_SCALE", type := .int, accessFlags := 25, slot := 3, constantValue := 0 }, { name := "LOG2_ARRAY_CHAR_INDEX_SCALE", type := .int, accessFlags := 25, slot := 4, constantValue := 0 }, { name := "LOG2_ARRAY_SHORT_INDEX_SCALE", type := .int, accessFlags := 25, slot := 5, constantValue := 0 }, { name := "LOG2_ARRAY_INT_INDEX_SCALE", type := .int, accessFlags := 25, slot := 6, constantValue := 0 }, { name := "LOG2_ARRAY_LONG_INDEX_SCALE", type := .int, accessFlags := 25, slot := 7, constantValue := 0 }, { name := "LOG2_ARRAY_FLOAT_INDEX_SCALE", type := .int, accessFlags := 25, slot := 8, constantValue := 0 }, { name := "LOG2_ARRAY_DOUBLE_INDEX_SCALE", type := .int, accessFlags := 25, slot := 9, constantValue := 0 }, { name := "LOG2_BYTE_BIT_SIZE", type := .int, accessFlags := 26, slot := 10, constantValue := 0 }, { name := "T_BOOLEAN", type := .int, accessFlags := 25, slot := 11, constantValue := 0 }, { name := "T_CHAR", type := .int, accessFlags := 25, slot := 12, constantValue := 0 }, { name := "T_FLOAT", type := .int, accessFlags := 25, slot := 13, constantValue := 0 }, { name := "T_DOUBLE", type := .int, accessFlags := 25, slot := 14, constantValue := 0 }, { name := "T_BYTE", type := .int, accessFlags := 25, slot := 15, constantValue := 0 }, { name := "T_SHORT", type := .int, accessFlags := 25, slot := 16, constantValue := 0 }, { name := "T_INT", type := .int, accessFlags := 25, slot := 17, constantValue := 0 }, { name := "T_LONG", type := .int, accessFlags := 25, slot := 18, constantValue := 0 }, { name := "JLA", type := (.object "jdk/internal/access/JavaLangAccess"), accessFlags := 26, slot := 19, constantValue := 0 }, { name := "SOFT_MAX_ARRAY_LENGTH", type := .int, accessFlags := 25, slot := 20, constantValue := 0 }]
  methods := #[k13m0]
  instanceTypes := #[]
  staticTypes := #[(.object "jdk/internal/misc/Unsafe"), .boolean, .int, .int, .int, .int, .int, .int, .int, .int, .int, .int, .int, .int, .int, .int, .int, .int, .int, (.object "jdk/internal/access/JavaLangAccess"), .int]
  resolved := Array.replicate 378 none
  statics := none }

def pool14 : Array CpInfo := pool [(1, u "java/lang/Cloneable"), (0, .class_ 1), (0, u "java/lang/Object"), (0, .class_ 3)] 3

/-- java/lang/Cloneable -/
def k14 : Class := { plain "java/lang/Cloneable" (some 0) with
  accessFlags := 1537
  interfaces := #[]
  cf := some (fileOf pool14 2 #[] #[] 1537 4 #[] #[])
  fields := #[]
  methods := #[]
  instanceTypes := #[]
  staticTypes := #[]
  resolved := Array.replicate 8 none
  statics := none }

/-- the primitive byte -/
def k15 : Class := { plain "byte" none with kind := .primitive 'B', accessFlags := 0x411 }
/-- [B -/
def k16 : Class := { plain "[B" (some 0) with kind := .array 15 .byte, interfaces := #[14, 3], accessFlags := 1041 }

/-- the primitive char -/
def k17 : Class := { plain "char" none with kind := .primitive 'C', accessFlags := 0x411 }
/-- [C -/
def k18 : Class := { plain "[C" (some 0) with kind := .array 17 .char, interfaces := #[14, 3], accessFlags := 1041 }

/-- the primitive int -/
def k19 : Class := { plain "int" none with kind := .primitive 'I', accessFlags := 0x411 }
/-- [I -/
def k20 : Class := { plain "[I" (some 0) with kind := .array 19 .int, interfaces := #[14, 3], accessFlags := 1041 }

def heap : Heap := #[{ cls := 8, slots := #[.long 0, .int 1, .null, .int 0, .null, .int 0, .int 0], vm := .statics 8 },
  { cls := 12, slots := #[.null, .null, .null], vm := .statics 12 }]
def classes : Array Class := #[k0, k1, k2, k3, k4, k5, k6, k7, k8, k9, k10, k11, k12, k13, k14, k15, k16, k17, k18, k19, k20]
def interned : List (Array UInt16 × Addr) := []
def slotsUsed : Nat := 10
def theMethod : MethodId := ⟨1, 1⟩
def args0 : Array Value := #[.int 3, .int 4, .int 5, .int 6]
def aboutOver (below : List Frame) : State where
  vm := { classes := classes, interned := interned.toArray }
  heap := heap
  slotsUsed := slotsUsed
  threads := #[{ frames := .invoking theMethod args0 :: below }]
def below0 : List Frame := [.native { method := ⟨0, 0⟩, args := #[] }]
def about1 : State := aboutOver below0
def p0 : Program := .bare "" "" ""
def e0 : Env := launch0.env 0 0 0
theorem w_frames : about1.frames = Frame.invoking theMethod args0 :: below0 := rfl
set_option maxRecDepth 65536 in
theorem w_args : argsFit about1.vm theMethod args0 = true := by decide +kernel
set_option maxRecDepth 65536 in
theorem w_heap : heapFits about1 = true := by decide +kernel
set_option maxRecDepth 65536 in
theorem w_runnable : about1.curStatus? = some .runnable := by decide +kernel
set_option maxRecDepth 65536 in
theorem w_alone : about1.alone = true := by decide +kernel
set_option maxRecDepth 65536 in
theorem w_named : about1.methodNamed? x = some theMethod := by decide +kernel
set_option maxRecDepth 65536 in
theorem w_hears : about1.hears theMethod below0 = true := by decide +kernel
set_option maxRecDepth 65536 in
theorem w_ripe : about1.ripe theMethod args0 below0 = true := by decide +kernel
theorem w_running : about1.status = .running := rfl
set_option maxRecDepth 65536 in
theorem w_room : about1.hasRoom e0.platform room_1 = true :=
  launch0.hasRoom_least _ room_1 (by decide +kernel) (by decide +kernel) (by decide +kernel) (by decide +kernel) (by decide +kernel) (by decide +kernel)
theorem allAtoms_all (ts : List Jvm.Cond) (a : Array Jvm.Value) (st : Jvm.State) : (allAtoms ts).before a st = ts.all (fun c => c.before a st) := by
  induction ts with
  | nil => rfl
  | cons c t ih =>
    show (Jvm.Cond.and c (allAtoms t)).before a st = _
    rw [Jvm.Cond.before_and, ih, List.all_cons]
def words1 : List Jvm.Cond := Jvm.Cond.code x code maxLocals ret :: tables_1
/-- a 'code' word, met by the world's own term for the bytes: nothing is compared byte by byte -/
theorem code_word {y : MethodName} {bytes : ByteArray} {mx : Nat} {rt : Option FieldType} {a : Array Value} {s : State} {m : MethodId} {meth : Method} {c : Code} (h1 : s.methodNamed? y = some m) (h2 : s.vm.method? m = some meth) (h3 : meth.code = some c) (h4 : c.code = bytes)
    (h5 : (c.maxLocals == mx && c.exceptionTable.isEmpty && decide (c.maxStack ≤ mostOperands) && decide (meth.sig.returnType = rt) && !meth.locks && decide (parseMethodDescriptor y.desc = some meth.sig)) = true) : (Jvm.Cond.code y bytes mx rt).before a s = true := by
  simp only [Bool.and_eq_true, beq_iff_eq, Bool.not_eq_true', decide_eq_true_eq] at h5
  obtain ⟨⟨⟨⟨⟨g1, g2⟩, g3⟩, g4⟩, g5⟩, g6⟩ := h5
  simp [Cond.before, Cond.holds, Cond.value, h1, h2, h3, h4, g1, g2, g3, g4, g5, g6]
def isCode : Jvm.Cond → Bool
  | .code _ _ _ _ => true
  | _ => false
theorem all_split {L : List Jvm.Cond} {P : Jvm.Cond → Bool} (h1 : L.all (fun c => isCode c || P c) = true) (h2 : ∀ c ∈ L.filter isCode, P c = true) : L.all P = true := by
  refine List.all_eq_true.mpr fun c hc => ?_
  have h := List.all_eq_true.mp h1 c hc
  rcases Bool.eq_false_or_eq_true (isCode c) with hi | hi
  · exact h2 c (List.mem_filter.mpr ⟨hc, hi⟩)
  · simpa [hi] using h
set_option maxRecDepth 65536 in
theorem w_c0 : (Jvm.Cond.code x code maxLocals ret).before args0 about1 = true := code_word (m := ⟨1, 1⟩) (meth := k1m1) (c := k1c1) (by decide +kernel) rfl rfl rfl (by decide +kernel)
set_option maxRecDepth 65536 in
theorem w_c1 : (Jvm.Cond.code ({ cls := "java/lang/Math", name := "min", desc := "(II)I" } : Jvm.MethodName) jdk_29_method_69_code (2 : Nat) (Option.some Jvm.ClassFile.FieldType.int)).before args0 about1 = true := code_word (m := ⟨2, 2⟩) (meth := k2m2) (c := k2c2) (by decide +kernel) rfl rfl rfl (by decide +kernel)
set_option maxRecDepth 65536 in
theorem w_c2 : (Jvm.Cond.code ({ cls := "java/lang/Math", name := "max", desc := "(II)I" } : Jvm.MethodName) jdk_29_method_65_code (2 : Nat) (Option.some Jvm.ClassFile.FieldType.int)).before args0 about1 = true := code_word (m := ⟨2, 1⟩) (meth := k2m1) (c := k2c1) (by decide +kernel) rfl rfl rfl (by decide +kernel)
set_option maxRecDepth 65536 in
theorem w_c3 : (Jvm.Cond.code ({ cls := "java/lang/String", name := "<init>", desc := "([C)V" } : Jvm.MethodName) jdk_42_method_3_code (2 : Nat) (Option.none : Option Jvm.ClassFile.FieldType)).before args0 about1 = true := code_word (m := ⟨8, 1⟩) (meth := k8m1) (c := k8c1) (by decide +kernel) rfl rfl rfl (by decide +kernel)
set_option maxRecDepth 65536 in
theorem w_c4 : (Jvm.Cond.code ({ cls := "java/lang/String", name := "<init>", desc := "([CIILjava/lang/Void;)V" } : Jvm.MethodName) jdk_42_method_149_code (6 : Nat) (Option.none : Option Jvm.ClassFile.FieldType)).before args0 about1 = true := code_word (m := ⟨8, 2⟩) (meth := k8m2) (c := k8c2) (by decide +kernel) rfl rfl rfl (by decide +kernel)
set_option maxRecDepth 65536 in
theorem w_c5 : (Jvm.Cond.code ({ cls := "java/lang/Object", name := "<init>", desc := "()V" } : Jvm.MethodName) object_method_1_code (1 : Nat) (Option.none : Option Jvm.ClassFile.FieldType)).before args0 about1 = true := code_word (m := ⟨0, 0⟩) (meth := k0m0) (c := k0c0) (by decide +kernel) rfl rfl rfl (by decide +kernel)
set_option maxRecDepth 65536 in
theorem w_c6 : (Jvm.Cond.code ({ cls := "java/lang/StringUTF16", name := "compress", desc := "([CII)[B" } : Jvm.MethodName) jdk_52_method_16_code (6 : Nat) (Option.some (Jvm.ClassFile.FieldType.array Jvm.ClassFile.FieldType.byte))).before args0 about1 = true := code_word (m := ⟨9, 2⟩) (meth := k9m2) (c := k9c2) (by decide +kernel) rfl rfl rfl (by decide +kernel)
set_option maxRecDepth 65536 in
theorem w_c7 : (Jvm.Cond.code ({ cls := "java/lang/StringUTF16", name := "compress", desc := "([CI[BII)I" } : Jvm.MethodName) jdk_52_method_21_code (7 : Nat) (Option.some Jvm.ClassFile.FieldType.int)).before args0 about1 = true := code_word (m := ⟨9, 3⟩) (meth := k9m3) (c := k9c3) (by decide +kernel) rfl rfl rfl (by decide +kernel)
set_option maxRecDepth 65536 in
theorem w_c8 : (Jvm.Cond.code ({ cls := "java/lang/StringUTF16", name := "coderFromArrayLen", desc := "([BI)B" } : Jvm.MethodName) jdk_52_method_15_code (2 : Nat) (Option.some Jvm.ClassFile.FieldType.byte)).before args0 about1 = true := code_word (m := ⟨9, 1⟩) (meth := k9m1) (c := k9c1) (by decide +kernel) rfl rfl rfl (by decide +kernel)
set_option maxRecDepth 65536 in
theorem w_c9 : (Jvm.Cond.code ({ cls := "com/example/lease/lease/model/WholeNumbers", name := "require", desc := "(Ljava/lang/String;III)I" } : Jvm.MethodName) prog_50_method_3_code (4 : Nat) (Option.some Jvm.ClassFile.FieldType.int)).before args0 about1 = true := code_word (m := ⟨10, 1⟩) (meth := k10m1) (c := k10c1) (by decide +kernel) rfl rfl rfl (by decide +kernel)
def codes1 : List Jvm.Cond := [Jvm.Cond.code x code maxLocals ret, Jvm.Cond.code ({ cls := "java/lang/Math", name := "min", desc := "(II)I" } : Jvm.MethodName) jdk_29_method_69_code (2 : Nat) (Option.some Jvm.ClassFile.FieldType.int), Jvm.Cond.code ({ cls := "java/lang/Math", name := "max", desc := "(II)I" } : Jvm.MethodName) jdk_29_method_65_code (2 : Nat) (Option.some Jvm.ClassFile.FieldType.int), Jvm.Cond.code ({ cls := "java/lang/String", name := "<init>", desc := "([C)V" } : Jvm.MethodName) jdk_42_method_3_code (2 : Nat) (Option.none : Option Jvm.ClassFile.FieldType), Jvm.Cond.code ({ cls := "java/lang/String", name := "<init>", desc := "([CIILjava/lang/Void;)V" } : Jvm.MethodName) jdk_42_method_149_code (6 : Nat) (Option.none : Option Jvm.ClassFile.FieldType), Jvm.Cond.code ({ cls := "java/lang/Object", name := "<init>", desc := "()V" } : Jvm.MethodName) object_method_1_code (1 : Nat) (Option.none : Option Jvm.ClassFile.FieldType), Jvm.Cond.code ({ cls := "java/lang/StringUTF16", name := "compress", desc := "([CII)[B" } : Jvm.MethodName) jdk_52_method_16_code (6 : Nat) (Option.some (Jvm.ClassFile.FieldType.array Jvm.ClassFile.FieldType.byte)), Jvm.Cond.code ({ cls := "java/lang/StringUTF16", name := "compress", desc := "([CI[BII)I" } : Jvm.MethodName) jdk_52_method_21_code (7 : Nat) (Option.some Jvm.ClassFile.FieldType.int), Jvm.Cond.code ({ cls := "java/lang/StringUTF16", name := "coderFromArrayLen", desc := "([BI)B" } : Jvm.MethodName) jdk_52_method_15_code (2 : Nat) (Option.some Jvm.ClassFile.FieldType.byte), Jvm.Cond.code ({ cls := "com/example/lease/lease/model/WholeNumbers", name := "require", desc := "(Ljava/lang/String;III)I" } : Jvm.MethodName) prog_50_method_3_code (4 : Nat) (Option.some Jvm.ClassFile.FieldType.int)]
set_option maxRecDepth 65536 in
theorem codes_eq : words1.filter isCode = codes1 := rfl
theorem w_codes : ∀ c ∈ words1.filter isCode, c.before args0 about1 = true := by
  rw [codes_eq]
  intro c hc
  simp only [codes1, List.mem_cons, List.not_mem_nil, or_false] at hc
  rcases hc with rfl | rfl | rfl | rfl | rfl | rfl | rfl | rfl | rfl | rfl
  · exact w_c0
  · exact w_c1
  · exact w_c2
  · exact w_c3
  · exact w_c4
  · exact w_c5
  · exact w_c6
  · exact w_c7
  · exact w_c8
  · exact w_c9
set_option maxRecDepth 65536 in
theorem w_t1 : (words1.take 24).all (fun c => isCode c || c.before args0 about1) = true := by decide +kernel
set_option maxRecDepth 65536 in
theorem w_t2 : (words1.drop 24).all (fun c => isCode c || c.before args0 about1) = true := by decide +kernel
theorem w_tables : (allAtoms (Jvm.Cond.code x code maxLocals ret :: tables_1)).before args0 about1 = true := by
  rw [allAtoms_all]
  show words1.all (fun c => c.before args0 about1) = true
  refine all_split ?_ w_codes
  rw [← List.take_append_drop 24 words1, List.all_append, w_t1, w_t2]
  rfl
set_option maxRecDepth 65536 in
theorem w_rest : rest_1_c.before args0 about1 = true := by decide +kernel
set_option maxRecDepth 65536 in
theorem w_case : (Jvm.Cond.and given_1 narrow_1).before args0 about1 = true := by decide +kernel
theorem w_applies : (headSpec (Jvm.Cond.code x code maxLocals ret :: tables_1) room_1).applies x e0.platform about1 = true :=
  (Spec.applies_iff w_frames).mpr ⟨w_running, w_runnable, w_alone, w_named, w_hears, w_ripe, w_room, w_tables⟩
theorem atStart : AtStart classFile x code maxLocals ret World_1 tables_1 room_1 Calls_1 rest_1 Pre_1 launch0 p0 e0 about1 theMethod args0 below0 :=
  ⟨lists_1, trivial, launch0.admits_env _ _ _, launch0.least_env, fairChoices_fair.cas, fairChoices_fair.clock, w_frames, w_args, w_heap, w_applies, trivial, w_rest, w_case⟩
end start1
theorem witness_1 : WitnessClaimed_1 := ⟨start1.p0, start1.e0, start1.about1, start1.theMethod, start1.args0, start1.below0, start1.atStart⟩
end Jvm.Pilot.@@N@@
