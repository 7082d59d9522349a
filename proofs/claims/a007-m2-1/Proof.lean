import JvmDerived
import JvmDerived.Pilot.@@N@@Statement
import JvmDerived.Pilot.@@N@@Code
set_option linter.unusedVariables false
set_option linter.unusedSimpArgs false
@@BLOCK:NumsL.lean.txt@@
/- laws to paste: Road.backV (cut by pick.py; bodies as the Statement names them) -/
namespace Jvm.Pilot.@@N@@
namespace StrChars
open Jvm Sem ClassFile Op Lib Jvm.Stand Jvm.Free.XT Jvm.Free.ALB Jvm.Free.JM Jvm.Free
open Jvm.Lib.Cold (StaticIs)
/-- a char array whose places are chars -/
def Ch (a : Addr) (A : Cell) (U : State) : Prop := Arr .char a A U ∧ Typed .char A
theorem Ch.mv {a : Addr} {A : Cell} {U U' : State} (h : Ch a A U) (hal : U.vm.Alike U'.vm) (hh : U'.heap = U.heap) : Ch a A U' := ⟨h.1.mv hal hh, h.2⟩
theorem Ch.keep {a : Addr} {A : Cell} {U U' : State} (h : Ch a A U) (hal : U.vm.Alike U'.vm) (hk : U'.heap[a]? = some A) : Ch a A U' := ⟨h.1.keep hal hk, h.2⟩
/-- what place i of a char[]'s cell holds -/
def cv (A : Cell) (i : Nat) : Int32 := match A.slots[i]? with | some (.int x) => x | _ => 0
theorem Ch.get {a : Addr} {A : Cell} {U : State} (h : Ch a A U) {i : Nat} (hi : i < A.slots.size) : A.slots[i]? = some (.int (cv A i)) := by
  have e := Array.getElem?_eq_getElem hi
  have f := h.2 i _ e
  unfold cv; rw [e]
  generalize A.slots[i] = v at f
  cases v <;> simp [fits] at f ⊢
/-- the byte that i2b leaves of a char -/
def lo8 (x : Int32) : Int32 := x.toInt8.toInt32
theorem fits_lo8 (y : Int32) : fits .byte (.int (lo8 y)) = true := by
  have h1 := y.toInt8.le_toInt
  have h2 := y.toInt8.toInt_lt
  simp only [lo8, fits, Bool.and_eq_true, decide_eq_true_eq, Int32.le_iff_toInt_le, Int8.toInt_toInt32, show (-128 : Int32).toInt = -128 from by decide, show (127 : Int32).toInt = 127 from by decide]
  omega
/-- A' is A but that each place j of lo .. hi - 1 holds f j -/
def Laid (A A' : Cell) (lo hi : Nat) (f : Nat → Value) : Prop := A'.cls = A.cls ∧ A'.vm = A.vm ∧ A'.slots.size = A.slots.size ∧ ∀ i, A'.slots[i]? = if lo ≤ i ∧ i < hi then some (f i) else A.slots[i]?
theorem Laid.zero (A : Cell) (lo : Nat) (f : Nat → Value) : Laid A A lo (lo + 0) f := ⟨rfl, rfl, rfl, fun i => by rw [if_neg (by omega)]⟩
theorem Laid.step {A Ak : Cell} {lo k : Nat} {f : Nat → Value} {v : Value} (h : Laid A Ak lo k f) (hlo : lo ≤ k) (hk : k < Ak.slots.size) (hv : v = f k) : Laid A (Ak.setSlot k v) lo (k + 1) f := by
  refine ⟨h.1, h.2.1, by simpa [Cell.setSlot] using h.2.2.1, fun i => ?_⟩
  by_cases e : k = i
  · subst e; rw [Cell.slots_setSlot_self v hk, if_pos (by omega), hv]
  · rw [Cell.slots_setSlot_ne v e, h.2.2.2 i]
    by_cases q : lo ≤ i ∧ i < k
    · rw [if_pos q, if_pos (by omega)]
    · rw [if_neg q, if_neg (by omega)]
def U16 : String := "java/lang/StringUTF16"
namespace Cmp5
def yN : MethodName := ⟨"java/lang/StringUTF16", "compress", "([CI[BII)I"⟩
abbrev yB : ByteArray := jdk_52_method_21_code
theorem d0 : decode yB 0 = .ok (.iconst 0, 1) := by decide +kernel
theorem d1 : decode yB 1 = .ok (.istore 5, 2) := by decide +kernel
theorem d3 : decode yB 3 = .ok (.iload 5, 2) := by decide +kernel
theorem d5 : decode yB 5 = .ok (.iload 4, 2) := by decide +kernel
theorem d7 : decode yB 7 = .ok (.if_icmp (.ge) 37, 3) := by decide +kernel
theorem d10 : decode yB 10 = .ok (.aload_n 0, 1) := by decide +kernel
theorem d11 : decode yB 11 = .ok (.iload_n 1, 1) := by decide +kernel
theorem d12 : decode yB 12 = .ok (.caload, 1) := by decide +kernel
theorem d13 : decode yB 13 = .ok (.istore 6, 2) := by decide +kernel
theorem d15 : decode yB 15 = .ok (.iload 6, 2) := by decide +kernel
theorem d17 : decode yB 17 = .ok (.sipush 255, 3) := by decide +kernel
theorem d20 : decode yB 20 = .ok (.if_icmp (.le) 6, 3) := by decide +kernel
theorem d26 : decode yB 26 = .ok (.aload_n 2, 1) := by decide +kernel
theorem d27 : decode yB 27 = .ok (.iload_n 3, 1) := by decide +kernel
theorem d28 : decode yB 28 = .ok (.iload 6, 2) := by decide +kernel
theorem d30 : decode yB 30 = .ok (.i2b, 1) := by decide +kernel
theorem d31 : decode yB 31 = .ok (.bastore, 1) := by decide +kernel
theorem d32 : decode yB 32 = .ok (.iinc 1 1, 3) := by decide +kernel
theorem d35 : decode yB 35 = .ok (.iinc 3 1, 3) := by decide +kernel
theorem d38 : decode yB 38 = .ok (.iinc 5 1, 3) := by decide +kernel
theorem d41 : decode yB 41 = .ok (.goto (-38), 3) := by decide +kernel
theorem d44 : decode yB 44 = .ok (.iload 4, 2) := by decide +kernel
theorem d46 : decode yB 46 = .ok (.ireturn, 1) := by decide +kernel
def site : List Cond := []
def tab : Cond := tabOf yN yB 7 (some .int) site
def P (b : Addr) (A : Cell) (d : Addr) (B : Cell) (o q len : Nat) (args : Array Value) (s : State) : Prop := args = #[.ref b, .int (Int32.ofNat o), .ref d, .int (Int32.ofNat q), .int (Int32.ofNat len)] ∧ Ch b A s ∧ Arr .byte d B s ∧ b ≠ d ∧ o + len ≤ A.slots.size ∧ q + len ≤ B.slots.size ∧ ∀ i, i < len → ¬ 255 < cv A (o + i)
def E (b : Addr) (A : Cell) (d : Addr) (B : Cell) (o q len : Nat) (r : Option Value) (s u : State) : Prop := r = some (.int (Int32.ofNat len)) ∧ ∃ B', Put d B' s u ∧ Laid B B' q (q + len) (fun j => Value.int (lo8 (cv A (o + (j - q)))))
/-- no char of the range above 255: len; the places written hold each char's low byte -/
theorem law (l : Launch) (b : Addr) (A : Cell) (d : Addr) (B : Cell) (o q len : Nat) : Law l yN 5 5 0 0 yB 7 (some .int) site (P b A d B o q len) (E b A d B o q len) (copyLocs d q len) 0 0 := by
  refine Law.of_walk (plainFor_of_name (by decide +kernel)) (by decide +kernel) (by decide +kernel) (by decide) (fun _ _ h => by rw [h.1]; rfl) (fun _ U U' hal hh h => ⟨h.1, h.2.1.mv hal hh, h.2.2.1.mv hal hh, h.2.2.2⟩) (fun r U U' V V' h1 hal h2 h => ⟨h.1, h.2.elim fun B' q => ⟨B', q.1.mv h1 h2, q.2⟩⟩) ?_
  intro p e s m args below meth c s₁ X0 hexec hbytes hml hret hlk hnm hown hh0 W hP
  obtain ⟨rfl, hA, hB, hne, l1, l2, hp⟩ := hP
  have c1 : Steps p.tables e below (s₁.setTop (entryFrame m #[.ref b, .int (Int32.ofNat o), .ref d, .int (Int32.ofNat q), .int (Int32.ofNat len)] 7)) (s₁.setTop (mkF m 0 #[.val (.ref b), .val (.int (Int32.ofNat o)), .val (.ref d), .val (.int (Int32.ofNat q)), .val (.int (Int32.ofNat len)), .unset, .unset] [])) := entry rfl
  have hA0 := hA.1.mv X0.warmed.alike hh0
  have hB0 := hB.mv X0.warmed.alike hh0
  have a31 := hA.1.2.2.2
  have c2 : Steps p.tables e below (s₁.setTop (entryFrame m #[.ref b, .int (Int32.ofNat o), .ref d, .int (Int32.ofNat q), .int (Int32.ofNat len)] 7)) (s₁.setTop (mkF m 3 #[.val (.ref b), .val (.int (Int32.ofNat o)), .val (.ref d), .val (.int (Int32.ofNat q)), .val (.int (Int32.ofNat len)), .val (.int 0), .unset] [])) := c1.trans (by
    refine iconstV X0.here hexec rfl 0 (hb hbytes d0) (by decide) ?_
    refine XS.istore X0.here hexec rfl (hb hbytes d1) rfl rfl ?_
    exact Steps.refl _)
  have loop : ∀ (r i : Nat), i + r = len → ∀ (z : Slot), (z = .unset ∨ ∃ w, z = .val w ∧ w.category = 1) → ∀ (Tl : State) (Bk : Cell), Stand p l e { frames := 0, locals := 0, cells := 0, slots := 0 } s m #[.ref b, .int (Int32.ofNat o), .ref d, .int (Int32.ofNat q), .int (Int32.ofNat len)] below meth c Tl ([] ++ copyLocs d q i) 0 0 → Put d Bk s₁ Tl → Laid B Bk q (q + i) (fun j => Value.int (lo8 (cv A (o + (j - q))))) →
      Steps p.tables e below (s₁.setTop (entryFrame m #[.ref b, .int (Int32.ofNat o), .ref d, .int (Int32.ofNat q), .int (Int32.ofNat len)] 7)) (Tl.setTop (mkF m 3 #[.val (.ref b), .val (.int (Int32.ofNat (o + i))), .val (.ref d), .val (.int (Int32.ofNat (q + i))), .val (.int (Int32.ofNat len)), .val (.int (Int32.ofNat i)), z] [])) → ∃ (T' : State) (B' : Cell) (z' : Slot), Stand p l e { frames := 0, locals := 0, cells := 0, slots := 0 } s m #[.ref b, .int (Int32.ofNat o), .ref d, .int (Int32.ofNat q), .int (Int32.ofNat len)] below meth c T' ([] ++ copyLocs d q len) 0 0 ∧ Put d B' s₁ T' ∧ Laid B B' q (q + len) (fun j => Value.int (lo8 (cv A (o + (j - q))))) ∧
      Steps p.tables e below (s₁.setTop (entryFrame m #[.ref b, .int (Int32.ofNat o), .ref d, .int (Int32.ofNat q), .int (Int32.ofNat len)] 7)) (T'.setTop (mkF m 3 #[.val (.ref b), .val (.int (Int32.ofNat (o + len))), .val (.ref d), .val (.int (Int32.ofNat (q + len))), .val (.int (Int32.ofNat len)), .val (.int (Int32.ofNat len)), z'] [])) := by
    intro r
    induction r with
    | zero =>
      intro i hi z hz Tl Bk Xl pl fl cl
      have hil : i = len := by omega
      rw [hil] at Xl fl cl
      exact ⟨Tl, Bk, z, Xl, pl, fl, cl⟩
    | succ r ih =>
      intro i hi z hz Tl Bk Xl pl fl cl
      have all := X0.warmed.alike.symm.trans Xl.warmed.alike
      have hAl := hA0.keep all (pl.other hne hA0.1)
      have hBk := hB0.like all pl.1 fl.1 fl.2.1 fl.2.2.1
      have hlt : q + i < Bk.slots.size := by rw [fl.2.2.1]; omega
      have c3 : Steps p.tables e below (s₁.setTop (entryFrame m #[.ref b, .int (Int32.ofNat o), .ref d, .int (Int32.ofNat q), .int (Int32.ofNat len)] 7)) (Tl.setTop (mkF m 12 #[.val (.ref b), .val (.int (Int32.ofNat (o + i))), .val (.ref d), .val (.int (Int32.ofNat (q + i))), .val (.int (Int32.ofNat len)), .val (.int (Int32.ofNat i)), z] [.int (Int32.ofNat (o + i)), .ref b])) := cl.trans (by
        refine XS.iload Xl.here hexec rfl (hb hbytes d3) rfl ?_
        refine XS.iload Xl.here hexec rfl (hb hbytes d5) rfl ?_
        refine XS.icmpNo Xl.here hexec rfl (hb hbytes d7) rfl (ii_ge_f (lt32 (by omega) (by omega))) ?_
        refine XS.aloadN Xl.here hexec rfl (hb hbytes d10) rfl rfl ?_
        refine XS.iloadN Xl.here hexec rfl (hb hbytes d11) rfl ?_
        exact Steps.refl _)
      have c4 : Steps p.tables e below (s₁.setTop (entryFrame m #[.ref b, .int (Int32.ofNat o), .ref d, .int (Int32.ofNat q), .int (Int32.ofNat len)] 7)) (Tl.setTop (mkF m 13 #[.val (.ref b), .val (.int (Int32.ofNat (o + i))), .val (.ref d), .val (.int (Int32.ofNat (q + i))), .val (.int (Int32.ofNat len)), .val (.int (Int32.ofNat i)), z] [.int (cv A (o + i))])) := c3.trans (by
        refine Xl.aget hexec hAl rfl (hA.get (i := o + i) (by omega)) rfl rfl (hb hbytes d12) ?_
        exact Steps.refl _)
      have c5 : Steps p.tables e below (s₁.setTop (entryFrame m #[.ref b, .int (Int32.ofNat o), .ref d, .int (Int32.ofNat q), .int (Int32.ofNat len)] 7)) (Tl.setTop (mkF m 15 #[.val (.ref b), .val (.int (Int32.ofNat (o + i))), .val (.ref d), .val (.int (Int32.ofNat (q + i))), .val (.int (Int32.ofNat len)), .val (.int (Int32.ofNat i)), .val (.int (cv A (o + i)))] [])) := c4.trans (by
        refine XS.istoreS Xl.here hexec rfl (hb hbytes d13) rfl rfl hz ?_
        exact Steps.refl _)
      have c6 : Steps p.tables e below (s₁.setTop (entryFrame m #[.ref b, .int (Int32.ofNat o), .ref d, .int (Int32.ofNat q), .int (Int32.ofNat len)] 7)) (Tl.setTop (mkF m 31 #[.val (.ref b), .val (.int (Int32.ofNat (o + i))), .val (.ref d), .val (.int (Int32.ofNat (q + i))), .val (.int (Int32.ofNat len)), .val (.int (Int32.ofNat i)), .val (.int (cv A (o + i)))] [.int (lo8 (cv A (o + i))), .int (Int32.ofNat (q + i)), .ref d])) := c5.trans (by
        refine XS.iload Xl.here hexec rfl (hb hbytes d15) rfl ?_
        refine sipushV Xl.here hexec rfl 255 (hb hbytes d17) (by decide) ?_
        refine XS.icmpYes Xl.here hexec rfl (pc0 := 20) rfl (hb hbytes d20) rfl (ii_le_t (hp i (by omega))) (by decide) rfl ?_
        refine XS.aloadN Xl.here hexec rfl (hb hbytes d26) rfl rfl ?_
        refine XS.iloadN Xl.here hexec rfl (hb hbytes d27) rfl ?_
        refine XS.iload Xl.here hexec rfl (hb hbytes d28) rfl ?_
        refine i2b Xl.here hexec rfl (hb hbytes d30) rfl ?_
        exact Steps.refl _)
      obtain ⟨T7, X7, p7, st7⟩ := Xl.aput hexec hBk rfl hlt rfl (fits_lo8 (cv A (o + i))) (g := (mkF m 31 #[.val (.ref b), .val (.int (Int32.ofNat (o + i))), .val (.ref d), .val (.int (Int32.ofNat (q + i))), .val (.int (Int32.ofNat len)), .val (.int (Int32.ofNat i)), .val (.int (cv A (o + i)))] [.int (lo8 (cv A (o + i))), .int (Int32.ofNat (q + i)), .ref d])) rfl (rest := []) rfl (hb hbytes d31)
      have c8 : Steps p.tables e below (s₁.setTop (entryFrame m #[.ref b, .int (Int32.ofNat o), .ref d, .int (Int32.ofNat q), .int (Int32.ofNat len)] 7)) (T7.setTop (mkF m 32 #[.val (.ref b), .val (.int (Int32.ofNat (o + i))), .val (.ref d), .val (.int (Int32.ofNat (q + i))), .val (.int (Int32.ofNat len)), .val (.int (Int32.ofNat i)), .val (.int (cv A (o + i)))] [])) := c6.trans (st7 _ (Steps.refl _))
      have c9 : Steps p.tables e below (s₁.setTop (entryFrame m #[.ref b, .int (Int32.ofNat o), .ref d, .int (Int32.ofNat q), .int (Int32.ofNat len)] 7)) (T7.setTop (mkF m 3 #[.val (.ref b), .val (.int (Int32.ofNat (o + i) + 1)), .val (.ref d), .val (.int (Int32.ofNat (q + i) + 1)), .val (.int (Int32.ofNat len)), .val (.int (Int32.ofNat i + 1)), .val (.int (cv A (o + i)))] [])) := c8.trans (by
        refine iincV X7.here hexec rfl 1 (hb hbytes d32) (by decide) rfl rfl ?_
        refine iincV X7.here hexec rfl 1 (hb hbytes d35) (by decide) rfl rfl ?_
        refine iincV X7.here hexec rfl 1 (hb hbytes d38) (by decide) rfl rfl ?_
        refine XS.goto X7.here hexec rfl (pc0 := 41) rfl (hb hbytes d41) (by decide) rfl ?_
        exact Steps.refl _)
      have c10 : Steps p.tables e below (s₁.setTop (entryFrame m #[.ref b, .int (Int32.ofNat o), .ref d, .int (Int32.ofNat q), .int (Int32.ofNat len)] 7)) (T7.setTop (mkF m 3 #[.val (.ref b), .val (.int (Int32.ofNat (o + (i + 1)))), .val (.ref d), .val (.int (Int32.ofNat (q + (i + 1)))), .val (.int (Int32.ofNat len)), .val (.int (Int32.ofNat (i + 1))), .val (.int (cv A (o + i)))] [])) := by
        have := c9
        rw [succ32, succ32, succ32] at this
        exact this
      exact ih (i + 1) (by omega) _ (Or.inr ⟨_, rfl, rfl⟩) T7 _ (by rw [copyLocs_step, ← List.append_assoc]; exact X7) (pl.trans p7) (fl.step (by omega) hlt (by simp)) c10
  obtain ⟨T9, B9, z9, X9, p9, f9, g9⟩ := loop len 0 (by omega) .unset (Or.inl rfl) s₁ B (by simpa [copyLocs] using X0) ⟨hB0.1, fun _ _ => rfl, rfl⟩ (Laid.zero _ _ _) c2
  have c11 : Steps p.tables e below (s₁.setTop (entryFrame m #[.ref b, .int (Int32.ofNat o), .ref d, .int (Int32.ofNat q), .int (Int32.ofNat len)] 7)) (T9.setTop (mkF m 46 #[.val (.ref b), .val (.int (Int32.ofNat (o + len))), .val (.ref d), .val (.int (Int32.ofNat (q + len))), .val (.int (Int32.ofNat len)), .val (.int (Int32.ofNat len)), z9] [.int (Int32.ofNat len)])) := g9.trans (by
    refine XS.iload X9.here hexec rfl (hb hbytes d3) rfl ?_
    refine XS.iload X9.here hexec rfl (hb hbytes d5) rfl ?_
    refine XS.icmpYes X9.here hexec rfl (pc0 := 7) rfl (hb hbytes d7) rfl (ii_ge_t (nlt32 (by omega) (Nat.le_refl _))) (by decide) rfl ?_
    refine XS.iload X9.here hexec rfl (hb hbytes d44) rfl ?_
    exact Steps.refl _)
  exact ⟨T9, some (.int (Int32.ofNat len)), _, _, _, X9, by simp, rfl, rfl, (fun h => by cases h), ⟨rfl, B9, p9.from hh0, f9⟩, fun fs hl => c11.trans (X9.ireturnOut hexec hret rfl (Or.inl rfl) (hb hbytes d46) hl)⟩
end Cmp5
namespace Cmp3
def yN : MethodName := ⟨"java/lang/StringUTF16", "compress", "([CII)[B"⟩
abbrev yB : ByteArray := jdk_52_method_16_code
theorem d0 : decode yB 0 = .ok (.iload_n 2, 1) := by decide +kernel
theorem d1 : decode yB 1 = .ok (.newarray .byte, 2) := by decide +kernel
theorem d3 : decode yB 3 = .ok (.astore_n 3, 1) := by decide +kernel
theorem d4 : decode yB 4 = .ok (.aload_n 0, 1) := by decide +kernel
theorem d5 : decode yB 5 = .ok (.iload_n 1, 1) := by decide +kernel
theorem d6 : decode yB 6 = .ok (.aload_n 3, 1) := by decide +kernel
theorem d7 : decode yB 7 = .ok (.iconst 0, 1) := by decide +kernel
theorem d8 : decode yB 8 = .ok (.iload_n 2, 1) := by decide +kernel
theorem d9 : decode yB 9 = .ok (.invokestatic 115, 3) := by decide +kernel
theorem d12 : decode yB 12 = .ok (.istore 4, 2) := by decide +kernel
theorem d14 : decode yB 14 = .ok (.iload 4, 2) := by decide +kernel
theorem d16 : decode yB 16 = .ok (.iload_n 2, 1) := by decide +kernel
theorem d17 : decode yB 17 = .ok (.if_icmp (.eq) 40, 3) := by decide +kernel
theorem d57 : decode yB 57 = .ok (.aload_n 3, 1) := by decide +kernel
theorem d58 : decode yB 58 = .ok (.areturn, 1) := by decide +kernel
def site : List Cond := [.arrayClass .byte, Cmp5.tab] ++ staticW U16 115 Cmp5.yN
def tab : Cond := tabOf yN yB 6 (some (.array .byte)) site
def P (b : Addr) (A : Cell) (o len : Nat) (args : Array Value) (s : State) : Prop := args = #[.ref b, .int (Int32.ofNat o), .int (Int32.ofNat len)] ∧ Ch b A s ∧ o + len ≤ A.slots.size ∧ len ≤ 536870912 ∧ ∀ i, i < len → ¬ 255 < cv A (o + i)
def E (b : Addr) (A : Cell) (o len : Nat) (r : Option Value) (s u : State) : Prop := NewArr .byte "[B" len (fun j => .int (lo8 (cv A (o + j)))) r s u ∧ u.heap.size = s.heap.size + 1
/-- no char of the range above 255: a new byte[] of their low bytes -/
theorem law (l : Launch) (b : Addr) (A : Cell) (o len : Nat) : Law l yN 3 3 1 18 yB 6 (some (.array .byte)) site (P b A o len) (E b A o len) [] 1 len := by
  refine Law.of_walk (plainFor_of_name (by decide +kernel)) (by decide +kernel) (by decide +kernel) (by decide) (fun _ _ h => by rw [h.1]; rfl) (fun _ U U' hal hh h => ⟨h.1, h.2.1.mv hal hh, h.2.2⟩) (fun r U U' V V' h1 hal h2 h => ⟨NewArr.mv r U U' V V' h1 hal h2 h.1, by rw [h1, h2]; exact h.2⟩) ?_
  intro p e s m args below meth c s₁ X0 hexec hbytes hml hret hlk hnm hown hh0 W hP
  obtain ⟨rfl, hA, l1, l2, hp⟩ := hP
  have a31 := hA.1.2.2.2
  have c1 : Steps p.tables e below (s₁.setTop (entryFrame m #[.ref b, .int (Int32.ofNat o), .int (Int32.ofNat len)] 6)) (s₁.setTop (mkF m 0 #[.val (.ref b), .val (.int (Int32.ofNat o)), .val (.int (Int32.ofNat len)), .unset, .unset, .unset] [])) := entry rfl
  have c2 : Steps p.tables e below (s₁.setTop (entryFrame m #[.ref b, .int (Int32.ofNat o), .int (Int32.ofNat len)] 6)) (s₁.setTop (mkF m 1 #[.val (.ref b), .val (.int (Int32.ofNat o)), .val (.int (Int32.ofNat len)), .unset, .unset, .unset] [.int (Int32.ofNat len)])) := c1.trans (by
    refine XS.iloadN X0.here hexec rfl (hb hbytes d0) rfl ?_
    exact Steps.refl _)
  obtain ⟨T3, B3, X3, ba3, bs3, bv3, bh3, bf3, st3⟩ := X0.anew hexec (atype := .byte) (wk W (.arrayClass .byte)) rfl (by show len * 1 ≤ _; omega) (by omega) (g := (mkF m 1 #[.val (.ref b), .val (.int (Int32.ofNat o)), .val (.int (Int32.ofNat len)), .unset, .unset, .unset] [.int (Int32.ofNat len)])) rfl (hb hbytes d1) (rest := []) rfl (Nat.le_refl _) (by show 0 + len ≤ len; omega)
  rw [hh0] at ba3 st3
  have kp3 : XT.Kept s T3 := (XT.Kept.of_eq hh0).push bh3
  have hA3 := hA.keep X3.warmed.alike (kp3 _ _ hA.1.1)
  have hne : b ≠ s.heap.size := hA.1.ne
  have c4 : Steps p.tables e below (s₁.setTop (entryFrame m #[.ref b, .int (Int32.ofNat o), .int (Int32.ofNat len)] 6)) (T3.setTop (mkF m 3 #[.val (.ref b), .val (.int (Int32.ofNat o)), .val (.int (Int32.ofNat len)), .unset, .unset, .unset] [.ref s.heap.size])) := c2.trans (st3 _ (Steps.refl _))
  have c5 : Steps p.tables e below (s₁.setTop (entryFrame m #[.ref b, .int (Int32.ofNat o), .int (Int32.ofNat len)] 6)) (T3.setTop (mkF m 9 #[.val (.ref b), .val (.int (Int32.ofNat o)), .val (.int (Int32.ofNat len)), .val (.ref s.heap.size), .unset, .unset] [.int (Int32.ofNat len), .int 0, .ref s.heap.size, .int (Int32.ofNat o), .ref b])) := c4.trans (by
    refine XS.astoreN X3.here hexec rfl (hb hbytes d3) rfl rfl rfl ?_
    refine XS.aloadN X3.here hexec rfl (hb hbytes d4) rfl rfl ?_
    refine XS.iloadN X3.here hexec rfl (hb hbytes d5) rfl ?_
    refine XS.aloadN X3.here hexec rfl (hb hbytes d6) rfl rfl ?_
    refine iconstV X3.here hexec rfl 0 (hb hbytes d7) (by decide) ?_
    refine XS.iloadN X3.here hexec rfl (hb hbytes d8) rfl ?_
    exact Steps.refl _)
  obtain ⟨v6, T6, X6, E6, g6⟩ := X3.callS hexec (Cmp5.law l b A s.heap.size B3 o 0 len) hown (wks W (staticW U16 115 Cmp5.yN)) (wk W Cmp5.tab) (W := 0) (Nat.le_of_ble_eq_true rfl) (Nat.le_of_ble_eq_true rfl) (Nat.le_refl _) (by show 0 + len + 0 ≤ len; omega) (g := (mkF m 9 #[.val (.ref b), .val (.int (Int32.ofNat o)), .val (.int (Int32.ofNat len)), .val (.ref s.heap.size), .unset, .unset] [.int (Int32.ofNat len), .int (Int32.ofNat 0), .ref s.heap.size, .int (Int32.ofNat o), .ref b])) rfl (by rw [hml]; rfl) c5 (argsL := [.ref b, .int (Int32.ofNat o), .ref s.heap.size, .int (Int32.ofNat 0), .int (Int32.ofNat len)]) (rest := []) rfl rfl (by show 2 * 0 + 0 ≤ _; decide) (hb hbytes d9) (⟨rfl, hA3, ba3, hne, l1, by rw [bs3]; simp, hp⟩)
  obtain ⟨rfl, B6, p6, f6⟩ := E6
  have c7 : Steps p.tables e below (s₁.setTop (entryFrame m #[.ref b, .int (Int32.ofNat o), .int (Int32.ofNat len)] 6)) (T6.setTop (mkF m 12 #[.val (.ref b), .val (.int (Int32.ofNat o)), .val (.int (Int32.ofNat len)), .val (.ref s.heap.size), .unset, .unset] [.int (Int32.ofNat len)])) := g6
  have c8 : Steps p.tables e below (s₁.setTop (entryFrame m #[.ref b, .int (Int32.ofNat o), .int (Int32.ofNat len)] 6)) (T6.setTop (mkF m 58 #[.val (.ref b), .val (.int (Int32.ofNat o)), .val (.int (Int32.ofNat len)), .val (.ref s.heap.size), .val (.int (Int32.ofNat len)), .unset] [.ref s.heap.size])) := c7.trans (by
    refine XS.istore X6.here hexec rfl (hb hbytes d12) rfl rfl ?_
    refine XS.iload X6.here hexec rfl (hb hbytes d14) rfl ?_
    refine XS.iloadN X6.here hexec rfl (hb hbytes d16) rfl ?_
    refine XS.icmpYes X6.here hexec rfl (pc0 := 17) rfl (hb hbytes d17) rfl (ii_eq_t rfl) (by decide) rfl ?_
    refine XS.aloadN X6.here hexec rfl (hb hbytes d57) rfl rfl ?_
    exact Steps.refl _)
  have X8 := X6.wide (L' := []) (cells' := 1) (slots' := len) (fun x hx hlt => by
    simp only [List.nil_append, copyLocs, List.mem_map, List.mem_range] at hx
    obtain ⟨i, -, rfl⟩ := hx
    exact absurd hlt (Nat.lt_irrefl _)) (Nat.le_refl _) (by omega)
  exact ⟨T6, some (.ref s.heap.size), _, _, _, X8, rfl, rfl, rfl, (fun h => by cases h), ⟨⟨rfl, B6, ba3.like (X3.warmed.alike.symm.trans X6.warmed.alike) p6.1 f6.1 f6.2.1 f6.2.2.1, f6.2.1.trans bv3, by rw [X6.warmed.alike.findClass, f6.1]; exact bf3, by rw [f6.2.2.1, bs3]; simp, fun j hj => by rw [f6.2.2.2 j, if_pos (by omega)]; rfl, kp3.put p6 (Nat.le_refl _)⟩, by rw [p6.2.2, bh3, hh0]; simp⟩, fun fs hl => c8.trans (X8.areturnOut hexec rfl hret rfl (hb hbytes d58) hl)⟩
end Cmp3
namespace CodL
def yN : MethodName := ⟨"java/lang/StringUTF16", "coderFromArrayLen", "([BI)B"⟩
abbrev yB : ByteArray := jdk_52_method_15_code
theorem d0 : decode yB 0 = .ok (.iload_n 1, 1) := by decide +kernel
theorem d1 : decode yB 1 = .ok (.aload_n 0, 1) := by decide +kernel
theorem d2 : decode yB 2 = .ok (.arraylength, 1) := by decide +kernel
theorem d3 : decode yB 3 = .ok (.isub, 1) := by decide +kernel
theorem d4 : decode yB 4 = .ok (.bipush 31, 2) := by decide +kernel
theorem d6 : decode yB 6 = .ok (.iushr, 1) := by decide +kernel
theorem d7 : decode yB 7 = .ok (.i2b, 1) := by decide +kernel
theorem d8 : decode yB 8 = .ok (.ireturn, 1) := by decide +kernel
def site : List Cond := []
def tab : Cond := tabOf yN yB 2 (some .byte) site
def P (d : Addr) (B : Cell) (args : Array Value) (s : State) : Prop := args = #[.ref d, .int (Int32.ofNat B.slots.size)] ∧ Arr .byte d B s
def E (r : Option Value) (s u : State) : Prop := XT.PureE (some (.int 0)) r s u
/-- an array as long as the number of chars: LATIN1 -/
theorem law (l : Launch) (d : Addr) (B : Cell) : Law l yN 2 2 0 0 yB 2 (some .byte) site (P d B) E [] 0 0 := by
  refine Law.of_walk (plainFor_of_name (by decide +kernel)) (by decide +kernel) (by decide +kernel) (by decide) (fun _ _ h => by rw [h.1]; rfl) (fun _ U U' hal hh h => ⟨h.1, h.2.mv hal hh⟩) (fun r U U' V V' h1 hal h2 h => XT.PureE.mv r U U' V V' h1 hal h2 h) ?_
  intro p e s m args below meth c s₁ X0 hexec hbytes hml hret hlk hnm hown hh0 W hP
  obtain ⟨rfl, hB⟩ := hP
  have hB0 := hB.mv X0.warmed.alike hh0
  have c1 : Steps p.tables e below (s₁.setTop (entryFrame m #[.ref d, .int (Int32.ofNat B.slots.size)] 2)) (s₁.setTop (mkF m 0 #[.val (.ref d), .val (.int (Int32.ofNat B.slots.size))] [])) := entry rfl
  have c2 : Steps p.tables e below (s₁.setTop (entryFrame m #[.ref d, .int (Int32.ofNat B.slots.size)] 2)) (s₁.setTop (mkF m 2 #[.val (.ref d), .val (.int (Int32.ofNat B.slots.size))] [.ref d, .int (Int32.ofNat B.slots.size)])) := c1.trans (by
    refine XS.iloadN X0.here hexec rfl (hb hbytes d0) rfl ?_
    refine XS.aloadN X0.here hexec rfl (hb hbytes d1) rfl rfl ?_
    exact Steps.refl _)
  have c3 : Steps p.tables e below (s₁.setTop (entryFrame m #[.ref d, .int (Int32.ofNat B.slots.size)] 2)) (s₁.setTop (mkF m 8 #[.val (.ref d), .val (.int (Int32.ofNat B.slots.size))] [.int (lo8 (ushr (Int32.ofNat B.slots.size - Int32.ofNat B.slots.size) 31))])) := c2.trans (by
    refine X0.alen hexec hB0 rfl rfl (hb hbytes d2) ?_
    refine XS.isub X0.here hexec rfl (hb hbytes d3) rfl ?_
    refine bipushV X0.here hexec rfl 31 (hb hbytes d4) (by decide) ?_
    refine iushr X0.here hexec rfl (hb hbytes d6) rfl ?_
    refine i2b X0.here hexec rfl (hb hbytes d7) rfl ?_
    exact Steps.refl _)
  have e0 : lo8 (ushr (Int32.ofNat B.slots.size - Int32.ofNat B.slots.size) 31) = 0 := by rw [Int32.sub_self]; decide
  rw [e0] at c3
  exact ⟨s₁, some (.int 0), _, _, _, X0, rfl, rfl, rfl, (fun h => by cases h), ⟨rfl, hh0⟩, fun fs hl => c3.trans (X0.ireturnOut hexec hret rfl (Or.inr (Or.inr (Or.inl rfl))) (hb hbytes d8) hl)⟩
end CodL
/-- the String at a is Latin-1 over a new byte[] (the heap's one new cell): the low bytes of the len chars of A from o on; every cell but a is kept -/
def Got (a : Addr) (D : Cell) (fV fC : Field) (A : Cell) (o len : Nat) (r : Option Value) (s u : State) : Prop := r = none ∧ ∃ D' V : Cell, Blank "java/lang/String" a D' u ∧ Same D D' [fV.slot, fC.slot] ∧ D'.slots[fV.slot]? = some (.ref s.heap.size) ∧ D'.slots[fC.slot]? = some (.int 0) ∧ Arr .byte s.heap.size V u ∧ V.vm = .none ∧ u.vm.findClass "[B" = some V.cls ∧ V.slots.size = len ∧ (∀ j, j < len → V.slots[j]? = some (.int (lo8 (cv A (o + j))))) ∧ (∀ (y : Addr) (c : Cell), y ≠ a → s.heap[y]? = some c → u.heap[y]? = some c) ∧ u.heap.size = s.heap.size + 1
theorem Got.mv {a : Addr} {D A : Cell} {fV fC : Field} {o len : Nat} : ∀ r (U U' V V' : State), U'.heap = U.heap → V.vm.Alike V'.vm → V'.heap = V.heap → Got a D fV fC A o len r U V → Got a D fV fC A o len r U' V' :=
  fun r U U' V V' h1 hal h2 ⟨e0, D', X, a1, a2, a3, a4, a5, a6, a7, a8, a9, a10, a11⟩ => ⟨e0, D', X, a1.mv hal h2, a2, by rw [h1]; exact a3, a4, by rw [h1]; exact a5.mv hal h2, a6, by rw [hal.findClass]; exact a7, a8, a9, by rw [h1, h2]; exact a10, by rw [h1, h2]; exact a11⟩
namespace New4
def yN : MethodName := ⟨"java/lang/String", "<init>", "([CIILjava/lang/Void;)V"⟩
abbrev yB : ByteArray := jdk_42_method_149_code
theorem d0 : decode yB 0 = .ok (.aload_n 0, 1) := by decide +kernel
theorem d1 : decode yB 1 = .ok (.invokespecial 1, 3) := by decide +kernel
theorem d4 : decode yB 4 = .ok (.iload_n 3, 1) := by decide +kernel
theorem d5 : decode yB 5 = .ok (.ifCond (.ne) 22, 3) := by decide +kernel
theorem d27 : decode yB 27 = .ok (.getstatic 38, 3) := by decide +kernel
theorem d30 : decode yB 30 = .ok (.ifCond (.eq) 28, 3) := by decide +kernel
theorem d33 : decode yB 33 = .ok (.aload_n 1, 1) := by decide +kernel
theorem d34 : decode yB 34 = .ok (.iload_n 2, 1) := by decide +kernel
theorem d35 : decode yB 35 = .ok (.iload_n 3, 1) := by decide +kernel
theorem d36 : decode yB 36 = .ok (.invokestatic 177, 3) := by decide +kernel
theorem d39 : decode yB 39 = .ok (.astore 5, 2) := by decide +kernel
theorem d41 : decode yB 41 = .ok (.aload_n 0, 1) := by decide +kernel
theorem d42 : decode yB 42 = .ok (.aload 5, 2) := by decide +kernel
theorem d44 : decode yB 44 = .ok (.iload_n 3, 1) := by decide +kernel
theorem d45 : decode yB 45 = .ok (.invokestatic 47, 3) := by decide +kernel
theorem d48 : decode yB 48 = .ok (.putfield 15, 3) := by decide +kernel
theorem d51 : decode yB 51 = .ok (.aload_n 0, 1) := by decide +kernel
theorem d52 : decode yB 52 = .ok (.aload 5, 2) := by decide +kernel
theorem d54 : decode yB 54 = .ok (.putfield 9, 3) := by decide +kernel
theorem d57 : decode yB 57 = .ok (.return_, 1) := by decide +kernel
def site : List Cond := [.fieldLink "java/lang/String" 38 "java/lang/String" "COMPACT_STRINGS" "Z", Cmp3.tab, CodL.tab, .laysFinal "java/lang/String" "java/lang/String" "value" "[B", .fieldLink "java/lang/String" 9 "java/lang/String" "value" "[B", .laysFinal "java/lang/String" "java/lang/String" "coder" "B", .fieldLink "java/lang/String" 15 "java/lang/String" "coder" "B"] ++ objW "java/lang/String" 1 ++ staticW "java/lang/String" 177 Cmp3.yN ++ staticW "java/lang/String" 47 CodL.yN
def tab : Cond := tabOf yN yB 6 none site
def P (a : Addr) (D : Cell) (fV fC : Field) (b : Addr) (A : Cell) (z : Int32) (o len : Nat) (args : Array Value) (s : State) : Prop := args = #[.ref a, .ref b, .int (Int32.ofNat o), .int (Int32.ofNat len), .null] ∧ Blank "java/lang/String" a D s ∧ Found "java/lang/String" "value" "[B" fV s ∧ Found "java/lang/String" "coder" "B" fC s ∧ Ch b A s ∧ StaticIs s "java/lang/String" "COMPACT_STRINGS" "Z" (.int z) ∧ ¬ z = 0 ∧ 0 < len ∧ o + len ≤ A.slots.size ∧ len ≤ 536870912 ∧ ∀ i, i < len → ¬ 255 < cv A (o + i)
def E (a : Addr) (D : Cell) (fV fC : Field) (A : Cell) (o len : Nat) (r : Option Value) (s u : State) : Prop := Got a D fV fC A o len r s u
/-- len > 0, no char of the range above 255: a Latin-1 String of their low bytes -/
theorem law (l : Launch) (a : Addr) (D : Cell) (fV fC : Field) (b : Addr) (A : Cell) (z : Int32) (o len : Nat) : Law l yN 5 4 2 35 yB 6 none site (P a D fV fC b A z o len) (E a D fV fC A o len) [⟨a, fC.slot⟩, ⟨a, fV.slot⟩] 1 len := by
  refine Law.of_walk (plainFor_of_name (by decide +kernel)) (by decide +kernel) (by decide +kernel) (by decide) (fun _ _ h => by rw [h.1]; rfl) (fun _ U U' hal hh h => ⟨h.1, h.2.1.mv hal hh, h.2.2.1.al hal, h.2.2.2.1.al hal, h.2.2.2.2.1.mv hal hh, h.2.2.2.2.2.1.there hal hh, h.2.2.2.2.2.2⟩) (fun r U U' V V' h1 hal h2 h => Got.mv r U U' V V' h1 hal h2 h) ?_
  intro p e s m args below meth c s₁ X0 hexec hbytes hml hret hlk hnm hown hh0 W hP
  obtain ⟨rfl, hB, f1, f2, hA, s1, hz, l0, l1, l2, hp⟩ := hP
  have a31 := hA.1.2.2.2
  have c1 : Steps p.tables e below (s₁.setTop (entryFrame m #[.ref a, .ref b, .int (Int32.ofNat o), .int (Int32.ofNat len), .null] 6)) (s₁.setTop (mkF m 0 #[.val (.ref a), .val (.ref b), .val (.int (Int32.ofNat o)), .val (.int (Int32.ofNat len)), .val .null, .unset] [])) := entry rfl
  have c2 : Steps p.tables e below (s₁.setTop (entryFrame m #[.ref a, .ref b, .int (Int32.ofNat o), .int (Int32.ofNat len), .null] 6)) (s₁.setTop (mkF m 1 #[.val (.ref a), .val (.ref b), .val (.int (Int32.ofNat o)), .val (.int (Int32.ofNat len)), .val .null, .unset] [.ref a])) := c1.trans (by
    refine XS.aloadN X0.here hexec rfl (hb hbytes d0) rfl rfl ?_
    exact Steps.refl _)
  obtain ⟨T3, X3, q3, st3⟩ := X0.oinit hexec hown (wks W (objW "java/lang/String" 1)) (g := (mkF m 1 #[.val (.ref a), .val (.ref b), .val (.int (Int32.ofNat o)), .val (.int (Int32.ofNat len)), .val .null, .unset] [.ref a])) rfl (by rw [hml]; rfl) (rest := []) rfl (hb hbytes d1) (W := 0) (by show 2 * 0 + 0 ≤ _; decide) (Nat.le_of_ble_eq_true rfl) (Nat.le_of_ble_eq_true rfl)
  have hh3 := q3.trans hh0
  have c4 : Steps p.tables e below (s₁.setTop (entryFrame m #[.ref a, .ref b, .int (Int32.ofNat o), .int (Int32.ofNat len), .null] 6)) (T3.setTop (mkF m 27 #[.val (.ref a), .val (.ref b), .val (.int (Int32.ofNat o)), .val (.int (Int32.ofNat len)), .val .null, .unset] [])) := (c2.trans (st3 _ (Steps.refl _))).trans (by
    refine XS.iloadN X3.here hexec rfl (hb hbytes d4) rfl ?_
    refine XS.ifYes X3.here hexec rfl (pc0 := 5) rfl (hb hbytes d5) rfl (i0_ne_t (nz32 (by omega) l0)) (by decide) rfl ?_
    exact Steps.refl _)
  obtain ⟨T5, X5, q5, st5⟩ := X3.sget hexec hown (wk W (.fieldLink "java/lang/String" 38 "java/lang/String" "COMPACT_STRINGS" "Z")) s1 (fun _ _ h => by rw [hh3]; exact h) (g := (mkF m 27 #[.val (.ref a), .val (.ref b), .val (.int (Int32.ofNat o)), .val (.int (Int32.ofNat len)), .val .null, .unset] [])) rfl (hb hbytes d27)
  have hh5 := q5.trans hh3
  have c6 : Steps p.tables e below (s₁.setTop (entryFrame m #[.ref a, .ref b, .int (Int32.ofNat o), .int (Int32.ofNat len), .null] 6)) (T5.setTop (mkF m 30 #[.val (.ref a), .val (.ref b), .val (.int (Int32.ofNat o)), .val (.int (Int32.ofNat len)), .val .null, .unset] [.int z])) := c4.trans (st5 _ (Steps.refl _))
  have c7 : Steps p.tables e below (s₁.setTop (entryFrame m #[.ref a, .ref b, .int (Int32.ofNat o), .int (Int32.ofNat len), .null] 6)) (T5.setTop (mkF m 36 #[.val (.ref a), .val (.ref b), .val (.int (Int32.ofNat o)), .val (.int (Int32.ofNat len)), .val .null, .unset] [.int (Int32.ofNat len), .int (Int32.ofNat o), .ref b])) := c6.trans (by
    refine XS.ifNo X5.here hexec rfl (hb hbytes d30) rfl (i0_eq_f hz) ?_
    refine XS.aloadN X5.here hexec rfl (hb hbytes d33) rfl rfl ?_
    refine XS.iloadN X5.here hexec rfl (hb hbytes d34) rfl ?_
    refine XS.iloadN X5.here hexec rfl (hb hbytes d35) rfl ?_
    exact Steps.refl _)
  obtain ⟨v8, T8, X8, E8, g8⟩ := X5.callS hexec (Cmp3.law l b A o len) hown (wks W (staticW "java/lang/String" 177 Cmp3.yN)) (wk W Cmp3.tab) (W := 0) (Nat.le_of_ble_eq_true rfl) (Nat.le_of_ble_eq_true rfl) (Nat.le_refl _) (by show 0 + len ≤ len; omega) (g := (mkF m 36 #[.val (.ref a), .val (.ref b), .val (.int (Int32.ofNat o)), .val (.int (Int32.ofNat len)), .val .null, .unset] [.int (Int32.ofNat len), .int (Int32.ofNat o), .ref b])) rfl (by rw [hml]; rfl) c7 (argsL := [.ref b, .int (Int32.ofNat o), .int (Int32.ofNat len)]) (rest := []) rfl rfl (by show 2 * 0 + 0 ≤ _; decide) (hb hbytes d36) (⟨rfl, hA.mv X5.warmed.alike hh5, l1, l2, hp⟩)
  obtain ⟨e8, z8⟩ := E8
  obtain ⟨rfl, N, n1, n2, n3, n4, n5, n6⟩ := NewArr.mv _ T5 s _ _ hh5.symm (Vm.Alike.refl _) rfl e8
  rw [hh5] at z8
  have hB1 := hB.keep X8.warmed.alike (n6 _ _ hB.1)
  have hne : s.heap.size ≠ a := (Nat.ne_of_lt (Array.getElem?_eq_some_iff.mp hB.1).1).symm
  have c9 : Steps p.tables e below (s₁.setTop (entryFrame m #[.ref a, .ref b, .int (Int32.ofNat o), .int (Int32.ofNat len), .null] 6)) (T8.setTop (mkF m 39 #[.val (.ref a), .val (.ref b), .val (.int (Int32.ofNat o)), .val (.int (Int32.ofNat len)), .val .null, .unset] [.ref s.heap.size])) := g8
  have c10 : Steps p.tables e below (s₁.setTop (entryFrame m #[.ref a, .ref b, .int (Int32.ofNat o), .int (Int32.ofNat len), .null] 6)) (T8.setTop (mkF m 45 #[.val (.ref a), .val (.ref b), .val (.int (Int32.ofNat o)), .val (.int (Int32.ofNat len)), .val .null, .val (.ref s.heap.size)] [.int (Int32.ofNat N.slots.size), .ref s.heap.size, .ref a])) := by
    have hc : Steps p.tables e below (s₁.setTop (entryFrame m #[.ref a, .ref b, .int (Int32.ofNat o), .int (Int32.ofNat len), .null] 6)) (T8.setTop (mkF m 45 #[.val (.ref a), .val (.ref b), .val (.int (Int32.ofNat o)), .val (.int (Int32.ofNat len)), .val .null, .val (.ref s.heap.size)] [.int (Int32.ofNat len), .ref s.heap.size, .ref a])) := c9.trans (by
      refine XS.astore X8.here hexec rfl (hb hbytes d39) rfl rfl rfl ?_
      refine XS.aloadN X8.here hexec rfl (hb hbytes d41) rfl rfl ?_
      refine XS.aload X8.here hexec rfl (hb hbytes d42) rfl rfl ?_
      refine XS.iloadN X8.here hexec rfl (hb hbytes d44) rfl ?_
      exact Steps.refl _)
    rw [n4]; exact hc
  obtain ⟨v11, T11, X11, E11, g11⟩ := X8.callS hexec (CodL.law l s.heap.size N) hown (wks W (staticW "java/lang/String" 47 CodL.yN)) (wk W CodL.tab) (W := 1) (Nat.le_of_ble_eq_true rfl) (Nat.le_of_ble_eq_true rfl) (Nat.le_refl _) (by show 0 + len + 0 ≤ len; omega) (g := (mkF m 45 #[.val (.ref a), .val (.ref b), .val (.int (Int32.ofNat o)), .val (.int (Int32.ofNat len)), .val .null, .val (.ref s.heap.size)] [.int (Int32.ofNat N.slots.size), .ref s.heap.size, .ref a])) rfl (by rw [hml]; rfl) c10 (argsL := [.ref s.heap.size, .int (Int32.ofNat N.slots.size)]) (rest := [.ref a]) rfl rfl (by show 2 * 0 + (1 + 0) ≤ _; decide) (hb hbytes d45) (⟨rfl, n1⟩)
  obtain ⟨rfl, q11⟩ := E11
  have hB11 := hB1.mv (X8.warmed.alike.symm.trans X11.warmed.alike) q11
  have c12 : Steps p.tables e below (s₁.setTop (entryFrame m #[.ref a, .ref b, .int (Int32.ofNat o), .int (Int32.ofNat len), .null] 6)) (T11.setTop (mkF m 48 #[.val (.ref a), .val (.ref b), .val (.int (Int32.ofNat o)), .val (.int (Int32.ofNat len)), .val .null, .val (.ref s.heap.size)] [.int 0, .ref a])) := g11
  obtain ⟨T13, X13, p13, bl13, sl13, st13⟩ := X11.finit hexec hown (wk W (.fieldLink "java/lang/String" 15 "java/lang/String" "coder" "B")) (Or.inr ⟨_, (wk W (.laysFinal "java/lang/String" "java/lang/String" "coder" "B"))⟩) (Or.inl ⟨rfl, hnm⟩) f2 (Or.inl rfl) hB11 (t := .byte) (by decide +kernel) rfl (g := (mkF m 48 #[.val (.ref a), .val (.ref b), .val (.int (Int32.ofNat o)), .val (.int (Int32.ofNat len)), .val .null, .val (.ref s.heap.size)] [.int 0, .ref a])) rfl (rest := []) rfl (hb hbytes d48)
  have c14 : Steps p.tables e below (s₁.setTop (entryFrame m #[.ref a, .ref b, .int (Int32.ofNat o), .int (Int32.ofNat len), .null] 6)) (T13.setTop (mkF m 54 #[.val (.ref a), .val (.ref b), .val (.int (Int32.ofNat o)), .val (.int (Int32.ofNat len)), .val .null, .val (.ref s.heap.size)] [.ref s.heap.size, .ref a])) := (c12.trans (st13 _ (Steps.refl _))).trans (by
    refine XS.aloadN X13.here hexec rfl (hb hbytes d51) rfl rfl ?_
    refine XS.aload X13.here hexec rfl (hb hbytes d52) rfl rfl ?_
    exact Steps.refl _)
  obtain ⟨T15, X15, p15, bl15, sl15, st15⟩ := X13.finit hexec hown (wk W (.fieldLink "java/lang/String" 9 "java/lang/String" "value" "[B")) (Or.inr ⟨_, (wk W (.laysFinal "java/lang/String" "java/lang/String" "value" "[B"))⟩) (Or.inl ⟨rfl, hnm⟩) f1 (Or.inl rfl) bl13 (t := (.array .byte)) (by decide +kernel) rfl (g := (mkF m 54 #[.val (.ref a), .val (.ref b), .val (.int (Int32.ofNat o)), .val (.int (Int32.ofNat len)), .val .null, .val (.ref s.heap.size)] [.ref s.heap.size, .ref a])) rfl (rest := []) rfl (hb hbytes d54)
  have c16 : Steps p.tables e below (s₁.setTop (entryFrame m #[.ref a, .ref b, .int (Int32.ofNat o), .int (Int32.ofNat len), .null] 6)) (T15.setTop (mkF m 57 #[.val (.ref a), .val (.ref b), .val (.int (Int32.ofNat o)), .val (.int (Int32.ofNat len)), .val .null, .val (.ref s.heap.size)] [])) := c14.trans (st15 _ (Steps.refl _))
  have ap := apart (Or.inr ⟨_, (wk W (.laysFinal "java/lang/String" "java/lang/String" "value" "[B"))⟩) (Or.inr ⟨_, (wk W (.laysFinal "java/lang/String" "java/lang/String" "coder" "B"))⟩) f1 f2 (t₁ := .array .byte) (t₂ := .byte) (by decide +kernel) (by decide +kernel) (by decide)
  have al := X8.warmed.alike.symm.trans X15.warmed.alike
  have n7 : T11.heap[s.heap.size]? = some N := by rw [q11]; exact n1.1
  exact ⟨T15, none, _, _, _, X15, by simp, rfl, by omega, (fun _ => rfl), ⟨rfl, _, N, bl15, ((Same.refl D _).set _ (by simp)).set _ (by simp), sl15, (Cell.slots_setSlot_ne _ ap).trans sl13, n1.keep al (p15.other hne (p13.other hne n7)), n2, by rw [al.findClass]; exact n3, n4, n5, fun y c h1 h2 => p15.other h1 (p13.other h1 (by rw [q11]; exact n6 y c h2)), by rw [p15.2.2, p13.2.2, q11]; exact z8⟩, fun fs hl => c16.trans (X15.returnOut hexec hret (hb hbytes d57) hl)⟩
end New4
namespace New1
def yN : MethodName := ⟨"java/lang/String", "<init>", "([C)V"⟩
abbrev yB : ByteArray := jdk_42_method_3_code
theorem d0 : decode yB 0 = .ok (.aload_n 0, 1) := by decide +kernel
theorem d1 : decode yB 1 = .ok (.aload_n 1, 1) := by decide +kernel
theorem d2 : decode yB 2 = .ok (.iconst 0, 1) := by decide +kernel
theorem d3 : decode yB 3 = .ok (.aload_n 1, 1) := by decide +kernel
theorem d4 : decode yB 4 = .ok (.arraylength, 1) := by decide +kernel
theorem d5 : decode yB 5 = .ok (.aconst_null, 1) := by decide +kernel
theorem d6 : decode yB 6 = .ok (.invokespecial 27, 3) := by decide +kernel
theorem d9 : decode yB 9 = .ok (.return_, 1) := by decide +kernel
def site : List Cond := [New4.tab] ++ initW "java/lang/String" 27 New4.yN
def tab : Cond := tabOf yN yB 2 none site
def P (a : Addr) (D : Cell) (fV fC : Field) (b : Addr) (A : Cell) (z : Int32) (args : Array Value) (s : State) : Prop := args = #[.ref a, .ref b] ∧ Blank "java/lang/String" a D s ∧ Found "java/lang/String" "value" "[B" fV s ∧ Found "java/lang/String" "coder" "B" fC s ∧ Ch b A s ∧ StaticIs s "java/lang/String" "COMPACT_STRINGS" "Z" (.int z) ∧ ¬ z = 0 ∧ 0 < A.slots.size ∧ A.slots.size ≤ 536870912 ∧ ∀ i, i < A.slots.size → ¬ 255 < cv A i
def E (a : Addr) (D : Cell) (fV fC : Field) (A : Cell) (r : Option Value) (s u : State) : Prop := Got a D fV fC A 0 A.slots.size r s u
/-- new String(chars), not empty, no char above 255: a Latin-1 String of their low bytes -/
theorem law (l : Launch) (a : Addr) (D : Cell) (fV fC : Field) (b : Addr) (A : Cell) (z : Int32) : Law l yN 2 1 3 52 yB 2 none site (P a D fV fC b A z) (E a D fV fC A) [⟨a, fC.slot⟩, ⟨a, fV.slot⟩] 1 A.slots.size := by
  refine Law.of_walk (plainFor_of_name (by decide +kernel)) (by decide +kernel) (by decide +kernel) (by decide) (fun _ _ h => by rw [h.1]; rfl) (fun _ U U' hal hh h => ⟨h.1, h.2.1.mv hal hh, h.2.2.1.al hal, h.2.2.2.1.al hal, h.2.2.2.2.1.mv hal hh, h.2.2.2.2.2.1.there hal hh, h.2.2.2.2.2.2⟩) (fun r U U' V V' h1 hal h2 h => Got.mv r U U' V V' h1 hal h2 h) ?_
  intro p e s m args below meth c s₁ X0 hexec hbytes hml hret hlk hnm hown hh0 W hP
  obtain ⟨rfl, hB, f1, f2, hA, s1, hz, l0, l2, hp⟩ := hP
  have c1 : Steps p.tables e below (s₁.setTop (entryFrame m #[.ref a, .ref b] 2)) (s₁.setTop (mkF m 0 #[.val (.ref a), .val (.ref b)] [])) := entry rfl
  have c2 : Steps p.tables e below (s₁.setTop (entryFrame m #[.ref a, .ref b] 2)) (s₁.setTop (mkF m 6 #[.val (.ref a), .val (.ref b)] [.null, .int (Int32.ofNat A.slots.size), .int 0, .ref b, .ref a])) := c1.trans (by
    refine XS.aloadN X0.here hexec rfl (hb hbytes d0) rfl rfl ?_
    refine XS.aloadN X0.here hexec rfl (hb hbytes d1) rfl rfl ?_
    refine iconstV X0.here hexec rfl 0 (hb hbytes d2) (by decide) ?_
    refine XS.aloadN X0.here hexec rfl (hb hbytes d3) rfl rfl ?_
    refine X0.alen hexec (hA.1.mv X0.warmed.alike hh0) rfl rfl (hb hbytes d4) ?_
    refine XS.aconstNull X0.here hexec rfl (hb hbytes d5) ?_
    exact Steps.refl _)
  obtain ⟨v3, T3, X3, E3, g3⟩ := X0.callN hexec (New4.law l a D fV fC b A z 0 A.slots.size) rfl hown (wks W (initW "java/lang/String" 27 New4.yN)) (W New4.tab (by simp only [site, List.mem_cons, List.mem_append, true_or, or_true])) (W := 0) (Nat.le_of_ble_eq_true rfl) (Nat.le_of_ble_eq_true rfl) (Nat.le_refl _) (by show 0 + A.slots.size ≤ A.slots.size; omega) (g := (mkF m 6 #[.val (.ref a), .val (.ref b)] [.null, .int (Int32.ofNat A.slots.size), .int (Int32.ofNat 0), .ref b, .ref a])) rfl (by rw [hml]; rfl) c2 (argsL := [.ref b, .int (Int32.ofNat 0), .int (Int32.ofNat A.slots.size), .null]) (rest := []) rfl rfl (by show 2 * 0 + 0 ≤ _; decide) (hb hbytes d6) (⟨rfl, hB.mv X0.warmed.alike hh0, f1.al X0.warmed.alike, f2.al X0.warmed.alike, hA.mv X0.warmed.alike hh0, s1.there X0.warmed.alike hh0, hz, l0, by omega, l2, fun i hi => by rw [Nat.zero_add]; exact hp i hi⟩)
  have e0 := Got.mv _ s₁ s _ _ hh0.symm (Vm.Alike.refl _) rfl E3
  obtain rfl := e0.1
  have c4 : Steps p.tables e below (s₁.setTop (entryFrame m #[.ref a, .ref b] 2)) (T3.setTop (mkF m 9 #[.val (.ref a), .val (.ref b)] [])) := g3
  exact ⟨T3, none, _, _, _, X3, by simp, rfl, by omega, (fun _ => rfl), e0, fun fs hl => c4.trans (X3.returnOut hexec hret (hb hbytes d9) hl)⟩
theorem pays {l : Launch} {R : Room} {p : Program} {e : Env} {below : List Frame} {s : State} {sargs : Array Value} {len W : Nat} (a : Addr) (D : Cell) (fV fC : Field) (b : Addr) (A : Cell) (z : Int32) (htab : tab.before sargs s = true) (hfr : 4 ≤ R.frames) (hlo : W + 65 ≤ R.locals) :
    Back l R p e below s sargs yN len W (fun A₁ a₁ => A₁.cells + 1 ≤ R.cells ∧ A₁.slots + A.slots.size ≤ R.slots ∧ P a D fV fC b A z a₁ A₁.U) (fun A₁ _ v₁ B₁ => E a D fV fC A v₁ A₁.U B₁.U ∧ B₁.locs = A₁.locs ++ [⟨a, fC.slot⟩, ⟨a, fV.slot⟩] ∧ B₁.cells = A₁.cells + 1 ∧ B₁.slots = A₁.slots + A.slots.size) :=
  (law l a D fV fC b A z).pays htab hfr (by omega)
end New1
end StrChars
namespace StrChars.Road
open Jvm Sem ClassFile Op Lib Jvm.Stand Jvm.Free Jvm.Free.XT
open Jvm.Lib.Cold (StaticIs)
abbrev ST : String := "java/lang/String"
/-- every table word that New1's law asks, flat -/
abbrev words : List Jvm.Cond := [.code New1.yN New1.yB 2 none, .initialized ST, .methodLink ST 27 New4.yN, .instanceMethod New4.yN,
  .code New4.yN New4.yB 6 none, .fieldLink ST 38 ST "COMPACT_STRINGS" "Z", .laysFinal ST ST "value" "[B", .fieldLink ST 9 ST "value" "[B", .laysFinal ST ST "coder" "B", .fieldLink ST 15 ST "coder" "B",
  .methodLink ST 1 Lib.objectInit, .instanceMethod Lib.objectInit, .code Lib.objectInit ⟨#[0xb1]⟩ 1 none, .methodLink ST 177 Cmp3.yN, .static Cmp3.yN, .methodLink ST 47 CodL.yN, .static CodL.yN,
  .code Cmp3.yN Cmp3.yB 6 (some (.array .byte)), .initialized U16, .arrayClass .byte, .methodLink U16 115 Cmp5.yN, .static Cmp5.yN, .code Cmp5.yN Cmp5.yB 7 (some .int), .code CodL.yN CodL.yB 2 (some .byte)]
theorem tab_of {a : Array Value} {s : State} (h : ∀ w ∈ words, w.before a s = true) : New1.tab.before a s = true := by
  have h5 : Cmp5.tab.before a s = true := unparts (wk h (.code Cmp5.yN Cmp5.yB 7 (some .int))) (wks h (.initialized Cmp5.yN.cls :: Cmp5.site))
  have hc : CodL.tab.before a s = true := unparts (wk h (.code CodL.yN CodL.yB 2 (some .byte))) (wks h (.initialized CodL.yN.cls :: CodL.site))
  have q5 : ∀ w ∈ Cmp5.tab :: words, w.before a s = true := fun w hw => (List.mem_cons.mp hw).elim (fun e => e ▸ h5) (h w)
  have h3 : Cmp3.tab.before a s = true := unparts (wk q5 (.code Cmp3.yN Cmp3.yB 6 (some (.array .byte)))) (wks q5 (.initialized Cmp3.yN.cls :: Cmp3.site))
  have q3 : ∀ w ∈ Cmp3.tab :: CodL.tab :: words, w.before a s = true := fun w hw => (List.mem_cons.mp hw).elim (fun e => e ▸ h3) fun hw => (List.mem_cons.mp hw).elim (fun e => e ▸ hc) (h w)
  have h4 : New4.tab.before a s = true := unparts (wk q3 (.code New4.yN New4.yB 6 none)) (wks q3 (.initialized New4.yN.cls :: New4.site))
  have q4 : ∀ w ∈ New4.tab :: words, w.before a s = true := fun w hw => (List.mem_cons.mp hw).elim (fun e => e ▸ h4) (h w)
  exact unparts (wk q4 (.code New1.yN New1.yB 2 none)) (wks q4 (.initialized New1.yN.cls :: New1.site))
/-- the words ride from the start Z to the walk's own state -/
theorem moved {Z s : State} {a0 args : Array Value} (hZ : Z.Warmed39 s.vm) (hw : ∀ d ∈ words, d.before a0 Z = true) : ∀ d ∈ words, d.before args s = true := fun d hd => by
  have q := hw d hd
  have t : ∀ d ∈ words, d = .arrayClass .byte ∨ (d.onTables && d.keepsFace) = true := by decide +kernel
  rcases t d hd with rfl | t
  · exact RoadKit.mvA hZ q
  · exact RoadKit.mv hZ q t
/-- WHAT COMES BACK, over the tables of the start Z: h the heap at the call, h' behind it -/
def Q (Z : State) (x : Addr) (A : Cell) (h : Heap) (v : Option Value) (h' : Heap) (L : List Loc) : Prop := v = none ∧ (∀ y ∈ L, y.base = x) ∧ RoadKit.Keep h h' [x] ∧ h'.size = h.size + 1 ∧ RoadKit.Exa Z h' x ST ∧ RoadKit.Fld Z h' x ST "value" "[B" (.ref h.size) ∧ RoadKit.Fld Z h' x ST "coder" "B" (.int 0) ∧
  (∃ V : Cell, RoadKit.Arr Z h' h.size V .byte ∧ V.vm = .none ∧ Z.vm.findClass "[B" = some V.cls ∧ V.slots.size = A.slots.size ∧ ∀ j, j < A.slots.size → V.slots[j]? = some (.int (lo8 (cv A j)))) ∧
  ∀ (O n d : String) (w : Value), RoadKit.Fld Z h x O n d w → RoadKit.slotOf Z O n d ≠ RoadKit.slotOf Z ST "value" "[B" → RoadKit.slotOf Z O n d ≠ RoadKit.slotOf Z ST "coder" "B" → RoadKit.Fld Z h' x O n d w
/-- **new String(chars) AT A CALL, IN THE ROAD'S FORM**: for specialBack behind newO: x the fresh String, b the char[] with the cell A -/
theorem back {p : Program} {l : Launch} {e : Env} {R : Room} {s : State} {args : Array Value} {below : List Frame} {len W : Nat} {Z : State} {a0 : Array Value} {h : Heap} (hZ : Z.Warmed39 s.vm) (hw : ∀ d ∈ words, d.before a0 Z = true) {kI : Nat} (wi : (Jvm.Cond.instantiable ST kI).before a0 Z = true)
    {x b : Addr} {A : Cell} {z : Int32} {v0 c0 : Value} (E : RoadKit.Exa Z h x ST) (V : RoadKit.Fld Z h x ST "value" "[B" v0) (C : RoadKit.Fld Z h x ST "coder" "B" c0) (K : RoadKit.Arr Z h b A .char) (hty : Typed .char A) (S : RoadKit.Sta Z h ST "COMPACT_STRINGS" "Z" (.int z)) (hz : ¬ z = 0)
    (l0 : 0 < A.slots.size) (l2 : A.slots.size ≤ 536870912) (hp : ∀ i, i < A.slots.size → ¬ 255 < cv A i) (hfr : 4 ≤ R.frames) (hlo : W + 65 ≤ R.locals) :
    Back l R p e below s args New1.yN len W (fun P a => a = #[.ref x, .ref b] ∧ P.U.heap = h ∧ P.cells + 1 ≤ R.cells ∧ P.slots + A.slots.size ≤ R.slots)
      (fun P _ v B => ∃ L, Q Z x A h v B.U.heap L ∧ B.locs = P.locs ++ L ∧ B.cells = P.cells + 1 ∧ B.slots = P.slots + A.slots.size) := by
  intro m meth c P g ig mk a X hg hsize hdg hW hn hp'
  obtain ⟨rfl, rfl, r1, r2⟩ := hp'
  have al : Z.vm.Alike P.U.vm := hZ.alike.trans X.warmed.alike
  obtain ⟨D, cfV, kV, iV, fV, hD, gV, stV, knV, obV, asV, slV⟩ := id V
  obtain ⟨D', cfC, kC, iC, fC, hD', gC, stC, -, -, asC, slC⟩ := id C
  cases hD.symm.trans hD'
  obtain ⟨D2, kD, e1, e2, e3, e4, e5⟩ := id E
  cases hD.symm.trans e1
  obtain ⟨c2, k2, i1, i2, i3, -⟩ := Cond.instantiable_spec wi
  cases e2.symm.trans i1
  cases e3.symm.trans i2
  obtain ⟨kU, u1, u2⟩ := al.2.2 _ _ e3
  have hB : Blank ST x D P.U := ⟨hD, ⟨knV, fun q hq => by rw [hq] at obV; cases obV⟩, by rw [al.findClass]; exact e2, kU, u1, by rw [u2]; exact i3, by rw [u2]; exact e5 i3⟩
  have F1 : Found ST "value" "[B" fV P.U := ⟨SBG.found_only al ⟨cfV, kV, iV, gV⟩, stV⟩
  have F2 : Found ST "coder" "B" fC P.U := ⟨SBG.found_only al ⟨cfC, kC, iC, gC⟩, stC⟩
  have hA : Ch b A P.U := ⟨⟨K.1, State.isArrayOf_alike al K.2.1, K.2.2, by omega⟩, hty⟩
  have hS : StaticIs P.U ST "COMPACT_STRINGS" "Z" (.int z) := by
    obtain ⟨cfS, iS, kS, fS, st, cS, t1, t2, t3, t4, t5, t6, t7⟩ := S
    exact StaticIs.there (s := { Z with heap := P.U.heap }) ⟨cfS, iS, kS, fS, st, cS, t1, t2, t3, t4, t5, (fun q => by rw [q] at t6; cases t6), t7⟩ al rfl
  obtain ⟨v, B, X', ⟨⟨hv, E', V', q1, q2, q3, q4, q5, q6, q7, q8, q9, q10, q11⟩, hl, hc, hs⟩, st⟩ := New1.pays x D fV fC b A z (tab_of (moved hZ hw)) hfr hlo m meth c P g ig mk _ X hg hsize hdg hW hn ⟨r1, r2, rfl, hB, F1, F2, hA, hS, hz, l0, l2, hp⟩
  have al' : Z.vm.Alike B.U.vm := hZ.alike.trans X'.warmed.alike
  have hsz : E'.slots.size = D.slots.size := by
    obtain ⟨-, -, -, kB, w1, w2, w3⟩ := q1
    obtain ⟨kB', y1, y2⟩ := al'.2.2 _ _ e3
    rw [q2.2.1] at w1
    cases w1.symm.trans y1
    rw [w3, e5 i3, y2]
  refine ⟨v, B, X', ⟨_, ⟨hv, ?_, ⟨by omega, fun y cy hy hn' => q10 y cy (by simpa using hn') hy, fun y cy hy => ?_⟩, q11, ⟨E', _, q1.1, by rw [q2.2.1]; exact e2, by rw [q2.2.1]; exact e3, by rw [q2.1]; exact obV, fun _ => by rw [hsz]; exact e5 i3⟩,
    ⟨E', cfV, kV, iV, fV, q1.1, gV, stV, by rw [q2.1]; exact knV, by rw [q2.1]; exact obV, by rw [q2.2.1]; exact asV, q3⟩, ⟨E', cfC, kC, iC, fC, q1.1, gC, stC, by rw [q2.1]; exact knV, by rw [q2.1]; exact obV, by rw [q2.2.1]; exact asC, q4⟩,
    ⟨V', ⟨q5.1, State.isArrayOf_alike al'.symm q5.2.1, q5.2.2.1⟩, q6, by rw [← al'.findClass]; exact q7, q8, fun j hj => by have := q9 j hj; rwa [Nat.zero_add] at this⟩, fun O n d w F n1 n2 => ?_⟩, hl, hc, hs⟩, st⟩
  · intro y hy
    simp only [List.mem_cons, List.not_mem_nil, or_false] at hy
    rcases hy with rfl | rfl <;> rfl
  · by_cases q : y = x
    · subst q
      cases hD.symm.trans hy
      exact ⟨E', q1.1, q2.2.1, q2.1, hsz⟩
    · exact ⟨cy, q10 y cy q hy, rfl, rfl, rfl⟩
  · obtain ⟨D3, cf, k, i, f, g1, g2, g3, g4, g5, g6, g7⟩ := F
    cases hD.symm.trans g1
    simp only [RoadKit.slotOf, g2, gV, gC, Option.map_some, Option.getD_some] at n1 n2
    exact ⟨E', cf, k, i, f, q1.1, g2, g3, by rw [q2.1]; exact g4, by rw [q2.1]; exact g5, by rw [q2.2.1]; exact g6, by rw [q2.2.2 f.slot (by simp [n1, n2])]; exact g7⟩
end StrChars.Road
namespace StrChars.Road
open Jvm Sem ClassFile Op Lib Jvm.Stand Jvm.Free Jvm.Free.XT
/-- WHAT COMES BACK, the byte[] as a list of values -/
def QA (Z : State) (x : Addr) (zn : Int32) (cs : List Int32) (h : Heap) (v : Option Value) (h' : Heap) (L : List Loc) : Prop := v = none ∧ (∀ y ∈ L, y.base = x) ∧ RoadKit.Keep h h' [x] ∧ h'.size = h.size + 1 ∧ RoadKit.Exa Z h' x ST ∧ RoadKit.Fld Z h' x ST "value" "[B" (.ref h.size) ∧ RoadKit.Fld Z h' x ST "coder" "B" (.int 0) ∧
  (∃ kb, Z.vm.findClass "[B" = some kb ∧ RoadKit.Arv Z h' h.size kb .byte zn (cs.map fun c => .int (lo8 c)) (.int 0)) ∧
  ∀ (O n d : String) (w : Value), RoadKit.Fld Z h x O n d w → RoadKit.slotOf Z O n d ≠ RoadKit.slotOf Z ST "value" "[B" → RoadKit.slotOf Z O n d ≠ RoadKit.slotOf Z ST "coder" "B" → RoadKit.Fld Z h' x O n d w
/-- **new String(chars) AT A CALL, THE ARRAYS AS LISTS**: the char[] at b holds cs, not empty, no char above 255 -/
theorem backArv {p : Program} {l : Launch} {e : Env} {R : Room} {s : State} {args : Array Value} {below : List Frame} {len W : Nat} {Z : State} {a0 : Array Value} {h : Heap} (hZ : Z.Warmed39 s.vm) (hw : ∀ d ∈ words, d.before a0 Z = true) {kI : Nat} (wi : (Jvm.Cond.instantiable ST kI).before a0 Z = true)
    {x b : Addr} {k : ClassId} {zn z : Int32} {cs : List Int32} {dv v0 c0 : Value} (E : RoadKit.Exa Z h x ST) (V : RoadKit.Fld Z h x ST "value" "[B" v0) (C : RoadKit.Fld Z h x ST "coder" "B" c0) (K : RoadKit.Arv Z h b k .char zn (cs.map Value.int) dv) (S : RoadKit.Sta Z h ST "COMPACT_STRINGS" "Z" (.int z)) (hz : ¬ z = 0)
    (hlen : zn.toNatClampNeg = cs.length) (h0 : 0 < cs.length) (hbig : cs.length ≤ 536870912) (hall : ∀ c ∈ cs, ¬ 255 < c) (hfr : 4 ≤ R.frames) (hlo : W + 65 ≤ R.locals) :
    Back l R p e below s args New1.yN len W (fun P a => a = #[.ref x, .ref b] ∧ P.U.heap = h ∧ P.cells + 1 ≤ R.cells ∧ P.slots + cs.length ≤ R.slots)
      (fun P _ v B => ∃ L, QA Z x zn cs h v B.U.heap L ∧ B.locs = P.locs ++ L ∧ B.cells = P.cells + 1 ∧ B.slots = P.slots + cs.length) := by
  obtain ⟨A, K1, K2, K3, K4, K5, K6⟩ := K
  have e : A.slots.size = cs.length := K3.trans hlen
  have hat : ∀ (i : Nat) (hi : i < cs.length), A.slots[i]? = some (.int cs[i]) := fun i hi => by rw [K5 i (by omega)]; simp [List.getD_eq_getElem?_getD, hi]
  have hcv : ∀ (i : Nat) (hi : i < cs.length), cv A i = cs[i] := fun i hi => by unfold cv; rw [hat i hi]
  have hty : Typed .char A := fun i v hv => by
    have hi : i < A.slots.size := (Array.getElem?_eq_some_iff.mp hv).1
    have q := K5 i hi
    rw [hv] at q
    rw [Option.some.inj q]
    exact K6 i hi
  refine Back.mono (back hZ hw wi E V C K1 hty S hz (by omega) (by omega) (fun i hi => by rw [hcv i (by omega)]; exact hall _ (List.getElem_mem _)) hfr hlo) (fun P a hp => ⟨hp.1, hp.2.1, hp.2.2.1, by rw [e]; exact hp.2.2.2⟩) (fun P a v B hp hq => ?_)
  obtain ⟨L, ⟨q1, q2, q3, q4, q5, q6, q7, ⟨V', v1, v2, v3, v4, v5⟩, q9⟩, hl, hc, hs⟩ := hq
  refine ⟨L, ⟨q1, q2, q3, q4, q5, q6, q7, ⟨V'.cls, v3, V', v1, rfl, by rw [v4, e, hlen], K4, fun i hi => ?_, fun i hi => ?_⟩, q9⟩, hl, hc, by rw [hs, e]⟩
  · have hi' : i < cs.length := by omega
    rw [v5 i (by omega), hcv i hi']; simp [List.getD_eq_getElem?_getD, hi']
  · have hi' : i < cs.length := by omega
    simp only [List.getD_eq_getElem?_getD, List.getElem?_map, List.getElem?_eq_getElem hi', Option.map_some, Option.getD_some]
    exact fits_lo8 _
end StrChars.Road
namespace StrChars.Road
open Jvm Sem ClassFile Op Lib Jvm.Stand Jvm.Free Jvm.Free.XT
/-- WHAT COMES BACK, in the writer's own shape -/
def QV (Z : State) (x : Addr) (N : Int32) (bs : List Int32) (h : Heap) (n0 : Nat) (v : Option Value) (h' : Heap) (L : List Loc) : Prop := v = none ∧ RoadKit.Fr n0 L ∧ RoadKit.Keep h h' [x] ∧ RoadKit.Exa Z h' x ST ∧ RoadKit.Fld Z h' x ST "coder" "B" (.int 0) ∧
  ∃ (t : Addr) (kb : ClassId), n0 ≤ t ∧ h.size ≤ t ∧ ¬ t = x ∧ RoadKit.Fld Z h' x ST "value" "[B" (.ref t) ∧ RoadKit.Arv Z h' t kb .byte N (bs.map Value.int) (.int 0)
/-- **new String(chars) AT A CALL, FOR THE WRITER**: a char[] of n known ints, each 0 to 255 -/
theorem backV {p : Program} {l : Launch} {e : Env} {R : Room} {s : State} {args : Array Value} {below : List Frame} {len W : Nat} {Z : State} {a0 : Array Value} {h : Heap} (hZ : Z.Warmed39 s.vm) (hw : ∀ d ∈ words, d.before a0 Z = true) {kI : Nat} (wi : (Jvm.Cond.instantiable ST kI).before a0 Z = true)
    {x b : Addr} {kC : ClassId} {cs bs : List Int32} {d v0 c0 : Value} {z N : Int32} {n n0 : Nat} (hx0 : n0 ≤ x) (hh0 : n0 ≤ h.size) (E : RoadKit.Exa Z h x ST) (V : RoadKit.Fld Z h x ST "value" "[B" v0) (C : RoadKit.Fld Z h x ST "coder" "B" c0) (K : RoadKit.Arv Z h b kC .char N (cs.map Value.int) d) (S : RoadKit.Sta Z h ST "COMPACT_STRINGS" "Z" (.int z)) (hz : ¬ z = 0)
    (hn : cs.length = n) (hN : N = Int32.ofNat n) (l0 : 0 < n) (l2 : n ≤ 4000) (hp : ∀ c ∈ cs, ¬ c < 0 ∧ ¬ (255 : Int32) < c) (hb : bs = cs.map (fun c => c.toInt8.toInt32)) (hfr : 4 ≤ R.frames) (hlo : W + 65 ≤ R.locals) :
    Back l R p e below s args (⟨"java/lang/String", "<init>", "([C)V"⟩ : MethodName) len W (fun P a => a = #[.ref x, .ref b] ∧ P.U.heap = h ∧ P.cells + 1 ≤ R.cells ∧ P.slots + n ≤ R.slots)
      (fun P _ v B => ∃ L, QV Z x N bs h n0 v B.U.heap L ∧ B.locs = P.locs ++ L ∧ B.cells = P.cells + 1 ∧ B.slots = P.slots + n) := by
  subst hn hN hb
  refine Back.mono (backArv hZ hw wi E V C K S hz (n32 (by omega)) l0 (by omega) (fun c hc => (hp c hc).2) hfr hlo) (fun P a hp => hp) (fun P a v B hp hq => ?_)
  obtain ⟨L, ⟨q1, q2, q3, q4, q5, q6, q7, ⟨kb, v1, v2⟩, q9⟩, hl, hc, hs⟩ := hq
  exact ⟨L, ⟨q1, fun y hy => by rw [q2 y hy]; exact hx0, q3, q5, q7, h.size, kb, hh0, Nat.le_refl _, Nat.ne_of_gt E.lt, q6, by rw [List.map_map]; exact v2⟩, hl, hc, hs⟩
end StrChars.Road
end Jvm.Pilot.@@N@@

namespace Jvm.Pilot.@@N@@
open Jvm Jvm.ClassFile Sem Op Lib Jvm.Free Jvm.Stand Jvm.LawKit Jvm.RoadKit Bundle Jvm.Pilot.@@N@@.Jvm.D
section Own
variable {p : Program} {l : Launch} {e : Env} {R : Room} {s : State} {m : MethodId} {args : Array Value} {below : List Frame} {meth : Method} {c : Code} {T : State} {locs : List Loc} {cells slots : Nat} {Z : State} {a0 : Array Value} {h : Heap}
/-- from the state A the run comes to the method's end, and Q says what it leaves -/
def OwnFin (p : Program) (e : Env) (below : List Frame) (s : State) (Q : Option Value → Heap → List Loc → Prop) (C S : Nat) (A : State) : Prop :=
  ∃ s₂ o, Steps p.tables e below A s₂ ∧ s₂.status = .running ∧ Ended s₂ below o ∧ ∃ v L, o = .returned v ∧ Q v s₂.heap L ∧ FrameEnd s o s₂ L C S
variable {Q : Option Value → Heap → List Loc → Prop} {C S : Nat}
theorem own_go {A B : State} (h : ∀ t, Steps p.tables e below B t → Steps p.tables e below A t) (k : OwnFin p e below s Q C S B) : OwnFin p e below s Q C S A := by
  obtain ⟨s₂, o, h1, r⟩ := k
  exact ⟨s₂, o, h _ h1, r⟩
theorem own_ret (X : Stand p l e R s m args below meth c T locs cells slots) {v : Option Value} (hlk : meth.locks = false) (hv : meth.sig.returnType = none → v = none) {g : JFrame}
    (hstep : ∀ fs, (∀ (f : JFrame) (acts : List Action), f.method = m → f.locked = none → f.entered = [] → (doReturn e (T.setTop f) acts v).1 = T.setFrames fs) → Steps p.tables e below (T.setTop g) (T.setFrames fs))
    (hc : cells ≤ C) (hs : slots ≤ S) (hQ : Q v T.heap locs) : OwnFin p e below s Q C S (T.setTop g) := by
  obtain ⟨fs, hr, hrun, hended, hW, hsame⟩ := X.leave hv hlk
  exact ⟨_, _, hstep fs hr, hrun, hended, _, _, rfl, hQ, ⟨_, rfl⟩, hW, hsame.mono hc hs⟩
/-- a method's contract, in the form that backOf takes -/
abbrev OwnCtr (l : Launch) (Z : State) (y : MethodName) (ws : List Jvm.Cond) (bytes : ByteArray) (maxL : Nat) (ret : Option FieldType) (rm : Room) (as' : Array Value) (h0 : Heap) (Q : Option Value → Heap → List Loc → Prop) : Prop :=
  MetFree l y (head1 (Jvm.Cond.code y bytes maxL ret :: ws) rm) (fun a U => a = as' ∧ Z.Warmed39 U.vm ∧ U.heap = h0) (fun _ _ _ _ _ => True) (fun _ U o U' => ∃ v L, o = .returned v ∧ Q v U'.heap L ∧ FrameEnd U o U' L rm.cells rm.slots)
theorem own_body {l : Launch} {Z : State} {y : MethodName} {ws : List Jvm.Cond} {bytes : ByteArray} {maxL : Nat} {ret : Option FieldType} {rm : Room} {as' : Array Value} {h0 : Heap} {g0 : MethodId → JFrame}
    (hpl : plainFor y = true) (hef : ∀ m, entryFrame m as' maxL = g0 m)
    (body : ∀ (p : Program) (e : Env) (s : State) (m : MethodId) (below : List Frame) (meth : Method) (c : Code) (s₁ : State), Stand p l e rm s m as' below meth c s₁ [] 0 0 → p.tables.exec = Jvm.exec → c.code = bytes → c.maxLocals = maxL →
      s.vm.findClass y.cls = some m.cls → meth.name = y.name → Z.Warmed39 s.vm → s₁.heap = h0 → meth.sig.returnType = ret → meth.locks = false → OwnFin p e below s Q rm.cells rm.slots (s₁.setTop (g0 m))) :
    OwnCtr l Z y ws bytes maxL ret rm as' h0 Q := by
  refine MetFree.of_bodySF hpl hisR ?_
  intro p e s m args below meth c s₁ Bd hml0 hP hK
  obtain ⟨rfl, hZ, hh⟩ := hP
  have e0 : s₁.heap = h0 := by rw [← hh, Bd.state]; rfl
  have k := body p e s m below meth c s₁ (Stand.of_body Bd) Bd.exec Bd.bytes hml0 (findClass_of_methodNamed Bd.named) (name_of_methodNamed Bd.named Bd.method).1 hZ e0 Bd.returns Bd.notSynchronized
  rw [← hef m] at k
  exact k
/-- a static call by its contract -/
theorem own_callS (X : Stand p l e R s m args below meth c T locs cells slots) (hx : p.tables.exec = Jvm.exec) (hZ : Z.Warmed39 s.vm) {own : String} {index : Nat} {y : MethodName} {bytes : ByteArray} {maxL : Nat} {ret : Option FieldType} {rm : Room} {as' : Array Value} {Q : Option Value → Heap → List Loc → Prop}
    (hown : s.vm.findClass own = some m.cls) (hlink : (Cond.methodLink own index y).before a0 Z = true) (hstat : (Cond.static y).before a0 Z = true) (hinit : (Cond.initialized y.cls).before a0 Z = true) (hcode : (Cond.code y bytes maxL ret).before a0 Z = true)
    (hy : y.cls ≠ "java/lang/invoke/MethodHandle" ∧ y.cls ≠ "java/lang/invoke/VarHandle") {W : Nat} (hM : OwnCtr l Z y [] bytes maxL ret rm as' h Q) (hf : rm.frames + 1 ≤ R.frames) (hl : W + (maxL + 11) + rm.locals ≤ R.locals)
    {g : JFrame} (hg : g.method = m) (hsize : g.locals.size = c.maxLocals) {argsL rest : List Value} (hlen : ∀ sig, parseMethodDescriptor y.desc = some sig → argsL.length = sig.parameters.length)
    (hstack : g.stack = argsL.reverse ++ rest) (hW : 2 * g.monitorRoom + (rest.map fun v => v.category).sum ≤ W) (hdg : decode c.code g.pc = .ok (.invokestatic index, 3)) (eT : T.heap = h) (ha : argsL.toArray = as') (hc : cells + rm.cells ≤ R.cells) (hs : slots + rm.slots ≤ R.slots) :
    ∃ (v : Option Value) (T' : State) (L : List Loc), Stand p l e R s m args below meth c T' (locs ++ L) (cells + rm.cells) (slots + rm.slots) ∧ Q v T'.heap L ∧ ∀ target, Steps p.tables e below (T'.setTop { g with pc := g.pc + 3, stack := v.toList ++ rest }) target → Steps p.tables e below (T.setTop g) target := by
  obtain ⟨v, _, ⟨T', L', k, n⟩, -, X', ⟨L, hQ, l1, y1, z1⟩, st⟩ := Jvm.LawKit.callS X hx (y := y) hown (mvT hZ hlink) (mvT hZ hstat) (mvT hZ hinit) (mvT hZ hcode) hy (backOf (W := W) hM hZ hcode hinit hf hl) hg hsize hlen hstack hW hdg (fun _ _ => ⟨ha, eT, hc, hs⟩)
  dsimp only [Pt.U, Pt.locs, Pt.cells, Pt.slots] at X' l1 y1 z1 st hQ
  subst l1 y1 z1
  exact ⟨v, T', L, X', hQ, st⟩
/-- a constructor by its contract -/
theorem own_callI (X : Stand p l e R s m args below meth c T locs cells slots) (hx : p.tables.exec = Jvm.exec) (hZ : Z.Warmed39 s.vm) {own : String} {index : Nat} {y : MethodName} {bytes : ByteArray} {maxL : Nat} {rm : Room} {as' : Array Value} {Q : Option Value → Heap → List Loc → Prop}
    (hy1 : y.name = "<init>") (hown : s.vm.findClass own = some m.cls) (hlink : (Cond.methodLink own index y).before a0 Z = true) (hinst : (Cond.instanceMethod y).before a0 Z = true) (hinit : (Cond.initialized y.cls).before a0 Z = true) (hcode : (Cond.code y bytes maxL none).before a0 Z = true)
    (hy : y.cls ≠ "java/lang/invoke/MethodHandle" ∧ y.cls ≠ "java/lang/invoke/VarHandle") {W : Nat} (hM : OwnCtr l Z y [] bytes maxL none rm as' h Q) (hf : rm.frames + 1 ≤ R.frames) (hl : W + (maxL + 11) + rm.locals ≤ R.locals)
    {g : JFrame} (hg : g.method = m) (hsize : g.locals.size = c.maxLocals) {a : Addr} {argsL rest : List Value} (hlen : ∀ sig, parseMethodDescriptor y.desc = some sig → argsL.length = sig.parameters.length)
    (hstack : g.stack = argsL.reverse ++ .ref a :: rest) (hW : 2 * g.monitorRoom + (rest.map fun v => v.category).sum ≤ W) (hdg : decode c.code g.pc = .ok (.invokespecial index, 3)) (eT : T.heap = h) (ha : (.ref a :: argsL).toArray = as') (hc : cells + rm.cells ≤ R.cells) (hs : slots + rm.slots ≤ R.slots) :
    ∃ (v : Option Value) (T' : State) (L : List Loc), Stand p l e R s m args below meth c T' (locs ++ L) (cells + rm.cells) (slots + rm.slots) ∧ Q v T'.heap L ∧ ∀ target, Steps p.tables e below (T'.setTop { g with pc := g.pc + 3, stack := v.toList ++ rest }) target → Steps p.tables e below (T.setTop g) target := by
  obtain ⟨v, _, ⟨T', L', k, n⟩, -, X', ⟨L, hQ, l1, y1, z1⟩, st⟩ := X.specialBack hx (y := y) hy1 hown (mvT hZ hlink) (mvT hZ hinst) (mvT hZ hcode) hy (backOf (W := W) hM hZ hcode hinit hf hl) hg hsize (Steps.refl _) hlen hstack hW hdg (fun _ _ => ⟨ha, eT, hc, hs⟩)
  dsimp only [Pt.U, Pt.locs, Pt.cells, Pt.slots] at X' l1 y1 z1 st hQ
  subst l1 y1 z1
  exact ⟨v, T', L, X', hQ, fun t k => st.trans k⟩
/-- an instance method by its contract -/
theorem own_callV (X : Stand p l e R s m args below meth c T locs cells slots) (hx : p.tables.exec = Jvm.exec) (hZ : Z.Warmed39 s.vm) {own K : String} {index : Nat} {y z : MethodName} {bytes : ByteArray} {maxL : Nat} {ret : Option FieldType} {rm : Room} {as' : Array Value} {Q : Option Value → Heap → List Loc → Prop}
    (hown : s.vm.findClass own = some m.cls) (hlink : (Cond.methodLink own index y).before a0 Z = true) (hdecl : (Cond.declares y).before a0 Z = true) (hnf : NotFace s y) (hsel : (Cond.selects K y z).before a0 Z = true) (hinst : (Cond.instanceMethod z).before a0 Z = true) (hinit : (Cond.initialized z.cls).before a0 Z = true) (hcode : (Cond.code z bytes maxL ret).before a0 Z = true)
    (hy : y.cls ≠ "java/lang/invoke/MethodHandle" ∧ y.cls ≠ "java/lang/invoke/VarHandle") {W : Nat} (hM : OwnCtr l Z z [] bytes maxL ret rm as' h Q) (hf : rm.frames + 1 ≤ R.frames) (hl : W + (maxL + 11) + rm.locals ≤ R.locals)
    {b : Addr} (E : Exa Z h b K) {g : JFrame} (hg : g.method = m) (hsize : g.locals.size = c.maxLocals) {argsL rest : List Value} (hlen : ∀ sig, parseMethodDescriptor y.desc = some sig → argsL.length = sig.parameters.length)
    (hstack : g.stack = argsL.reverse ++ .ref b :: rest) (hW : 2 * g.monitorRoom + (rest.map fun v => v.category).sum ≤ W) (hdg : decode c.code g.pc = .ok (.invokevirtual index, 3)) (eT : T.heap = h) (ha : (.ref b :: argsL).toArray = as') (hc : cells + rm.cells ≤ R.cells) (hs : slots + rm.slots ≤ R.slots) :
    ∃ (v : Option Value) (T' : State) (L : List Loc), Stand p l e R s m args below meth c T' (locs ++ L) (cells + rm.cells) (slots + rm.slots) ∧ Q v T'.heap L ∧ ∀ target, Steps p.tables e below (T'.setTop { g with pc := g.pc + 3, stack := v.toList ++ rest }) target → Steps p.tables e below (T.setTop g) target := by
  obtain ⟨cq, kq, qa, qb, qc⟩ := isOf hZ eT E
  obtain ⟨v, _, ⟨T', L', k, n⟩, -, X', ⟨L, hQ, l1, y1, z1⟩, st⟩ := X.virtualBack hx (y := y) (z := z) hown (mvT hZ hlink) (mvT hZ hdecl) hnf (mvT hZ hsel) (mvT hZ hinst) hy (backOf (W := W) hM hZ hcode hinit hf hl) qa qc hg hsize (Steps.refl _) hlen hstack hW hdg (fun _ _ => ⟨ha, eT, hc, hs⟩)
  dsimp only [Pt.U, Pt.locs, Pt.cells, Pt.slots] at X' l1 y1 z1 st hQ
  subst l1 y1 z1
  exact ⟨v, T', L, X', hQ, fun t k => st.trans k⟩
/-- a private instance method, called by invokevirtual, by its contract -/
theorem own_callP (X : Stand p l e R s m args below meth c T locs cells slots) (hx : p.tables.exec = Jvm.exec) (hZ : Z.Warmed39 s.vm) {own : String} {index : Nat} {y : MethodName} {bytes : ByteArray} {maxL : Nat} {ret : Option FieldType} {rm : Room} {as' : Array Value} {Q : Option Value → Heap → List Loc → Prop}
    (hown : s.vm.findClass own = some m.cls) (hlink : (Cond.methodLink own index y).before a0 Z = true) (hinst : (Cond.instanceMethod y).before a0 Z = true) (hsel : (Cond.selects y.cls y y).before a0 Z = true) (hpriv : (Cond.privateMethod y).before a0 Z = true) (hinit : (Cond.initialized y.cls).before a0 Z = true) (hcode : (Cond.code y bytes maxL ret).before a0 Z = true)
    (hy : y.cls ≠ "java/lang/invoke/MethodHandle" ∧ y.cls ≠ "java/lang/invoke/VarHandle") {W : Nat} (hM : OwnCtr l Z y [] bytes maxL ret rm as' h Q) (hf : rm.frames + 1 ≤ R.frames) (hl : W + (maxL + 11) + rm.locals ≤ R.locals)
    {b : Addr} {K : String} (E : Exa Z h b K) {g : JFrame} (hg : g.method = m) (hsize : g.locals.size = c.maxLocals) {argsL rest : List Value} (hlen : ∀ sig, parseMethodDescriptor y.desc = some sig → argsL.length = sig.parameters.length)
    (hstack : g.stack = argsL.reverse ++ .ref b :: rest) (hW : 2 * g.monitorRoom + (rest.map fun v => v.category).sum ≤ W) (hdg : decode c.code g.pc = .ok (.invokevirtual index, 3)) (eT : T.heap = h) (ha : (.ref b :: argsL).toArray = as') (hc : cells + rm.cells ≤ R.cells) (hs : slots + rm.slots ≤ R.slots) :
    ∃ (v : Option Value) (T' : State) (L : List Loc), Stand p l e R s m args below meth c T' (locs ++ L) (cells + rm.cells) (slots + rm.slots) ∧ Q v T'.heap L ∧ ∀ target, Steps p.tables e below (T'.setTop { g with pc := g.pc + 3, stack := v.toList ++ rest }) target → Steps p.tables e below (T.setTop g) target := by
  obtain ⟨cq, q1, q2⟩ := E.cell
  obtain ⟨v, _, ⟨T', L', k, n⟩, -, X', ⟨L, hQ, l1, y1, z1⟩, st⟩ := X.privateBack hx (y := y) hown (mvT hZ hlink) (mvT hZ hinst) (mvT hZ hsel) (Cond.privateMethod_at (mvP hZ hpriv (args := #[]))) (mvT hZ hcode) hy (backOf (W := W) hM hZ hcode hinit hf hl) hg hsize (Steps.refl _) (by rw [eT]; exact q1) q2 hlen hstack hW hdg (fun _ _ => ⟨ha, eT, hc, hs⟩)
  dsimp only [Pt.U, Pt.locs, Pt.cells, Pt.slots] at X' l1 y1 z1 st hQ
  subst l1 y1 z1
  exact ⟨v, T', L, X', hQ, fun t k => st.trans k⟩
theorem own_retI (X : Stand p l e R s m args below meth c T locs cells slots) (hx : p.tables.exec = Jvm.exec) {pc : Nat} {Ls : Array Slot} {z : Int32} {rest : List Value} (hret : meth.sig.returnType = some .int) (hd : decode c.code pc = .ok (.ireturn, 1)) {fs : List Frame}
    (hl : ∀ (f : JFrame) (acts : List Action), f.method = m → f.locked = none → f.entered = [] → (doReturn e (T.setTop f) acts (some (.int z))).1 = T.setFrames fs) : Steps p.tables e below (T.setTop (mkF m pc Ls (.int z :: rest))) (T.setFrames fs) :=
  retOut X hx hret rfl (Or.inl ⟨rfl, Or.inl rfl, _, rfl⟩) hd hl
theorem own_retJ (X : Stand p l e R s m args below meth c T locs cells slots) (hx : p.tables.exec = Jvm.exec) {pc : Nat} {Ls : Array Slot} {z : Int64} {rest : List Value} (hret : meth.sig.returnType = some .long) (hd : decode c.code pc = .ok (.lreturn, 1)) {fs : List Frame}
    (hl : ∀ (f : JFrame) (acts : List Action), f.method = m → f.locked = none → f.entered = [] → (doReturn e (T.setTop f) acts (some (.long z))).1 = T.setFrames fs) : Steps p.tables e below (T.setTop (mkF m pc Ls (.long z :: rest))) (T.setFrames fs) :=
  retOut X hx hret rfl (Or.inr (Or.inl ⟨rfl, rfl, _, rfl⟩)) hd hl
theorem own_retR (X : Stand p l e R s m args below meth c T locs cells slots) (hx : p.tables.exec = Jvm.exec) {pc : Nat} {Ls : Array Slot} {w : Value} {t : FieldType} {rest : List Value} (hret : meth.sig.returnType = some t) (ht : t.isReference = true) (hw : w.isRef = true) (hd : decode c.code pc = .ok (.areturn, 1)) {fs : List Frame}
    (hl : ∀ (f : JFrame) (acts : List Action), f.method = m → f.locked = none → f.entered = [] → (doReturn e (T.setTop f) acts (some w)).1 = T.setFrames fs) : Steps p.tables e below (T.setTop (mkF m pc Ls (w :: rest))) (T.setFrames fs) :=
  retOut X hx hret (by cases t <;> simp [FieldType.isReference] at ht <;> cases w <;> simp [Value.isRef] at hw <;> rfl) (Or.inr (Or.inr (Or.inr (Or.inr ⟨rfl, ht, hw⟩)))) hd hl
theorem own_nf {K : String} {y y' : MethodName} (hsel : (Cond.selects K y' y').before args s = true) (hc : y'.cls = y.cls) : NotFace s y := fun r0 h0 => by
  obtain ⟨c2, r2, m2, q1, q2, q3, q4, kP, hkP, hkPi⟩ := Cond.selects_spec hsel
  have e1 := findClass_of_methodNamed q3
  have e2 := findClass_of_methodNamed h0
  rw [hc, e2] at e1
  have e3 := Option.some.inj e1
  exact ⟨kP, by rw [e3]; exact hkP, hkPi⟩
theorem own_stakeep {h' : Heap} {O n d : String} {v : Value} (F : Sta Z h O n d v) (K : Keep h h' []) : Sta Z h' O n d v := by
  obtain ⟨cf, i, k, f, st, cell, h1, h2, h3, h4, h5, r⟩ := F
  exact ⟨cf, i, k, f, st, cell, h1, h2, h3, h4, K.2.1 _ _ h5 nin0, r⟩
end Own

section OwnArrays
variable {p : Program} {l : Launch} {e : Env} {R : Room} {s : State} {m : MethodId} {args : Array Value} {below : List Frame} {meth : Method} {c : Code} {T : State} {locs : List Loc} {cells slots : Nat} {Z : State} {a0 : Array Value} {h h' : Heap} {a b : Addr} {ty : FieldType} {n : Nat} {f : Nat → Value}
/-- at a lies an array of n places of the kind ty, and its i-th place holds f i -/
def OwnArr (Z : State) (h : Heap) (a : Addr) (ty : FieldType) (n : Nat) (f : Nat → Value) : Prop := ∃ c : Cell, Arr Z h a c ty ∧ c.slots.size = n ∧ n < 2 ^ 31 ∧ ∀ i, i < n → c.slots[i]? = some (f i)
theorem OwnArr.lt (F : OwnArr Z h a ty n f) : a < h.size := by obtain ⟨c, A, -⟩ := F; exact A.lt
theorem OwnArr.ext (F : OwnArr Z h a ty n f) (E : Ext h h') : OwnArr Z h' a ty n f := by obtain ⟨c, A, r⟩ := F; exact ⟨c, A.ext E, r⟩
theorem OwnArr.other {sl : Nat} {v : Value} (F : OwnArr Z h b ty n f) (W : Wr h h' a sl v) (q : b ≠ a) : OwnArr Z h' b ty n f := by obtain ⟨c, A, r⟩ := F; exact ⟨c, A.other W q, r⟩
theorem OwnArr.keep {ws : List Addr} (F : OwnArr Z h a ty n f) (K : Keep h h' ws) (q : a ∉ ws) : OwnArr Z h' a ty n f := by obtain ⟨c, A, r⟩ := F; exact ⟨c, ⟨K.2.1 a c A.1 q, A.2⟩, r⟩
theorem OwnArr.congr {f' : Nat → Value} (F : OwnArr Z h a ty n f) (q : ∀ i, i < n → f i = f' i) : OwnArr Z h a ty n f' := by obtain ⟨c, A, r1, r2, r3⟩ := F; exact ⟨c, A, r1, r2, fun i hi => by rw [← q i hi]; exact r3 i hi⟩
theorem OwnArr.set {i : Nat} {v : Value} (F : OwnArr Z h a ty n f) (W : Wr h h' a i v) : OwnArr Z h' a ty n (fun k => if k = i then v else f k) := by
  obtain ⟨c, A, r1, r2, r3⟩ := F
  refine ⟨_, A.same W, by rw [sz_set]; exact r1, r2, fun k hk => ?_⟩
  show (c.slots.setIfInBounds i v)[k]? = _
  by_cases e : k = i
  · subst e; simp [r1, hk]
  · rw [Array.getElem?_setIfInBounds_ne (Ne.symm e), r3 k hk]; simp [e]
theorem own_newarr (X : Stand p l e R s m args below meth c T locs cells slots) (hx : p.tables.exec = Jvm.exec) (hZ : Z.Warmed39 s.vm) {aty : ArrayType} (w : (Cond.arrayClass (newarray.typeOf aty)).before a0 Z = true) (eT : T.heap = h) {g : JFrame} (hg : g.method = m) (hd : decode c.code g.pc = .ok (.newarray aty, 2)) {z : Int32} {rest : List Value} (hs : g.stack = .int z :: rest)
    {n cap : Nat} (hz : z = Int32.ofNat n) (hcap : n ≤ cap) (hb : cap * 8 ≤ 536870912) (hc : cells + 1 ≤ R.cells) (hl : slots + cap ≤ R.slots) :
    ∃ T' h', Stand p l e R s m args below meth c T' locs (cells + 1) (slots + cap) ∧ T'.heap = h' ∧ Ext h h' ∧ OwnArr Z h' h.size (newarray.typeOf aty) n (fun _ => defaultValue (newarray.typeOf aty)) ∧
      ∀ target, Steps p.tables e below (T'.setTop { g with pc := g.pc + 2, stack := .ref h.size :: rest }) target → Steps p.tables e below (T.setTop g) target := by
  have hn31 : n < 2 ^ 31 := by omega
  have hcl : z.toNatClampNeg = n := clamp_of hz hn31
  have hnn : ¬ z < 0 := by
    have q := toInt_of hz hn31
    rw [Int32.lt_iff_toInt_lt, q, Int32.toInt_zero]; omega
  obtain ⟨T', h', cA, X', e', E', A', st⟩ := newP X hx hZ w eT hg hd hs hnn (cap := cap) (by rw [hcl]; exact hcap) hb hc hl
  refine ⟨T', h', X', e', E', ⟨_, A', by rw [sz_new, hcl], hn31, fun i hi => ?_⟩, st⟩
  show (Array.replicate z.toNatClampNeg _)[i]? = _
  rw [hcl]; simp [hi]
theorem own_laload (X : Stand p l e R s m args below meth c T locs cells slots) (hx : p.tables.exec = Jvm.exec) (hZ : Z.Warmed39 s.vm) (eT : T.heap = h) (A : OwnArr Z h a .long n f) {j : Int32} {i : Nat} (hj : j = Int32.ofNat i) (hi : i < n) {g : JFrame} (hg : g.method = m) {rest : List Value} (hs : g.stack = .int j :: .ref a :: rest) (hd : decode c.code g.pc = .ok (.laload, 1)) :
    ∀ target, Steps p.tables e below (T.setTop { g with pc := g.pc + 1, stack := f i :: rest }) target → Steps p.tables e below (T.setTop g) target := by
  obtain ⟨cl, A, r1, r2, r3⟩ := A
  exact fun t k => X.laload hx (j := j) (v := f i) (by rw [eT]; exact A.1) (State.isArrayOf_alike hZ.alike A.2.1) A.2.2 (by rw [r1]; exact within hj hi r2) (by rw [clamp_of hj (by omega)]; exact r3 i hi) hg hs hd t k
theorem own_iaload (X : Stand p l e R s m args below meth c T locs cells slots) (hx : p.tables.exec = Jvm.exec) (hZ : Z.Warmed39 s.vm) (eT : T.heap = h) (A : OwnArr Z h a .int n f) {j : Int32} {i : Nat} (hj : j = Int32.ofNat i) (hi : i < n) {g : JFrame} (hg : g.method = m) {rest : List Value} (hs : g.stack = .int j :: .ref a :: rest) (hd : decode c.code g.pc = .ok (.iaload, 1)) :
    ∀ target, Steps p.tables e below (T.setTop { g with pc := g.pc + 1, stack := f i :: rest }) target → Steps p.tables e below (T.setTop g) target := by
  obtain ⟨cl, A, r1, r2, r3⟩ := A
  exact fun t k => X.iaload hx (j := j) (v := f i) (by rw [eT]; exact A.1) (State.isArrayOf_alike hZ.alike A.2.1) A.2.2 (by rw [r1]; exact within hj hi r2) (by rw [clamp_of hj (by omega)]; exact r3 i hi) hg hs hd t k
theorem own_zaload (X : Stand p l e R s m args below meth c T locs cells slots) (hx : p.tables.exec = Jvm.exec) (hZ : Z.Warmed39 s.vm) (eT : T.heap = h) (A : OwnArr Z h a .boolean n f) {j : Int32} {i : Nat} (hj : j = Int32.ofNat i) (hi : i < n) {g : JFrame} (hg : g.method = m) {rest : List Value} (hs : g.stack = .int j :: .ref a :: rest) (hd : decode c.code g.pc = .ok (.baload, 1)) :
    ∀ target, Steps p.tables e below (T.setTop { g with pc := g.pc + 1, stack := f i :: rest }) target → Steps p.tables e below (T.setTop g) target := by
  obtain ⟨cl, A, r1, r2, r3⟩ := A
  exact fun t k => X.baloadBooleans hx (j := j) (v := f i) (by rw [eT]; exact A.1) (State.isArrayOf_alike hZ.alike A.2.1) A.2.2 (by rw [r1]; exact within hj hi r2) (by rw [clamp_of hj (by omega)]; exact r3 i hi) hg hs hd t k
theorem own_alength (X : Stand p l e R s m args below meth c T locs cells slots) (hx : p.tables.exec = Jvm.exec) (hZ : Z.Warmed39 s.vm) (eT : T.heap = h) (A : OwnArr Z h a ty n f) {g : JFrame} (hg : g.method = m) {rest : List Value} (hs : g.stack = .ref a :: rest) (hd : decode c.code g.pc = .ok (.arraylength, 1)) :
    ∀ target, Steps p.tables e below (T.setTop { g with pc := g.pc + 1, stack := .int (Int32.ofNat n) :: rest }) target → Steps p.tables e below (T.setTop g) target := by
  obtain ⟨cl, A, r1, r2, r3⟩ := A
  subst r1
  exact fun t k => X.arraylength hx (by rw [eT]; exact A.1) (State.isArrayOf_alike hZ.alike A.2.1) hg hs hd t k
theorem own_lastore (X : Stand p l e R s m args below meth c T locs cells slots) (hx : p.tables.exec = Jvm.exec) (hZ : Z.Warmed39 s.vm) (eT : T.heap = h) (A : OwnArr Z h a .long n f) {j : Int32} {i : Nat} {x : Int64} (hj : j = Int32.ofNat i) (hi : i < n) {g : JFrame} (hg : g.method = m) {rest : List Value} (hs : g.stack = .long x :: .int j :: .ref a :: rest) (hd : decode c.code g.pc = .ok (.lastore, 1)) :
    ∃ T' h', Stand p l e R s m args below meth c T' (locs ++ [⟨a, i⟩]) cells slots ∧ T'.heap = h' ∧ Wr h h' a i (.long x) ∧ OwnArr Z h' a .long n (fun k => if k = i then .long x else f k) ∧ ∀ target, Steps p.tables e below (T'.setTop { g with pc := g.pc + 1, stack := rest }) target → Steps p.tables e below (T.setTop g) target := by
  have A0 := A
  obtain ⟨cl, A, r1, r2, r3⟩ := A
  obtain ⟨T', h', X', e', W, st⟩ := stJ X hx hZ eT A (j := j) (x := x) (by rw [r1]; exact within hj hi r2) hg hs hd
  rw [clamp_of hj (by omega)] at X' W
  exact ⟨T', h', X', e', W, A0.set W, st⟩
theorem own_iastore (X : Stand p l e R s m args below meth c T locs cells slots) (hx : p.tables.exec = Jvm.exec) (hZ : Z.Warmed39 s.vm) (eT : T.heap = h) (A : OwnArr Z h a .int n f) {j : Int32} {i : Nat} {x : Int32} (hj : j = Int32.ofNat i) (hi : i < n) {g : JFrame} (hg : g.method = m) {rest : List Value} (hs : g.stack = .int x :: .int j :: .ref a :: rest) (hd : decode c.code g.pc = .ok (.iastore, 1)) :
    ∃ T' h', Stand p l e R s m args below meth c T' (locs ++ [⟨a, i⟩]) cells slots ∧ T'.heap = h' ∧ Wr h h' a i (.int x) ∧ OwnArr Z h' a .int n (fun k => if k = i then .int x else f k) ∧ ∀ target, Steps p.tables e below (T'.setTop { g with pc := g.pc + 1, stack := rest }) target → Steps p.tables e below (T.setTop g) target := by
  have A0 := A
  obtain ⟨cl, A, r1, r2, r3⟩ := A
  obtain ⟨T', h', X', e', W, st⟩ := stI X hx hZ eT A (j := j) (x := x) (by rw [r1]; exact within hj hi r2) hg hs hd
  rw [clamp_of hj (by omega)] at X' W
  exact ⟨T', h', X', e', W, A0.set W, st⟩
theorem own_zastore (X : Stand p l e R s m args below meth c T locs cells slots) (hx : p.tables.exec = Jvm.exec) (hZ : Z.Warmed39 s.vm) (eT : T.heap = h) (A : OwnArr Z h a .boolean n f) {j : Int32} {i : Nat} {x : Int32} (hj : j = Int32.ofNat i) (hi : i < n) {g : JFrame} (hg : g.method = m) {rest : List Value} (hs : g.stack = .int x :: .int j :: .ref a :: rest) (hd : decode c.code g.pc = .ok (.bastore, 1)) :
    ∃ T' h', Stand p l e R s m args below meth c T' (locs ++ [⟨a, i⟩]) cells slots ∧ T'.heap = h' ∧ Wr h h' a i (.int (nar .boolean x)) ∧ OwnArr Z h' a .boolean n (fun k => if k = i then .int (nar .boolean x) else f k) ∧ ∀ target, Steps p.tables e below (T'.setTop { g with pc := g.pc + 1, stack := rest }) target → Steps p.tables e below (T.setTop g) target := by
  have A0 := A
  obtain ⟨cl, A, r1, r2, r3⟩ := A
  obtain ⟨T', h', X', e', W, st⟩ := stZ X hx hZ eT A (j := j) (x := x) (by rw [r1]; exact within hj hi r2) hg hs hd
  rw [clamp_of hj (by omega)] at X' W
  exact ⟨T', h', X', e', W, A0.set W, st⟩
theorem own_castore (X : Stand p l e R s m args below meth c T locs cells slots) (hx : p.tables.exec = Jvm.exec) (hZ : Z.Warmed39 s.vm) (eT : T.heap = h) (A : OwnArr Z h a .char n f) {j : Int32} {i : Nat} {x : Int32} (hj : j = Int32.ofNat i) (hi : i < n) {g : JFrame} (hg : g.method = m) {rest : List Value} (hs : g.stack = .int x :: .int j :: .ref a :: rest) (hd : decode c.code g.pc = .ok (.castore, 1)) :
    ∃ T' h', Stand p l e R s m args below meth c T' (locs ++ [⟨a, i⟩]) cells slots ∧ T'.heap = h' ∧ Wr h h' a i (.int (nar .char x)) ∧ OwnArr Z h' a .char n (fun k => if k = i then .int (nar .char x) else f k) ∧ ∀ target, Steps p.tables e below (T'.setTop { g with pc := g.pc + 1, stack := rest }) target → Steps p.tables e below (T.setTop g) target := by
  have A0 := A
  obtain ⟨cl, A, r1, r2, r3⟩ := A
  obtain ⟨T', h', X', e', W, st⟩ := stC X hx hZ eT A (j := j) (x := x) (by rw [r1]; exact within hj hi r2) hg hs hd
  rw [clamp_of hj (by omega)] at X' W
  exact ⟨T', h', X', e', W, A0.set W, st⟩
theorem own_arv2 {x y : Int32} (F : OwnArr Z h a .char 2 f) (h0 : f 0 = .int x) (h1 : f 1 = .int y) (q0 : fits .char (.int x) = true) (q1 : fits .char (.int y) = true) : ∃ k, Arv Z h a k .char 2 ([x, y].map Value.int) (.int 0) := by
  obtain ⟨c, A, r1, r2, r3⟩ := F
  refine ⟨c.cls, c, A, rfl, by rw [r1]; rfl, by decide, fun i hi => ?_, fun i hi => ?_⟩
  · rw [r1] at hi
    rw [r3 i hi]
    have hc : i = 0 ∨ i = 1 := by omega
    rcases hc with rfl | rfl
    · rw [h0]; rfl
    · rw [h1]; rfl
  · rw [r1] at hi
    have hc : i = 0 ∨ i = 1 := by omega
    rcases hc with rfl | rfl
    · exact q0
    · exact q1
theorem own_longs (F : OwnArr Z h a .long n f) (q : ∀ i, i < n → ∃ x : Int64, f i = .long x) : ∃ g : Nat → Int64, OwnArr Z h a .long n (fun i => .long (g i)) := by
  have q' : ∀ i, ∃ x : Int64, i < n → f i = .long x := fun i => by
    by_cases hi : i < n
    · obtain ⟨x, hx⟩ := q i hi; exact ⟨x, fun _ => hx⟩
    · exact ⟨0, fun z => absurd z hi⟩
  exact ⟨fun i => Classical.choose (q' i), F.congr fun i hi => Classical.choose_spec (q' i) hi⟩
end OwnArrays

def own_minL (x y : Int64) : Int64 := if y < x then y else x
theorem own_min (x y : Int64) (hx : 0 ≤ x.toInt) (hy : 0 ≤ y.toInt) : 0 ≤ (own_minL x y).toInt ∧ (own_minL x y).toInt ≤ x.toInt ∧ (own_minL x y).toInt ≤ y.toInt := by
  unfold own_minL
  split
  · rename_i q; rw [Int64.lt_iff_toInt_lt] at q; omega
  · rename_i q; rw [Int64.lt_iff_toInt_lt] at q; omega
theorem own_nnL (x : Int64) : 0 ≤ (x &&& (9223372036854775807 : Int64)).toInt := by
  have h := c_maskL x 9223372036854775807 63 (by decide) (by decide)
  rw [h]
  exact Int.emod_nonneg _ (by decide)
theorem own_z0 : (0 : Int64).toInt = 0 := by decide
theorem own_ge {x : Int64} (h : 0 ≤ x.toInt) : ¬ x < (0 : Int64) := by rw [Int64.lt_iff_toInt_lt, own_z0]; omega
theorem own_sub {x y : Int64} (h : 0 ≤ y.toInt) (h2 : y.toInt ≤ x.toInt) : (x - y).toInt = x.toInt - y.toInt := by
  have r := rng64 x
  exact Jvm.Kit.i64_sub (by omega) (by omega)
theorem own_fc (y : Int32) : nar .char (y &&& (255 : Int32)) = y &&& (255 : Int32) := i2c_mask y
theorem own_c255 (y : Int32) : ¬ (y &&& (255 : Int32)) < 0 ∧ ¬ (255 : Int32) < (y &&& (255 : Int32)) := by
  have h := c_mask y 255 8 (by decide) (by decide)
  have e : (255 : Int32).toInt = 255 := by decide
  rw [Int32.lt_iff_toInt_lt, Int32.lt_iff_toInt_lt, Int32.toInt_zero, e]
  omega
theorem own_fits (y : Int32) : fits .char (.int (y &&& (255 : Int32))) = true := by
  have h := fits_nar_char (y &&& (255 : Int32))
  rw [own_fc] at h
  exact h
theorem d1_0 : decode jdk_29_method_70_code 0 = .ok (.lload_n 0, 1) := by decide +kernel
theorem d1_1 : decode jdk_29_method_70_code 1 = .ok (.lload_n 2, 1) := by decide +kernel
theorem d1_2 : decode jdk_29_method_70_code 2 = .ok (.lcmp, 1) := by decide +kernel
theorem d1_3 : decode jdk_29_method_70_code 3 = .ok (.ifCond .gt 7, 3) := by decide +kernel
theorem d1_6 : decode jdk_29_method_70_code 6 = .ok (.lload_n 0, 1) := by decide +kernel
theorem d1_7 : decode jdk_29_method_70_code 7 = .ok (.goto 4, 3) := by decide +kernel
theorem d1_10 : decode jdk_29_method_70_code 10 = .ok (.lload_n 2, 1) := by decide +kernel
theorem d1_11 : decode jdk_29_method_70_code 11 = .ok (.lreturn, 1) := by decide +kernel
theorem pn_1 : plainFor (⟨"java/lang/Math", "min", "(JJ)J"⟩ : MethodName) = true := Jvm.Free.JP.mathPlain rfl (by decide +kernel)
theorem ef_1 (m : MethodId) (q1 : Int64) (q2 : Int64) : entryFrame m #[(.long q1), (.long q2)] 4 = mkF m 0 #[.val (.long q1), .second, .val (.long q2), .second] [] := by first | (simp [entryFrame, mkF, argsToLocals, Value.category]; done) | rfl
set_option maxRecDepth 65536 in
set_option maxHeartbeats 40000000 in
theorem rm1 (l : Launch) (Z : State) (a0 : Array Value) (hw : ∀ d ∈ tables_1, d.before a0 Z = true) (ws : List Jvm.Cond) (q1 : Int64) (q2 : Int64) (h0 : Heap) (n0 : Nat) (Z0 : n0 ≤ h0.size) :
    OwnCtr l Z (⟨"java/lang/Math", "min", "(JJ)J"⟩ : MethodName) ws jdk_29_method_70_code 4 (some .long) ({ frames := 0, cells := 0, slots := 0, locals := 0 } : Room) #[(.long q1), (.long q2)] h0 (fun v h L => v = some (.long (own_minL q1 q2)) ∧ Fr n0 L ∧ h = h0) := by
  refine own_body (g0 := fun m => mkF m 0 #[.val (.long q1), .second, .val (.long q2), .second] []) pn_1 (fun m => ef_1 m q1 q2) ?_
  intro p e s m below meth c s₁ X0 hx hby hml hown hnm hZ e0 hret hlk
  have hml : c.maxLocals = 4 := hml
  have hown : s.vm.findClass "java/lang/Math" = some m.cls := hown
  have hnm : meth.name = "min" := hnm
  have hret : meth.sig.returnType = (some .long) := hret
  have N0 := Fr.nil n0
  show OwnFin p e below s _ _ _ (s₁.setTop (mkF m 0 #[.val (.long q1), .second, .val (.long q2), .second] []))
  refine own_go (fun t_ k_ => XS.lloadN X0.here hx rfl (hb hby d1_0) rfl k_) ?_
  show OwnFin p e below s _ _ _ (s₁.setTop (mkF m 1 #[.val (.long q1), .second, .val (.long q2), .second] [(.long q1)]))
  refine own_go (fun t_ k_ => XS.lloadN X0.here hx rfl (hb hby d1_1) rfl k_) ?_
  show OwnFin p e below s _ _ _ (s₁.setTop (mkF m 2 #[.val (.long q1), .second, .val (.long q2), .second] [(.long q2), (.long q1)]))
  refine own_go (fun t_ k_ => XS.lcmp X0.here hx rfl (hb hby d1_2) rfl k_) ?_
  show OwnFin p e below s _ _ _ (s₁.setTop (mkF m 3 #[.val (.long q1), .second, .val (.long q2), .second] [(.int (lcmpW q1 q2))]))
  by_cases hc3 : q2 < q1
  · refine own_go (fun t_ k_ => XS.ifYes X0.here hx rfl (pc0 := 3) (pc' := 10) rfl (hb hby d1_3) rfl ((if0 _ _).trans (tlt ((lw_gt q1 q2).mpr hc3)).2.2.1) (by decide) (by decide) k_) ?_
    show OwnFin p e below s _ _ _ (s₁.setTop (mkF m 10 #[.val (.long q1), .second, .val (.long q2), .second] []))
    refine own_go (fun t_ k_ => XS.lloadN X0.here hx rfl (hb hby d1_10) rfl k_) ?_
    show OwnFin p e below s _ _ _ (s₁.setTop (mkF m 11 #[.val (.long q1), .second, .val (.long q2), .second] [(.long q2)]))
    refine own_ret X0 (v := some (.long q2)) hlk (fun hh => by rw [hret] at hh; cases hh) (fun fs hr => own_retJ X0 hx hret (hb hby d1_11) hr) (by decide) (by decide) ?_
    rw [e0]
    exact ⟨by simp [own_minL, hc3], N0, rfl⟩
  · refine own_go (fun t_ k_ => XS.ifNo X0.here hx rfl (hb hby d1_3) rfl ((if0 _ _).trans (flt (mt (lw_gt q1 q2).mp hc3)).2.2.1) k_) ?_
    show OwnFin p e below s _ _ _ (s₁.setTop (mkF m 6 #[.val (.long q1), .second, .val (.long q2), .second] []))
    refine own_go (fun t_ k_ => XS.lloadN X0.here hx rfl (hb hby d1_6) rfl k_) ?_
    show OwnFin p e below s _ _ _ (s₁.setTop (mkF m 7 #[.val (.long q1), .second, .val (.long q2), .second] [(.long q1)]))
    refine own_go (fun t_ k_ => XS.goto X0.here hx rfl (pc0 := 7) (pc' := 11) rfl (hb hby d1_7) (by decide) (by decide) k_) ?_
    show OwnFin p e below s _ _ _ (s₁.setTop (mkF m 11 #[.val (.long q1), .second, .val (.long q2), .second] [(.long q1)]))
    refine own_ret X0 (v := some (.long q1)) hlk (fun hh => by rw [hret] at hh; cases hh) (fun fs hr => own_retJ X0 hx hret (hb hby d1_11) hr) (by decide) (by decide) ?_
    rw [e0]
    exact ⟨by simp [own_minL, hc3], N0, rfl⟩
theorem d10_0 : decode prog_11_method_4_code 0 = .ok (.lload_n 0, 1) := by decide +kernel
theorem d10_1 : decode prog_11_method_4_code 1 = .ok (.lconst 0, 1) := by decide +kernel
theorem d10_2 : decode prog_11_method_4_code 2 = .ok (.lcmp, 1) := by decide +kernel
theorem d10_3 : decode prog_11_method_4_code 3 = .ok (.ifCond .ge 17, 3) := by decide +kernel
theorem d10_20 : decode prog_11_method_4_code 20 = .ok (.return_, 1) := by decide +kernel
theorem pn_10 : plainFor (⟨"com/example/trapline/trapline/collect/Budget", "check", "(J)V"⟩ : MethodName) = true := plainFor_of_name (by first | (simp [plainName, overriddenIn]; done) | decide +kernel)
theorem ef_10 (m : MethodId) (q1 : Int64) : entryFrame m #[(.long q1)] 2 = mkF m 0 #[.val (.long q1), .second] [] := by first | (simp [entryFrame, mkF, argsToLocals, Value.category]; done) | rfl
set_option maxRecDepth 65536 in
set_option maxHeartbeats 40000000 in
theorem rm10 (l : Launch) (Z : State) (a0 : Array Value) (hw : ∀ d ∈ tables_1, d.before a0 Z = true) (ws : List Jvm.Cond) (q1 : Int64) (h0 : Heap) (n0 : Nat) (Z0 : n0 ≤ h0.size) (hq : ¬ q1 < (0 : Int64)) :
    OwnCtr l Z (⟨"com/example/trapline/trapline/collect/Budget", "check", "(J)V"⟩ : MethodName) ws prog_11_method_4_code 2 none ({ frames := 0, cells := 0, slots := 0, locals := 0 } : Room) #[(.long q1)] h0 (fun v h L => v = none ∧ Fr n0 L ∧ h = h0) := by
  refine own_body (g0 := fun m => mkF m 0 #[.val (.long q1), .second] []) pn_10 (fun m => ef_10 m q1) ?_
  intro p e s m below meth c s₁ X0 hx hby hml hown hnm hZ e0 hret hlk
  have hml : c.maxLocals = 2 := hml
  have hown : s.vm.findClass "com/example/trapline/trapline/collect/Budget" = some m.cls := hown
  have hnm : meth.name = "check" := hnm
  have hret : meth.sig.returnType = none := hret
  have N0 := Fr.nil n0
  show OwnFin p e below s _ _ _ (s₁.setTop (mkF m 0 #[.val (.long q1), .second] []))
  refine own_go (fun t_ k_ => XS.lloadN X0.here hx rfl (hb hby d10_0) rfl k_) ?_
  show OwnFin p e below s _ _ _ (s₁.setTop (mkF m 1 #[.val (.long q1), .second] [(.long q1)]))
  refine own_go (fun t_ k_ => XS.lconst X0.here hx rfl (hb hby d10_1) k_) ?_
  show OwnFin p e below s _ _ _ (s₁.setTop (mkF m 2 #[.val (.long q1), .second] [(.long (0 : Int64)), (.long q1)]))
  refine own_go (fun t_ k_ => XS.lcmp X0.here hx rfl (hb hby d10_2) rfl k_) ?_
  show OwnFin p e below s _ _ _ (s₁.setTop (mkF m 3 #[.val (.long q1), .second] [(.int (lcmpW q1 (0 : Int64)))]))
  have hc3 : ¬ (q1 < (0 : Int64)) := hq
  refine own_go (fun t_ k_ => XS.ifYes X0.here hx rfl (pc0 := 3) (pc' := 20) rfl (hb hby d10_3) rfl ((if0 _ _).trans (flt (mt (lw_lt q1 (0 : Int64)).mp hc3)).2.1) (by decide) (by decide) k_) ?_
  show OwnFin p e below s _ _ _ (s₁.setTop (mkF m 20 #[.val (.long q1), .second] []))
  refine own_ret X0 (v := none) hlk (fun _ => rfl) (fun fs hr => X0.returnOut hx hret (hb hby d10_20) hr) (by decide) (by decide) ?_
  rw [e0]
  exact ⟨rfl, N0, rfl⟩
theorem d9_0 : decode prog_11_method_2_code 0 = .ok (.aload_n 0, 1) := by decide +kernel
theorem d9_1 : decode prog_11_method_2_code 1 = .ok (.invokespecial 9, 3) := by decide +kernel
theorem d9_4 : decode prog_11_method_2_code 4 = .ok (.lload_n 2, 1) := by decide +kernel
theorem d9_5 : decode prog_11_method_2_code 5 = .ok (.invokestatic 14, 3) := by decide +kernel
theorem d9_8 : decode prog_11_method_2_code 8 = .ok (.aload_n 0, 1) := by decide +kernel
theorem d9_9 : decode prog_11_method_2_code 9 = .ok (.aload_n 1, 1) := by decide +kernel
theorem d9_10 : decode prog_11_method_2_code 10 = .ok (.putfield 18, 3) := by decide +kernel
theorem d9_13 : decode prog_11_method_2_code 13 = .ok (.aload_n 0, 1) := by decide +kernel
theorem d9_14 : decode prog_11_method_2_code 14 = .ok (.lload_n 2, 1) := by decide +kernel
theorem d9_15 : decode prog_11_method_2_code 15 = .ok (.putfield 22, 3) := by decide +kernel
theorem d9_18 : decode prog_11_method_2_code 18 = .ok (.aload_n 0, 1) := by decide +kernel
theorem d9_19 : decode prog_11_method_2_code 19 = .ok (.aload 4, 2) := by decide +kernel
theorem d9_21 : decode prog_11_method_2_code 21 = .ok (.putfield 26, 3) := by decide +kernel
theorem d9_24 : decode prog_11_method_2_code 24 = .ok (.aload_n 0, 1) := by decide +kernel
theorem d9_25 : decode prog_11_method_2_code 25 = .ok (.lload_n 2, 1) := by decide +kernel
theorem d9_26 : decode prog_11_method_2_code 26 = .ok (.putfield 30, 3) := by decide +kernel
theorem d9_29 : decode prog_11_method_2_code 29 = .ok (.return_, 1) := by decide +kernel
theorem pn_9 : plainFor (⟨"com/example/trapline/trapline/collect/Budget", "<init>", "(Ljava/lang/String;JLcom/example/trapline/trapline/collect/Budget;)V"⟩ : MethodName) = true := plainFor_of_name (by first | (simp [plainName, overriddenIn]; done) | decide +kernel)
theorem pd_9_3 : parseMethodDescriptor "()V" = some ⟨[], none⟩ := by decide +kernel
theorem pd_9_9 : parseMethodDescriptor "(J)V" = some ⟨[.long], none⟩ := by decide +kernel
theorem ef_9 (m : MethodId) (a1 : Addr) (a2 : Addr) (q3 : Int64) (a4 : Addr) : entryFrame m #[(.ref a1), (.ref a2), (.long q3), (.ref a4)] 5 = mkF m 0 #[.val (.ref a1), .val (.ref a2), .val (.long q3), .second, .val (.ref a4)] [] := by first | (simp [entryFrame, mkF, argsToLocals, Value.category]; done) | rfl
theorem ef_9_N (m : MethodId) (a1 : Addr) (so : Addr) (qn : Int64) : entryFrame m #[(.ref a1), (.ref so), (.long qn), .null] 5 = mkF m 0 #[.val (.ref a1), .val (.ref so), .val (.long qn), .second, .val .null] [] := by first | (simp [entryFrame, mkF, argsToLocals, Value.category]; done) | rfl
set_option maxRecDepth 65536 in
set_option maxHeartbeats 40000000 in
theorem rm9_N (l : Launch) (Z : State) (a0 : Array Value) (hw : ∀ d ∈ tables_1, d.before a0 Z = true) (ws : List Jvm.Cond) (a1 : Addr) (so : Addr) (qn : Int64) {u_computation : Value} {u_operations : Value} {u_whole : Value} {u_left : Value} (h0 : Heap) (n0 : Nat) (Z0 : n0 ≤ h0.size) (E_a1 : Exa Z h0 a1 "com/example/trapline/trapline/collect/Budget") (g_a1 : n0 ≤ a1) (F_computation_a1 : Fld Z h0 a1 "com/example/trapline/trapline/collect/Budget" "computation" "Ljava/lang/String;" u_computation) (F_operations_a1 : Fld Z h0 a1 "com/example/trapline/trapline/collect/Budget" "operations" "J" u_operations) (F_whole_a1 : Fld Z h0 a1 "com/example/trapline/trapline/collect/Budget" "whole" "Lcom/example/trapline/trapline/collect/Budget;" u_whole) (F_left_a1 : Fld Z h0 a1 "com/example/trapline/trapline/collect/Budget" "left" "J" u_left) (hq : ¬ qn < (0 : Int64)) :
    OwnCtr l Z (⟨"com/example/trapline/trapline/collect/Budget", "<init>", "(Ljava/lang/String;JLcom/example/trapline/trapline/collect/Budget;)V"⟩ : MethodName) ws prog_11_method_2_code 5 none ({ frames := 1, cells := 0, slots := 0, locals := 13 } : Room) #[(.ref a1), (.ref so), (.long qn), .null] h0 (fun v h L => v = none ∧ Fr n0 L ∧ Keep h0 h [a1] ∧ Exa Z h a1 "com/example/trapline/trapline/collect/Budget" ∧ Fld Z h a1 "com/example/trapline/trapline/collect/Budget" "computation" "Ljava/lang/String;" (.ref so) ∧ Fld Z h a1 "com/example/trapline/trapline/collect/Budget" "operations" "J" (.long qn) ∧ Fld Z h a1 "com/example/trapline/trapline/collect/Budget" "whole" "Lcom/example/trapline/trapline/collect/Budget;" .null ∧ Fld Z h a1 "com/example/trapline/trapline/collect/Budget" "left" "J" (.long qn)) := by
  refine own_body (g0 := fun m => mkF m 0 #[.val (.ref a1), .val (.ref so), .val (.long qn), .second, .val .null] []) pn_9 (fun m => ef_9_N m a1 so qn) ?_
  intro p e s m below meth c s₁ X0 hx hby hml hown hnm hZ e0 hret hlk
  have hml : c.maxLocals = 5 := hml
  have hown : s.vm.findClass "com/example/trapline/trapline/collect/Budget" = some m.cls := hown
  have hnm : meth.name = "<init>" := hnm
  have hret : meth.sig.returnType = none := hret
  have N0 := Fr.nil n0
  have K0 := Keep.refl h0 [a1]
  show OwnFin p e below s _ _ _ (s₁.setTop (mkF m 0 #[.val (.ref a1), .val (.ref so), .val (.long qn), .second, .val .null] []))
  refine own_go (fun t_ k_ => XS.aloadN X0.here hx rfl (hb hby d9_0) rfl rfl k_) ?_
  show OwnFin p e below s _ _ _ (s₁.setTop (mkF m 1 #[.val (.ref a1), .val (.ref so), .val (.long qn), .second, .val .null] [(.ref a1)]))
  obtain ⟨T1, X1, e1, st1⟩ := initO X0 hx hZ hown (hw _ (List.mem_of_getElem? (i := 44) rfl)) (hw _ (List.mem_of_getElem? (i := 17) rfl)) (hw _ (List.mem_of_getElem? (i := 18) rfl)) e0 (g := (mkF m 1 #[.val (.ref a1), .val (.ref so), .val (.long qn), .second, .val .null] [(.ref a1)])) rfl (by rw [hml]; rfl) rfl (hb hby d9_1) (by decide) (W := 0) (by show 2 * 0 + _ ≤ _; exact Nat.le_of_eq rfl) (by decide)
  refine own_go st1 ?_
  show OwnFin p e below s _ _ _ (T1.setTop (mkF m 4 #[.val (.ref a1), .val (.ref so), .val (.long qn), .second, .val .null] []))
  refine own_go (fun t_ k_ => XS.lloadN X1.here hx rfl (hb hby d9_4) rfl k_) ?_
  show OwnFin p e below s _ _ _ (T1.setTop (mkF m 5 #[.val (.ref a1), .val (.ref so), .val (.long qn), .second, .val .null] [(.long qn)]))
  obtain ⟨v2, T2, L2, X2, hQ2, st2⟩ := own_callS X1 hx hZ (y := (⟨"com/example/trapline/trapline/collect/Budget", "check", "(J)V"⟩ : MethodName)) hown (hw _ (List.mem_of_getElem? (i := 45) rfl)) (hw _ (List.mem_of_getElem? (i := 46) rfl)) (hw _ (List.mem_of_getElem? (i := 37) rfl)) (hw _ (List.mem_of_getElem? (i := 47) rfl)) (by decide) (W := 0) (rm10 l Z a0 hw [] qn h0 n0 Z0 hq) (by decide) (by decide) (g := (mkF m 5 #[.val (.ref a1), .val (.ref so), .val (.long qn), .second, .val .null] [(.long qn)])) rfl (by rw [hml]; rfl) (argsL := [(.long qn)]) (rest := []) (lenOf pd_9_9 rfl) rfl (by show 2 * 0 + _ ≤ _; exact Nat.le_of_eq rfl) (hb hby d9_5) e1 rfl (by decide) (by decide)
  obtain ⟨rfl, Nq2, e2⟩ := hQ2
  have N2 := Fr.app N0 Nq2
  refine own_go st2 ?_
  show OwnFin p e below s _ _ _ (T2.setTop (mkF m 8 #[.val (.ref a1), .val (.ref so), .val (.long qn), .second, .val .null] []))
  refine own_go (fun t_ k_ => XS.aloadN X2.here hx rfl (hb hby d9_8) rfl rfl k_) ?_
  show OwnFin p e below s _ _ _ (T2.setTop (mkF m 9 #[.val (.ref a1), .val (.ref so), .val (.long qn), .second, .val .null] [(.ref a1)]))
  refine own_go (fun t_ k_ => XS.aloadN X2.here hx rfl (hb hby d9_9) rfl rfl k_) ?_
  show OwnFin p e below s _ _ _ (T2.setTop (mkF m 10 #[.val (.ref a1), .val (.ref so), .val (.long qn), .second, .val .null] [(.ref so), (.ref a1)]))
  obtain ⟨T3, h3, X3, e3, W3, st3⟩ := putF X2 hx hZ hown (host := "") (Or.inl (hw _ (List.mem_of_getElem? (i := 48) rfl))) Via.refl e2 F_computation_a1 E_a1 (Or.inr ⟨(hw _ (List.mem_of_getElem? (i := 49) rfl)), rfl, hnm⟩) (hw _ (List.mem_of_getElem? (i := 36) rfl)) (ty := (.object "java/lang/String")) (by decide) rfl rfl (g := (mkF m 10 #[.val (.ref a1), .val (.ref so), .val (.long qn), .second, .val .null] [(.ref so), (.ref a1)])) rfl rfl (hb hby d9_10)
  have E_a1_3 := E_a1.wr W3
  have F_computation_a1_3 := F_computation_a1.same W3
  have F_operations_a1_3 := F_operations_a1.other W3 (Or.inr (slot_ne (Or.inr (hw _ (List.mem_of_getElem? (i := 51) rfl))) (Or.inr (hw _ (List.mem_of_getElem? (i := 49) rfl))) (by decide) (t := .long) (t' := (.object "java/lang/String")) (by decide) (by decide)))
  have F_whole_a1_3 := F_whole_a1.other W3 (Or.inr (slot_ne (Or.inr (hw _ (List.mem_of_getElem? (i := 53) rfl))) (Or.inr (hw _ (List.mem_of_getElem? (i := 49) rfl))) (by decide) (t := (.object "com/example/trapline/trapline/collect/Budget")) (t' := (.object "java/lang/String")) (by decide) (by decide)))
  have F_left_a1_3 := F_left_a1.other W3 (Or.inr (slot_ne (Or.inl (hw _ (List.mem_of_getElem? (i := 55) rfl))) (Or.inr (hw _ (List.mem_of_getElem? (i := 49) rfl))) (by decide) (t := .long) (t' := (.object "java/lang/String")) (by decide) (by decide)))
  have Z3 : n0 ≤ h3.size := Nat.le_trans Z0 (Keep.of_wr W3).1
  have K3 : Keep h0 h3 [a1] := K0.wr W3 (Or.inl (List.mem_of_getElem? (i := 0) rfl))
  have N3 := Fr.snoc X3 N2 g_a1
  refine own_go st3 ?_
  show OwnFin p e below s _ _ _ (T3.setTop (mkF m 13 #[.val (.ref a1), .val (.ref so), .val (.long qn), .second, .val .null] []))
  refine own_go (fun t_ k_ => XS.aloadN X3.here hx rfl (hb hby d9_13) rfl rfl k_) ?_
  show OwnFin p e below s _ _ _ (T3.setTop (mkF m 14 #[.val (.ref a1), .val (.ref so), .val (.long qn), .second, .val .null] [(.ref a1)]))
  refine own_go (fun t_ k_ => XS.lloadN X3.here hx rfl (hb hby d9_14) rfl k_) ?_
  show OwnFin p e below s _ _ _ (T3.setTop (mkF m 15 #[.val (.ref a1), .val (.ref so), .val (.long qn), .second, .val .null] [(.long qn), (.ref a1)]))
  obtain ⟨T4, h4, X4, e4, W4, st4⟩ := putF X3 hx hZ hown (host := "") (Or.inl (hw _ (List.mem_of_getElem? (i := 50) rfl))) Via.refl e3 F_operations_a1_3 E_a1_3 (Or.inr ⟨(hw _ (List.mem_of_getElem? (i := 51) rfl)), rfl, hnm⟩) (hw _ (List.mem_of_getElem? (i := 36) rfl)) (ty := .long) (by decide) rfl rfl (g := (mkF m 15 #[.val (.ref a1), .val (.ref so), .val (.long qn), .second, .val .null] [(.long qn), (.ref a1)])) rfl rfl (hb hby d9_15)
  have E_a1_4 := E_a1_3.wr W4
  have F_computation_a1_4 := F_computation_a1_3.other W4 (Or.inr (slot_ne (Or.inr (hw _ (List.mem_of_getElem? (i := 49) rfl))) (Or.inr (hw _ (List.mem_of_getElem? (i := 51) rfl))) (by decide) (t := (.object "java/lang/String")) (t' := .long) (by decide) (by decide)))
  have F_operations_a1_4 := F_operations_a1_3.same W4
  have F_whole_a1_4 := F_whole_a1_3.other W4 (Or.inr (slot_ne (Or.inr (hw _ (List.mem_of_getElem? (i := 53) rfl))) (Or.inr (hw _ (List.mem_of_getElem? (i := 51) rfl))) (by decide) (t := (.object "com/example/trapline/trapline/collect/Budget")) (t' := .long) (by decide) (by decide)))
  have F_left_a1_4 := F_left_a1_3.other W4 (Or.inr (slot_ne (Or.inl (hw _ (List.mem_of_getElem? (i := 55) rfl))) (Or.inr (hw _ (List.mem_of_getElem? (i := 51) rfl))) (by decide) (t := .long) (t' := .long) (by decide) (by decide)))
  have Z4 : n0 ≤ h4.size := Nat.le_trans Z3 (Keep.of_wr W4).1
  have K4 : Keep h0 h4 [a1] := K3.wr W4 (Or.inl (List.mem_of_getElem? (i := 0) rfl))
  have N4 := Fr.snoc X4 N3 g_a1
  refine own_go st4 ?_
  show OwnFin p e below s _ _ _ (T4.setTop (mkF m 18 #[.val (.ref a1), .val (.ref so), .val (.long qn), .second, .val .null] []))
  refine own_go (fun t_ k_ => XS.aloadN X4.here hx rfl (hb hby d9_18) rfl rfl k_) ?_
  show OwnFin p e below s _ _ _ (T4.setTop (mkF m 19 #[.val (.ref a1), .val (.ref so), .val (.long qn), .second, .val .null] [(.ref a1)]))
  refine own_go (fun t_ k_ => XS.aload X4.here hx rfl (hb hby d9_19) rfl rfl k_) ?_
  show OwnFin p e below s _ _ _ (T4.setTop (mkF m 21 #[.val (.ref a1), .val (.ref so), .val (.long qn), .second, .val .null] [.null, (.ref a1)]))
  obtain ⟨T5, h5, X5, e5, W5, st5⟩ := putF X4 hx hZ hown (host := "") (Or.inl (hw _ (List.mem_of_getElem? (i := 52) rfl))) Via.refl e4 F_whole_a1_4 E_a1_4 (Or.inr ⟨(hw _ (List.mem_of_getElem? (i := 53) rfl)), rfl, hnm⟩) (hw _ (List.mem_of_getElem? (i := 36) rfl)) (ty := (.object "com/example/trapline/trapline/collect/Budget")) (by decide) rfl rfl (g := (mkF m 21 #[.val (.ref a1), .val (.ref so), .val (.long qn), .second, .val .null] [.null, (.ref a1)])) rfl rfl (hb hby d9_21)
  have E_a1_5 := E_a1_4.wr W5
  have F_computation_a1_5 := F_computation_a1_4.other W5 (Or.inr (slot_ne (Or.inr (hw _ (List.mem_of_getElem? (i := 49) rfl))) (Or.inr (hw _ (List.mem_of_getElem? (i := 53) rfl))) (by decide) (t := (.object "java/lang/String")) (t' := (.object "com/example/trapline/trapline/collect/Budget")) (by decide) (by decide)))
  have F_operations_a1_5 := F_operations_a1_4.other W5 (Or.inr (slot_ne (Or.inr (hw _ (List.mem_of_getElem? (i := 51) rfl))) (Or.inr (hw _ (List.mem_of_getElem? (i := 53) rfl))) (by decide) (t := .long) (t' := (.object "com/example/trapline/trapline/collect/Budget")) (by decide) (by decide)))
  have F_whole_a1_5 := F_whole_a1_4.same W5
  have F_left_a1_5 := F_left_a1_4.other W5 (Or.inr (slot_ne (Or.inl (hw _ (List.mem_of_getElem? (i := 55) rfl))) (Or.inr (hw _ (List.mem_of_getElem? (i := 53) rfl))) (by decide) (t := .long) (t' := (.object "com/example/trapline/trapline/collect/Budget")) (by decide) (by decide)))
  have Z5 : n0 ≤ h5.size := Nat.le_trans Z4 (Keep.of_wr W5).1
  have K5 : Keep h0 h5 [a1] := K4.wr W5 (Or.inl (List.mem_of_getElem? (i := 0) rfl))
  have N5 := Fr.snoc X5 N4 g_a1
  refine own_go st5 ?_
  show OwnFin p e below s _ _ _ (T5.setTop (mkF m 24 #[.val (.ref a1), .val (.ref so), .val (.long qn), .second, .val .null] []))
  refine own_go (fun t_ k_ => XS.aloadN X5.here hx rfl (hb hby d9_24) rfl rfl k_) ?_
  show OwnFin p e below s _ _ _ (T5.setTop (mkF m 25 #[.val (.ref a1), .val (.ref so), .val (.long qn), .second, .val .null] [(.ref a1)]))
  refine own_go (fun t_ k_ => XS.lloadN X5.here hx rfl (hb hby d9_25) rfl k_) ?_
  show OwnFin p e below s _ _ _ (T5.setTop (mkF m 26 #[.val (.ref a1), .val (.ref so), .val (.long qn), .second, .val .null] [(.long qn), (.ref a1)]))
  obtain ⟨T6, h6, X6, e6, W6, st6⟩ := putF X5 hx hZ hown (host := "") (Or.inl (hw _ (List.mem_of_getElem? (i := 54) rfl))) Via.refl e5 F_left_a1_5 E_a1_5 (Or.inl (hw _ (List.mem_of_getElem? (i := 55) rfl))) (hw _ (List.mem_of_getElem? (i := 36) rfl)) (ty := .long) (by decide) rfl rfl (g := (mkF m 26 #[.val (.ref a1), .val (.ref so), .val (.long qn), .second, .val .null] [(.long qn), (.ref a1)])) rfl rfl (hb hby d9_26)
  have E_a1_6 := E_a1_5.wr W6
  have F_computation_a1_6 := F_computation_a1_5.other W6 (Or.inr (slot_ne (Or.inr (hw _ (List.mem_of_getElem? (i := 49) rfl))) (Or.inl (hw _ (List.mem_of_getElem? (i := 55) rfl))) (by decide) (t := (.object "java/lang/String")) (t' := .long) (by decide) (by decide)))
  have F_operations_a1_6 := F_operations_a1_5.other W6 (Or.inr (slot_ne (Or.inr (hw _ (List.mem_of_getElem? (i := 51) rfl))) (Or.inl (hw _ (List.mem_of_getElem? (i := 55) rfl))) (by decide) (t := .long) (t' := .long) (by decide) (by decide)))
  have F_whole_a1_6 := F_whole_a1_5.other W6 (Or.inr (slot_ne (Or.inr (hw _ (List.mem_of_getElem? (i := 53) rfl))) (Or.inl (hw _ (List.mem_of_getElem? (i := 55) rfl))) (by decide) (t := (.object "com/example/trapline/trapline/collect/Budget")) (t' := .long) (by decide) (by decide)))
  have F_left_a1_6 := F_left_a1_5.same W6
  have Z6 : n0 ≤ h6.size := Nat.le_trans Z5 (Keep.of_wr W6).1
  have K6 : Keep h0 h6 [a1] := K5.wr W6 (Or.inl (List.mem_of_getElem? (i := 0) rfl))
  have N6 := Fr.snoc X6 N5 g_a1
  refine own_go st6 ?_
  show OwnFin p e below s _ _ _ (T6.setTop (mkF m 29 #[.val (.ref a1), .val (.ref so), .val (.long qn), .second, .val .null] []))
  refine own_ret X6 (v := none) hlk (fun _ => rfl) (fun fs hr => X6.returnOut hx hret (hb hby d9_29) hr) (by decide) (by decide) ?_
  rw [e6]
  exact ⟨rfl, N6, K6, E_a1_6, F_computation_a1_6, F_operations_a1_6, F_whole_a1_6, F_left_a1_6⟩
theorem ef_9_W (m : MethodId) (a1 : Addr) (so : Addr) (qn : Int64) (wo : Addr) : entryFrame m #[(.ref a1), (.ref so), (.long qn), (.ref wo)] 5 = mkF m 0 #[.val (.ref a1), .val (.ref so), .val (.long qn), .second, .val (.ref wo)] [] := by first | (simp [entryFrame, mkF, argsToLocals, Value.category]; done) | rfl
set_option maxRecDepth 65536 in
set_option maxHeartbeats 40000000 in
theorem rm9_W (l : Launch) (Z : State) (a0 : Array Value) (hw : ∀ d ∈ tables_1, d.before a0 Z = true) (ws : List Jvm.Cond) (a1 : Addr) (so : Addr) (qn : Int64) (wo : Addr) {u_computation : Value} {u_operations : Value} {u_whole : Value} {u_left : Value} (h0 : Heap) (n0 : Nat) (Z0 : n0 ≤ h0.size) (E_a1 : Exa Z h0 a1 "com/example/trapline/trapline/collect/Budget") (g_a1 : n0 ≤ a1) (F_computation_a1 : Fld Z h0 a1 "com/example/trapline/trapline/collect/Budget" "computation" "Ljava/lang/String;" u_computation) (F_operations_a1 : Fld Z h0 a1 "com/example/trapline/trapline/collect/Budget" "operations" "J" u_operations) (F_whole_a1 : Fld Z h0 a1 "com/example/trapline/trapline/collect/Budget" "whole" "Lcom/example/trapline/trapline/collect/Budget;" u_whole) (F_left_a1 : Fld Z h0 a1 "com/example/trapline/trapline/collect/Budget" "left" "J" u_left) (hq : ¬ qn < (0 : Int64)) :
    OwnCtr l Z (⟨"com/example/trapline/trapline/collect/Budget", "<init>", "(Ljava/lang/String;JLcom/example/trapline/trapline/collect/Budget;)V"⟩ : MethodName) ws prog_11_method_2_code 5 none ({ frames := 1, cells := 0, slots := 0, locals := 13 } : Room) #[(.ref a1), (.ref so), (.long qn), (.ref wo)] h0 (fun v h L => v = none ∧ Fr n0 L ∧ Keep h0 h [a1] ∧ Exa Z h a1 "com/example/trapline/trapline/collect/Budget" ∧ Fld Z h a1 "com/example/trapline/trapline/collect/Budget" "computation" "Ljava/lang/String;" (.ref so) ∧ Fld Z h a1 "com/example/trapline/trapline/collect/Budget" "operations" "J" (.long qn) ∧ Fld Z h a1 "com/example/trapline/trapline/collect/Budget" "whole" "Lcom/example/trapline/trapline/collect/Budget;" (.ref wo) ∧ Fld Z h a1 "com/example/trapline/trapline/collect/Budget" "left" "J" (.long qn)) := by
  refine own_body (g0 := fun m => mkF m 0 #[.val (.ref a1), .val (.ref so), .val (.long qn), .second, .val (.ref wo)] []) pn_9 (fun m => ef_9_W m a1 so qn wo) ?_
  intro p e s m below meth c s₁ X0 hx hby hml hown hnm hZ e0 hret hlk
  have hml : c.maxLocals = 5 := hml
  have hown : s.vm.findClass "com/example/trapline/trapline/collect/Budget" = some m.cls := hown
  have hnm : meth.name = "<init>" := hnm
  have hret : meth.sig.returnType = none := hret
  have N0 := Fr.nil n0
  have K0 := Keep.refl h0 [a1]
  show OwnFin p e below s _ _ _ (s₁.setTop (mkF m 0 #[.val (.ref a1), .val (.ref so), .val (.long qn), .second, .val (.ref wo)] []))
  refine own_go (fun t_ k_ => XS.aloadN X0.here hx rfl (hb hby d9_0) rfl rfl k_) ?_
  show OwnFin p e below s _ _ _ (s₁.setTop (mkF m 1 #[.val (.ref a1), .val (.ref so), .val (.long qn), .second, .val (.ref wo)] [(.ref a1)]))
  obtain ⟨T1, X1, e1, st1⟩ := initO X0 hx hZ hown (hw _ (List.mem_of_getElem? (i := 44) rfl)) (hw _ (List.mem_of_getElem? (i := 17) rfl)) (hw _ (List.mem_of_getElem? (i := 18) rfl)) e0 (g := (mkF m 1 #[.val (.ref a1), .val (.ref so), .val (.long qn), .second, .val (.ref wo)] [(.ref a1)])) rfl (by rw [hml]; rfl) rfl (hb hby d9_1) (by decide) (W := 0) (by show 2 * 0 + _ ≤ _; exact Nat.le_of_eq rfl) (by decide)
  refine own_go st1 ?_
  show OwnFin p e below s _ _ _ (T1.setTop (mkF m 4 #[.val (.ref a1), .val (.ref so), .val (.long qn), .second, .val (.ref wo)] []))
  refine own_go (fun t_ k_ => XS.lloadN X1.here hx rfl (hb hby d9_4) rfl k_) ?_
  show OwnFin p e below s _ _ _ (T1.setTop (mkF m 5 #[.val (.ref a1), .val (.ref so), .val (.long qn), .second, .val (.ref wo)] [(.long qn)]))
  obtain ⟨v2, T2, L2, X2, hQ2, st2⟩ := own_callS X1 hx hZ (y := (⟨"com/example/trapline/trapline/collect/Budget", "check", "(J)V"⟩ : MethodName)) hown (hw _ (List.mem_of_getElem? (i := 45) rfl)) (hw _ (List.mem_of_getElem? (i := 46) rfl)) (hw _ (List.mem_of_getElem? (i := 37) rfl)) (hw _ (List.mem_of_getElem? (i := 47) rfl)) (by decide) (W := 0) (rm10 l Z a0 hw [] qn h0 n0 Z0 hq) (by decide) (by decide) (g := (mkF m 5 #[.val (.ref a1), .val (.ref so), .val (.long qn), .second, .val (.ref wo)] [(.long qn)])) rfl (by rw [hml]; rfl) (argsL := [(.long qn)]) (rest := []) (lenOf pd_9_9 rfl) rfl (by show 2 * 0 + _ ≤ _; exact Nat.le_of_eq rfl) (hb hby d9_5) e1 rfl (by decide) (by decide)
  obtain ⟨rfl, Nq2, e2⟩ := hQ2
  have N2 := Fr.app N0 Nq2
  refine own_go st2 ?_
  show OwnFin p e below s _ _ _ (T2.setTop (mkF m 8 #[.val (.ref a1), .val (.ref so), .val (.long qn), .second, .val (.ref wo)] []))
  refine own_go (fun t_ k_ => XS.aloadN X2.here hx rfl (hb hby d9_8) rfl rfl k_) ?_
  show OwnFin p e below s _ _ _ (T2.setTop (mkF m 9 #[.val (.ref a1), .val (.ref so), .val (.long qn), .second, .val (.ref wo)] [(.ref a1)]))
  refine own_go (fun t_ k_ => XS.aloadN X2.here hx rfl (hb hby d9_9) rfl rfl k_) ?_
  show OwnFin p e below s _ _ _ (T2.setTop (mkF m 10 #[.val (.ref a1), .val (.ref so), .val (.long qn), .second, .val (.ref wo)] [(.ref so), (.ref a1)]))
  obtain ⟨T3, h3, X3, e3, W3, st3⟩ := putF X2 hx hZ hown (host := "") (Or.inl (hw _ (List.mem_of_getElem? (i := 48) rfl))) Via.refl e2 F_computation_a1 E_a1 (Or.inr ⟨(hw _ (List.mem_of_getElem? (i := 49) rfl)), rfl, hnm⟩) (hw _ (List.mem_of_getElem? (i := 36) rfl)) (ty := (.object "java/lang/String")) (by decide) rfl rfl (g := (mkF m 10 #[.val (.ref a1), .val (.ref so), .val (.long qn), .second, .val (.ref wo)] [(.ref so), (.ref a1)])) rfl rfl (hb hby d9_10)
  have E_a1_3 := E_a1.wr W3
  have F_computation_a1_3 := F_computation_a1.same W3
  have F_operations_a1_3 := F_operations_a1.other W3 (Or.inr (slot_ne (Or.inr (hw _ (List.mem_of_getElem? (i := 51) rfl))) (Or.inr (hw _ (List.mem_of_getElem? (i := 49) rfl))) (by decide) (t := .long) (t' := (.object "java/lang/String")) (by decide) (by decide)))
  have F_whole_a1_3 := F_whole_a1.other W3 (Or.inr (slot_ne (Or.inr (hw _ (List.mem_of_getElem? (i := 53) rfl))) (Or.inr (hw _ (List.mem_of_getElem? (i := 49) rfl))) (by decide) (t := (.object "com/example/trapline/trapline/collect/Budget")) (t' := (.object "java/lang/String")) (by decide) (by decide)))
  have F_left_a1_3 := F_left_a1.other W3 (Or.inr (slot_ne (Or.inl (hw _ (List.mem_of_getElem? (i := 55) rfl))) (Or.inr (hw _ (List.mem_of_getElem? (i := 49) rfl))) (by decide) (t := .long) (t' := (.object "java/lang/String")) (by decide) (by decide)))
  have Z3 : n0 ≤ h3.size := Nat.le_trans Z0 (Keep.of_wr W3).1
  have K3 : Keep h0 h3 [a1] := K0.wr W3 (Or.inl (List.mem_of_getElem? (i := 0) rfl))
  have N3 := Fr.snoc X3 N2 g_a1
  refine own_go st3 ?_
  show OwnFin p e below s _ _ _ (T3.setTop (mkF m 13 #[.val (.ref a1), .val (.ref so), .val (.long qn), .second, .val (.ref wo)] []))
  refine own_go (fun t_ k_ => XS.aloadN X3.here hx rfl (hb hby d9_13) rfl rfl k_) ?_
  show OwnFin p e below s _ _ _ (T3.setTop (mkF m 14 #[.val (.ref a1), .val (.ref so), .val (.long qn), .second, .val (.ref wo)] [(.ref a1)]))
  refine own_go (fun t_ k_ => XS.lloadN X3.here hx rfl (hb hby d9_14) rfl k_) ?_
  show OwnFin p e below s _ _ _ (T3.setTop (mkF m 15 #[.val (.ref a1), .val (.ref so), .val (.long qn), .second, .val (.ref wo)] [(.long qn), (.ref a1)]))
  obtain ⟨T4, h4, X4, e4, W4, st4⟩ := putF X3 hx hZ hown (host := "") (Or.inl (hw _ (List.mem_of_getElem? (i := 50) rfl))) Via.refl e3 F_operations_a1_3 E_a1_3 (Or.inr ⟨(hw _ (List.mem_of_getElem? (i := 51) rfl)), rfl, hnm⟩) (hw _ (List.mem_of_getElem? (i := 36) rfl)) (ty := .long) (by decide) rfl rfl (g := (mkF m 15 #[.val (.ref a1), .val (.ref so), .val (.long qn), .second, .val (.ref wo)] [(.long qn), (.ref a1)])) rfl rfl (hb hby d9_15)
  have E_a1_4 := E_a1_3.wr W4
  have F_computation_a1_4 := F_computation_a1_3.other W4 (Or.inr (slot_ne (Or.inr (hw _ (List.mem_of_getElem? (i := 49) rfl))) (Or.inr (hw _ (List.mem_of_getElem? (i := 51) rfl))) (by decide) (t := (.object "java/lang/String")) (t' := .long) (by decide) (by decide)))
  have F_operations_a1_4 := F_operations_a1_3.same W4
  have F_whole_a1_4 := F_whole_a1_3.other W4 (Or.inr (slot_ne (Or.inr (hw _ (List.mem_of_getElem? (i := 53) rfl))) (Or.inr (hw _ (List.mem_of_getElem? (i := 51) rfl))) (by decide) (t := (.object "com/example/trapline/trapline/collect/Budget")) (t' := .long) (by decide) (by decide)))
  have F_left_a1_4 := F_left_a1_3.other W4 (Or.inr (slot_ne (Or.inl (hw _ (List.mem_of_getElem? (i := 55) rfl))) (Or.inr (hw _ (List.mem_of_getElem? (i := 51) rfl))) (by decide) (t := .long) (t' := .long) (by decide) (by decide)))
  have Z4 : n0 ≤ h4.size := Nat.le_trans Z3 (Keep.of_wr W4).1
  have K4 : Keep h0 h4 [a1] := K3.wr W4 (Or.inl (List.mem_of_getElem? (i := 0) rfl))
  have N4 := Fr.snoc X4 N3 g_a1
  refine own_go st4 ?_
  show OwnFin p e below s _ _ _ (T4.setTop (mkF m 18 #[.val (.ref a1), .val (.ref so), .val (.long qn), .second, .val (.ref wo)] []))
  refine own_go (fun t_ k_ => XS.aloadN X4.here hx rfl (hb hby d9_18) rfl rfl k_) ?_
  show OwnFin p e below s _ _ _ (T4.setTop (mkF m 19 #[.val (.ref a1), .val (.ref so), .val (.long qn), .second, .val (.ref wo)] [(.ref a1)]))
  refine own_go (fun t_ k_ => XS.aload X4.here hx rfl (hb hby d9_19) rfl rfl k_) ?_
  show OwnFin p e below s _ _ _ (T4.setTop (mkF m 21 #[.val (.ref a1), .val (.ref so), .val (.long qn), .second, .val (.ref wo)] [(.ref wo), (.ref a1)]))
  obtain ⟨T5, h5, X5, e5, W5, st5⟩ := putF X4 hx hZ hown (host := "") (Or.inl (hw _ (List.mem_of_getElem? (i := 52) rfl))) Via.refl e4 F_whole_a1_4 E_a1_4 (Or.inr ⟨(hw _ (List.mem_of_getElem? (i := 53) rfl)), rfl, hnm⟩) (hw _ (List.mem_of_getElem? (i := 36) rfl)) (ty := (.object "com/example/trapline/trapline/collect/Budget")) (by decide) rfl rfl (g := (mkF m 21 #[.val (.ref a1), .val (.ref so), .val (.long qn), .second, .val (.ref wo)] [(.ref wo), (.ref a1)])) rfl rfl (hb hby d9_21)
  have E_a1_5 := E_a1_4.wr W5
  have F_computation_a1_5 := F_computation_a1_4.other W5 (Or.inr (slot_ne (Or.inr (hw _ (List.mem_of_getElem? (i := 49) rfl))) (Or.inr (hw _ (List.mem_of_getElem? (i := 53) rfl))) (by decide) (t := (.object "java/lang/String")) (t' := (.object "com/example/trapline/trapline/collect/Budget")) (by decide) (by decide)))
  have F_operations_a1_5 := F_operations_a1_4.other W5 (Or.inr (slot_ne (Or.inr (hw _ (List.mem_of_getElem? (i := 51) rfl))) (Or.inr (hw _ (List.mem_of_getElem? (i := 53) rfl))) (by decide) (t := .long) (t' := (.object "com/example/trapline/trapline/collect/Budget")) (by decide) (by decide)))
  have F_whole_a1_5 := F_whole_a1_4.same W5
  have F_left_a1_5 := F_left_a1_4.other W5 (Or.inr (slot_ne (Or.inl (hw _ (List.mem_of_getElem? (i := 55) rfl))) (Or.inr (hw _ (List.mem_of_getElem? (i := 53) rfl))) (by decide) (t := .long) (t' := (.object "com/example/trapline/trapline/collect/Budget")) (by decide) (by decide)))
  have Z5 : n0 ≤ h5.size := Nat.le_trans Z4 (Keep.of_wr W5).1
  have K5 : Keep h0 h5 [a1] := K4.wr W5 (Or.inl (List.mem_of_getElem? (i := 0) rfl))
  have N5 := Fr.snoc X5 N4 g_a1
  refine own_go st5 ?_
  show OwnFin p e below s _ _ _ (T5.setTop (mkF m 24 #[.val (.ref a1), .val (.ref so), .val (.long qn), .second, .val (.ref wo)] []))
  refine own_go (fun t_ k_ => XS.aloadN X5.here hx rfl (hb hby d9_24) rfl rfl k_) ?_
  show OwnFin p e below s _ _ _ (T5.setTop (mkF m 25 #[.val (.ref a1), .val (.ref so), .val (.long qn), .second, .val (.ref wo)] [(.ref a1)]))
  refine own_go (fun t_ k_ => XS.lloadN X5.here hx rfl (hb hby d9_25) rfl k_) ?_
  show OwnFin p e below s _ _ _ (T5.setTop (mkF m 26 #[.val (.ref a1), .val (.ref so), .val (.long qn), .second, .val (.ref wo)] [(.long qn), (.ref a1)]))
  obtain ⟨T6, h6, X6, e6, W6, st6⟩ := putF X5 hx hZ hown (host := "") (Or.inl (hw _ (List.mem_of_getElem? (i := 54) rfl))) Via.refl e5 F_left_a1_5 E_a1_5 (Or.inl (hw _ (List.mem_of_getElem? (i := 55) rfl))) (hw _ (List.mem_of_getElem? (i := 36) rfl)) (ty := .long) (by decide) rfl rfl (g := (mkF m 26 #[.val (.ref a1), .val (.ref so), .val (.long qn), .second, .val (.ref wo)] [(.long qn), (.ref a1)])) rfl rfl (hb hby d9_26)
  have E_a1_6 := E_a1_5.wr W6
  have F_computation_a1_6 := F_computation_a1_5.other W6 (Or.inr (slot_ne (Or.inr (hw _ (List.mem_of_getElem? (i := 49) rfl))) (Or.inl (hw _ (List.mem_of_getElem? (i := 55) rfl))) (by decide) (t := (.object "java/lang/String")) (t' := .long) (by decide) (by decide)))
  have F_operations_a1_6 := F_operations_a1_5.other W6 (Or.inr (slot_ne (Or.inr (hw _ (List.mem_of_getElem? (i := 51) rfl))) (Or.inl (hw _ (List.mem_of_getElem? (i := 55) rfl))) (by decide) (t := .long) (t' := .long) (by decide) (by decide)))
  have F_whole_a1_6 := F_whole_a1_5.other W6 (Or.inr (slot_ne (Or.inr (hw _ (List.mem_of_getElem? (i := 53) rfl))) (Or.inl (hw _ (List.mem_of_getElem? (i := 55) rfl))) (by decide) (t := (.object "com/example/trapline/trapline/collect/Budget")) (t' := .long) (by decide) (by decide)))
  have F_left_a1_6 := F_left_a1_5.same W6
  have Z6 : n0 ≤ h6.size := Nat.le_trans Z5 (Keep.of_wr W6).1
  have K6 : Keep h0 h6 [a1] := K5.wr W6 (Or.inl (List.mem_of_getElem? (i := 0) rfl))
  have N6 := Fr.snoc X6 N5 g_a1
  refine own_go st6 ?_
  show OwnFin p e below s _ _ _ (T6.setTop (mkF m 29 #[.val (.ref a1), .val (.ref so), .val (.long qn), .second, .val (.ref wo)] []))
  refine own_ret X6 (v := none) hlk (fun _ => rfl) (fun fs hr => X6.returnOut hx hret (hb hby d9_29) hr) (by decide) (by decide) ?_
  rw [e6]
  exact ⟨rfl, N6, K6, E_a1_6, F_computation_a1_6, F_operations_a1_6, F_whole_a1_6, F_left_a1_6⟩
theorem d8_0 : decode prog_11_method_1_code 0 = .ok (.aload_n 0, 1) := by decide +kernel
theorem d8_1 : decode prog_11_method_1_code 1 = .ok (.aload_n 1, 1) := by decide +kernel
theorem d8_2 : decode prog_11_method_1_code 2 = .ok (.lload_n 2, 1) := by decide +kernel
theorem d8_3 : decode prog_11_method_1_code 3 = .ok (.aconst_null, 1) := by decide +kernel
theorem d8_4 : decode prog_11_method_1_code 4 = .ok (.invokespecial 3, 3) := by decide +kernel
theorem d8_7 : decode prog_11_method_1_code 7 = .ok (.return_, 1) := by decide +kernel
theorem pn_8 : plainFor (⟨"com/example/trapline/trapline/collect/Budget", "<init>", "(Ljava/lang/String;J)V"⟩ : MethodName) = true := plainFor_of_name (by first | (simp [plainName, overriddenIn]; done) | decide +kernel)
theorem pd_8_8 : parseMethodDescriptor "(Ljava/lang/String;JLcom/example/trapline/trapline/collect/Budget;)V" = some ⟨[(.object "java/lang/String"), .long, (.object "com/example/trapline/trapline/collect/Budget")], none⟩ := by decide +kernel
theorem ef_8 (m : MethodId) (a1 : Addr) (so : Addr) (qn : Int64) : entryFrame m #[(.ref a1), (.ref so), (.long qn)] 4 = mkF m 0 #[.val (.ref a1), .val (.ref so), .val (.long qn), .second] [] := by first | (simp [entryFrame, mkF, argsToLocals, Value.category]; done) | rfl
set_option maxRecDepth 65536 in
set_option maxHeartbeats 40000000 in
theorem rm8 (l : Launch) (Z : State) (a0 : Array Value) (hw : ∀ d ∈ tables_1, d.before a0 Z = true) (ws : List Jvm.Cond) (a1 : Addr) (so : Addr) (qn : Int64) {u_computation : Value} {u_operations : Value} {u_whole : Value} {u_left : Value} (h0 : Heap) (n0 : Nat) (Z0 : n0 ≤ h0.size) (E_a1 : Exa Z h0 a1 "com/example/trapline/trapline/collect/Budget") (g_a1 : n0 ≤ a1) (F_computation_a1 : Fld Z h0 a1 "com/example/trapline/trapline/collect/Budget" "computation" "Ljava/lang/String;" u_computation) (F_operations_a1 : Fld Z h0 a1 "com/example/trapline/trapline/collect/Budget" "operations" "J" u_operations) (F_whole_a1 : Fld Z h0 a1 "com/example/trapline/trapline/collect/Budget" "whole" "Lcom/example/trapline/trapline/collect/Budget;" u_whole) (F_left_a1 : Fld Z h0 a1 "com/example/trapline/trapline/collect/Budget" "left" "J" u_left) (hq : ¬ qn < (0 : Int64)) :
    OwnCtr l Z (⟨"com/example/trapline/trapline/collect/Budget", "<init>", "(Ljava/lang/String;J)V"⟩ : MethodName) ws prog_11_method_1_code 4 none ({ frames := 2, cells := 0, slots := 0, locals := 29 } : Room) #[(.ref a1), (.ref so), (.long qn)] h0 (fun v h L => v = none ∧ Fr n0 L ∧ Keep h0 h [a1] ∧ Exa Z h a1 "com/example/trapline/trapline/collect/Budget" ∧ Fld Z h a1 "com/example/trapline/trapline/collect/Budget" "computation" "Ljava/lang/String;" (.ref so) ∧ Fld Z h a1 "com/example/trapline/trapline/collect/Budget" "operations" "J" (.long qn) ∧ Fld Z h a1 "com/example/trapline/trapline/collect/Budget" "whole" "Lcom/example/trapline/trapline/collect/Budget;" .null ∧ Fld Z h a1 "com/example/trapline/trapline/collect/Budget" "left" "J" (.long qn)) := by
  refine own_body (g0 := fun m => mkF m 0 #[.val (.ref a1), .val (.ref so), .val (.long qn), .second] []) pn_8 (fun m => ef_8 m a1 so qn) ?_
  intro p e s m below meth c s₁ X0 hx hby hml hown hnm hZ e0 hret hlk
  have hml : c.maxLocals = 4 := hml
  have hown : s.vm.findClass "com/example/trapline/trapline/collect/Budget" = some m.cls := hown
  have hnm : meth.name = "<init>" := hnm
  have hret : meth.sig.returnType = none := hret
  have N0 := Fr.nil n0
  have K0 := Keep.refl h0 [a1]
  show OwnFin p e below s _ _ _ (s₁.setTop (mkF m 0 #[.val (.ref a1), .val (.ref so), .val (.long qn), .second] []))
  refine own_go (fun t_ k_ => XS.aloadN X0.here hx rfl (hb hby d8_0) rfl rfl k_) ?_
  show OwnFin p e below s _ _ _ (s₁.setTop (mkF m 1 #[.val (.ref a1), .val (.ref so), .val (.long qn), .second] [(.ref a1)]))
  refine own_go (fun t_ k_ => XS.aloadN X0.here hx rfl (hb hby d8_1) rfl rfl k_) ?_
  show OwnFin p e below s _ _ _ (s₁.setTop (mkF m 2 #[.val (.ref a1), .val (.ref so), .val (.long qn), .second] [(.ref so), (.ref a1)]))
  refine own_go (fun t_ k_ => XS.lloadN X0.here hx rfl (hb hby d8_2) rfl k_) ?_
  show OwnFin p e below s _ _ _ (s₁.setTop (mkF m 3 #[.val (.ref a1), .val (.ref so), .val (.long qn), .second] [(.long qn), (.ref so), (.ref a1)]))
  refine own_go (fun t_ k_ => XS.aconstNull X0.here hx rfl (hb hby d8_3) k_) ?_
  show OwnFin p e below s _ _ _ (s₁.setTop (mkF m 4 #[.val (.ref a1), .val (.ref so), .val (.long qn), .second] [.null, (.long qn), (.ref so), (.ref a1)]))
  obtain ⟨v1, T1, L1, X1, hQ1, st1⟩ := own_callI X0 hx hZ (y := (⟨"com/example/trapline/trapline/collect/Budget", "<init>", "(Ljava/lang/String;JLcom/example/trapline/trapline/collect/Budget;)V"⟩ : MethodName)) rfl hown (hw _ (List.mem_of_getElem? (i := 41) rfl)) (hw _ (List.mem_of_getElem? (i := 42) rfl)) (hw _ (List.mem_of_getElem? (i := 37) rfl)) (hw _ (List.mem_of_getElem? (i := 43) rfl)) (by decide) (W := 0) (rm9_N l Z a0 hw [] a1 so qn h0 n0 Z0 E_a1 g_a1 F_computation_a1 F_operations_a1 F_whole_a1 F_left_a1 hq) (by decide) (by decide) (g := (mkF m 4 #[.val (.ref a1), .val (.ref so), .val (.long qn), .second] [.null, (.long qn), (.ref so), (.ref a1)])) rfl (by rw [hml]; rfl) (a := a1) (argsL := [(.ref so), (.long qn), .null]) (rest := []) (lenOf pd_8_8 rfl) rfl (by show 2 * 0 + _ ≤ _; exact Nat.le_of_eq rfl) (hb hby d8_4) e0 rfl (by decide) (by decide)
  obtain ⟨rfl, Nq1, Kq1, Eq1, Fq1_0, Fq1_1, Fq1_2, Fq1_3⟩ := hQ1
  have N1 := Fr.app N0 Nq1
  have E_a1_1 := E_a1.keep Kq1
  have Z1 : n0 ≤ T1.heap.size := Nat.le_trans Z0 Kq1.1
  have K1 : Keep h0 T1.heap [a1] := K0.trans Kq1 (allS (Or.inl (List.mem_of_getElem? (i := 0) rfl)) all0)
  refine own_go st1 ?_
  show OwnFin p e below s _ _ _ (T1.setTop (mkF m 7 #[.val (.ref a1), .val (.ref so), .val (.long qn), .second] []))
  refine own_ret X1 (v := none) hlk (fun _ => rfl) (fun fs hr => X1.returnOut hx hret (hb hby d8_7) hr) (by decide) (by decide) ?_
  exact ⟨rfl, N1, K1, Eq1, Fq1_0, Fq1_1, Fq1_2, Fq1_3⟩
theorem d11_0 : decode prog_11_method_5_code 0 = .ok (.aload_n 0, 1) := by decide +kernel
theorem d11_1 : decode prog_11_method_5_code 1 = .ok (.getfield 30, 3) := by decide +kernel
theorem d11_4 : decode prog_11_method_5_code 4 = .ok (.lconst 0, 1) := by decide +kernel
theorem d11_5 : decode prog_11_method_5_code 5 = .ok (.lcmp, 1) := by decide +kernel
theorem d11_6 : decode prog_11_method_5_code 6 = .ok (.ifCond .ge 7, 3) := by decide +kernel
theorem d11_13 : decode prog_11_method_5_code 13 = .ok (.iconst 0, 1) := by decide +kernel
theorem d11_14 : decode prog_11_method_5_code 14 = .ok (.ireturn, 1) := by decide +kernel
theorem pn_11 : plainFor (⟨"com/example/trapline/trapline/collect/Budget", "isSpent", "()Z"⟩ : MethodName) = true := plainFor_of_name (by first | (simp [plainName, overriddenIn]; done) | decide +kernel)
theorem ef_11 (m : MethodId) (a1 : Addr) : entryFrame m #[(.ref a1)] 1 = mkF m 0 #[.val (.ref a1)] [] := by first | (simp [entryFrame, mkF, argsToLocals, Value.category]; done) | rfl
set_option maxRecDepth 65536 in
set_option maxHeartbeats 40000000 in
theorem rm11 (l : Launch) (Z : State) (a0 : Array Value) (hw : ∀ d ∈ tables_1, d.before a0 Z = true) (ws : List Jvm.Cond) (a1 : Addr) {u : Int64} (h0 : Heap) (n0 : Nat) (Z0 : n0 ≤ h0.size) (F_left : Fld Z h0 a1 "com/example/trapline/trapline/collect/Budget" "left" "J" (.long u)) (hu : ¬ u < (0 : Int64)) :
    OwnCtr l Z (⟨"com/example/trapline/trapline/collect/Budget", "isSpent", "()Z"⟩ : MethodName) ws prog_11_method_5_code 1 (some .boolean) ({ frames := 0, cells := 0, slots := 0, locals := 0 } : Room) #[(.ref a1)] h0 (fun v h L => v = some (.int 0) ∧ Fr n0 L ∧ h = h0) := by
  refine own_body (g0 := fun m => mkF m 0 #[.val (.ref a1)] []) pn_11 (fun m => ef_11 m a1) ?_
  intro p e s m below meth c s₁ X0 hx hby hml hown hnm hZ e0 hret hlk
  have hml : c.maxLocals = 1 := hml
  have hown : s.vm.findClass "com/example/trapline/trapline/collect/Budget" = some m.cls := hown
  have hnm : meth.name = "isSpent" := hnm
  have hret : meth.sig.returnType = (some .boolean) := hret
  have N0 := Fr.nil n0
  show OwnFin p e below s _ _ _ (s₁.setTop (mkF m 0 #[.val (.ref a1)] []))
  refine own_go (fun t_ k_ => XS.aloadN X0.here hx rfl (hb hby d11_0) rfl rfl k_) ?_
  show OwnFin p e below s _ _ _ (s₁.setTop (mkF m 1 #[.val (.ref a1)] [(.ref a1)]))
  obtain ⟨T1, X1, e1, st1⟩ := getF X0 hx hZ hown (host := "") (Or.inl (hw _ (List.mem_of_getElem? (i := 54) rfl))) Via.refl e0 F_left (g := (mkF m 1 #[.val (.ref a1)] [(.ref a1)])) rfl rfl (hb hby d11_1)
  refine own_go st1 ?_
  show OwnFin p e below s _ _ _ (T1.setTop (mkF m 4 #[.val (.ref a1)] [(.long u)]))
  refine own_go (fun t_ k_ => XS.lconst X1.here hx rfl (hb hby d11_4) k_) ?_
  show OwnFin p e below s _ _ _ (T1.setTop (mkF m 5 #[.val (.ref a1)] [(.long (0 : Int64)), (.long u)]))
  refine own_go (fun t_ k_ => XS.lcmp X1.here hx rfl (hb hby d11_5) rfl k_) ?_
  show OwnFin p e below s _ _ _ (T1.setTop (mkF m 6 #[.val (.ref a1)] [(.int (lcmpW u (0 : Int64)))]))
  have hc6 : ¬ (u < (0 : Int64)) := hu
  refine own_go (fun t_ k_ => XS.ifYes X1.here hx rfl (pc0 := 6) (pc' := 13) rfl (hb hby d11_6) rfl ((if0 _ _).trans (flt (mt (lw_lt u (0 : Int64)).mp hc6)).2.1) (by decide) (by decide) k_) ?_
  show OwnFin p e below s _ _ _ (T1.setTop (mkF m 13 #[.val (.ref a1)] []))
  refine own_go (fun t_ k_ => XS.iconst X1.here hx rfl (hb hby d11_13) k_) ?_
  show OwnFin p e below s _ _ _ (T1.setTop (mkF m 14 #[.val (.ref a1)] [(.int (0 : Int32))]))
  refine own_ret X1 (v := some (.int (0 : Int32))) hlk (fun hh => by rw [hret] at hh; cases hh) (fun fs hr => retN X1 hx (t := .boolean) hret (by simp) (hb hby d11_14) hr) (by decide) (by decide) ?_
  rw [e1]
  exact ⟨rfl, N0, rfl⟩
theorem d12_0 : decode prog_11_method_6_code 0 = .ok (.aload_n 0, 1) := by decide +kernel
theorem d12_1 : decode prog_11_method_6_code 1 = .ok (.getfield 26, 3) := by decide +kernel
theorem d12_4 : decode prog_11_method_6_code 4 = .ok (.ifnull 11, 3) := by decide +kernel
theorem d12_7 : decode prog_11_method_6_code 7 = .ok (.aload_n 0, 1) := by decide +kernel
theorem d12_8 : decode prog_11_method_6_code 8 = .ok (.getfield 26, 3) := by decide +kernel
theorem d12_11 : decode prog_11_method_6_code 11 = .ok (.lload_n 1, 1) := by decide +kernel
theorem d12_12 : decode prog_11_method_6_code 12 = .ok (.invokevirtual 42, 3) := by decide +kernel
theorem d12_15 : decode prog_11_method_6_code 15 = .ok (.aload_n 0, 1) := by decide +kernel
theorem d12_16 : decode prog_11_method_6_code 16 = .ok (.dup, 1) := by decide +kernel
theorem d12_17 : decode prog_11_method_6_code 17 = .ok (.getfield 30, 3) := by decide +kernel
theorem d12_20 : decode prog_11_method_6_code 20 = .ok (.lload_n 1, 1) := by decide +kernel
theorem d12_21 : decode prog_11_method_6_code 21 = .ok (.lsub, 1) := by decide +kernel
theorem d12_22 : decode prog_11_method_6_code 22 = .ok (.putfield 30, 3) := by decide +kernel
theorem d12_25 : decode prog_11_method_6_code 25 = .ok (.aload_n 0, 1) := by decide +kernel
theorem d12_26 : decode prog_11_method_6_code 26 = .ok (.getfield 30, 3) := by decide +kernel
theorem d12_29 : decode prog_11_method_6_code 29 = .ok (.lconst 0, 1) := by decide +kernel
theorem d12_30 : decode prog_11_method_6_code 30 = .ok (.lcmp, 1) := by decide +kernel
theorem d12_31 : decode prog_11_method_6_code 31 = .ok (.ifCond .ge 19, 3) := by decide +kernel
theorem d12_34 : decode prog_11_method_6_code 34 = .ok (.new 45, 3) := by decide +kernel
theorem d12_37 : decode prog_11_method_6_code 37 = .ok (.dup, 1) := by decide +kernel
theorem d12_38 : decode prog_11_method_6_code 38 = .ok (.aload_n 0, 1) := by decide +kernel
theorem d12_39 : decode prog_11_method_6_code 39 = .ok (.getfield 18, 3) := by decide +kernel
theorem d12_42 : decode prog_11_method_6_code 42 = .ok (.aload_n 0, 1) := by decide +kernel
theorem d12_43 : decode prog_11_method_6_code 43 = .ok (.getfield 22, 3) := by decide +kernel
theorem d12_46 : decode prog_11_method_6_code 46 = .ok (.invokespecial 47, 3) := by decide +kernel
theorem d12_49 : decode prog_11_method_6_code 49 = .ok (.athrow, 1) := by decide +kernel
theorem d12_50 : decode prog_11_method_6_code 50 = .ok (.return_, 1) := by decide +kernel
theorem pn_12 : plainFor (⟨"com/example/trapline/trapline/collect/Budget", "spend", "(J)V"⟩ : MethodName) = true := plainFor_of_name (by first | (simp [plainName, overriddenIn]; done) | decide +kernel)
theorem pd_12_9 : parseMethodDescriptor "(J)V" = some ⟨[.long], none⟩ := by decide +kernel
theorem ef_12 (m : MethodId) (a1 : Addr) (q2 : Int64) : entryFrame m #[(.ref a1), (.long q2)] 3 = mkF m 0 #[.val (.ref a1), .val (.long q2), .second] [] := by first | (simp [entryFrame, mkF, argsToLocals, Value.category]; done) | rfl
theorem ef_12_N (m : MethodId) (a1 : Addr) (qq : Int64) : entryFrame m #[(.ref a1), (.long qq)] 3 = mkF m 0 #[.val (.ref a1), .val (.long qq), .second] [] := by first | (simp [entryFrame, mkF, argsToLocals, Value.category]; done) | rfl
set_option maxRecDepth 65536 in
set_option maxHeartbeats 40000000 in
theorem rm12_N (l : Launch) (Z : State) (a0 : Array Value) (hw : ∀ d ∈ tables_1, d.before a0 Z = true) (ws : List Jvm.Cond) (a1 : Addr) (qq : Int64) {u : Int64} (h0 : Heap) (n0 : Nat) (Z0 : n0 ≤ h0.size) (E_a1 : Exa Z h0 a1 "com/example/trapline/trapline/collect/Budget") (g_a1 : n0 ≤ a1) (F_whole : Fld Z h0 a1 "com/example/trapline/trapline/collect/Budget" "whole" "Lcom/example/trapline/trapline/collect/Budget;" .null) (F_left : Fld Z h0 a1 "com/example/trapline/trapline/collect/Budget" "left" "J" (.long u)) (hu : ¬ (u - qq) < (0 : Int64)) :
    OwnCtr l Z (⟨"com/example/trapline/trapline/collect/Budget", "spend", "(J)V"⟩ : MethodName) ws prog_11_method_6_code 3 none ({ frames := 0, cells := 0, slots := 0, locals := 0 } : Room) #[(.ref a1), (.long qq)] h0 (fun v h L => v = none ∧ Fr n0 L ∧ Keep h0 h [a1] ∧ Fld Z h a1 "com/example/trapline/trapline/collect/Budget" "whole" "Lcom/example/trapline/trapline/collect/Budget;" .null ∧ Fld Z h a1 "com/example/trapline/trapline/collect/Budget" "left" "J" (.long (u - qq))) := by
  refine own_body (g0 := fun m => mkF m 0 #[.val (.ref a1), .val (.long qq), .second] []) pn_12 (fun m => ef_12_N m a1 qq) ?_
  intro p e s m below meth c s₁ X0 hx hby hml hown hnm hZ e0 hret hlk
  have hml : c.maxLocals = 3 := hml
  have hown : s.vm.findClass "com/example/trapline/trapline/collect/Budget" = some m.cls := hown
  have hnm : meth.name = "spend" := hnm
  have hret : meth.sig.returnType = none := hret
  have N0 := Fr.nil n0
  have K0 := Keep.refl h0 [a1]
  show OwnFin p e below s _ _ _ (s₁.setTop (mkF m 0 #[.val (.ref a1), .val (.long qq), .second] []))
  refine own_go (fun t_ k_ => XS.aloadN X0.here hx rfl (hb hby d12_0) rfl rfl k_) ?_
  show OwnFin p e below s _ _ _ (s₁.setTop (mkF m 1 #[.val (.ref a1), .val (.long qq), .second] [(.ref a1)]))
  obtain ⟨T1, X1, e1, st1⟩ := getF X0 hx hZ hown (host := "") (Or.inl (hw _ (List.mem_of_getElem? (i := 52) rfl))) Via.refl e0 F_whole (g := (mkF m 1 #[.val (.ref a1), .val (.long qq), .second] [(.ref a1)])) rfl rfl (hb hby d12_1)
  refine own_go st1 ?_
  show OwnFin p e below s _ _ _ (T1.setTop (mkF m 4 #[.val (.ref a1), .val (.long qq), .second] [.null]))
  refine own_go (fun t_ k_ => XS.ifnullYes X1.here hx rfl (pc0 := 4) (pc' := 15) rfl (hb hby d12_4) rfl (by decide) (by decide) k_) ?_
  show OwnFin p e below s _ _ _ (T1.setTop (mkF m 15 #[.val (.ref a1), .val (.long qq), .second] []))
  refine own_go (fun t_ k_ => XS.aloadN X1.here hx rfl (hb hby d12_15) rfl rfl k_) ?_
  show OwnFin p e below s _ _ _ (T1.setTop (mkF m 16 #[.val (.ref a1), .val (.long qq), .second] [(.ref a1)]))
  refine own_go (fun t_ k_ => XS.dup X1.here hx rfl (hb hby d12_16) rfl rfl k_) ?_
  show OwnFin p e below s _ _ _ (T1.setTop (mkF m 17 #[.val (.ref a1), .val (.long qq), .second] [(.ref a1), (.ref a1)]))
  obtain ⟨T2, X2, e2, st2⟩ := getF X1 hx hZ hown (host := "") (Or.inl (hw _ (List.mem_of_getElem? (i := 54) rfl))) Via.refl e1 F_left (g := (mkF m 17 #[.val (.ref a1), .val (.long qq), .second] [(.ref a1), (.ref a1)])) rfl rfl (hb hby d12_17)
  refine own_go st2 ?_
  show OwnFin p e below s _ _ _ (T2.setTop (mkF m 20 #[.val (.ref a1), .val (.long qq), .second] [(.long u), (.ref a1)]))
  refine own_go (fun t_ k_ => XS.lloadN X2.here hx rfl (hb hby d12_20) rfl k_) ?_
  show OwnFin p e below s _ _ _ (T2.setTop (mkF m 21 #[.val (.ref a1), .val (.long qq), .second] [(.long qq), (.long u), (.ref a1)]))
  refine own_go (fun t_ k_ => XS.lsub X2.here hx rfl (hb hby d12_21) rfl k_) ?_
  show OwnFin p e below s _ _ _ (T2.setTop (mkF m 22 #[.val (.ref a1), .val (.long qq), .second] [(.long (u - qq)), (.ref a1)]))
  obtain ⟨T3, h3, X3, e3, W3, st3⟩ := putF X2 hx hZ hown (host := "") (Or.inl (hw _ (List.mem_of_getElem? (i := 54) rfl))) Via.refl e2 F_left E_a1 (Or.inl (hw _ (List.mem_of_getElem? (i := 55) rfl))) (hw _ (List.mem_of_getElem? (i := 36) rfl)) (ty := .long) (by decide) rfl rfl (g := (mkF m 22 #[.val (.ref a1), .val (.long qq), .second] [(.long (u - qq)), (.ref a1)])) rfl rfl (hb hby d12_22)
  have E_a1_3 := E_a1.wr W3
  have F_whole_3 := F_whole.other W3 (Or.inr (slot_ne (Or.inr (hw _ (List.mem_of_getElem? (i := 53) rfl))) (Or.inl (hw _ (List.mem_of_getElem? (i := 55) rfl))) (by decide) (t := (.object "com/example/trapline/trapline/collect/Budget")) (t' := .long) (by decide) (by decide)))
  have F_left_3 := F_left.same W3
  have Z3 : n0 ≤ h3.size := Nat.le_trans Z0 (Keep.of_wr W3).1
  have K3 : Keep h0 h3 [a1] := K0.wr W3 (Or.inl (List.mem_of_getElem? (i := 0) rfl))
  have N3 := Fr.snoc X3 N0 g_a1
  refine own_go st3 ?_
  show OwnFin p e below s _ _ _ (T3.setTop (mkF m 25 #[.val (.ref a1), .val (.long qq), .second] []))
  refine own_go (fun t_ k_ => XS.aloadN X3.here hx rfl (hb hby d12_25) rfl rfl k_) ?_
  show OwnFin p e below s _ _ _ (T3.setTop (mkF m 26 #[.val (.ref a1), .val (.long qq), .second] [(.ref a1)]))
  obtain ⟨T4, X4, e4, st4⟩ := getF X3 hx hZ hown (host := "") (Or.inl (hw _ (List.mem_of_getElem? (i := 54) rfl))) Via.refl e3 F_left_3 (g := (mkF m 26 #[.val (.ref a1), .val (.long qq), .second] [(.ref a1)])) rfl rfl (hb hby d12_26)
  refine own_go st4 ?_
  show OwnFin p e below s _ _ _ (T4.setTop (mkF m 29 #[.val (.ref a1), .val (.long qq), .second] [(.long (u - qq))]))
  refine own_go (fun t_ k_ => XS.lconst X4.here hx rfl (hb hby d12_29) k_) ?_
  show OwnFin p e below s _ _ _ (T4.setTop (mkF m 30 #[.val (.ref a1), .val (.long qq), .second] [(.long (0 : Int64)), (.long (u - qq))]))
  refine own_go (fun t_ k_ => XS.lcmp X4.here hx rfl (hb hby d12_30) rfl k_) ?_
  show OwnFin p e below s _ _ _ (T4.setTop (mkF m 31 #[.val (.ref a1), .val (.long qq), .second] [(.int (lcmpW (u - qq) (0 : Int64)))]))
  have hc31 : ¬ ((u - qq) < (0 : Int64)) := hu
  refine own_go (fun t_ k_ => XS.ifYes X4.here hx rfl (pc0 := 31) (pc' := 50) rfl (hb hby d12_31) rfl ((if0 _ _).trans (flt (mt (lw_lt (u - qq) (0 : Int64)).mp hc31)).2.1) (by decide) (by decide) k_) ?_
  show OwnFin p e below s _ _ _ (T4.setTop (mkF m 50 #[.val (.ref a1), .val (.long qq), .second] []))
  refine own_ret X4 (v := none) hlk (fun _ => rfl) (fun fs hr => X4.returnOut hx hret (hb hby d12_50) hr) (by decide) (by decide) ?_
  rw [e4]
  exact ⟨rfl, N3, K3, F_whole_3, F_left_3⟩
theorem ef_12_P (m : MethodId) (a1 : Addr) (qq : Int64) : entryFrame m #[(.ref a1), (.long qq)] 3 = mkF m 0 #[.val (.ref a1), .val (.long qq), .second] [] := by first | (simp [entryFrame, mkF, argsToLocals, Value.category]; done) | rfl
set_option maxRecDepth 65536 in
set_option maxHeartbeats 40000000 in
theorem rm12_P (l : Launch) (Z : State) (a0 : Array Value) (hw : ∀ d ∈ tables_1, d.before a0 Z = true) (ws : List Jvm.Cond) (a1 : Addr) (qq : Int64) (wo : Addr) {u : Int64} {uw : Int64} (h0 : Heap) (n0 : Nat) (Z0 : n0 ≤ h0.size) (E_a1 : Exa Z h0 a1 "com/example/trapline/trapline/collect/Budget") (g_a1 : n0 ≤ a1) (F_whole : Fld Z h0 a1 "com/example/trapline/trapline/collect/Budget" "whole" "Lcom/example/trapline/trapline/collect/Budget;" (.ref wo)) (F_left : Fld Z h0 a1 "com/example/trapline/trapline/collect/Budget" "left" "J" (.long u)) (hu : ¬ (u - qq) < (0 : Int64)) (E_wo : Exa Z h0 wo "com/example/trapline/trapline/collect/Budget") (g_wo : n0 ≤ wo) (Fw_whole : Fld Z h0 wo "com/example/trapline/trapline/collect/Budget" "whole" "Lcom/example/trapline/trapline/collect/Budget;" .null) (Fw_left : Fld Z h0 wo "com/example/trapline/trapline/collect/Budget" "left" "J" (.long uw)) (huw : ¬ (uw - qq) < (0 : Int64)) (ne : a1 ≠ wo) :
    OwnCtr l Z (⟨"com/example/trapline/trapline/collect/Budget", "spend", "(J)V"⟩ : MethodName) ws prog_11_method_6_code 3 none ({ frames := 1, cells := 0, slots := 0, locals := 14 } : Room) #[(.ref a1), (.long qq)] h0 (fun v h L => v = none ∧ Fr n0 L ∧ Keep h0 h [a1, wo] ∧ Fld Z h a1 "com/example/trapline/trapline/collect/Budget" "whole" "Lcom/example/trapline/trapline/collect/Budget;" (.ref wo) ∧ Fld Z h a1 "com/example/trapline/trapline/collect/Budget" "left" "J" (.long (u - qq)) ∧ Fld Z h wo "com/example/trapline/trapline/collect/Budget" "whole" "Lcom/example/trapline/trapline/collect/Budget;" .null ∧ Fld Z h wo "com/example/trapline/trapline/collect/Budget" "left" "J" (.long (uw - qq))) := by
  refine own_body (g0 := fun m => mkF m 0 #[.val (.ref a1), .val (.long qq), .second] []) pn_12 (fun m => ef_12_P m a1 qq) ?_
  intro p e s m below meth c s₁ X0 hx hby hml hown hnm hZ e0 hret hlk
  have hml : c.maxLocals = 3 := hml
  have hown : s.vm.findClass "com/example/trapline/trapline/collect/Budget" = some m.cls := hown
  have hnm : meth.name = "spend" := hnm
  have hret : meth.sig.returnType = none := hret
  have N0 := Fr.nil n0
  have K0 := Keep.refl h0 [a1, wo]
  show OwnFin p e below s _ _ _ (s₁.setTop (mkF m 0 #[.val (.ref a1), .val (.long qq), .second] []))
  refine own_go (fun t_ k_ => XS.aloadN X0.here hx rfl (hb hby d12_0) rfl rfl k_) ?_
  show OwnFin p e below s _ _ _ (s₁.setTop (mkF m 1 #[.val (.ref a1), .val (.long qq), .second] [(.ref a1)]))
  obtain ⟨T1, X1, e1, st1⟩ := getF X0 hx hZ hown (host := "") (Or.inl (hw _ (List.mem_of_getElem? (i := 52) rfl))) Via.refl e0 F_whole (g := (mkF m 1 #[.val (.ref a1), .val (.long qq), .second] [(.ref a1)])) rfl rfl (hb hby d12_1)
  refine own_go st1 ?_
  show OwnFin p e below s _ _ _ (T1.setTop (mkF m 4 #[.val (.ref a1), .val (.long qq), .second] [(.ref wo)]))
  refine own_go (fun t_ k_ => XS.ifnullNo X1.here hx rfl (hb hby d12_4) rfl k_) ?_
  show OwnFin p e below s _ _ _ (T1.setTop (mkF m 7 #[.val (.ref a1), .val (.long qq), .second] []))
  refine own_go (fun t_ k_ => XS.aloadN X1.here hx rfl (hb hby d12_7) rfl rfl k_) ?_
  show OwnFin p e below s _ _ _ (T1.setTop (mkF m 8 #[.val (.ref a1), .val (.long qq), .second] [(.ref a1)]))
  obtain ⟨T2, X2, e2, st2⟩ := getF X1 hx hZ hown (host := "") (Or.inl (hw _ (List.mem_of_getElem? (i := 52) rfl))) Via.refl e1 F_whole (g := (mkF m 8 #[.val (.ref a1), .val (.long qq), .second] [(.ref a1)])) rfl rfl (hb hby d12_8)
  refine own_go st2 ?_
  show OwnFin p e below s _ _ _ (T2.setTop (mkF m 11 #[.val (.ref a1), .val (.long qq), .second] [(.ref wo)]))
  refine own_go (fun t_ k_ => XS.lloadN X2.here hx rfl (hb hby d12_11) rfl k_) ?_
  show OwnFin p e below s _ _ _ (T2.setTop (mkF m 12 #[.val (.ref a1), .val (.long qq), .second] [(.long qq), (.ref wo)]))
  obtain ⟨v3, T3, L3, X3, hQ3, st3⟩ := own_callV X2 hx hZ (y := (⟨"com/example/trapline/trapline/collect/Budget", "spend", "(J)V"⟩ : MethodName)) (z := (⟨"com/example/trapline/trapline/collect/Budget", "spend", "(J)V"⟩ : MethodName)) hown (hw _ (List.mem_of_getElem? (i := 72) rfl)) (hw _ (List.mem_of_getElem? (i := 62) rfl)) (notFace_of_selects (args := #[]) (mvT hZ (hw _ (List.mem_of_getElem? (i := 64) rfl)))) (hw _ (List.mem_of_getElem? (i := 64) rfl)) (hw _ (List.mem_of_getElem? (i := 63) rfl)) (hw _ (List.mem_of_getElem? (i := 37) rfl)) (hw _ (List.mem_of_getElem? (i := 65) rfl)) (by decide) (W := 0) (rm12_N l Z a0 hw [] wo qq h0 n0 Z0 E_wo g_wo Fw_whole Fw_left huw) (by decide) (by decide) E_wo (g := (mkF m 12 #[.val (.ref a1), .val (.long qq), .second] [(.long qq), (.ref wo)])) rfl (by rw [hml]; rfl) (argsL := [(.long qq)]) (rest := []) (lenOf pd_12_9 rfl) rfl (by show 2 * 0 + _ ≤ _; exact Nat.le_of_eq rfl) (hb hby d12_12) e2 rfl (by decide) (by decide)
  obtain ⟨rfl, Nq3, Kq3, Fq3_w, Fq3_l⟩ := hQ3
  have N3 := Fr.app N0 Nq3
  have E_a1_3 := E_a1.keep Kq3
  have F_whole_3 := F_whole.keep Kq3 (ninS ne nin0)
  have F_left_3 := F_left.keep Kq3 (ninS ne nin0)
  have E_wo_3 := E_wo.keep Kq3
  have Z3 : n0 ≤ T3.heap.size := Nat.le_trans Z0 Kq3.1
  have K3 : Keep h0 T3.heap [a1, wo] := K0.trans Kq3 (allS (Or.inl (List.mem_of_getElem? (i := 1) rfl)) all0)
  refine own_go st3 ?_
  show OwnFin p e below s _ _ _ (T3.setTop (mkF m 15 #[.val (.ref a1), .val (.long qq), .second] []))
  refine own_go (fun t_ k_ => XS.aloadN X3.here hx rfl (hb hby d12_15) rfl rfl k_) ?_
  show OwnFin p e below s _ _ _ (T3.setTop (mkF m 16 #[.val (.ref a1), .val (.long qq), .second] [(.ref a1)]))
  refine own_go (fun t_ k_ => XS.dup X3.here hx rfl (hb hby d12_16) rfl rfl k_) ?_
  show OwnFin p e below s _ _ _ (T3.setTop (mkF m 17 #[.val (.ref a1), .val (.long qq), .second] [(.ref a1), (.ref a1)]))
  obtain ⟨T4, X4, e4, st4⟩ := getF X3 hx hZ hown (host := "") (Or.inl (hw _ (List.mem_of_getElem? (i := 54) rfl))) Via.refl rfl F_left_3 (g := (mkF m 17 #[.val (.ref a1), .val (.long qq), .second] [(.ref a1), (.ref a1)])) rfl rfl (hb hby d12_17)
  refine own_go st4 ?_
  show OwnFin p e below s _ _ _ (T4.setTop (mkF m 20 #[.val (.ref a1), .val (.long qq), .second] [(.long u), (.ref a1)]))
  refine own_go (fun t_ k_ => XS.lloadN X4.here hx rfl (hb hby d12_20) rfl k_) ?_
  show OwnFin p e below s _ _ _ (T4.setTop (mkF m 21 #[.val (.ref a1), .val (.long qq), .second] [(.long qq), (.long u), (.ref a1)]))
  refine own_go (fun t_ k_ => XS.lsub X4.here hx rfl (hb hby d12_21) rfl k_) ?_
  show OwnFin p e below s _ _ _ (T4.setTop (mkF m 22 #[.val (.ref a1), .val (.long qq), .second] [(.long (u - qq)), (.ref a1)]))
  obtain ⟨T5, h5, X5, e5, W5, st5⟩ := putF X4 hx hZ hown (host := "") (Or.inl (hw _ (List.mem_of_getElem? (i := 54) rfl))) Via.refl e4 F_left_3 E_a1_3 (Or.inl (hw _ (List.mem_of_getElem? (i := 55) rfl))) (hw _ (List.mem_of_getElem? (i := 36) rfl)) (ty := .long) (by decide) rfl rfl (g := (mkF m 22 #[.val (.ref a1), .val (.long qq), .second] [(.long (u - qq)), (.ref a1)])) rfl rfl (hb hby d12_22)
  have E_a1_5 := E_a1_3.wr W5
  have F_whole_5 := F_whole_3.other W5 (Or.inr (slot_ne (Or.inr (hw _ (List.mem_of_getElem? (i := 53) rfl))) (Or.inl (hw _ (List.mem_of_getElem? (i := 55) rfl))) (by decide) (t := (.object "com/example/trapline/trapline/collect/Budget")) (t' := .long) (by decide) (by decide)))
  have F_left_5 := F_left_3.same W5
  have E_wo_5 := E_wo_3.wr W5
  have Fq3_w_5 := Fq3_w.other W5 (Or.inl (Ne.symm ne))
  have Fq3_l_5 := Fq3_l.other W5 (Or.inl (Ne.symm ne))
  have Z5 : n0 ≤ h5.size := Nat.le_trans Z3 (Keep.of_wr W5).1
  have K5 : Keep h0 h5 [a1, wo] := K3.wr W5 (Or.inl (List.mem_of_getElem? (i := 0) rfl))
  have N5 := Fr.snoc X5 N3 g_a1
  refine own_go st5 ?_
  show OwnFin p e below s _ _ _ (T5.setTop (mkF m 25 #[.val (.ref a1), .val (.long qq), .second] []))
  refine own_go (fun t_ k_ => XS.aloadN X5.here hx rfl (hb hby d12_25) rfl rfl k_) ?_
  show OwnFin p e below s _ _ _ (T5.setTop (mkF m 26 #[.val (.ref a1), .val (.long qq), .second] [(.ref a1)]))
  obtain ⟨T6, X6, e6, st6⟩ := getF X5 hx hZ hown (host := "") (Or.inl (hw _ (List.mem_of_getElem? (i := 54) rfl))) Via.refl e5 F_left_5 (g := (mkF m 26 #[.val (.ref a1), .val (.long qq), .second] [(.ref a1)])) rfl rfl (hb hby d12_26)
  refine own_go st6 ?_
  show OwnFin p e below s _ _ _ (T6.setTop (mkF m 29 #[.val (.ref a1), .val (.long qq), .second] [(.long (u - qq))]))
  refine own_go (fun t_ k_ => XS.lconst X6.here hx rfl (hb hby d12_29) k_) ?_
  show OwnFin p e below s _ _ _ (T6.setTop (mkF m 30 #[.val (.ref a1), .val (.long qq), .second] [(.long (0 : Int64)), (.long (u - qq))]))
  refine own_go (fun t_ k_ => XS.lcmp X6.here hx rfl (hb hby d12_30) rfl k_) ?_
  show OwnFin p e below s _ _ _ (T6.setTop (mkF m 31 #[.val (.ref a1), .val (.long qq), .second] [(.int (lcmpW (u - qq) (0 : Int64)))]))
  have hc31 : ¬ ((u - qq) < (0 : Int64)) := hu
  refine own_go (fun t_ k_ => XS.ifYes X6.here hx rfl (pc0 := 31) (pc' := 50) rfl (hb hby d12_31) rfl ((if0 _ _).trans (flt (mt (lw_lt (u - qq) (0 : Int64)).mp hc31)).2.1) (by decide) (by decide) k_) ?_
  show OwnFin p e below s _ _ _ (T6.setTop (mkF m 50 #[.val (.ref a1), .val (.long qq), .second] []))
  refine own_ret X6 (v := none) hlk (fun _ => rfl) (fun fs hr => X6.returnOut hx hret (hb hby d12_50) hr) (by decide) (by decide) ?_
  rw [e6]
  exact ⟨rfl, N5, K5, F_whole_5, F_left_5, Fq3_w_5, Fq3_l_5⟩
theorem d13_0 : decode prog_11_method_3_code 0 = .ok (.new 4, 3) := by decide +kernel
theorem d13_3 : decode prog_11_method_3_code 3 = .ok (.dup, 1) := by decide +kernel
theorem d13_4 : decode prog_11_method_3_code 4 = .ok (.aload_n 1, 1) := by decide +kernel
theorem d13_5 : decode prog_11_method_3_code 5 = .ok (.lload_n 2, 1) := by decide +kernel
theorem d13_6 : decode prog_11_method_3_code 6 = .ok (.aload_n 0, 1) := by decide +kernel
theorem d13_7 : decode prog_11_method_3_code 7 = .ok (.invokespecial 3, 3) := by decide +kernel
theorem d13_10 : decode prog_11_method_3_code 10 = .ok (.areturn, 1) := by decide +kernel
theorem pn_13 : plainFor (⟨"com/example/trapline/trapline/collect/Budget", "part", "(Ljava/lang/String;J)Lcom/example/trapline/trapline/collect/Budget;"⟩ : MethodName) = true := plainFor_of_name (by first | (simp [plainName, overriddenIn]; done) | decide +kernel)
theorem pd_13_8 : parseMethodDescriptor "(Ljava/lang/String;JLcom/example/trapline/trapline/collect/Budget;)V" = some ⟨[(.object "java/lang/String"), .long, (.object "com/example/trapline/trapline/collect/Budget")], none⟩ := by decide +kernel
theorem ef_13 (m : MethodId) (wo : Addr) (so : Addr) (qm : Int64) : entryFrame m #[(.ref wo), (.ref so), (.long qm)] 4 = mkF m 0 #[.val (.ref wo), .val (.ref so), .val (.long qm), .second] [] := by first | (simp [entryFrame, mkF, argsToLocals, Value.category]; done) | rfl
set_option maxRecDepth 65536 in
set_option maxHeartbeats 40000000 in
theorem rm13 (l : Launch) (Z : State) (a0 : Array Value) (hw : ∀ d ∈ tables_1, d.before a0 Z = true) (ws : List Jvm.Cond) (wo : Addr) (so : Addr) (qm : Int64) (h0 : Heap) (n0 : Nat) (Z0 : n0 ≤ h0.size) (hq : ¬ qm < (0 : Int64)) :
    OwnCtr l Z (⟨"com/example/trapline/trapline/collect/Budget", "part", "(Ljava/lang/String;J)Lcom/example/trapline/trapline/collect/Budget;"⟩ : MethodName) ws prog_11_method_3_code 4 (some (.object "com/example/trapline/trapline/collect/Budget")) ({ frames := 2, cells := 1, slots := 4, locals := 30 } : Room) #[(.ref wo), (.ref so), (.long qm)] h0 (fun v h L => ∃ b : Addr, v = some (.ref b) ∧ Fr n0 L ∧ Keep h0 h [] ∧ h0.size ≤ b ∧ Exa Z h b "com/example/trapline/trapline/collect/Budget" ∧ Fld Z h b "com/example/trapline/trapline/collect/Budget" "whole" "Lcom/example/trapline/trapline/collect/Budget;" (.ref wo) ∧ Fld Z h b "com/example/trapline/trapline/collect/Budget" "left" "J" (.long qm)) := by
  refine own_body (g0 := fun m => mkF m 0 #[.val (.ref wo), .val (.ref so), .val (.long qm), .second] []) pn_13 (fun m => ef_13 m wo so qm) ?_
  intro p e s m below meth c s₁ X0 hx hby hml hown hnm hZ e0 hret hlk
  have hml : c.maxLocals = 4 := hml
  have hown : s.vm.findClass "com/example/trapline/trapline/collect/Budget" = some m.cls := hown
  have hnm : meth.name = "part" := hnm
  have hret : meth.sig.returnType = (some (.object "com/example/trapline/trapline/collect/Budget")) := hret
  have N0 := Fr.nil n0
  have K0 := Keep.refl h0 []
  show OwnFin p e below s _ _ _ (s₁.setTop (mkF m 0 #[.val (.ref wo), .val (.ref so), .val (.long qm), .second] []))
  obtain ⟨T1, h1, X1, e1, E1, A1, D1, -, st1⟩ := newO X0 hx hZ hown (hw _ (List.mem_of_getElem? (i := 71) rfl)) (hw _ (List.mem_of_getElem? (i := 36) rfl)) (hw _ (List.mem_of_getElem? (i := 37) rfl)) e0 (g := (mkF m 0 #[.val (.ref wo), .val (.ref so), .val (.long qm), .second] [])) rfl (hb hby d13_0) (by decide) (by decide)
  obtain ⟨b1, g1⟩ : ∃ z, z = h0.size := ⟨_, rfl⟩
  rw [← g1] at A1 D1 st1
  have g_b1 : n0 ≤ b1 := Nat.le_trans Z0 (Nat.le_of_eq g1.symm)
  have sz_b1 : h0.size ≤ b1 := Nat.le_trans K0.1 (Nat.le_of_eq g1.symm)
  have Z1 : n0 ≤ h1.size := Nat.le_trans Z0 E1.1
  have K1 : Keep h0 h1 [] := K0.ext E1
  have E_b1 := A1
  have F_computation_b1 : Fld Z h1 b1 "com/example/trapline/trapline/collect/Budget" "computation" "Ljava/lang/String;" .null := D1 (Or.inr (hw _ (List.mem_of_getElem? (i := 49) rfl))) (ty := (.object "java/lang/String")) (by decide)
  have F_operations_b1 : Fld Z h1 b1 "com/example/trapline/trapline/collect/Budget" "operations" "J" (.long (0 : Int64)) := D1 (Or.inr (hw _ (List.mem_of_getElem? (i := 51) rfl))) (ty := .long) (by decide)
  have F_whole_b1 : Fld Z h1 b1 "com/example/trapline/trapline/collect/Budget" "whole" "Lcom/example/trapline/trapline/collect/Budget;" .null := D1 (Or.inr (hw _ (List.mem_of_getElem? (i := 53) rfl))) (ty := (.object "com/example/trapline/trapline/collect/Budget")) (by decide)
  have F_left_b1 : Fld Z h1 b1 "com/example/trapline/trapline/collect/Budget" "left" "J" (.long (0 : Int64)) := D1 (Or.inl (hw _ (List.mem_of_getElem? (i := 55) rfl))) (ty := .long) (by decide)
  refine own_go st1 ?_
  show OwnFin p e below s _ _ _ (T1.setTop (mkF m 3 #[.val (.ref wo), .val (.ref so), .val (.long qm), .second] [(.ref b1)]))
  refine own_go (fun t_ k_ => XS.dup X1.here hx rfl (hb hby d13_3) rfl rfl k_) ?_
  show OwnFin p e below s _ _ _ (T1.setTop (mkF m 4 #[.val (.ref wo), .val (.ref so), .val (.long qm), .second] [(.ref b1), (.ref b1)]))
  refine own_go (fun t_ k_ => XS.aloadN X1.here hx rfl (hb hby d13_4) rfl rfl k_) ?_
  show OwnFin p e below s _ _ _ (T1.setTop (mkF m 5 #[.val (.ref wo), .val (.ref so), .val (.long qm), .second] [(.ref so), (.ref b1), (.ref b1)]))
  refine own_go (fun t_ k_ => XS.lloadN X1.here hx rfl (hb hby d13_5) rfl k_) ?_
  show OwnFin p e below s _ _ _ (T1.setTop (mkF m 6 #[.val (.ref wo), .val (.ref so), .val (.long qm), .second] [(.long qm), (.ref so), (.ref b1), (.ref b1)]))
  refine own_go (fun t_ k_ => XS.aloadN X1.here hx rfl (hb hby d13_6) rfl rfl k_) ?_
  show OwnFin p e below s _ _ _ (T1.setTop (mkF m 7 #[.val (.ref wo), .val (.ref so), .val (.long qm), .second] [(.ref wo), (.long qm), (.ref so), (.ref b1), (.ref b1)]))
  obtain ⟨v2, T2, L2, X2, hQ2, st2⟩ := own_callI X1 hx hZ (y := (⟨"com/example/trapline/trapline/collect/Budget", "<init>", "(Ljava/lang/String;JLcom/example/trapline/trapline/collect/Budget;)V"⟩ : MethodName)) rfl hown (hw _ (List.mem_of_getElem? (i := 41) rfl)) (hw _ (List.mem_of_getElem? (i := 42) rfl)) (hw _ (List.mem_of_getElem? (i := 37) rfl)) (hw _ (List.mem_of_getElem? (i := 43) rfl)) (by decide) (W := 1) (rm9_W l Z a0 hw [] b1 so qm wo h1 n0 Z1 E_b1 g_b1 F_computation_b1 F_operations_b1 F_whole_b1 F_left_b1 hq) (by decide) (by decide) (g := (mkF m 7 #[.val (.ref wo), .val (.ref so), .val (.long qm), .second] [(.ref wo), (.long qm), (.ref so), (.ref b1), (.ref b1)])) rfl (by rw [hml]; rfl) (a := b1) (argsL := [(.ref so), (.long qm), (.ref wo)]) (rest := [(.ref b1)]) (lenOf pd_13_8 rfl) rfl (by show 2 * 0 + _ ≤ _; exact Nat.le_of_eq rfl) (hb hby d13_7) e1 rfl (by decide) (by decide)
  obtain ⟨rfl, Nq2, Kq2, Eq2, Fq2_0, Fq2_1, Fq2_2, Fq2_3⟩ := hQ2
  have N2 := Fr.app N0 Nq2
  have E_b1_2 := E_b1.keep Kq2
  have Z2 : n0 ≤ T2.heap.size := Nat.le_trans Z1 Kq2.1
  have K2 : Keep h0 T2.heap [] := K1.trans Kq2 (allS (Or.inr sz_b1) all0)
  refine own_go st2 ?_
  show OwnFin p e below s _ _ _ (T2.setTop (mkF m 10 #[.val (.ref wo), .val (.ref so), .val (.long qm), .second] [(.ref b1)]))
  refine own_ret X2 (v := some (.ref b1)) hlk (fun hh => by rw [hret] at hh; cases hh) (fun fs hr => own_retR X2 hx hret rfl rfl (hb hby d13_10) hr) (by decide) (by decide) ?_
  exact ⟨b1, rfl, N2, K2, sz_b1, Eq2, Fq2_2, Fq2_3⟩
theorem pn_0 : plainFor (⟨"com/example/trapline/trapline/collect/BudgetIsSpentPinLaw", "law", "(JJJJI)Z"⟩ : MethodName) = true := plainFor_of_name (by first | (simp [plainName, overriddenIn]; done) | decide +kernel)
theorem pd_0_0 : parseMethodDescriptor "(JJ)J" = some ⟨[.long, .long], some .long⟩ := by decide +kernel
theorem pd_0_1 : parseMethodDescriptor "([C)V" = some ⟨[(.array .char)], none⟩ := by decide +kernel
theorem pd_0_7 : parseMethodDescriptor "(Ljava/lang/String;J)V" = some ⟨[(.object "java/lang/String"), .long], none⟩ := by decide +kernel
theorem pd_0_10 : parseMethodDescriptor "()Z" = some ⟨[], some .boolean⟩ := by decide +kernel
theorem pd_0_9 : parseMethodDescriptor "(J)V" = some ⟨[.long], none⟩ := by decide +kernel
theorem pd_0_11 : parseMethodDescriptor "(Ljava/lang/String;J)Lcom/example/trapline/trapline/collect/Budget;" = some ⟨[(.object "java/lang/String"), .long], some (.object "com/example/trapline/trapline/collect/Budget")⟩ := by decide +kernel
theorem ef_0 (m : MethodId) (qn0 : Int64) (qx0 : Int64) (qy0 : Int64) (qm0 : Int64) (pf : Int32) : entryFrame m #[(.long qn0), (.long qx0), (.long qy0), (.long qm0), (.int pf)] maxLocals = mkF m 0 #[.val (.long qn0), .second, .val (.long qx0), .second, .val (.long qy0), .second, .val (.long qm0), .second, .val (.int pf), .unset, .unset, .unset, .unset, .unset, .unset, .unset, .unset, .unset, .unset, .unset, .unset, .unset, .unset, .unset, .unset, .unset] [] := by first | (simp [entryFrame, mkF, argsToLocals, Value.category, maxLocals]; done) | rfl
set_option maxRecDepth 65536 in
set_option maxHeartbeats 40000000 in
theorem rm0 (l : Launch) (Z : State) (a0 : Array Value) (hw : ∀ d ∈ tables_1, d.before a0 Z = true) (ws : List Jvm.Cond) (qn0 : Int64) (qx0 : Int64) (qy0 : Int64) (qm0 : Int64) (pf : Int32) (zc : Int32) (h0 : Heap) (n0 : Nat) (Z0 : n0 ≤ h0.size) (S_cs : Sta Z h0 "java/lang/String" "COMPACT_STRINGS" "Z" (.int zc)) (hzc : ¬ zc = 0) :
    OwnCtr l Z x ws code maxLocals ret room_1 #[(.long qn0), (.long qx0), (.long qy0), (.long qm0), (.int pf)] h0 (fun v h L => v = some (.int 1) ∧ Fr n0 L) := by
  refine own_body (g0 := fun m => mkF m 0 #[.val (.long qn0), .second, .val (.long qx0), .second, .val (.long qy0), .second, .val (.long qm0), .second, .val (.int pf), .unset, .unset, .unset, .unset, .unset, .unset, .unset, .unset, .unset, .unset, .unset, .unset, .unset, .unset, .unset, .unset, .unset] []) pn_0 (fun m => ef_0 m qn0 qx0 qy0 qm0 pf) ?_
  intro p e s m below meth c s₁ X0 hx hby hml hown hnm hZ e0 hret hlk
  have hml : c.maxLocals = 26 := hml
  have hown : s.vm.findClass "com/example/trapline/trapline/collect/BudgetIsSpentPinLaw" = some m.cls := hown
  have hnm : meth.name = "law" := hnm
  have hret : meth.sig.returnType = (some .boolean) := hret
  have N0 := Fr.nil n0
  show OwnFin p e below s _ _ _ (s₁.setTop (mkF m 0 #[.val (.long qn0), .second, .val (.long qx0), .second, .val (.long qy0), .second, .val (.long qm0), .second, .val (.int pf), .unset, .unset, .unset, .unset, .unset, .unset, .unset, .unset, .unset, .unset, .unset, .unset, .unset, .unset, .unset, .unset, .unset] []))
  refine own_go (fun t_ k_ => XS.lloadN X0.here hx rfl (hb hby at_0) rfl k_) ?_
  show OwnFin p e below s _ _ _ (s₁.setTop (mkF m 1 #[.val (.long qn0), .second, .val (.long qx0), .second, .val (.long qy0), .second, .val (.long qm0), .second, .val (.int pf), .unset, .unset, .unset, .unset, .unset, .unset, .unset, .unset, .unset, .unset, .unset, .unset, .unset, .unset, .unset, .unset, .unset] [(.long qn0)]))
  refine own_go (X0.ldc2Long hx hown (mvT hZ (hw _ (List.mem_of_getElem? (i := 0) rfl))) (g := (mkF m 1 #[.val (.long qn0), .second, .val (.long qx0), .second, .val (.long qy0), .second, .val (.long qm0), .second, .val (.int pf), .unset, .unset, .unset, .unset, .unset, .unset, .unset, .unset, .unset, .unset, .unset, .unset, .unset, .unset, .unset, .unset, .unset] [(.long qn0)])) rfl (hb hby at_1)) ?_
  show OwnFin p e below s _ _ _ (s₁.setTop (mkF m 4 #[.val (.long qn0), .second, .val (.long qx0), .second, .val (.long qy0), .second, .val (.long qm0), .second, .val (.int pf), .unset, .unset, .unset, .unset, .unset, .unset, .unset, .unset, .unset, .unset, .unset, .unset, .unset, .unset, .unset, .unset, .unset] [(.long (9223372036854775807 : Int64)), (.long qn0)]))
  refine own_go (fun t_ k_ => XS.land X0.here hx rfl (hb hby at_4) rfl k_) ?_
  show OwnFin p e below s _ _ _ (s₁.setTop (mkF m 5 #[.val (.long qn0), .second, .val (.long qx0), .second, .val (.long qy0), .second, .val (.long qm0), .second, .val (.int pf), .unset, .unset, .unset, .unset, .unset, .unset, .unset, .unset, .unset, .unset, .unset, .unset, .unset, .unset, .unset, .unset, .unset] [(.long (qn0 &&& (9223372036854775807 : Int64)))]))
  refine own_go (fun t_ k_ => XS.lstore X0.here hx rfl (hb hby at_5) rfl (l' := #[.val (.long qn0), .second, .val (.long qx0), .second, .val (.long qy0), .second, .val (.long qm0), .second, .val (.int pf), .val (.long (qn0 &&& (9223372036854775807 : Int64))), .second, .unset, .unset, .unset, .unset, .unset, .unset, .unset, .unset, .unset, .unset, .unset, .unset, .unset, .unset, .unset]) rfl k_) ?_
  show OwnFin p e below s _ _ _ (s₁.setTop (mkF m 7 #[.val (.long qn0), .second, .val (.long qx0), .second, .val (.long qy0), .second, .val (.long qm0), .second, .val (.int pf), .val (.long (qn0 &&& (9223372036854775807 : Int64))), .second, .unset, .unset, .unset, .unset, .unset, .unset, .unset, .unset, .unset, .unset, .unset, .unset, .unset, .unset, .unset] []))
  have hvn := own_nnL qn0
  generalize (qn0 &&& (9223372036854775807 : Int64)) = vn at hvn ⊢
  show OwnFin p e below s _ _ _ (s₁.setTop (mkF m 7 #[.val (.long qn0), .second, .val (.long qx0), .second, .val (.long qy0), .second, .val (.long qm0), .second, .val (.int pf), .val (.long vn), .second, .unset, .unset, .unset, .unset, .unset, .unset, .unset, .unset, .unset, .unset, .unset, .unset, .unset, .unset, .unset] []))
  refine own_go (fun t_ k_ => XS.lloadN X0.here hx rfl (hb hby at_7) rfl k_) ?_
  show OwnFin p e below s _ _ _ (s₁.setTop (mkF m 8 #[.val (.long qn0), .second, .val (.long qx0), .second, .val (.long qy0), .second, .val (.long qm0), .second, .val (.int pf), .val (.long vn), .second, .unset, .unset, .unset, .unset, .unset, .unset, .unset, .unset, .unset, .unset, .unset, .unset, .unset, .unset, .unset] [(.long qx0)]))
  refine own_go (X0.ldc2Long hx hown (mvT hZ (hw _ (List.mem_of_getElem? (i := 0) rfl))) (g := (mkF m 8 #[.val (.long qn0), .second, .val (.long qx0), .second, .val (.long qy0), .second, .val (.long qm0), .second, .val (.int pf), .val (.long vn), .second, .unset, .unset, .unset, .unset, .unset, .unset, .unset, .unset, .unset, .unset, .unset, .unset, .unset, .unset, .unset] [(.long qx0)])) rfl (hb hby at_8)) ?_
  show OwnFin p e below s _ _ _ (s₁.setTop (mkF m 11 #[.val (.long qn0), .second, .val (.long qx0), .second, .val (.long qy0), .second, .val (.long qm0), .second, .val (.int pf), .val (.long vn), .second, .unset, .unset, .unset, .unset, .unset, .unset, .unset, .unset, .unset, .unset, .unset, .unset, .unset, .unset, .unset] [(.long (9223372036854775807 : Int64)), (.long qx0)]))
  refine own_go (fun t_ k_ => XS.land X0.here hx rfl (hb hby at_11) rfl k_) ?_
  show OwnFin p e below s _ _ _ (s₁.setTop (mkF m 12 #[.val (.long qn0), .second, .val (.long qx0), .second, .val (.long qy0), .second, .val (.long qm0), .second, .val (.int pf), .val (.long vn), .second, .unset, .unset, .unset, .unset, .unset, .unset, .unset, .unset, .unset, .unset, .unset, .unset, .unset, .unset, .unset] [(.long (qx0 &&& (9223372036854775807 : Int64)))]))
  refine own_go (fun t_ k_ => XS.lload X0.here hx rfl (hb hby at_12) rfl k_) ?_
  show OwnFin p e below s _ _ _ (s₁.setTop (mkF m 14 #[.val (.long qn0), .second, .val (.long qx0), .second, .val (.long qy0), .second, .val (.long qm0), .second, .val (.int pf), .val (.long vn), .second, .unset, .unset, .unset, .unset, .unset, .unset, .unset, .unset, .unset, .unset, .unset, .unset, .unset, .unset, .unset] [(.long vn), (.long (qx0 &&& (9223372036854775807 : Int64)))]))
  obtain ⟨v1, T1, L1, X1, hQ1, st1⟩ := own_callS X0 hx hZ (y := (⟨"java/lang/Math", "min", "(JJ)J"⟩ : MethodName)) hown (hw _ (List.mem_of_getElem? (i := 1) rfl)) (hw _ (List.mem_of_getElem? (i := 2) rfl)) (hw _ (List.mem_of_getElem? (i := 3) rfl)) (hw _ (List.mem_of_getElem? (i := 4) rfl)) (by decide) (W := 0) (rm1 l Z a0 hw [] (qx0 &&& (9223372036854775807 : Int64)) vn h0 n0 Z0) (by decide) (by decide) (g := (mkF m 14 #[.val (.long qn0), .second, .val (.long qx0), .second, .val (.long qy0), .second, .val (.long qm0), .second, .val (.int pf), .val (.long vn), .second, .unset, .unset, .unset, .unset, .unset, .unset, .unset, .unset, .unset, .unset, .unset, .unset, .unset, .unset, .unset] [(.long vn), (.long (qx0 &&& (9223372036854775807 : Int64)))])) rfl (by rw [hml]; rfl) (argsL := [(.long (qx0 &&& (9223372036854775807 : Int64))), (.long vn)]) (rest := []) (lenOf pd_0_0 rfl) rfl (by show 2 * 0 + _ ≤ _; exact Nat.le_of_eq rfl) (hb hby at_14) e0 rfl (by decide) (by decide)
  obtain ⟨rfl, Nq1, e1⟩ := hQ1
  have N1 := Fr.app N0 Nq1
  refine own_go st1 ?_
  show OwnFin p e below s _ _ _ (T1.setTop (mkF m 17 #[.val (.long qn0), .second, .val (.long qx0), .second, .val (.long qy0), .second, .val (.long qm0), .second, .val (.int pf), .val (.long vn), .second, .unset, .unset, .unset, .unset, .unset, .unset, .unset, .unset, .unset, .unset, .unset, .unset, .unset, .unset, .unset] [(.long (own_minL (qx0 &&& (9223372036854775807 : Int64)) vn))]))
  refine own_go (fun t_ k_ => XS.lstore X1.here hx rfl (hb hby at_17) rfl (l' := #[.val (.long qn0), .second, .val (.long qx0), .second, .val (.long qy0), .second, .val (.long qm0), .second, .val (.int pf), .val (.long vn), .second, .val (.long (own_minL (qx0 &&& (9223372036854775807 : Int64)) vn)), .second, .unset, .unset, .unset, .unset, .unset, .unset, .unset, .unset, .unset, .unset, .unset, .unset, .unset]) rfl k_) ?_
  show OwnFin p e below s _ _ _ (T1.setTop (mkF m 19 #[.val (.long qn0), .second, .val (.long qx0), .second, .val (.long qy0), .second, .val (.long qm0), .second, .val (.int pf), .val (.long vn), .second, .val (.long (own_minL (qx0 &&& (9223372036854775807 : Int64)) vn)), .second, .unset, .unset, .unset, .unset, .unset, .unset, .unset, .unset, .unset, .unset, .unset, .unset, .unset] []))
  have hvx := own_min (qx0 &&& (9223372036854775807 : Int64)) vn (own_nnL qx0) hvn
  generalize (own_minL (qx0 &&& (9223372036854775807 : Int64)) vn) = vx at hvx ⊢
  show OwnFin p e below s _ _ _ (T1.setTop (mkF m 19 #[.val (.long qn0), .second, .val (.long qx0), .second, .val (.long qy0), .second, .val (.long qm0), .second, .val (.int pf), .val (.long vn), .second, .val (.long vx), .second, .unset, .unset, .unset, .unset, .unset, .unset, .unset, .unset, .unset, .unset, .unset, .unset, .unset] []))
  refine own_go (fun t_ k_ => XS.lload X1.here hx rfl (hb hby at_19) rfl k_) ?_
  show OwnFin p e below s _ _ _ (T1.setTop (mkF m 21 #[.val (.long qn0), .second, .val (.long qx0), .second, .val (.long qy0), .second, .val (.long qm0), .second, .val (.int pf), .val (.long vn), .second, .val (.long vx), .second, .unset, .unset, .unset, .unset, .unset, .unset, .unset, .unset, .unset, .unset, .unset, .unset, .unset] [(.long qm0)]))
  refine own_go (X1.ldc2Long hx hown (mvT hZ (hw _ (List.mem_of_getElem? (i := 0) rfl))) (g := (mkF m 21 #[.val (.long qn0), .second, .val (.long qx0), .second, .val (.long qy0), .second, .val (.long qm0), .second, .val (.int pf), .val (.long vn), .second, .val (.long vx), .second, .unset, .unset, .unset, .unset, .unset, .unset, .unset, .unset, .unset, .unset, .unset, .unset, .unset] [(.long qm0)])) rfl (hb hby at_21)) ?_
  show OwnFin p e below s _ _ _ (T1.setTop (mkF m 24 #[.val (.long qn0), .second, .val (.long qx0), .second, .val (.long qy0), .second, .val (.long qm0), .second, .val (.int pf), .val (.long vn), .second, .val (.long vx), .second, .unset, .unset, .unset, .unset, .unset, .unset, .unset, .unset, .unset, .unset, .unset, .unset, .unset] [(.long (9223372036854775807 : Int64)), (.long qm0)]))
  refine own_go (fun t_ k_ => XS.land X1.here hx rfl (hb hby at_24) rfl k_) ?_
  show OwnFin p e below s _ _ _ (T1.setTop (mkF m 25 #[.val (.long qn0), .second, .val (.long qx0), .second, .val (.long qy0), .second, .val (.long qm0), .second, .val (.int pf), .val (.long vn), .second, .val (.long vx), .second, .unset, .unset, .unset, .unset, .unset, .unset, .unset, .unset, .unset, .unset, .unset, .unset, .unset] [(.long (qm0 &&& (9223372036854775807 : Int64)))]))
  refine own_go (fun t_ k_ => XS.lstore X1.here hx rfl (hb hby at_25) rfl (l' := #[.val (.long qn0), .second, .val (.long qx0), .second, .val (.long qy0), .second, .val (.long qm0), .second, .val (.int pf), .val (.long vn), .second, .val (.long vx), .second, .val (.long (qm0 &&& (9223372036854775807 : Int64))), .second, .unset, .unset, .unset, .unset, .unset, .unset, .unset, .unset, .unset, .unset, .unset]) rfl k_) ?_
  show OwnFin p e below s _ _ _ (T1.setTop (mkF m 27 #[.val (.long qn0), .second, .val (.long qx0), .second, .val (.long qy0), .second, .val (.long qm0), .second, .val (.int pf), .val (.long vn), .second, .val (.long vx), .second, .val (.long (qm0 &&& (9223372036854775807 : Int64))), .second, .unset, .unset, .unset, .unset, .unset, .unset, .unset, .unset, .unset, .unset, .unset] []))
  have hvm := own_nnL qm0
  generalize (qm0 &&& (9223372036854775807 : Int64)) = vm at hvm ⊢
  show OwnFin p e below s _ _ _ (T1.setTop (mkF m 27 #[.val (.long qn0), .second, .val (.long qx0), .second, .val (.long qy0), .second, .val (.long qm0), .second, .val (.int pf), .val (.long vn), .second, .val (.long vx), .second, .val (.long vm), .second, .unset, .unset, .unset, .unset, .unset, .unset, .unset, .unset, .unset, .unset, .unset] []))
  refine own_go (fun t_ k_ => XS.iconst X1.here hx rfl (hb hby at_27) k_) ?_
  show OwnFin p e below s _ _ _ (T1.setTop (mkF m 28 #[.val (.long qn0), .second, .val (.long qx0), .second, .val (.long qy0), .second, .val (.long qm0), .second, .val (.int pf), .val (.long vn), .second, .val (.long vx), .second, .val (.long vm), .second, .unset, .unset, .unset, .unset, .unset, .unset, .unset, .unset, .unset, .unset, .unset] [(.int (2 : Int32))]))
  obtain ⟨T2, h2, X2, e2, E2, A2, st2⟩ := own_newarr X1 hx hZ (hw _ (List.mem_of_getElem? (i := 5) rfl)) e1 (g := (mkF m 28 #[.val (.long qn0), .second, .val (.long qx0), .second, .val (.long qy0), .second, .val (.long qm0), .second, .val (.int pf), .val (.long vn), .second, .val (.long vx), .second, .val (.long vm), .second, .unset, .unset, .unset, .unset, .unset, .unset, .unset, .unset, .unset, .unset, .unset] [(.int (2 : Int32))])) rfl (hb hby at_28) rfl (n := 2) (cap := 2) (by decide) (by decide) (by decide) (by decide) (by decide)
  obtain ⟨b2, g2⟩ : ∃ z, z = h0.size := ⟨_, rfl⟩
  rw [← g2] at A2 st2
  have g_b2 : n0 ≤ b2 := Nat.le_trans Z0 (Nat.le_of_eq g2.symm)
  have S_cs_2 := S_cs.ext E2
  have Z2 : n0 ≤ h2.size := Nat.le_trans Z0 E2.1
  have V_b2 : OwnArr Z h2 b2 .char 2 (fun _ => (.int (0 : Int32))) := A2
  refine own_go st2 ?_
  show OwnFin p e below s _ _ _ (T2.setTop (mkF m 30 #[.val (.long qn0), .second, .val (.long qx0), .second, .val (.long qy0), .second, .val (.long qm0), .second, .val (.int pf), .val (.long vn), .second, .val (.long vx), .second, .val (.long vm), .second, .unset, .unset, .unset, .unset, .unset, .unset, .unset, .unset, .unset, .unset, .unset] [(.ref b2)]))
  refine own_go (fun t_ k_ => XS.dup X2.here hx rfl (hb hby at_30) rfl rfl k_) ?_
  show OwnFin p e below s _ _ _ (T2.setTop (mkF m 31 #[.val (.long qn0), .second, .val (.long qx0), .second, .val (.long qy0), .second, .val (.long qm0), .second, .val (.int pf), .val (.long vn), .second, .val (.long vx), .second, .val (.long vm), .second, .unset, .unset, .unset, .unset, .unset, .unset, .unset, .unset, .unset, .unset, .unset] [(.ref b2), (.ref b2)]))
  refine own_go (fun t_ k_ => XS.iconst X2.here hx rfl (hb hby at_31) k_) ?_
  show OwnFin p e below s _ _ _ (T2.setTop (mkF m 32 #[.val (.long qn0), .second, .val (.long qx0), .second, .val (.long qy0), .second, .val (.long qm0), .second, .val (.int pf), .val (.long vn), .second, .val (.long vx), .second, .val (.long vm), .second, .unset, .unset, .unset, .unset, .unset, .unset, .unset, .unset, .unset, .unset, .unset] [(.int (0 : Int32)), (.ref b2), (.ref b2)]))
  refine own_go (fun t_ k_ => XS.iload X2.here hx rfl (hb hby at_32) rfl k_) ?_
  show OwnFin p e below s _ _ _ (T2.setTop (mkF m 34 #[.val (.long qn0), .second, .val (.long qx0), .second, .val (.long qy0), .second, .val (.long qm0), .second, .val (.int pf), .val (.long vn), .second, .val (.long vx), .second, .val (.long vm), .second, .unset, .unset, .unset, .unset, .unset, .unset, .unset, .unset, .unset, .unset, .unset] [(.int pf), (.int (0 : Int32)), (.ref b2), (.ref b2)]))
  refine own_go (fun t_ k_ => XS.bipush X2.here hx rfl (hb hby at_34) k_) ?_
  show OwnFin p e below s _ _ _ (T2.setTop (mkF m 36 #[.val (.long qn0), .second, .val (.long qx0), .second, .val (.long qy0), .second, .val (.long qm0), .second, .val (.int pf), .val (.long vn), .second, .val (.long vx), .second, .val (.long vm), .second, .unset, .unset, .unset, .unset, .unset, .unset, .unset, .unset, .unset, .unset, .unset] [(.int (8 : Int32)), (.int pf), (.int (0 : Int32)), (.ref b2), (.ref b2)]))
  refine own_go (fun t_ k_ => XS.iushr X2.here hx rfl (hb hby at_36) rfl k_) ?_
  show OwnFin p e below s _ _ _ (T2.setTop (mkF m 37 #[.val (.long qn0), .second, .val (.long qx0), .second, .val (.long qy0), .second, .val (.long qm0), .second, .val (.int pf), .val (.long vn), .second, .val (.long vx), .second, .val (.long vm), .second, .unset, .unset, .unset, .unset, .unset, .unset, .unset, .unset, .unset, .unset, .unset] [(.int ((pf.toUInt32 >>> ((8 : Int32) &&& 31).toUInt32).toInt32)), (.int (0 : Int32)), (.ref b2), (.ref b2)]))
  refine own_go (fun t_ k_ => XS.sipush X2.here hx rfl (hb hby at_37) k_) ?_
  show OwnFin p e below s _ _ _ (T2.setTop (mkF m 40 #[.val (.long qn0), .second, .val (.long qx0), .second, .val (.long qy0), .second, .val (.long qm0), .second, .val (.int pf), .val (.long vn), .second, .val (.long vx), .second, .val (.long vm), .second, .unset, .unset, .unset, .unset, .unset, .unset, .unset, .unset, .unset, .unset, .unset] [(.int (255 : Int32)), (.int ((pf.toUInt32 >>> ((8 : Int32) &&& 31).toUInt32).toInt32)), (.int (0 : Int32)), (.ref b2), (.ref b2)]))
  refine own_go (fun t_ k_ => XS.iand X2.here hx rfl (hb hby at_40) rfl k_) ?_
  show OwnFin p e below s _ _ _ (T2.setTop (mkF m 41 #[.val (.long qn0), .second, .val (.long qx0), .second, .val (.long qy0), .second, .val (.long qm0), .second, .val (.int pf), .val (.long vn), .second, .val (.long vx), .second, .val (.long vm), .second, .unset, .unset, .unset, .unset, .unset, .unset, .unset, .unset, .unset, .unset, .unset] [(.int (((pf.toUInt32 >>> ((8 : Int32) &&& 31).toUInt32).toInt32) &&& (255 : Int32))), (.int (0 : Int32)), (.ref b2), (.ref b2)]))
  refine own_go (fun t_ k_ => XS.i2c X2.here hx rfl (hb hby at_41) rfl k_) ?_
  show OwnFin p e below s _ _ _ (T2.setTop (mkF m 42 #[.val (.long qn0), .second, .val (.long qx0), .second, .val (.long qy0), .second, .val (.long qm0), .second, .val (.int pf), .val (.long vn), .second, .val (.long vx), .second, .val (.long vm), .second, .unset, .unset, .unset, .unset, .unset, .unset, .unset, .unset, .unset, .unset, .unset] [(.int ((((pf.toUInt32 >>> ((8 : Int32) &&& 31).toUInt32).toInt32) &&& (255 : Int32)).toUInt32.toUInt16.toUInt32.toInt32)), (.int (0 : Int32)), (.ref b2), (.ref b2)]))
  rw [i2c_mask]
  show OwnFin p e below s _ _ _ (T2.setTop (mkF m 42 #[.val (.long qn0), .second, .val (.long qx0), .second, .val (.long qy0), .second, .val (.long qm0), .second, .val (.int pf), .val (.long vn), .second, .val (.long vx), .second, .val (.long vm), .second, .unset, .unset, .unset, .unset, .unset, .unset, .unset, .unset, .unset, .unset, .unset] [(.int (((pf.toUInt32 >>> ((8 : Int32) &&& 31).toUInt32).toInt32) &&& (255 : Int32))), (.int (0 : Int32)), (.ref b2), (.ref b2)]))
  obtain ⟨T3, h3, X3, e3, W3, A3, st3⟩ := own_castore X2 hx hZ e2 V_b2 (i := 0) (by decide) (by decide) (g := (mkF m 42 #[.val (.long qn0), .second, .val (.long qx0), .second, .val (.long qy0), .second, .val (.long qm0), .second, .val (.int pf), .val (.long vn), .second, .val (.long vx), .second, .val (.long vm), .second, .unset, .unset, .unset, .unset, .unset, .unset, .unset, .unset, .unset, .unset, .unset] [(.int (((pf.toUInt32 >>> ((8 : Int32) &&& 31).toUInt32).toInt32) &&& (255 : Int32))), (.int (0 : Int32)), (.ref b2), (.ref b2)])) rfl rfl (hb hby at_42)
  have S_cs_3 := S_cs_2.wr W3
  have Z3 : n0 ≤ h3.size := Nat.le_trans Z2 (Keep.of_wr W3).1
  have N3 := Fr.snoc X3 N1 g_b2
  refine own_go st3 ?_
  show OwnFin p e below s _ _ _ (T3.setTop (mkF m 43 #[.val (.long qn0), .second, .val (.long qx0), .second, .val (.long qy0), .second, .val (.long qm0), .second, .val (.int pf), .val (.long vn), .second, .val (.long vx), .second, .val (.long vm), .second, .unset, .unset, .unset, .unset, .unset, .unset, .unset, .unset, .unset, .unset, .unset] [(.ref b2)]))
  refine own_go (fun t_ k_ => XS.dup X3.here hx rfl (hb hby at_43) rfl rfl k_) ?_
  show OwnFin p e below s _ _ _ (T3.setTop (mkF m 44 #[.val (.long qn0), .second, .val (.long qx0), .second, .val (.long qy0), .second, .val (.long qm0), .second, .val (.int pf), .val (.long vn), .second, .val (.long vx), .second, .val (.long vm), .second, .unset, .unset, .unset, .unset, .unset, .unset, .unset, .unset, .unset, .unset, .unset] [(.ref b2), (.ref b2)]))
  refine own_go (fun t_ k_ => XS.iconst X3.here hx rfl (hb hby at_44) k_) ?_
  show OwnFin p e below s _ _ _ (T3.setTop (mkF m 45 #[.val (.long qn0), .second, .val (.long qx0), .second, .val (.long qy0), .second, .val (.long qm0), .second, .val (.int pf), .val (.long vn), .second, .val (.long vx), .second, .val (.long vm), .second, .unset, .unset, .unset, .unset, .unset, .unset, .unset, .unset, .unset, .unset, .unset] [(.int (1 : Int32)), (.ref b2), (.ref b2)]))
  refine own_go (fun t_ k_ => XS.iload X3.here hx rfl (hb hby at_45) rfl k_) ?_
  show OwnFin p e below s _ _ _ (T3.setTop (mkF m 47 #[.val (.long qn0), .second, .val (.long qx0), .second, .val (.long qy0), .second, .val (.long qm0), .second, .val (.int pf), .val (.long vn), .second, .val (.long vx), .second, .val (.long vm), .second, .unset, .unset, .unset, .unset, .unset, .unset, .unset, .unset, .unset, .unset, .unset] [(.int pf), (.int (1 : Int32)), (.ref b2), (.ref b2)]))
  refine own_go (fun t_ k_ => XS.bipush X3.here hx rfl (hb hby at_47) k_) ?_
  show OwnFin p e below s _ _ _ (T3.setTop (mkF m 49 #[.val (.long qn0), .second, .val (.long qx0), .second, .val (.long qy0), .second, .val (.long qm0), .second, .val (.int pf), .val (.long vn), .second, .val (.long vx), .second, .val (.long vm), .second, .unset, .unset, .unset, .unset, .unset, .unset, .unset, .unset, .unset, .unset, .unset] [(.int (16 : Int32)), (.int pf), (.int (1 : Int32)), (.ref b2), (.ref b2)]))
  refine own_go (fun t_ k_ => XS.iushr X3.here hx rfl (hb hby at_49) rfl k_) ?_
  show OwnFin p e below s _ _ _ (T3.setTop (mkF m 50 #[.val (.long qn0), .second, .val (.long qx0), .second, .val (.long qy0), .second, .val (.long qm0), .second, .val (.int pf), .val (.long vn), .second, .val (.long vx), .second, .val (.long vm), .second, .unset, .unset, .unset, .unset, .unset, .unset, .unset, .unset, .unset, .unset, .unset] [(.int ((pf.toUInt32 >>> ((16 : Int32) &&& 31).toUInt32).toInt32)), (.int (1 : Int32)), (.ref b2), (.ref b2)]))
  refine own_go (fun t_ k_ => XS.sipush X3.here hx rfl (hb hby at_50) k_) ?_
  show OwnFin p e below s _ _ _ (T3.setTop (mkF m 53 #[.val (.long qn0), .second, .val (.long qx0), .second, .val (.long qy0), .second, .val (.long qm0), .second, .val (.int pf), .val (.long vn), .second, .val (.long vx), .second, .val (.long vm), .second, .unset, .unset, .unset, .unset, .unset, .unset, .unset, .unset, .unset, .unset, .unset] [(.int (255 : Int32)), (.int ((pf.toUInt32 >>> ((16 : Int32) &&& 31).toUInt32).toInt32)), (.int (1 : Int32)), (.ref b2), (.ref b2)]))
  refine own_go (fun t_ k_ => XS.iand X3.here hx rfl (hb hby at_53) rfl k_) ?_
  show OwnFin p e below s _ _ _ (T3.setTop (mkF m 54 #[.val (.long qn0), .second, .val (.long qx0), .second, .val (.long qy0), .second, .val (.long qm0), .second, .val (.int pf), .val (.long vn), .second, .val (.long vx), .second, .val (.long vm), .second, .unset, .unset, .unset, .unset, .unset, .unset, .unset, .unset, .unset, .unset, .unset] [(.int (((pf.toUInt32 >>> ((16 : Int32) &&& 31).toUInt32).toInt32) &&& (255 : Int32))), (.int (1 : Int32)), (.ref b2), (.ref b2)]))
  refine own_go (fun t_ k_ => XS.i2c X3.here hx rfl (hb hby at_54) rfl k_) ?_
  show OwnFin p e below s _ _ _ (T3.setTop (mkF m 55 #[.val (.long qn0), .second, .val (.long qx0), .second, .val (.long qy0), .second, .val (.long qm0), .second, .val (.int pf), .val (.long vn), .second, .val (.long vx), .second, .val (.long vm), .second, .unset, .unset, .unset, .unset, .unset, .unset, .unset, .unset, .unset, .unset, .unset] [(.int ((((pf.toUInt32 >>> ((16 : Int32) &&& 31).toUInt32).toInt32) &&& (255 : Int32)).toUInt32.toUInt16.toUInt32.toInt32)), (.int (1 : Int32)), (.ref b2), (.ref b2)]))
  rw [i2c_mask]
  show OwnFin p e below s _ _ _ (T3.setTop (mkF m 55 #[.val (.long qn0), .second, .val (.long qx0), .second, .val (.long qy0), .second, .val (.long qm0), .second, .val (.int pf), .val (.long vn), .second, .val (.long vx), .second, .val (.long vm), .second, .unset, .unset, .unset, .unset, .unset, .unset, .unset, .unset, .unset, .unset, .unset] [(.int (((pf.toUInt32 >>> ((16 : Int32) &&& 31).toUInt32).toInt32) &&& (255 : Int32))), (.int (1 : Int32)), (.ref b2), (.ref b2)]))
  obtain ⟨T4, h4, X4, e4, W4, A4, st4⟩ := own_castore X3 hx hZ e3 A3 (i := 1) (by decide) (by decide) (g := (mkF m 55 #[.val (.long qn0), .second, .val (.long qx0), .second, .val (.long qy0), .second, .val (.long qm0), .second, .val (.int pf), .val (.long vn), .second, .val (.long vx), .second, .val (.long vm), .second, .unset, .unset, .unset, .unset, .unset, .unset, .unset, .unset, .unset, .unset, .unset] [(.int (((pf.toUInt32 >>> ((16 : Int32) &&& 31).toUInt32).toInt32) &&& (255 : Int32))), (.int (1 : Int32)), (.ref b2), (.ref b2)])) rfl rfl (hb hby at_55)
  have S_cs_4 := S_cs_3.wr W4
  have Z4 : n0 ≤ h4.size := Nat.le_trans Z3 (Keep.of_wr W4).1
  have N4 := Fr.snoc X4 N3 g_b2
  refine own_go st4 ?_
  show OwnFin p e below s _ _ _ (T4.setTop (mkF m 56 #[.val (.long qn0), .second, .val (.long qx0), .second, .val (.long qy0), .second, .val (.long qm0), .second, .val (.int pf), .val (.long vn), .second, .val (.long vx), .second, .val (.long vm), .second, .unset, .unset, .unset, .unset, .unset, .unset, .unset, .unset, .unset, .unset, .unset] [(.ref b2)]))
  refine own_go (fun t_ k_ => XS.astore X4.here hx rfl (hb hby at_56) rfl rfl (l' := #[.val (.long qn0), .second, .val (.long qx0), .second, .val (.long qy0), .second, .val (.long qm0), .second, .val (.int pf), .val (.long vn), .second, .val (.long vx), .second, .val (.long vm), .second, .val (.ref b2), .unset, .unset, .unset, .unset, .unset, .unset, .unset, .unset, .unset, .unset]) rfl k_) ?_
  show OwnFin p e below s _ _ _ (T4.setTop (mkF m 58 #[.val (.long qn0), .second, .val (.long qx0), .second, .val (.long qy0), .second, .val (.long qm0), .second, .val (.int pf), .val (.long vn), .second, .val (.long vx), .second, .val (.long vm), .second, .val (.ref b2), .unset, .unset, .unset, .unset, .unset, .unset, .unset, .unset, .unset, .unset] []))
  obtain ⟨T5, h5, X5, e5, E5, A5, D5, -, st5⟩ := newO X4 hx hZ hown (hw _ (List.mem_of_getElem? (i := 6) rfl)) (hw _ (List.mem_of_getElem? (i := 7) rfl)) (hw _ (List.mem_of_getElem? (i := 8) rfl)) e4 (g := (mkF m 58 #[.val (.long qn0), .second, .val (.long qx0), .second, .val (.long qy0), .second, .val (.long qm0), .second, .val (.int pf), .val (.long vn), .second, .val (.long vx), .second, .val (.long vm), .second, .val (.ref b2), .unset, .unset, .unset, .unset, .unset, .unset, .unset, .unset, .unset, .unset] [])) rfl (hb hby at_58) (by decide) (by decide)
  obtain ⟨b5, g5⟩ : ∃ z, z = h4.size := ⟨_, rfl⟩
  rw [← g5] at A5 D5 st5
  have g_b5 : n0 ≤ b5 := Nat.le_trans Z4 (Nat.le_of_eq g5.symm)
  have ne_b2_b5 : b2 ≠ b5 := Nat.ne_of_lt (Nat.lt_of_lt_of_le A4.lt (Nat.le_of_eq g5.symm))
  have S_cs_5 := S_cs_4.ext E5
  have V_b2_5 := A4.ext E5
  have Z5 : n0 ≤ h5.size := Nat.le_trans Z4 E5.1
  have E_b5 := A5
  have F_coder_b5 : Fld Z h5 b5 "java/lang/String" "coder" "B" (.int (0 : Int32)) := D5 (Or.inr (hw _ (List.mem_of_getElem? (i := 32) rfl))) (ty := .byte) (by decide)
  have F_value_b5 : Fld Z h5 b5 "java/lang/String" "value" "[B" .null := D5 (Or.inr (hw _ (List.mem_of_getElem? (i := 34) rfl))) (ty := (.array .byte)) (by decide)
  refine own_go st5 ?_
  show OwnFin p e below s _ _ _ (T5.setTop (mkF m 61 #[.val (.long qn0), .second, .val (.long qx0), .second, .val (.long qy0), .second, .val (.long qm0), .second, .val (.int pf), .val (.long vn), .second, .val (.long vx), .second, .val (.long vm), .second, .val (.ref b2), .unset, .unset, .unset, .unset, .unset, .unset, .unset, .unset, .unset, .unset] [(.ref b5)]))
  refine own_go (fun t_ k_ => XS.dup X5.here hx rfl (hb hby at_61) rfl rfl k_) ?_
  show OwnFin p e below s _ _ _ (T5.setTop (mkF m 62 #[.val (.long qn0), .second, .val (.long qx0), .second, .val (.long qy0), .second, .val (.long qm0), .second, .val (.int pf), .val (.long vn), .second, .val (.long vx), .second, .val (.long vm), .second, .val (.ref b2), .unset, .unset, .unset, .unset, .unset, .unset, .unset, .unset, .unset, .unset] [(.ref b5), (.ref b5)]))
  refine own_go (fun t_ k_ => XS.aload X5.here hx rfl (hb hby at_62) rfl rfl k_) ?_
  show OwnFin p e below s _ _ _ (T5.setTop (mkF m 64 #[.val (.long qn0), .second, .val (.long qx0), .second, .val (.long qy0), .second, .val (.long qm0), .second, .val (.int pf), .val (.long vn), .second, .val (.long vx), .second, .val (.long vm), .second, .val (.ref b2), .unset, .unset, .unset, .unset, .unset, .unset, .unset, .unset, .unset, .unset] [(.ref b2), (.ref b5), (.ref b5)]))
  have hws : ∀ d ∈ StrChars.Road.words, d.before a0 Z = true := fun d hd => hw d ((by decide +kernel : ∀ d ∈ StrChars.Road.words, d ∈ tables_1) d hd)
  obtain ⟨kC, V_cs⟩ := own_arv2 V_b2_5 (x := (((pf.toUInt32 >>> ((8 : Int32) &&& 31).toUInt32).toInt32) &&& (255 : Int32))) (y := (((pf.toUInt32 >>> ((16 : Int32) &&& 31).toUInt32).toInt32) &&& (255 : Int32))) (congrArg Value.int (own_fc ((pf.toUInt32 >>> ((8 : Int32) &&& 31).toUInt32).toInt32))) (congrArg Value.int (own_fc ((pf.toUInt32 >>> ((16 : Int32) &&& 31).toUInt32).toInt32))) (own_fits ((pf.toUInt32 >>> ((8 : Int32) &&& 31).toUInt32).toInt32)) (own_fits ((pf.toUInt32 >>> ((16 : Int32) &&& 31).toUInt32).toInt32))
  obtain ⟨_, _, ⟨T6, L6, k6, n6⟩, -, X6, ⟨Lc6, hQ6, l6, y6, z6⟩, st6⟩ := X5.specialBack hx (y := (⟨"java/lang/String", "<init>", "([C)V"⟩ : MethodName)) rfl hown (mvT hZ (hw _ (List.mem_of_getElem? (i := 9) rfl))) (mvT hZ (hw _ (List.mem_of_getElem? (i := 10) rfl))) (mvT hZ (hw _ (List.mem_of_getElem? (i := 11) rfl))) (by decide) (StrChars.Road.backV (W := 1) hZ hws (kI := 4) (hw _ (List.mem_of_getElem? (i := 7) rfl)) (cs := [(((pf.toUInt32 >>> ((8 : Int32) &&& 31).toUInt32).toInt32) &&& (255 : Int32)), (((pf.toUInt32 >>> ((16 : Int32) &&& 31).toUInt32).toInt32) &&& (255 : Int32))]) (bs := _) (n := 2) g_b5 Z5 E_b5 F_value_b5 F_coder_b5 V_cs S_cs_5 hzc rfl rfl (by decide) (by decide) (by intro c hc; simp only [List.mem_cons, List.not_mem_nil, or_false] at hc; rcases hc with rfl | rfl <;> exact own_c255 _) rfl (by decide) (by decide)) (g := (mkF m 64 #[.val (.long qn0), .second, .val (.long qx0), .second, .val (.long qy0), .second, .val (.long qm0), .second, .val (.int pf), .val (.long vn), .second, .val (.long vx), .second, .val (.long vm), .second, .val (.ref b2), .unset, .unset, .unset, .unset, .unset, .unset, .unset, .unset, .unset, .unset] [(.ref b2), (.ref b5), (.ref b5)])) rfl (by rw [hml]; rfl) (Steps.refl _) (a := b5) (argsL := [(.ref b2)]) (rest := [(.ref b5)]) (lenOf pd_0_1 rfl) rfl (by show 2 * 0 + _ ≤ _; exact Nat.le_of_eq rfl) (hb hby at_64) (fun _ _ => ⟨rfl, e5, (by decide : 0 + 0 + 1 + 1 + 1 ≤ _), (by decide : 0 + 0 + 2 + 4 + 2 ≤ _)⟩)
  dsimp only [Pt.U, Pt.locs, Pt.cells, Pt.slots] at X6 l6 y6 z6 st6 hQ6
  subst l6 y6 z6
  obtain ⟨rfl, Nq6, Kq6, Eq6, -⟩ := hQ6
  have N6 := Fr.app N4 Nq6
  have E_b5_6 := E_b5.keep Kq6
  have Z6 : n0 ≤ T6.heap.size := Nat.le_trans Z5 Kq6.1
  refine own_go (fun t_ k_ => st6.trans k_) ?_
  show OwnFin p e below s _ _ _ (T6.setTop (mkF m 67 #[.val (.long qn0), .second, .val (.long qx0), .second, .val (.long qy0), .second, .val (.long qm0), .second, .val (.int pf), .val (.long vn), .second, .val (.long vx), .second, .val (.long vm), .second, .val (.ref b2), .unset, .unset, .unset, .unset, .unset, .unset, .unset, .unset, .unset, .unset] [(.ref b5)]))
  refine own_go (fun t_ k_ => XS.astore X6.here hx rfl (hb hby at_67) rfl rfl (l' := #[.val (.long qn0), .second, .val (.long qx0), .second, .val (.long qy0), .second, .val (.long qm0), .second, .val (.int pf), .val (.long vn), .second, .val (.long vx), .second, .val (.long vm), .second, .val (.ref b2), .val (.ref b5), .unset, .unset, .unset, .unset, .unset, .unset, .unset, .unset, .unset]) rfl k_) ?_
  show OwnFin p e below s _ _ _ (T6.setTop (mkF m 69 #[.val (.long qn0), .second, .val (.long qx0), .second, .val (.long qy0), .second, .val (.long qm0), .second, .val (.int pf), .val (.long vn), .second, .val (.long vx), .second, .val (.long vm), .second, .val (.ref b2), .val (.ref b5), .unset, .unset, .unset, .unset, .unset, .unset, .unset, .unset, .unset] []))
  obtain ⟨T7, h7, X7, e7, E7, A7, D7, -, st7⟩ := newO X6 hx hZ hown (hw _ (List.mem_of_getElem? (i := 35) rfl)) (hw _ (List.mem_of_getElem? (i := 36) rfl)) (hw _ (List.mem_of_getElem? (i := 37) rfl)) rfl (g := (mkF m 69 #[.val (.long qn0), .second, .val (.long qx0), .second, .val (.long qy0), .second, .val (.long qm0), .second, .val (.int pf), .val (.long vn), .second, .val (.long vx), .second, .val (.long vm), .second, .val (.ref b2), .val (.ref b5), .unset, .unset, .unset, .unset, .unset, .unset, .unset, .unset, .unset] [])) rfl (hb hby at_69) (by decide) (by decide)
  obtain ⟨b7, g7⟩ : ∃ z, z = T6.heap.size := ⟨_, rfl⟩
  rw [← g7] at A7 D7 st7
  have g_b7 : n0 ≤ b7 := Nat.le_trans Z6 (Nat.le_of_eq g7.symm)
  have ne_b5_b7 : b5 ≠ b7 := Nat.ne_of_lt (Nat.lt_of_lt_of_le E_b5_6.lt (Nat.le_of_eq g7.symm))
  have E_b5_7 := E_b5_6.ext E7
  have Z7 : n0 ≤ h7.size := Nat.le_trans Z6 E7.1
  have E_b7 := A7
  have F_computation_b7 : Fld Z h7 b7 "com/example/trapline/trapline/collect/Budget" "computation" "Ljava/lang/String;" .null := D7 (Or.inr (hw _ (List.mem_of_getElem? (i := 49) rfl))) (ty := (.object "java/lang/String")) (by decide)
  have F_operations_b7 : Fld Z h7 b7 "com/example/trapline/trapline/collect/Budget" "operations" "J" (.long (0 : Int64)) := D7 (Or.inr (hw _ (List.mem_of_getElem? (i := 51) rfl))) (ty := .long) (by decide)
  have F_whole_b7 : Fld Z h7 b7 "com/example/trapline/trapline/collect/Budget" "whole" "Lcom/example/trapline/trapline/collect/Budget;" .null := D7 (Or.inr (hw _ (List.mem_of_getElem? (i := 53) rfl))) (ty := (.object "com/example/trapline/trapline/collect/Budget")) (by decide)
  have F_left_b7 : Fld Z h7 b7 "com/example/trapline/trapline/collect/Budget" "left" "J" (.long (0 : Int64)) := D7 (Or.inl (hw _ (List.mem_of_getElem? (i := 55) rfl))) (ty := .long) (by decide)
  refine own_go st7 ?_
  show OwnFin p e below s _ _ _ (T7.setTop (mkF m 72 #[.val (.long qn0), .second, .val (.long qx0), .second, .val (.long qy0), .second, .val (.long qm0), .second, .val (.int pf), .val (.long vn), .second, .val (.long vx), .second, .val (.long vm), .second, .val (.ref b2), .val (.ref b5), .unset, .unset, .unset, .unset, .unset, .unset, .unset, .unset, .unset] [(.ref b7)]))
  refine own_go (fun t_ k_ => XS.dup X7.here hx rfl (hb hby at_72) rfl rfl k_) ?_
  show OwnFin p e below s _ _ _ (T7.setTop (mkF m 73 #[.val (.long qn0), .second, .val (.long qx0), .second, .val (.long qy0), .second, .val (.long qm0), .second, .val (.int pf), .val (.long vn), .second, .val (.long vx), .second, .val (.long vm), .second, .val (.ref b2), .val (.ref b5), .unset, .unset, .unset, .unset, .unset, .unset, .unset, .unset, .unset] [(.ref b7), (.ref b7)]))
  refine own_go (fun t_ k_ => XS.aload X7.here hx rfl (hb hby at_73) rfl rfl k_) ?_
  show OwnFin p e below s _ _ _ (T7.setTop (mkF m 75 #[.val (.long qn0), .second, .val (.long qx0), .second, .val (.long qy0), .second, .val (.long qm0), .second, .val (.int pf), .val (.long vn), .second, .val (.long vx), .second, .val (.long vm), .second, .val (.ref b2), .val (.ref b5), .unset, .unset, .unset, .unset, .unset, .unset, .unset, .unset, .unset] [(.ref b5), (.ref b7), (.ref b7)]))
  refine own_go (fun t_ k_ => XS.lload X7.here hx rfl (hb hby at_75) rfl k_) ?_
  show OwnFin p e below s _ _ _ (T7.setTop (mkF m 77 #[.val (.long qn0), .second, .val (.long qx0), .second, .val (.long qy0), .second, .val (.long qm0), .second, .val (.int pf), .val (.long vn), .second, .val (.long vx), .second, .val (.long vm), .second, .val (.ref b2), .val (.ref b5), .unset, .unset, .unset, .unset, .unset, .unset, .unset, .unset, .unset] [(.long vn), (.ref b5), (.ref b7), (.ref b7)]))
  obtain ⟨v8, T8, L8, X8, hQ8, st8⟩ := own_callI X7 hx hZ (y := (⟨"com/example/trapline/trapline/collect/Budget", "<init>", "(Ljava/lang/String;J)V"⟩ : MethodName)) rfl hown (hw _ (List.mem_of_getElem? (i := 38) rfl)) (hw _ (List.mem_of_getElem? (i := 39) rfl)) (hw _ (List.mem_of_getElem? (i := 37) rfl)) (hw _ (List.mem_of_getElem? (i := 40) rfl)) (by decide) (W := 1) (rm8 l Z a0 hw [] b7 b5 vn h7 n0 Z7 E_b7 g_b7 F_computation_b7 F_operations_b7 F_whole_b7 F_left_b7 (own_ge hvn)) (by decide) (by decide) (g := (mkF m 77 #[.val (.long qn0), .second, .val (.long qx0), .second, .val (.long qy0), .second, .val (.long qm0), .second, .val (.int pf), .val (.long vn), .second, .val (.long vx), .second, .val (.long vm), .second, .val (.ref b2), .val (.ref b5), .unset, .unset, .unset, .unset, .unset, .unset, .unset, .unset, .unset] [(.long vn), (.ref b5), (.ref b7), (.ref b7)])) rfl (by rw [hml]; rfl) (a := b7) (argsL := [(.ref b5), (.long vn)]) (rest := [(.ref b7)]) (lenOf pd_0_7 rfl) rfl (by show 2 * 0 + _ ≤ _; exact Nat.le_of_eq rfl) (hb hby at_77) e7 rfl (by decide) (by decide)
  obtain ⟨rfl, Nq8, Kq8, Eq8, Fq8_0, Fq8_1, Fq8_2, Fq8_3⟩ := hQ8
  have N8 := Fr.app N6 Nq8
  have E_b5_8 := E_b5_7.keep Kq8
  have E_b7_8 := E_b7.keep Kq8
  have Z8 : n0 ≤ T8.heap.size := Nat.le_trans Z7 Kq8.1
  refine own_go st8 ?_
  show OwnFin p e below s _ _ _ (T8.setTop (mkF m 80 #[.val (.long qn0), .second, .val (.long qx0), .second, .val (.long qy0), .second, .val (.long qm0), .second, .val (.int pf), .val (.long vn), .second, .val (.long vx), .second, .val (.long vm), .second, .val (.ref b2), .val (.ref b5), .unset, .unset, .unset, .unset, .unset, .unset, .unset, .unset, .unset] [(.ref b7)]))
  refine own_go (fun t_ k_ => XS.astore X8.here hx rfl (hb hby at_80) rfl rfl (l' := #[.val (.long qn0), .second, .val (.long qx0), .second, .val (.long qy0), .second, .val (.long qm0), .second, .val (.int pf), .val (.long vn), .second, .val (.long vx), .second, .val (.long vm), .second, .val (.ref b2), .val (.ref b5), .val (.ref b7), .unset, .unset, .unset, .unset, .unset, .unset, .unset, .unset]) rfl k_) ?_
  show OwnFin p e below s _ _ _ (T8.setTop (mkF m 82 #[.val (.long qn0), .second, .val (.long qx0), .second, .val (.long qy0), .second, .val (.long qm0), .second, .val (.int pf), .val (.long vn), .second, .val (.long vx), .second, .val (.long vm), .second, .val (.ref b2), .val (.ref b5), .val (.ref b7), .unset, .unset, .unset, .unset, .unset, .unset, .unset, .unset] []))
  refine own_go (fun t_ k_ => XS.aload X8.here hx rfl (hb hby at_82) rfl rfl k_) ?_
  show OwnFin p e below s _ _ _ (T8.setTop (mkF m 84 #[.val (.long qn0), .second, .val (.long qx0), .second, .val (.long qy0), .second, .val (.long qm0), .second, .val (.int pf), .val (.long vn), .second, .val (.long vx), .second, .val (.long vm), .second, .val (.ref b2), .val (.ref b5), .val (.ref b7), .unset, .unset, .unset, .unset, .unset, .unset, .unset, .unset] [(.ref b7)]))
  obtain ⟨v9, T9, L9, X9, hQ9, st9⟩ := own_callV X8 hx hZ (y := (⟨"com/example/trapline/trapline/collect/Budget", "isSpent", "()Z"⟩ : MethodName)) (z := (⟨"com/example/trapline/trapline/collect/Budget", "isSpent", "()Z"⟩ : MethodName)) hown (hw _ (List.mem_of_getElem? (i := 56) rfl)) (hw _ (List.mem_of_getElem? (i := 57) rfl)) (notFace_of_selects (args := #[]) (mvT hZ (hw _ (List.mem_of_getElem? (i := 59) rfl)))) (hw _ (List.mem_of_getElem? (i := 59) rfl)) (hw _ (List.mem_of_getElem? (i := 58) rfl)) (hw _ (List.mem_of_getElem? (i := 37) rfl)) (hw _ (List.mem_of_getElem? (i := 60) rfl)) (by decide) (W := 0) (rm11 l Z a0 hw [] b7 T8.heap n0 Z8 Fq8_3 (own_ge hvn)) (by decide) (by decide) Eq8 (g := (mkF m 84 #[.val (.long qn0), .second, .val (.long qx0), .second, .val (.long qy0), .second, .val (.long qm0), .second, .val (.int pf), .val (.long vn), .second, .val (.long vx), .second, .val (.long vm), .second, .val (.ref b2), .val (.ref b5), .val (.ref b7), .unset, .unset, .unset, .unset, .unset, .unset, .unset, .unset] [(.ref b7)])) rfl (by rw [hml]; rfl) (argsL := []) (rest := []) (lenOf pd_0_10 rfl) rfl (by show 2 * 0 + _ ≤ _; exact Nat.le_of_eq rfl) (hb hby at_84) rfl rfl (by decide) (by decide)
  obtain ⟨rfl, Nq9, e9⟩ := hQ9
  have N9 := Fr.app N8 Nq9
  refine own_go st9 ?_
  show OwnFin p e below s _ _ _ (T9.setTop (mkF m 87 #[.val (.long qn0), .second, .val (.long qx0), .second, .val (.long qy0), .second, .val (.long qm0), .second, .val (.int pf), .val (.long vn), .second, .val (.long vx), .second, .val (.long vm), .second, .val (.ref b2), .val (.ref b5), .val (.ref b7), .unset, .unset, .unset, .unset, .unset, .unset, .unset, .unset] [(.int (0 : Int32))]))
  refine own_go (fun t_ k_ => XS.ifNo X9.here hx rfl (hb hby at_87) rfl ((if0 _ _).trans (teq (by decide)).2) k_) ?_
  show OwnFin p e below s _ _ _ (T9.setTop (mkF m 90 #[.val (.long qn0), .second, .val (.long qx0), .second, .val (.long qy0), .second, .val (.long qm0), .second, .val (.int pf), .val (.long vn), .second, .val (.long vx), .second, .val (.long vm), .second, .val (.ref b2), .val (.ref b5), .val (.ref b7), .unset, .unset, .unset, .unset, .unset, .unset, .unset, .unset] []))
  refine own_go (fun t_ k_ => XS.iconst X9.here hx rfl (hb hby at_90) k_) ?_
  show OwnFin p e below s _ _ _ (T9.setTop (mkF m 91 #[.val (.long qn0), .second, .val (.long qx0), .second, .val (.long qy0), .second, .val (.long qm0), .second, .val (.int pf), .val (.long vn), .second, .val (.long vx), .second, .val (.long vm), .second, .val (.ref b2), .val (.ref b5), .val (.ref b7), .unset, .unset, .unset, .unset, .unset, .unset, .unset, .unset] [(.int (1 : Int32))]))
  refine own_go (fun t_ k_ => XS.goto X9.here hx rfl (pc0 := 91) (pc' := 95) rfl (hb hby at_91) (by decide) (by decide) k_) ?_
  show OwnFin p e below s _ _ _ (T9.setTop (mkF m 95 #[.val (.long qn0), .second, .val (.long qx0), .second, .val (.long qy0), .second, .val (.long qm0), .second, .val (.int pf), .val (.long vn), .second, .val (.long vx), .second, .val (.long vm), .second, .val (.ref b2), .val (.ref b5), .val (.ref b7), .unset, .unset, .unset, .unset, .unset, .unset, .unset, .unset] [(.int (1 : Int32))]))
  refine own_go (fun t_ k_ => XS.istore X9.here hx rfl (hb hby at_95) rfl (l' := #[.val (.long qn0), .second, .val (.long qx0), .second, .val (.long qy0), .second, .val (.long qm0), .second, .val (.int pf), .val (.long vn), .second, .val (.long vx), .second, .val (.long vm), .second, .val (.ref b2), .val (.ref b5), .val (.ref b7), .val (.int (1 : Int32)), .unset, .unset, .unset, .unset, .unset, .unset, .unset]) rfl k_) ?_
  show OwnFin p e below s _ _ _ (T9.setTop (mkF m 97 #[.val (.long qn0), .second, .val (.long qx0), .second, .val (.long qy0), .second, .val (.long qm0), .second, .val (.int pf), .val (.long vn), .second, .val (.long vx), .second, .val (.long vm), .second, .val (.ref b2), .val (.ref b5), .val (.ref b7), .val (.int (1 : Int32)), .unset, .unset, .unset, .unset, .unset, .unset, .unset] []))
  refine own_go (fun t_ k_ => XS.aload X9.here hx rfl (hb hby at_97) rfl rfl k_) ?_
  show OwnFin p e below s _ _ _ (T9.setTop (mkF m 99 #[.val (.long qn0), .second, .val (.long qx0), .second, .val (.long qy0), .second, .val (.long qm0), .second, .val (.int pf), .val (.long vn), .second, .val (.long vx), .second, .val (.long vm), .second, .val (.ref b2), .val (.ref b5), .val (.ref b7), .val (.int (1 : Int32)), .unset, .unset, .unset, .unset, .unset, .unset, .unset] [(.ref b7)]))
  refine own_go (fun t_ k_ => XS.lload X9.here hx rfl (hb hby at_99) rfl k_) ?_
  show OwnFin p e below s _ _ _ (T9.setTop (mkF m 101 #[.val (.long qn0), .second, .val (.long qx0), .second, .val (.long qy0), .second, .val (.long qm0), .second, .val (.int pf), .val (.long vn), .second, .val (.long vx), .second, .val (.long vm), .second, .val (.ref b2), .val (.ref b5), .val (.ref b7), .val (.int (1 : Int32)), .unset, .unset, .unset, .unset, .unset, .unset, .unset] [(.long vx), (.ref b7)]))
  have hs1 := own_sub (x := vn) (y := vx) hvx.1 hvx.2.2
  obtain ⟨v10, T10, L10, X10, hQ10, st10⟩ := own_callV X9 hx hZ (y := (⟨"com/example/trapline/trapline/collect/Budget", "spend", "(J)V"⟩ : MethodName)) (z := (⟨"com/example/trapline/trapline/collect/Budget", "spend", "(J)V"⟩ : MethodName)) hown (hw _ (List.mem_of_getElem? (i := 61) rfl)) (hw _ (List.mem_of_getElem? (i := 62) rfl)) (notFace_of_selects (args := #[]) (mvT hZ (hw _ (List.mem_of_getElem? (i := 64) rfl)))) (hw _ (List.mem_of_getElem? (i := 64) rfl)) (hw _ (List.mem_of_getElem? (i := 63) rfl)) (hw _ (List.mem_of_getElem? (i := 37) rfl)) (hw _ (List.mem_of_getElem? (i := 65) rfl)) (by decide) (W := 0) (rm12_N l Z a0 hw [] b7 vx T8.heap n0 Z8 Eq8 g_b7 Fq8_2 Fq8_3 (own_ge (by rw [hs1]; omega))) (by decide) (by decide) Eq8 (g := (mkF m 101 #[.val (.long qn0), .second, .val (.long qx0), .second, .val (.long qy0), .second, .val (.long qm0), .second, .val (.int pf), .val (.long vn), .second, .val (.long vx), .second, .val (.long vm), .second, .val (.ref b2), .val (.ref b5), .val (.ref b7), .val (.int (1 : Int32)), .unset, .unset, .unset, .unset, .unset, .unset, .unset] [(.long vx), (.ref b7)])) rfl (by rw [hml]; rfl) (argsL := [(.long vx)]) (rest := []) (lenOf pd_0_9 rfl) rfl (by show 2 * 0 + _ ≤ _; exact Nat.le_of_eq rfl) (hb hby at_101) e9 rfl (by decide) (by decide)
  obtain ⟨rfl, Nq10, Kq10, Fq10_w, Fq10_l⟩ := hQ10
  have N10 := Fr.app N9 Nq10
  have E_b5_10 := E_b5_8.keep Kq10
  have E_b7_10 := Eq8.keep Kq10
  have Z10 : n0 ≤ T10.heap.size := Nat.le_trans Z8 Kq10.1
  refine own_go st10 ?_
  show OwnFin p e below s _ _ _ (T10.setTop (mkF m 104 #[.val (.long qn0), .second, .val (.long qx0), .second, .val (.long qy0), .second, .val (.long qm0), .second, .val (.int pf), .val (.long vn), .second, .val (.long vx), .second, .val (.long vm), .second, .val (.ref b2), .val (.ref b5), .val (.ref b7), .val (.int (1 : Int32)), .unset, .unset, .unset, .unset, .unset, .unset, .unset] []))
  refine own_go (fun t_ k_ => XS.iload X10.here hx rfl (hb hby at_104) rfl k_) ?_
  show OwnFin p e below s _ _ _ (T10.setTop (mkF m 106 #[.val (.long qn0), .second, .val (.long qx0), .second, .val (.long qy0), .second, .val (.long qm0), .second, .val (.int pf), .val (.long vn), .second, .val (.long vx), .second, .val (.long vm), .second, .val (.ref b2), .val (.ref b5), .val (.ref b7), .val (.int (1 : Int32)), .unset, .unset, .unset, .unset, .unset, .unset, .unset] [(.int (1 : Int32))]))
  refine own_go (fun t_ k_ => XS.ifNo X10.here hx rfl (hb hby at_106) rfl ((if0 _ _).trans (feq (by decide)).1) k_) ?_
  show OwnFin p e below s _ _ _ (T10.setTop (mkF m 109 #[.val (.long qn0), .second, .val (.long qx0), .second, .val (.long qy0), .second, .val (.long qm0), .second, .val (.int pf), .val (.long vn), .second, .val (.long vx), .second, .val (.long vm), .second, .val (.ref b2), .val (.ref b5), .val (.ref b7), .val (.int (1 : Int32)), .unset, .unset, .unset, .unset, .unset, .unset, .unset] []))
  refine own_go (fun t_ k_ => XS.aload X10.here hx rfl (hb hby at_109) rfl rfl k_) ?_
  show OwnFin p e below s _ _ _ (T10.setTop (mkF m 111 #[.val (.long qn0), .second, .val (.long qx0), .second, .val (.long qy0), .second, .val (.long qm0), .second, .val (.int pf), .val (.long vn), .second, .val (.long vx), .second, .val (.long vm), .second, .val (.ref b2), .val (.ref b5), .val (.ref b7), .val (.int (1 : Int32)), .unset, .unset, .unset, .unset, .unset, .unset, .unset] [(.ref b7)]))
  obtain ⟨v11, T11, L11, X11, hQ11, st11⟩ := own_callV X10 hx hZ (y := (⟨"com/example/trapline/trapline/collect/Budget", "isSpent", "()Z"⟩ : MethodName)) (z := (⟨"com/example/trapline/trapline/collect/Budget", "isSpent", "()Z"⟩ : MethodName)) hown (hw _ (List.mem_of_getElem? (i := 56) rfl)) (hw _ (List.mem_of_getElem? (i := 57) rfl)) (notFace_of_selects (args := #[]) (mvT hZ (hw _ (List.mem_of_getElem? (i := 59) rfl)))) (hw _ (List.mem_of_getElem? (i := 59) rfl)) (hw _ (List.mem_of_getElem? (i := 58) rfl)) (hw _ (List.mem_of_getElem? (i := 37) rfl)) (hw _ (List.mem_of_getElem? (i := 60) rfl)) (by decide) (W := 0) (rm11 l Z a0 hw [] b7 T10.heap n0 Z10 Fq10_l (own_ge (by rw [hs1]; omega))) (by decide) (by decide) E_b7_10 (g := (mkF m 111 #[.val (.long qn0), .second, .val (.long qx0), .second, .val (.long qy0), .second, .val (.long qm0), .second, .val (.int pf), .val (.long vn), .second, .val (.long vx), .second, .val (.long vm), .second, .val (.ref b2), .val (.ref b5), .val (.ref b7), .val (.int (1 : Int32)), .unset, .unset, .unset, .unset, .unset, .unset, .unset] [(.ref b7)])) rfl (by rw [hml]; rfl) (argsL := []) (rest := []) (lenOf pd_0_10 rfl) rfl (by show 2 * 0 + _ ≤ _; exact Nat.le_of_eq rfl) (hb hby at_111) rfl rfl (by decide) (by decide)
  obtain ⟨rfl, Nq11, e11⟩ := hQ11
  have N11 := Fr.app N10 Nq11
  refine own_go st11 ?_
  show OwnFin p e below s _ _ _ (T11.setTop (mkF m 114 #[.val (.long qn0), .second, .val (.long qx0), .second, .val (.long qy0), .second, .val (.long qm0), .second, .val (.int pf), .val (.long vn), .second, .val (.long vx), .second, .val (.long vm), .second, .val (.ref b2), .val (.ref b5), .val (.ref b7), .val (.int (1 : Int32)), .unset, .unset, .unset, .unset, .unset, .unset, .unset] [(.int (0 : Int32))]))
  refine own_go (fun t_ k_ => XS.ifNo X11.here hx rfl (hb hby at_114) rfl ((if0 _ _).trans (teq (by decide)).2) k_) ?_
  show OwnFin p e below s _ _ _ (T11.setTop (mkF m 117 #[.val (.long qn0), .second, .val (.long qx0), .second, .val (.long qy0), .second, .val (.long qm0), .second, .val (.int pf), .val (.long vn), .second, .val (.long vx), .second, .val (.long vm), .second, .val (.ref b2), .val (.ref b5), .val (.ref b7), .val (.int (1 : Int32)), .unset, .unset, .unset, .unset, .unset, .unset, .unset] []))
  refine own_go (fun t_ k_ => XS.iconst X11.here hx rfl (hb hby at_117) k_) ?_
  show OwnFin p e below s _ _ _ (T11.setTop (mkF m 118 #[.val (.long qn0), .second, .val (.long qx0), .second, .val (.long qy0), .second, .val (.long qm0), .second, .val (.int pf), .val (.long vn), .second, .val (.long vx), .second, .val (.long vm), .second, .val (.ref b2), .val (.ref b5), .val (.ref b7), .val (.int (1 : Int32)), .unset, .unset, .unset, .unset, .unset, .unset, .unset] [(.int (1 : Int32))]))
  refine own_go (fun t_ k_ => XS.goto X11.here hx rfl (pc0 := 118) (pc' := 122) rfl (hb hby at_118) (by decide) (by decide) k_) ?_
  show OwnFin p e below s _ _ _ (T11.setTop (mkF m 122 #[.val (.long qn0), .second, .val (.long qx0), .second, .val (.long qy0), .second, .val (.long qm0), .second, .val (.int pf), .val (.long vn), .second, .val (.long vx), .second, .val (.long vm), .second, .val (.ref b2), .val (.ref b5), .val (.ref b7), .val (.int (1 : Int32)), .unset, .unset, .unset, .unset, .unset, .unset, .unset] [(.int (1 : Int32))]))
  refine own_go (fun t_ k_ => XS.istore X11.here hx rfl (hb hby at_122) rfl (l' := #[.val (.long qn0), .second, .val (.long qx0), .second, .val (.long qy0), .second, .val (.long qm0), .second, .val (.int pf), .val (.long vn), .second, .val (.long vx), .second, .val (.long vm), .second, .val (.ref b2), .val (.ref b5), .val (.ref b7), .val (.int (1 : Int32)), .unset, .unset, .unset, .unset, .unset, .unset, .unset]) rfl k_) ?_
  show OwnFin p e below s _ _ _ (T11.setTop (mkF m 124 #[.val (.long qn0), .second, .val (.long qx0), .second, .val (.long qy0), .second, .val (.long qm0), .second, .val (.int pf), .val (.long vn), .second, .val (.long vx), .second, .val (.long vm), .second, .val (.ref b2), .val (.ref b5), .val (.ref b7), .val (.int (1 : Int32)), .unset, .unset, .unset, .unset, .unset, .unset, .unset] []))
  refine own_go (fun t_ k_ => XS.lload X11.here hx rfl (hb hby at_124) rfl k_) ?_
  show OwnFin p e below s _ _ _ (T11.setTop (mkF m 126 #[.val (.long qn0), .second, .val (.long qx0), .second, .val (.long qy0), .second, .val (.long qm0), .second, .val (.int pf), .val (.long vn), .second, .val (.long vx), .second, .val (.long vm), .second, .val (.ref b2), .val (.ref b5), .val (.ref b7), .val (.int (1 : Int32)), .unset, .unset, .unset, .unset, .unset, .unset, .unset] [(.long vn)]))
  refine own_go (fun t_ k_ => XS.lload X11.here hx rfl (hb hby at_126) rfl k_) ?_
  show OwnFin p e below s _ _ _ (T11.setTop (mkF m 128 #[.val (.long qn0), .second, .val (.long qx0), .second, .val (.long qy0), .second, .val (.long qm0), .second, .val (.int pf), .val (.long vn), .second, .val (.long vx), .second, .val (.long vm), .second, .val (.ref b2), .val (.ref b5), .val (.ref b7), .val (.int (1 : Int32)), .unset, .unset, .unset, .unset, .unset, .unset, .unset] [(.long vx), (.long vn)]))
  refine own_go (fun t_ k_ => XS.lsub X11.here hx rfl (hb hby at_128) rfl k_) ?_
  show OwnFin p e below s _ _ _ (T11.setTop (mkF m 129 #[.val (.long qn0), .second, .val (.long qx0), .second, .val (.long qy0), .second, .val (.long qm0), .second, .val (.int pf), .val (.long vn), .second, .val (.long vx), .second, .val (.long vm), .second, .val (.ref b2), .val (.ref b5), .val (.ref b7), .val (.int (1 : Int32)), .unset, .unset, .unset, .unset, .unset, .unset, .unset] [(.long (vn - vx))]))
  refine own_go (fun t_ k_ => XS.lstore X11.here hx rfl (hb hby at_129) rfl (l' := #[.val (.long qn0), .second, .val (.long qx0), .second, .val (.long qy0), .second, .val (.long qm0), .second, .val (.int pf), .val (.long vn), .second, .val (.long vx), .second, .val (.long vm), .second, .val (.ref b2), .val (.ref b5), .val (.ref b7), .val (.int (1 : Int32)), .val (.long (vn - vx)), .second, .unset, .unset, .unset, .unset, .unset]) rfl k_) ?_
  show OwnFin p e below s _ _ _ (T11.setTop (mkF m 131 #[.val (.long qn0), .second, .val (.long qx0), .second, .val (.long qy0), .second, .val (.long qm0), .second, .val (.int pf), .val (.long vn), .second, .val (.long vx), .second, .val (.long vm), .second, .val (.ref b2), .val (.ref b5), .val (.ref b7), .val (.int (1 : Int32)), .val (.long (vn - vx)), .second, .unset, .unset, .unset, .unset, .unset] []))
  refine own_go (fun t_ k_ => XS.aload X11.here hx rfl (hb hby at_131) rfl rfl k_) ?_
  show OwnFin p e below s _ _ _ (T11.setTop (mkF m 133 #[.val (.long qn0), .second, .val (.long qx0), .second, .val (.long qy0), .second, .val (.long qm0), .second, .val (.int pf), .val (.long vn), .second, .val (.long vx), .second, .val (.long vm), .second, .val (.ref b2), .val (.ref b5), .val (.ref b7), .val (.int (1 : Int32)), .val (.long (vn - vx)), .second, .unset, .unset, .unset, .unset, .unset] [(.ref b7)]))
  refine own_go (fun t_ k_ => XS.aload X11.here hx rfl (hb hby at_133) rfl rfl k_) ?_
  show OwnFin p e below s _ _ _ (T11.setTop (mkF m 135 #[.val (.long qn0), .second, .val (.long qx0), .second, .val (.long qy0), .second, .val (.long qm0), .second, .val (.int pf), .val (.long vn), .second, .val (.long vx), .second, .val (.long vm), .second, .val (.ref b2), .val (.ref b5), .val (.ref b7), .val (.int (1 : Int32)), .val (.long (vn - vx)), .second, .unset, .unset, .unset, .unset, .unset] [(.ref b5), (.ref b7)]))
  refine own_go (fun t_ k_ => XS.lload X11.here hx rfl (hb hby at_135) rfl k_) ?_
  show OwnFin p e below s _ _ _ (T11.setTop (mkF m 137 #[.val (.long qn0), .second, .val (.long qx0), .second, .val (.long qy0), .second, .val (.long qm0), .second, .val (.int pf), .val (.long vn), .second, .val (.long vx), .second, .val (.long vm), .second, .val (.ref b2), .val (.ref b5), .val (.ref b7), .val (.int (1 : Int32)), .val (.long (vn - vx)), .second, .unset, .unset, .unset, .unset, .unset] [(.long vm), (.ref b5), (.ref b7)]))
  obtain ⟨v12, T12, L12, X12, hQ12, st12⟩ := own_callV X11 hx hZ (y := (⟨"com/example/trapline/trapline/collect/Budget", "part", "(Ljava/lang/String;J)Lcom/example/trapline/trapline/collect/Budget;"⟩ : MethodName)) (z := (⟨"com/example/trapline/trapline/collect/Budget", "part", "(Ljava/lang/String;J)Lcom/example/trapline/trapline/collect/Budget;"⟩ : MethodName)) hown (hw _ (List.mem_of_getElem? (i := 66) rfl)) (hw _ (List.mem_of_getElem? (i := 67) rfl)) (notFace_of_selects (args := #[]) (mvT hZ (hw _ (List.mem_of_getElem? (i := 69) rfl)))) (hw _ (List.mem_of_getElem? (i := 69) rfl)) (hw _ (List.mem_of_getElem? (i := 68) rfl)) (hw _ (List.mem_of_getElem? (i := 37) rfl)) (hw _ (List.mem_of_getElem? (i := 70) rfl)) (by decide) (W := 0) (rm13 l Z a0 hw [] b7 b5 vm T10.heap n0 Z10 (own_ge hvm)) (by decide) (by decide) E_b7_10 (g := (mkF m 137 #[.val (.long qn0), .second, .val (.long qx0), .second, .val (.long qy0), .second, .val (.long qm0), .second, .val (.int pf), .val (.long vn), .second, .val (.long vx), .second, .val (.long vm), .second, .val (.ref b2), .val (.ref b5), .val (.ref b7), .val (.int (1 : Int32)), .val (.long (vn - vx)), .second, .unset, .unset, .unset, .unset, .unset] [(.long vm), (.ref b5), (.ref b7)])) rfl (by rw [hml]; rfl) (argsL := [(.ref b5), (.long vm)]) (rest := []) (lenOf pd_0_11 rfl) rfl (by show 2 * 0 + _ ≤ _; exact Nat.le_of_eq rfl) (hb hby at_137) e11 rfl (by decide) (by decide)
  obtain ⟨r12, rfl, Nq12, Kq12, sq12, Eq12, Fq12_0, Fq12_1⟩ := hQ12
  have N12 := Fr.app N11 Nq12
  have g_r12 : n0 ≤ r12 := Nat.le_trans Z10 sq12
  have ne_b5_r12 : b5 ≠ r12 := Nat.ne_of_lt (Nat.lt_of_lt_of_le E_b5_10.lt sq12)
  have ne_b7_r12 : b7 ≠ r12 := Nat.ne_of_lt (Nat.lt_of_lt_of_le E_b7_10.lt sq12)
  have E_b5_12 := E_b5_10.keep Kq12
  have E_b7_12 := E_b7_10.keep Kq12
  have Fq10_w_12 := Fq10_w.keep Kq12 nin0
  have Fq10_l_12 := Fq10_l.keep Kq12 nin0
  have Z12 : n0 ≤ T12.heap.size := Nat.le_trans Z10 Kq12.1
  refine own_go st12 ?_
  show OwnFin p e below s _ _ _ (T12.setTop (mkF m 140 #[.val (.long qn0), .second, .val (.long qx0), .second, .val (.long qy0), .second, .val (.long qm0), .second, .val (.int pf), .val (.long vn), .second, .val (.long vx), .second, .val (.long vm), .second, .val (.ref b2), .val (.ref b5), .val (.ref b7), .val (.int (1 : Int32)), .val (.long (vn - vx)), .second, .unset, .unset, .unset, .unset, .unset] [(.ref r12)]))
  refine own_go (fun t_ k_ => XS.astore X12.here hx rfl (hb hby at_140) rfl rfl (l' := #[.val (.long qn0), .second, .val (.long qx0), .second, .val (.long qy0), .second, .val (.long qm0), .second, .val (.int pf), .val (.long vn), .second, .val (.long vx), .second, .val (.long vm), .second, .val (.ref b2), .val (.ref b5), .val (.ref b7), .val (.int (1 : Int32)), .val (.long (vn - vx)), .second, .val (.ref r12), .unset, .unset, .unset, .unset]) rfl k_) ?_
  show OwnFin p e below s _ _ _ (T12.setTop (mkF m 142 #[.val (.long qn0), .second, .val (.long qx0), .second, .val (.long qy0), .second, .val (.long qm0), .second, .val (.int pf), .val (.long vn), .second, .val (.long vx), .second, .val (.long vm), .second, .val (.ref b2), .val (.ref b5), .val (.ref b7), .val (.int (1 : Int32)), .val (.long (vn - vx)), .second, .val (.ref r12), .unset, .unset, .unset, .unset] []))
  refine own_go (fun t_ k_ => XS.iload X12.here hx rfl (hb hby at_142) rfl k_) ?_
  show OwnFin p e below s _ _ _ (T12.setTop (mkF m 144 #[.val (.long qn0), .second, .val (.long qx0), .second, .val (.long qy0), .second, .val (.long qm0), .second, .val (.int pf), .val (.long vn), .second, .val (.long vx), .second, .val (.long vm), .second, .val (.ref b2), .val (.ref b5), .val (.ref b7), .val (.int (1 : Int32)), .val (.long (vn - vx)), .second, .val (.ref r12), .unset, .unset, .unset, .unset] [(.int (1 : Int32))]))
  refine own_go (fun t_ k_ => XS.ifNo X12.here hx rfl (hb hby at_144) rfl ((if0 _ _).trans (feq (by decide)).1) k_) ?_
  show OwnFin p e below s _ _ _ (T12.setTop (mkF m 147 #[.val (.long qn0), .second, .val (.long qx0), .second, .val (.long qy0), .second, .val (.long qm0), .second, .val (.int pf), .val (.long vn), .second, .val (.long vx), .second, .val (.long vm), .second, .val (.ref b2), .val (.ref b5), .val (.ref b7), .val (.int (1 : Int32)), .val (.long (vn - vx)), .second, .val (.ref r12), .unset, .unset, .unset, .unset] []))
  refine own_go (fun t_ k_ => XS.aload X12.here hx rfl (hb hby at_147) rfl rfl k_) ?_
  show OwnFin p e below s _ _ _ (T12.setTop (mkF m 149 #[.val (.long qn0), .second, .val (.long qx0), .second, .val (.long qy0), .second, .val (.long qm0), .second, .val (.int pf), .val (.long vn), .second, .val (.long vx), .second, .val (.long vm), .second, .val (.ref b2), .val (.ref b5), .val (.ref b7), .val (.int (1 : Int32)), .val (.long (vn - vx)), .second, .val (.ref r12), .unset, .unset, .unset, .unset] [(.ref r12)]))
  obtain ⟨v13, T13, L13, X13, hQ13, st13⟩ := own_callV X12 hx hZ (y := (⟨"com/example/trapline/trapline/collect/Budget", "isSpent", "()Z"⟩ : MethodName)) (z := (⟨"com/example/trapline/trapline/collect/Budget", "isSpent", "()Z"⟩ : MethodName)) hown (hw _ (List.mem_of_getElem? (i := 56) rfl)) (hw _ (List.mem_of_getElem? (i := 57) rfl)) (notFace_of_selects (args := #[]) (mvT hZ (hw _ (List.mem_of_getElem? (i := 59) rfl)))) (hw _ (List.mem_of_getElem? (i := 59) rfl)) (hw _ (List.mem_of_getElem? (i := 58) rfl)) (hw _ (List.mem_of_getElem? (i := 37) rfl)) (hw _ (List.mem_of_getElem? (i := 60) rfl)) (by decide) (W := 0) (rm11 l Z a0 hw [] r12 T12.heap n0 Z12 Fq12_1 (own_ge hvm)) (by decide) (by decide) Eq12 (g := (mkF m 149 #[.val (.long qn0), .second, .val (.long qx0), .second, .val (.long qy0), .second, .val (.long qm0), .second, .val (.int pf), .val (.long vn), .second, .val (.long vx), .second, .val (.long vm), .second, .val (.ref b2), .val (.ref b5), .val (.ref b7), .val (.int (1 : Int32)), .val (.long (vn - vx)), .second, .val (.ref r12), .unset, .unset, .unset, .unset] [(.ref r12)])) rfl (by rw [hml]; rfl) (argsL := []) (rest := []) (lenOf pd_0_10 rfl) rfl (by show 2 * 0 + _ ≤ _; exact Nat.le_of_eq rfl) (hb hby at_149) rfl rfl (by decide) (by decide)
  obtain ⟨rfl, Nq13, e13⟩ := hQ13
  have N13 := Fr.app N12 Nq13
  refine own_go st13 ?_
  show OwnFin p e below s _ _ _ (T13.setTop (mkF m 152 #[.val (.long qn0), .second, .val (.long qx0), .second, .val (.long qy0), .second, .val (.long qm0), .second, .val (.int pf), .val (.long vn), .second, .val (.long vx), .second, .val (.long vm), .second, .val (.ref b2), .val (.ref b5), .val (.ref b7), .val (.int (1 : Int32)), .val (.long (vn - vx)), .second, .val (.ref r12), .unset, .unset, .unset, .unset] [(.int (0 : Int32))]))
  refine own_go (fun t_ k_ => XS.ifNo X13.here hx rfl (hb hby at_152) rfl ((if0 _ _).trans (teq (by decide)).2) k_) ?_
  show OwnFin p e below s _ _ _ (T13.setTop (mkF m 155 #[.val (.long qn0), .second, .val (.long qx0), .second, .val (.long qy0), .second, .val (.long qm0), .second, .val (.int pf), .val (.long vn), .second, .val (.long vx), .second, .val (.long vm), .second, .val (.ref b2), .val (.ref b5), .val (.ref b7), .val (.int (1 : Int32)), .val (.long (vn - vx)), .second, .val (.ref r12), .unset, .unset, .unset, .unset] []))
  refine own_go (fun t_ k_ => XS.iconst X13.here hx rfl (hb hby at_155) k_) ?_
  show OwnFin p e below s _ _ _ (T13.setTop (mkF m 156 #[.val (.long qn0), .second, .val (.long qx0), .second, .val (.long qy0), .second, .val (.long qm0), .second, .val (.int pf), .val (.long vn), .second, .val (.long vx), .second, .val (.long vm), .second, .val (.ref b2), .val (.ref b5), .val (.ref b7), .val (.int (1 : Int32)), .val (.long (vn - vx)), .second, .val (.ref r12), .unset, .unset, .unset, .unset] [(.int (1 : Int32))]))
  refine own_go (fun t_ k_ => XS.goto X13.here hx rfl (pc0 := 156) (pc' := 160) rfl (hb hby at_156) (by decide) (by decide) k_) ?_
  show OwnFin p e below s _ _ _ (T13.setTop (mkF m 160 #[.val (.long qn0), .second, .val (.long qx0), .second, .val (.long qy0), .second, .val (.long qm0), .second, .val (.int pf), .val (.long vn), .second, .val (.long vx), .second, .val (.long vm), .second, .val (.ref b2), .val (.ref b5), .val (.ref b7), .val (.int (1 : Int32)), .val (.long (vn - vx)), .second, .val (.ref r12), .unset, .unset, .unset, .unset] [(.int (1 : Int32))]))
  refine own_go (fun t_ k_ => XS.istore X13.here hx rfl (hb hby at_160) rfl (l' := #[.val (.long qn0), .second, .val (.long qx0), .second, .val (.long qy0), .second, .val (.long qm0), .second, .val (.int pf), .val (.long vn), .second, .val (.long vx), .second, .val (.long vm), .second, .val (.ref b2), .val (.ref b5), .val (.ref b7), .val (.int (1 : Int32)), .val (.long (vn - vx)), .second, .val (.ref r12), .unset, .unset, .unset, .unset]) rfl k_) ?_
  show OwnFin p e below s _ _ _ (T13.setTop (mkF m 162 #[.val (.long qn0), .second, .val (.long qx0), .second, .val (.long qy0), .second, .val (.long qm0), .second, .val (.int pf), .val (.long vn), .second, .val (.long vx), .second, .val (.long vm), .second, .val (.ref b2), .val (.ref b5), .val (.ref b7), .val (.int (1 : Int32)), .val (.long (vn - vx)), .second, .val (.ref r12), .unset, .unset, .unset, .unset] []))
  have hl1 : 0 ≤ (vn - vx).toInt := by rw [hs1]; omega
  refine own_go (fun t_ k_ => XS.lload X13.here hx rfl (hb hby at_162) rfl k_) ?_
  show OwnFin p e below s _ _ _ (T13.setTop (mkF m 164 #[.val (.long qn0), .second, .val (.long qx0), .second, .val (.long qy0), .second, .val (.long qm0), .second, .val (.int pf), .val (.long vn), .second, .val (.long vx), .second, .val (.long vm), .second, .val (.ref b2), .val (.ref b5), .val (.ref b7), .val (.int (1 : Int32)), .val (.long (vn - vx)), .second, .val (.ref r12), .unset, .unset, .unset, .unset] [(.long (vn - vx))]))
  refine own_go (fun t_ k_ => XS.lload X13.here hx rfl (hb hby at_164) rfl k_) ?_
  show OwnFin p e below s _ _ _ (T13.setTop (mkF m 166 #[.val (.long qn0), .second, .val (.long qx0), .second, .val (.long qy0), .second, .val (.long qm0), .second, .val (.int pf), .val (.long vn), .second, .val (.long vx), .second, .val (.long vm), .second, .val (.ref b2), .val (.ref b5), .val (.ref b7), .val (.int (1 : Int32)), .val (.long (vn - vx)), .second, .val (.ref r12), .unset, .unset, .unset, .unset] [(.long vm), (.long (vn - vx))]))
  obtain ⟨v14, T14, L14, X14, hQ14, st14⟩ := own_callS X13 hx hZ (y := (⟨"java/lang/Math", "min", "(JJ)J"⟩ : MethodName)) hown (hw _ (List.mem_of_getElem? (i := 1) rfl)) (hw _ (List.mem_of_getElem? (i := 2) rfl)) (hw _ (List.mem_of_getElem? (i := 3) rfl)) (hw _ (List.mem_of_getElem? (i := 4) rfl)) (by decide) (W := 0) (rm1 l Z a0 hw [] (vn - vx) vm T12.heap n0 Z12) (by decide) (by decide) (g := (mkF m 166 #[.val (.long qn0), .second, .val (.long qx0), .second, .val (.long qy0), .second, .val (.long qm0), .second, .val (.int pf), .val (.long vn), .second, .val (.long vx), .second, .val (.long vm), .second, .val (.ref b2), .val (.ref b5), .val (.ref b7), .val (.int (1 : Int32)), .val (.long (vn - vx)), .second, .val (.ref r12), .unset, .unset, .unset, .unset] [(.long vm), (.long (vn - vx))])) rfl (by rw [hml]; rfl) (argsL := [(.long (vn - vx)), (.long vm)]) (rest := []) (lenOf pd_0_0 rfl) rfl (by show 2 * 0 + _ ≤ _; exact Nat.le_of_eq rfl) (hb hby at_166) e13 rfl (by decide) (by decide)
  obtain ⟨rfl, Nq14, e14⟩ := hQ14
  have N14 := Fr.app N13 Nq14
  refine own_go st14 ?_
  show OwnFin p e below s _ _ _ (T14.setTop (mkF m 169 #[.val (.long qn0), .second, .val (.long qx0), .second, .val (.long qy0), .second, .val (.long qm0), .second, .val (.int pf), .val (.long vn), .second, .val (.long vx), .second, .val (.long vm), .second, .val (.ref b2), .val (.ref b5), .val (.ref b7), .val (.int (1 : Int32)), .val (.long (vn - vx)), .second, .val (.ref r12), .unset, .unset, .unset, .unset] [(.long (own_minL (vn - vx) vm))]))
  refine own_go (fun t_ k_ => XS.lstore X14.here hx rfl (hb hby at_169) rfl (l' := #[.val (.long qn0), .second, .val (.long qx0), .second, .val (.long qy0), .second, .val (.long qm0), .second, .val (.int pf), .val (.long vn), .second, .val (.long vx), .second, .val (.long vm), .second, .val (.ref b2), .val (.ref b5), .val (.ref b7), .val (.int (1 : Int32)), .val (.long (vn - vx)), .second, .val (.ref r12), .val (.long (own_minL (vn - vx) vm)), .second, .unset, .unset]) rfl k_) ?_
  show OwnFin p e below s _ _ _ (T14.setTop (mkF m 171 #[.val (.long qn0), .second, .val (.long qx0), .second, .val (.long qy0), .second, .val (.long qm0), .second, .val (.int pf), .val (.long vn), .second, .val (.long vx), .second, .val (.long vm), .second, .val (.ref b2), .val (.ref b5), .val (.ref b7), .val (.int (1 : Int32)), .val (.long (vn - vx)), .second, .val (.ref r12), .val (.long (own_minL (vn - vx) vm)), .second, .unset, .unset] []))
  have hvc := own_min (vn - vx) vm hl1 hvm
  generalize (own_minL (vn - vx) vm) = vc at hvc ⊢
  show OwnFin p e below s _ _ _ (T14.setTop (mkF m 171 #[.val (.long qn0), .second, .val (.long qx0), .second, .val (.long qy0), .second, .val (.long qm0), .second, .val (.int pf), .val (.long vn), .second, .val (.long vx), .second, .val (.long vm), .second, .val (.ref b2), .val (.ref b5), .val (.ref b7), .val (.int (1 : Int32)), .val (.long (vn - vx)), .second, .val (.ref r12), .val (.long vc), .second, .unset, .unset] []))
  refine own_go (fun t_ k_ => XS.lload X14.here hx rfl (hb hby at_171) rfl k_) ?_
  show OwnFin p e below s _ _ _ (T14.setTop (mkF m 173 #[.val (.long qn0), .second, .val (.long qx0), .second, .val (.long qy0), .second, .val (.long qm0), .second, .val (.int pf), .val (.long vn), .second, .val (.long vx), .second, .val (.long vm), .second, .val (.ref b2), .val (.ref b5), .val (.ref b7), .val (.int (1 : Int32)), .val (.long (vn - vx)), .second, .val (.ref r12), .val (.long vc), .second, .unset, .unset] [(.long qy0)]))
  refine own_go (X14.ldc2Long hx hown (mvT hZ (hw _ (List.mem_of_getElem? (i := 0) rfl))) (g := (mkF m 173 #[.val (.long qn0), .second, .val (.long qx0), .second, .val (.long qy0), .second, .val (.long qm0), .second, .val (.int pf), .val (.long vn), .second, .val (.long vx), .second, .val (.long vm), .second, .val (.ref b2), .val (.ref b5), .val (.ref b7), .val (.int (1 : Int32)), .val (.long (vn - vx)), .second, .val (.ref r12), .val (.long vc), .second, .unset, .unset] [(.long qy0)])) rfl (hb hby at_173)) ?_
  show OwnFin p e below s _ _ _ (T14.setTop (mkF m 176 #[.val (.long qn0), .second, .val (.long qx0), .second, .val (.long qy0), .second, .val (.long qm0), .second, .val (.int pf), .val (.long vn), .second, .val (.long vx), .second, .val (.long vm), .second, .val (.ref b2), .val (.ref b5), .val (.ref b7), .val (.int (1 : Int32)), .val (.long (vn - vx)), .second, .val (.ref r12), .val (.long vc), .second, .unset, .unset] [(.long (9223372036854775807 : Int64)), (.long qy0)]))
  refine own_go (fun t_ k_ => XS.land X14.here hx rfl (hb hby at_176) rfl k_) ?_
  show OwnFin p e below s _ _ _ (T14.setTop (mkF m 177 #[.val (.long qn0), .second, .val (.long qx0), .second, .val (.long qy0), .second, .val (.long qm0), .second, .val (.int pf), .val (.long vn), .second, .val (.long vx), .second, .val (.long vm), .second, .val (.ref b2), .val (.ref b5), .val (.ref b7), .val (.int (1 : Int32)), .val (.long (vn - vx)), .second, .val (.ref r12), .val (.long vc), .second, .unset, .unset] [(.long (qy0 &&& (9223372036854775807 : Int64)))]))
  refine own_go (fun t_ k_ => XS.lload X14.here hx rfl (hb hby at_177) rfl k_) ?_
  show OwnFin p e below s _ _ _ (T14.setTop (mkF m 179 #[.val (.long qn0), .second, .val (.long qx0), .second, .val (.long qy0), .second, .val (.long qm0), .second, .val (.int pf), .val (.long vn), .second, .val (.long vx), .second, .val (.long vm), .second, .val (.ref b2), .val (.ref b5), .val (.ref b7), .val (.int (1 : Int32)), .val (.long (vn - vx)), .second, .val (.ref r12), .val (.long vc), .second, .unset, .unset] [(.long vc), (.long (qy0 &&& (9223372036854775807 : Int64)))]))
  obtain ⟨v15, T15, L15, X15, hQ15, st15⟩ := own_callS X14 hx hZ (y := (⟨"java/lang/Math", "min", "(JJ)J"⟩ : MethodName)) hown (hw _ (List.mem_of_getElem? (i := 1) rfl)) (hw _ (List.mem_of_getElem? (i := 2) rfl)) (hw _ (List.mem_of_getElem? (i := 3) rfl)) (hw _ (List.mem_of_getElem? (i := 4) rfl)) (by decide) (W := 0) (rm1 l Z a0 hw [] (qy0 &&& (9223372036854775807 : Int64)) vc T12.heap n0 Z12) (by decide) (by decide) (g := (mkF m 179 #[.val (.long qn0), .second, .val (.long qx0), .second, .val (.long qy0), .second, .val (.long qm0), .second, .val (.int pf), .val (.long vn), .second, .val (.long vx), .second, .val (.long vm), .second, .val (.ref b2), .val (.ref b5), .val (.ref b7), .val (.int (1 : Int32)), .val (.long (vn - vx)), .second, .val (.ref r12), .val (.long vc), .second, .unset, .unset] [(.long vc), (.long (qy0 &&& (9223372036854775807 : Int64)))])) rfl (by rw [hml]; rfl) (argsL := [(.long (qy0 &&& (9223372036854775807 : Int64))), (.long vc)]) (rest := []) (lenOf pd_0_0 rfl) rfl (by show 2 * 0 + _ ≤ _; exact Nat.le_of_eq rfl) (hb hby at_179) e14 rfl (by decide) (by decide)
  obtain ⟨rfl, Nq15, e15⟩ := hQ15
  have N15 := Fr.app N14 Nq15
  refine own_go st15 ?_
  show OwnFin p e below s _ _ _ (T15.setTop (mkF m 182 #[.val (.long qn0), .second, .val (.long qx0), .second, .val (.long qy0), .second, .val (.long qm0), .second, .val (.int pf), .val (.long vn), .second, .val (.long vx), .second, .val (.long vm), .second, .val (.ref b2), .val (.ref b5), .val (.ref b7), .val (.int (1 : Int32)), .val (.long (vn - vx)), .second, .val (.ref r12), .val (.long vc), .second, .unset, .unset] [(.long (own_minL (qy0 &&& (9223372036854775807 : Int64)) vc))]))
  refine own_go (fun t_ k_ => XS.lstore X15.here hx rfl (hb hby at_182) rfl (l' := #[.val (.long qn0), .second, .val (.long qx0), .second, .val (.long qy0), .second, .val (.long qm0), .second, .val (.int pf), .val (.long vn), .second, .val (.long vx), .second, .val (.long vm), .second, .val (.ref b2), .val (.ref b5), .val (.ref b7), .val (.int (1 : Int32)), .val (.long (vn - vx)), .second, .val (.ref r12), .val (.long vc), .second, .val (.long (own_minL (qy0 &&& (9223372036854775807 : Int64)) vc)), .second]) rfl k_) ?_
  show OwnFin p e below s _ _ _ (T15.setTop (mkF m 184 #[.val (.long qn0), .second, .val (.long qx0), .second, .val (.long qy0), .second, .val (.long qm0), .second, .val (.int pf), .val (.long vn), .second, .val (.long vx), .second, .val (.long vm), .second, .val (.ref b2), .val (.ref b5), .val (.ref b7), .val (.int (1 : Int32)), .val (.long (vn - vx)), .second, .val (.ref r12), .val (.long vc), .second, .val (.long (own_minL (qy0 &&& (9223372036854775807 : Int64)) vc)), .second] []))
  have hvy := own_min (qy0 &&& (9223372036854775807 : Int64)) vc (own_nnL qy0) hvc.1
  generalize (own_minL (qy0 &&& (9223372036854775807 : Int64)) vc) = vy at hvy ⊢
  show OwnFin p e below s _ _ _ (T15.setTop (mkF m 184 #[.val (.long qn0), .second, .val (.long qx0), .second, .val (.long qy0), .second, .val (.long qm0), .second, .val (.int pf), .val (.long vn), .second, .val (.long vx), .second, .val (.long vm), .second, .val (.ref b2), .val (.ref b5), .val (.ref b7), .val (.int (1 : Int32)), .val (.long (vn - vx)), .second, .val (.ref r12), .val (.long vc), .second, .val (.long vy), .second] []))
  refine own_go (fun t_ k_ => XS.iload X15.here hx rfl (hb hby at_184) rfl k_) ?_
  show OwnFin p e below s _ _ _ (T15.setTop (mkF m 186 #[.val (.long qn0), .second, .val (.long qx0), .second, .val (.long qy0), .second, .val (.long qm0), .second, .val (.int pf), .val (.long vn), .second, .val (.long vx), .second, .val (.long vm), .second, .val (.ref b2), .val (.ref b5), .val (.ref b7), .val (.int (1 : Int32)), .val (.long (vn - vx)), .second, .val (.ref r12), .val (.long vc), .second, .val (.long vy), .second] [(.int pf)]))
  refine own_go (fun t_ k_ => XS.iconst X15.here hx rfl (hb hby at_186) k_) ?_
  show OwnFin p e below s _ _ _ (T15.setTop (mkF m 187 #[.val (.long qn0), .second, .val (.long qx0), .second, .val (.long qy0), .second, .val (.long qm0), .second, .val (.int pf), .val (.long vn), .second, .val (.long vx), .second, .val (.long vm), .second, .val (.ref b2), .val (.ref b5), .val (.ref b7), .val (.int (1 : Int32)), .val (.long (vn - vx)), .second, .val (.ref r12), .val (.long vc), .second, .val (.long vy), .second] [(.int (1 : Int32)), (.int pf)]))
  refine own_go (fun t_ k_ => XS.iand X15.here hx rfl (hb hby at_187) rfl k_) ?_
  show OwnFin p e below s _ _ _ (T15.setTop (mkF m 188 #[.val (.long qn0), .second, .val (.long qx0), .second, .val (.long qy0), .second, .val (.long qm0), .second, .val (.int pf), .val (.long vn), .second, .val (.long vx), .second, .val (.long vm), .second, .val (.ref b2), .val (.ref b5), .val (.ref b7), .val (.int (1 : Int32)), .val (.long (vn - vx)), .second, .val (.ref r12), .val (.long vc), .second, .val (.long vy), .second] [(.int (pf &&& (1 : Int32)))]))
  by_cases hc188 : (pf &&& (1 : Int32)) = (0 : Int32)
  · refine own_go (fun t_ k_ => XS.ifYes X15.here hx rfl (pc0 := 188) (pc' := 195) rfl (hb hby at_188) rfl ((if0 _ _).trans (teq hc188).1) (by decide) (by decide) k_) ?_
    show OwnFin p e below s _ _ _ (T15.setTop (mkF m 195 #[.val (.long qn0), .second, .val (.long qx0), .second, .val (.long qy0), .second, .val (.long qm0), .second, .val (.int pf), .val (.long vn), .second, .val (.long vx), .second, .val (.long vm), .second, .val (.ref b2), .val (.ref b5), .val (.ref b7), .val (.int (1 : Int32)), .val (.long (vn - vx)), .second, .val (.ref r12), .val (.long vc), .second, .val (.long vy), .second] []))
    have hy : 0 ≤ vy.toInt ∧ vy.toInt ≤ vc.toInt := ⟨hvy.1, hvy.2.2⟩
    have hs2 := own_sub (x := vn - vx) (y := vy) hy.1 (Int.le_trans hy.2 hvc.2.1)
    have hs3 := own_sub (x := vm) (y := vy) hy.1 (Int.le_trans hy.2 hvc.2.2)
    refine own_go (fun t_ k_ => XS.aload X15.here hx rfl (hb hby at_195) rfl rfl k_) ?_
    show OwnFin p e below s _ _ _ (T15.setTop (mkF m 197 #[.val (.long qn0), .second, .val (.long qx0), .second, .val (.long qy0), .second, .val (.long qm0), .second, .val (.int pf), .val (.long vn), .second, .val (.long vx), .second, .val (.long vm), .second, .val (.ref b2), .val (.ref b5), .val (.ref b7), .val (.int (1 : Int32)), .val (.long (vn - vx)), .second, .val (.ref r12), .val (.long vc), .second, .val (.long vy), .second] [(.ref r12)]))
    refine own_go (fun t_ k_ => XS.lload X15.here hx rfl (hb hby at_197) rfl k_) ?_
    show OwnFin p e below s _ _ _ (T15.setTop (mkF m 199 #[.val (.long qn0), .second, .val (.long qx0), .second, .val (.long qy0), .second, .val (.long qm0), .second, .val (.int pf), .val (.long vn), .second, .val (.long vx), .second, .val (.long vm), .second, .val (.ref b2), .val (.ref b5), .val (.ref b7), .val (.int (1 : Int32)), .val (.long (vn - vx)), .second, .val (.ref r12), .val (.long vc), .second, .val (.long vy), .second] [(.long vy), (.ref r12)]))
    obtain ⟨v16, T16, L16, X16, hQ16, st16⟩ := own_callV X15 hx hZ (y := (⟨"com/example/trapline/trapline/collect/Budget", "spend", "(J)V"⟩ : MethodName)) (z := (⟨"com/example/trapline/trapline/collect/Budget", "spend", "(J)V"⟩ : MethodName)) hown (hw _ (List.mem_of_getElem? (i := 61) rfl)) (hw _ (List.mem_of_getElem? (i := 62) rfl)) (notFace_of_selects (args := #[]) (mvT hZ (hw _ (List.mem_of_getElem? (i := 64) rfl)))) (hw _ (List.mem_of_getElem? (i := 64) rfl)) (hw _ (List.mem_of_getElem? (i := 63) rfl)) (hw _ (List.mem_of_getElem? (i := 37) rfl)) (hw _ (List.mem_of_getElem? (i := 65) rfl)) (by decide) (W := 0) (rm12_P l Z a0 hw [] r12 vy b7 T12.heap n0 Z12 Eq12 g_r12 Fq12_0 Fq12_1 (own_ge (by rw [hs3]; have h1 := hy.2; have h2 := hvc.2.2; omega)) E_b7_12 g_b7 Fq10_w_12 Fq10_l_12 (own_ge (by rw [hs2]; have h1 := hy.2; have h2 := hvc.2.1; omega)) (Ne.symm ne_b7_r12)) (by decide) (by decide) Eq12 (g := (mkF m 199 #[.val (.long qn0), .second, .val (.long qx0), .second, .val (.long qy0), .second, .val (.long qm0), .second, .val (.int pf), .val (.long vn), .second, .val (.long vx), .second, .val (.long vm), .second, .val (.ref b2), .val (.ref b5), .val (.ref b7), .val (.int (1 : Int32)), .val (.long (vn - vx)), .second, .val (.ref r12), .val (.long vc), .second, .val (.long vy), .second] [(.long vy), (.ref r12)])) rfl (by rw [hml]; rfl) (argsL := [(.long vy)]) (rest := []) (lenOf pd_0_9 rfl) rfl (by show 2 * 0 + _ ≤ _; exact Nat.le_of_eq rfl) (hb hby at_199) e15 rfl (by decide) (by decide)
    obtain ⟨rfl, Nq16, Kq16, Fq16_w, Fq16_l, Fq16_x, Fq16_y⟩ := hQ16
    have N16 := Fr.app N15 Nq16
    have E_b5_16 := E_b5_12.keep Kq16
    have E_b7_16 := E_b7_12.keep Kq16
    have E_r12_16 := Eq12.keep Kq16
    have Z16 : n0 ≤ T16.heap.size := Nat.le_trans Z12 Kq16.1
    refine own_go st16 ?_
    show OwnFin p e below s _ _ _ (T16.setTop (mkF m 202 #[.val (.long qn0), .second, .val (.long qx0), .second, .val (.long qy0), .second, .val (.long qm0), .second, .val (.int pf), .val (.long vn), .second, .val (.long vx), .second, .val (.long vm), .second, .val (.ref b2), .val (.ref b5), .val (.ref b7), .val (.int (1 : Int32)), .val (.long (vn - vx)), .second, .val (.ref r12), .val (.long vc), .second, .val (.long vy), .second] []))
    refine own_go (fun t_ k_ => XS.iload X16.here hx rfl (hb hby at_202) rfl k_) ?_
    show OwnFin p e below s _ _ _ (T16.setTop (mkF m 204 #[.val (.long qn0), .second, .val (.long qx0), .second, .val (.long qy0), .second, .val (.long qm0), .second, .val (.int pf), .val (.long vn), .second, .val (.long vx), .second, .val (.long vm), .second, .val (.ref b2), .val (.ref b5), .val (.ref b7), .val (.int (1 : Int32)), .val (.long (vn - vx)), .second, .val (.ref r12), .val (.long vc), .second, .val (.long vy), .second] [(.int (1 : Int32))]))
    refine own_go (fun t_ k_ => XS.ifNo X16.here hx rfl (hb hby at_204) rfl ((if0 _ _).trans (feq (by decide)).1) k_) ?_
    show OwnFin p e below s _ _ _ (T16.setTop (mkF m 207 #[.val (.long qn0), .second, .val (.long qx0), .second, .val (.long qy0), .second, .val (.long qm0), .second, .val (.int pf), .val (.long vn), .second, .val (.long vx), .second, .val (.long vm), .second, .val (.ref b2), .val (.ref b5), .val (.ref b7), .val (.int (1 : Int32)), .val (.long (vn - vx)), .second, .val (.ref r12), .val (.long vc), .second, .val (.long vy), .second] []))
    refine own_go (fun t_ k_ => XS.aload X16.here hx rfl (hb hby at_207) rfl rfl k_) ?_
    show OwnFin p e below s _ _ _ (T16.setTop (mkF m 209 #[.val (.long qn0), .second, .val (.long qx0), .second, .val (.long qy0), .second, .val (.long qm0), .second, .val (.int pf), .val (.long vn), .second, .val (.long vx), .second, .val (.long vm), .second, .val (.ref b2), .val (.ref b5), .val (.ref b7), .val (.int (1 : Int32)), .val (.long (vn - vx)), .second, .val (.ref r12), .val (.long vc), .second, .val (.long vy), .second] [(.ref r12)]))
    obtain ⟨v17, T17, L17, X17, hQ17, st17⟩ := own_callV X16 hx hZ (y := (⟨"com/example/trapline/trapline/collect/Budget", "isSpent", "()Z"⟩ : MethodName)) (z := (⟨"com/example/trapline/trapline/collect/Budget", "isSpent", "()Z"⟩ : MethodName)) hown (hw _ (List.mem_of_getElem? (i := 56) rfl)) (hw _ (List.mem_of_getElem? (i := 57) rfl)) (notFace_of_selects (args := #[]) (mvT hZ (hw _ (List.mem_of_getElem? (i := 59) rfl)))) (hw _ (List.mem_of_getElem? (i := 59) rfl)) (hw _ (List.mem_of_getElem? (i := 58) rfl)) (hw _ (List.mem_of_getElem? (i := 37) rfl)) (hw _ (List.mem_of_getElem? (i := 60) rfl)) (by decide) (W := 0) (rm11 l Z a0 hw [] r12 T16.heap n0 Z16 Fq16_l (own_ge (by rw [hs3]; have h1 := hy.2; have h2 := hvc.2.2; omega))) (by decide) (by decide) E_r12_16 (g := (mkF m 209 #[.val (.long qn0), .second, .val (.long qx0), .second, .val (.long qy0), .second, .val (.long qm0), .second, .val (.int pf), .val (.long vn), .second, .val (.long vx), .second, .val (.long vm), .second, .val (.ref b2), .val (.ref b5), .val (.ref b7), .val (.int (1 : Int32)), .val (.long (vn - vx)), .second, .val (.ref r12), .val (.long vc), .second, .val (.long vy), .second] [(.ref r12)])) rfl (by rw [hml]; rfl) (argsL := []) (rest := []) (lenOf pd_0_10 rfl) rfl (by show 2 * 0 + _ ≤ _; exact Nat.le_of_eq rfl) (hb hby at_209) rfl rfl (by decide) (by decide)
    obtain ⟨rfl, Nq17, e17⟩ := hQ17
    have N17 := Fr.app N16 Nq17
    refine own_go st17 ?_
    show OwnFin p e below s _ _ _ (T17.setTop (mkF m 212 #[.val (.long qn0), .second, .val (.long qx0), .second, .val (.long qy0), .second, .val (.long qm0), .second, .val (.int pf), .val (.long vn), .second, .val (.long vx), .second, .val (.long vm), .second, .val (.ref b2), .val (.ref b5), .val (.ref b7), .val (.int (1 : Int32)), .val (.long (vn - vx)), .second, .val (.ref r12), .val (.long vc), .second, .val (.long vy), .second] [(.int (0 : Int32))]))
    refine own_go (fun t_ k_ => XS.ifNo X17.here hx rfl (hb hby at_212) rfl ((if0 _ _).trans (teq (by decide)).2) k_) ?_
    show OwnFin p e below s _ _ _ (T17.setTop (mkF m 215 #[.val (.long qn0), .second, .val (.long qx0), .second, .val (.long qy0), .second, .val (.long qm0), .second, .val (.int pf), .val (.long vn), .second, .val (.long vx), .second, .val (.long vm), .second, .val (.ref b2), .val (.ref b5), .val (.ref b7), .val (.int (1 : Int32)), .val (.long (vn - vx)), .second, .val (.ref r12), .val (.long vc), .second, .val (.long vy), .second] []))
    refine own_go (fun t_ k_ => XS.aload X17.here hx rfl (hb hby at_215) rfl rfl k_) ?_
    show OwnFin p e below s _ _ _ (T17.setTop (mkF m 217 #[.val (.long qn0), .second, .val (.long qx0), .second, .val (.long qy0), .second, .val (.long qm0), .second, .val (.int pf), .val (.long vn), .second, .val (.long vx), .second, .val (.long vm), .second, .val (.ref b2), .val (.ref b5), .val (.ref b7), .val (.int (1 : Int32)), .val (.long (vn - vx)), .second, .val (.ref r12), .val (.long vc), .second, .val (.long vy), .second] [(.ref b7)]))
    obtain ⟨v18, T18, L18, X18, hQ18, st18⟩ := own_callV X17 hx hZ (y := (⟨"com/example/trapline/trapline/collect/Budget", "isSpent", "()Z"⟩ : MethodName)) (z := (⟨"com/example/trapline/trapline/collect/Budget", "isSpent", "()Z"⟩ : MethodName)) hown (hw _ (List.mem_of_getElem? (i := 56) rfl)) (hw _ (List.mem_of_getElem? (i := 57) rfl)) (notFace_of_selects (args := #[]) (mvT hZ (hw _ (List.mem_of_getElem? (i := 59) rfl)))) (hw _ (List.mem_of_getElem? (i := 59) rfl)) (hw _ (List.mem_of_getElem? (i := 58) rfl)) (hw _ (List.mem_of_getElem? (i := 37) rfl)) (hw _ (List.mem_of_getElem? (i := 60) rfl)) (by decide) (W := 0) (rm11 l Z a0 hw [] b7 T16.heap n0 Z16 Fq16_y (own_ge (by rw [hs2]; have h1 := hy.2; have h2 := hvc.2.1; omega))) (by decide) (by decide) E_b7_16 (g := (mkF m 217 #[.val (.long qn0), .second, .val (.long qx0), .second, .val (.long qy0), .second, .val (.long qm0), .second, .val (.int pf), .val (.long vn), .second, .val (.long vx), .second, .val (.long vm), .second, .val (.ref b2), .val (.ref b5), .val (.ref b7), .val (.int (1 : Int32)), .val (.long (vn - vx)), .second, .val (.ref r12), .val (.long vc), .second, .val (.long vy), .second] [(.ref b7)])) rfl (by rw [hml]; rfl) (argsL := []) (rest := []) (lenOf pd_0_10 rfl) rfl (by show 2 * 0 + _ ≤ _; exact Nat.le_of_eq rfl) (hb hby at_217) e17 rfl (by decide) (by decide)
    obtain ⟨rfl, Nq18, e18⟩ := hQ18
    have N18 := Fr.app N17 Nq18
    refine own_go st18 ?_
    show OwnFin p e below s _ _ _ (T18.setTop (mkF m 220 #[.val (.long qn0), .second, .val (.long qx0), .second, .val (.long qy0), .second, .val (.long qm0), .second, .val (.int pf), .val (.long vn), .second, .val (.long vx), .second, .val (.long vm), .second, .val (.ref b2), .val (.ref b5), .val (.ref b7), .val (.int (1 : Int32)), .val (.long (vn - vx)), .second, .val (.ref r12), .val (.long vc), .second, .val (.long vy), .second] [(.int (0 : Int32))]))
    refine own_go (fun t_ k_ => XS.ifNo X18.here hx rfl (hb hby at_220) rfl ((if0 _ _).trans (teq (by decide)).2) k_) ?_
    show OwnFin p e below s _ _ _ (T18.setTop (mkF m 223 #[.val (.long qn0), .second, .val (.long qx0), .second, .val (.long qy0), .second, .val (.long qm0), .second, .val (.int pf), .val (.long vn), .second, .val (.long vx), .second, .val (.long vm), .second, .val (.ref b2), .val (.ref b5), .val (.ref b7), .val (.int (1 : Int32)), .val (.long (vn - vx)), .second, .val (.ref r12), .val (.long vc), .second, .val (.long vy), .second] []))
    refine own_go (fun t_ k_ => XS.iconst X18.here hx rfl (hb hby at_223) k_) ?_
    show OwnFin p e below s _ _ _ (T18.setTop (mkF m 224 #[.val (.long qn0), .second, .val (.long qx0), .second, .val (.long qy0), .second, .val (.long qm0), .second, .val (.int pf), .val (.long vn), .second, .val (.long vx), .second, .val (.long vm), .second, .val (.ref b2), .val (.ref b5), .val (.ref b7), .val (.int (1 : Int32)), .val (.long (vn - vx)), .second, .val (.ref r12), .val (.long vc), .second, .val (.long vy), .second] [(.int (1 : Int32))]))
    refine own_go (fun t_ k_ => XS.goto X18.here hx rfl (pc0 := 224) (pc' := 228) rfl (hb hby at_224) (by decide) (by decide) k_) ?_
    show OwnFin p e below s _ _ _ (T18.setTop (mkF m 228 #[.val (.long qn0), .second, .val (.long qx0), .second, .val (.long qy0), .second, .val (.long qm0), .second, .val (.int pf), .val (.long vn), .second, .val (.long vx), .second, .val (.long vm), .second, .val (.ref b2), .val (.ref b5), .val (.ref b7), .val (.int (1 : Int32)), .val (.long (vn - vx)), .second, .val (.ref r12), .val (.long vc), .second, .val (.long vy), .second] [(.int (1 : Int32))]))
    refine own_go (fun t_ k_ => XS.istore X18.here hx rfl (hb hby at_228) rfl (l' := #[.val (.long qn0), .second, .val (.long qx0), .second, .val (.long qy0), .second, .val (.long qm0), .second, .val (.int pf), .val (.long vn), .second, .val (.long vx), .second, .val (.long vm), .second, .val (.ref b2), .val (.ref b5), .val (.ref b7), .val (.int (1 : Int32)), .val (.long (vn - vx)), .second, .val (.ref r12), .val (.long vc), .second, .val (.long vy), .second]) rfl k_) ?_
    show OwnFin p e below s _ _ _ (T18.setTop (mkF m 230 #[.val (.long qn0), .second, .val (.long qx0), .second, .val (.long qy0), .second, .val (.long qm0), .second, .val (.int pf), .val (.long vn), .second, .val (.long vx), .second, .val (.long vm), .second, .val (.ref b2), .val (.ref b5), .val (.ref b7), .val (.int (1 : Int32)), .val (.long (vn - vx)), .second, .val (.ref r12), .val (.long vc), .second, .val (.long vy), .second] []))
    refine own_go (fun t_ k_ => XS.iload X18.here hx rfl (hb hby at_230) rfl k_) ?_
    show OwnFin p e below s _ _ _ (T18.setTop (mkF m 232 #[.val (.long qn0), .second, .val (.long qx0), .second, .val (.long qy0), .second, .val (.long qm0), .second, .val (.int pf), .val (.long vn), .second, .val (.long vx), .second, .val (.long vm), .second, .val (.ref b2), .val (.ref b5), .val (.ref b7), .val (.int (1 : Int32)), .val (.long (vn - vx)), .second, .val (.ref r12), .val (.long vc), .second, .val (.long vy), .second] [(.int (1 : Int32))]))
    refine own_ret X18 (v := some (.int (1 : Int32))) hlk (fun hh => by rw [hret] at hh; cases hh) (fun fs hr => retN X18 hx (t := .boolean) hret (by simp) (hb hby at_232) hr) (by decide) (by decide) ?_
    exact ⟨rfl, N18⟩
  · refine own_go (fun t_ k_ => XS.ifNo X15.here hx rfl (hb hby at_188) rfl ((if0 _ _).trans (feq hc188).1) k_) ?_
    show OwnFin p e below s _ _ _ (T15.setTop (mkF m 191 #[.val (.long qn0), .second, .val (.long qx0), .second, .val (.long qy0), .second, .val (.long qm0), .second, .val (.int pf), .val (.long vn), .second, .val (.long vx), .second, .val (.long vm), .second, .val (.ref b2), .val (.ref b5), .val (.ref b7), .val (.int (1 : Int32)), .val (.long (vn - vx)), .second, .val (.ref r12), .val (.long vc), .second, .val (.long vy), .second] []))
    refine own_go (fun t_ k_ => XS.lload X15.here hx rfl (hb hby at_191) rfl k_) ?_
    show OwnFin p e below s _ _ _ (T15.setTop (mkF m 193 #[.val (.long qn0), .second, .val (.long qx0), .second, .val (.long qy0), .second, .val (.long qm0), .second, .val (.int pf), .val (.long vn), .second, .val (.long vx), .second, .val (.long vm), .second, .val (.ref b2), .val (.ref b5), .val (.ref b7), .val (.int (1 : Int32)), .val (.long (vn - vx)), .second, .val (.ref r12), .val (.long vc), .second, .val (.long vy), .second] [(.long vc)]))
    refine own_go (fun t_ k_ => XS.lstore X15.here hx rfl (hb hby at_193) rfl (l' := #[.val (.long qn0), .second, .val (.long qx0), .second, .val (.long qy0), .second, .val (.long qm0), .second, .val (.int pf), .val (.long vn), .second, .val (.long vx), .second, .val (.long vm), .second, .val (.ref b2), .val (.ref b5), .val (.ref b7), .val (.int (1 : Int32)), .val (.long (vn - vx)), .second, .val (.ref r12), .val (.long vc), .second, .val (.long vc), .second]) rfl k_) ?_
    show OwnFin p e below s _ _ _ (T15.setTop (mkF m 195 #[.val (.long qn0), .second, .val (.long qx0), .second, .val (.long qy0), .second, .val (.long qm0), .second, .val (.int pf), .val (.long vn), .second, .val (.long vx), .second, .val (.long vm), .second, .val (.ref b2), .val (.ref b5), .val (.ref b7), .val (.int (1 : Int32)), .val (.long (vn - vx)), .second, .val (.ref r12), .val (.long vc), .second, .val (.long vc), .second] []))
    have hy : 0 ≤ vc.toInt ∧ vc.toInt ≤ vc.toInt := ⟨hvc.1, Int.le_refl _⟩
    have hs2 := own_sub (x := vn - vx) (y := vc) hy.1 (Int.le_trans hy.2 hvc.2.1)
    have hs3 := own_sub (x := vm) (y := vc) hy.1 (Int.le_trans hy.2 hvc.2.2)
    refine own_go (fun t_ k_ => XS.aload X15.here hx rfl (hb hby at_195) rfl rfl k_) ?_
    show OwnFin p e below s _ _ _ (T15.setTop (mkF m 197 #[.val (.long qn0), .second, .val (.long qx0), .second, .val (.long qy0), .second, .val (.long qm0), .second, .val (.int pf), .val (.long vn), .second, .val (.long vx), .second, .val (.long vm), .second, .val (.ref b2), .val (.ref b5), .val (.ref b7), .val (.int (1 : Int32)), .val (.long (vn - vx)), .second, .val (.ref r12), .val (.long vc), .second, .val (.long vc), .second] [(.ref r12)]))
    refine own_go (fun t_ k_ => XS.lload X15.here hx rfl (hb hby at_197) rfl k_) ?_
    show OwnFin p e below s _ _ _ (T15.setTop (mkF m 199 #[.val (.long qn0), .second, .val (.long qx0), .second, .val (.long qy0), .second, .val (.long qm0), .second, .val (.int pf), .val (.long vn), .second, .val (.long vx), .second, .val (.long vm), .second, .val (.ref b2), .val (.ref b5), .val (.ref b7), .val (.int (1 : Int32)), .val (.long (vn - vx)), .second, .val (.ref r12), .val (.long vc), .second, .val (.long vc), .second] [(.long vc), (.ref r12)]))
    obtain ⟨v19, T19, L19, X19, hQ19, st19⟩ := own_callV X15 hx hZ (y := (⟨"com/example/trapline/trapline/collect/Budget", "spend", "(J)V"⟩ : MethodName)) (z := (⟨"com/example/trapline/trapline/collect/Budget", "spend", "(J)V"⟩ : MethodName)) hown (hw _ (List.mem_of_getElem? (i := 61) rfl)) (hw _ (List.mem_of_getElem? (i := 62) rfl)) (notFace_of_selects (args := #[]) (mvT hZ (hw _ (List.mem_of_getElem? (i := 64) rfl)))) (hw _ (List.mem_of_getElem? (i := 64) rfl)) (hw _ (List.mem_of_getElem? (i := 63) rfl)) (hw _ (List.mem_of_getElem? (i := 37) rfl)) (hw _ (List.mem_of_getElem? (i := 65) rfl)) (by decide) (W := 0) (rm12_P l Z a0 hw [] r12 vc b7 T12.heap n0 Z12 Eq12 g_r12 Fq12_0 Fq12_1 (own_ge (by rw [hs3]; have h1 := hy.2; have h2 := hvc.2.2; omega)) E_b7_12 g_b7 Fq10_w_12 Fq10_l_12 (own_ge (by rw [hs2]; have h1 := hy.2; have h2 := hvc.2.1; omega)) (Ne.symm ne_b7_r12)) (by decide) (by decide) Eq12 (g := (mkF m 199 #[.val (.long qn0), .second, .val (.long qx0), .second, .val (.long qy0), .second, .val (.long qm0), .second, .val (.int pf), .val (.long vn), .second, .val (.long vx), .second, .val (.long vm), .second, .val (.ref b2), .val (.ref b5), .val (.ref b7), .val (.int (1 : Int32)), .val (.long (vn - vx)), .second, .val (.ref r12), .val (.long vc), .second, .val (.long vc), .second] [(.long vc), (.ref r12)])) rfl (by rw [hml]; rfl) (argsL := [(.long vc)]) (rest := []) (lenOf pd_0_9 rfl) rfl (by show 2 * 0 + _ ≤ _; exact Nat.le_of_eq rfl) (hb hby at_199) e15 rfl (by decide) (by decide)
    obtain ⟨rfl, Nq19, Kq19, Fq19_w, Fq19_l, Fq19_x, Fq19_y⟩ := hQ19
    have N19 := Fr.app N15 Nq19
    have E_b5_19 := E_b5_12.keep Kq19
    have E_b7_19 := E_b7_12.keep Kq19
    have E_r12_19 := Eq12.keep Kq19
    have Z19 : n0 ≤ T19.heap.size := Nat.le_trans Z12 Kq19.1
    refine own_go st19 ?_
    show OwnFin p e below s _ _ _ (T19.setTop (mkF m 202 #[.val (.long qn0), .second, .val (.long qx0), .second, .val (.long qy0), .second, .val (.long qm0), .second, .val (.int pf), .val (.long vn), .second, .val (.long vx), .second, .val (.long vm), .second, .val (.ref b2), .val (.ref b5), .val (.ref b7), .val (.int (1 : Int32)), .val (.long (vn - vx)), .second, .val (.ref r12), .val (.long vc), .second, .val (.long vc), .second] []))
    refine own_go (fun t_ k_ => XS.iload X19.here hx rfl (hb hby at_202) rfl k_) ?_
    show OwnFin p e below s _ _ _ (T19.setTop (mkF m 204 #[.val (.long qn0), .second, .val (.long qx0), .second, .val (.long qy0), .second, .val (.long qm0), .second, .val (.int pf), .val (.long vn), .second, .val (.long vx), .second, .val (.long vm), .second, .val (.ref b2), .val (.ref b5), .val (.ref b7), .val (.int (1 : Int32)), .val (.long (vn - vx)), .second, .val (.ref r12), .val (.long vc), .second, .val (.long vc), .second] [(.int (1 : Int32))]))
    refine own_go (fun t_ k_ => XS.ifNo X19.here hx rfl (hb hby at_204) rfl ((if0 _ _).trans (feq (by decide)).1) k_) ?_
    show OwnFin p e below s _ _ _ (T19.setTop (mkF m 207 #[.val (.long qn0), .second, .val (.long qx0), .second, .val (.long qy0), .second, .val (.long qm0), .second, .val (.int pf), .val (.long vn), .second, .val (.long vx), .second, .val (.long vm), .second, .val (.ref b2), .val (.ref b5), .val (.ref b7), .val (.int (1 : Int32)), .val (.long (vn - vx)), .second, .val (.ref r12), .val (.long vc), .second, .val (.long vc), .second] []))
    refine own_go (fun t_ k_ => XS.aload X19.here hx rfl (hb hby at_207) rfl rfl k_) ?_
    show OwnFin p e below s _ _ _ (T19.setTop (mkF m 209 #[.val (.long qn0), .second, .val (.long qx0), .second, .val (.long qy0), .second, .val (.long qm0), .second, .val (.int pf), .val (.long vn), .second, .val (.long vx), .second, .val (.long vm), .second, .val (.ref b2), .val (.ref b5), .val (.ref b7), .val (.int (1 : Int32)), .val (.long (vn - vx)), .second, .val (.ref r12), .val (.long vc), .second, .val (.long vc), .second] [(.ref r12)]))
    obtain ⟨v20, T20, L20, X20, hQ20, st20⟩ := own_callV X19 hx hZ (y := (⟨"com/example/trapline/trapline/collect/Budget", "isSpent", "()Z"⟩ : MethodName)) (z := (⟨"com/example/trapline/trapline/collect/Budget", "isSpent", "()Z"⟩ : MethodName)) hown (hw _ (List.mem_of_getElem? (i := 56) rfl)) (hw _ (List.mem_of_getElem? (i := 57) rfl)) (notFace_of_selects (args := #[]) (mvT hZ (hw _ (List.mem_of_getElem? (i := 59) rfl)))) (hw _ (List.mem_of_getElem? (i := 59) rfl)) (hw _ (List.mem_of_getElem? (i := 58) rfl)) (hw _ (List.mem_of_getElem? (i := 37) rfl)) (hw _ (List.mem_of_getElem? (i := 60) rfl)) (by decide) (W := 0) (rm11 l Z a0 hw [] r12 T19.heap n0 Z19 Fq19_l (own_ge (by rw [hs3]; have h1 := hy.2; have h2 := hvc.2.2; omega))) (by decide) (by decide) E_r12_19 (g := (mkF m 209 #[.val (.long qn0), .second, .val (.long qx0), .second, .val (.long qy0), .second, .val (.long qm0), .second, .val (.int pf), .val (.long vn), .second, .val (.long vx), .second, .val (.long vm), .second, .val (.ref b2), .val (.ref b5), .val (.ref b7), .val (.int (1 : Int32)), .val (.long (vn - vx)), .second, .val (.ref r12), .val (.long vc), .second, .val (.long vc), .second] [(.ref r12)])) rfl (by rw [hml]; rfl) (argsL := []) (rest := []) (lenOf pd_0_10 rfl) rfl (by show 2 * 0 + _ ≤ _; exact Nat.le_of_eq rfl) (hb hby at_209) rfl rfl (by decide) (by decide)
    obtain ⟨rfl, Nq20, e20⟩ := hQ20
    have N20 := Fr.app N19 Nq20
    refine own_go st20 ?_
    show OwnFin p e below s _ _ _ (T20.setTop (mkF m 212 #[.val (.long qn0), .second, .val (.long qx0), .second, .val (.long qy0), .second, .val (.long qm0), .second, .val (.int pf), .val (.long vn), .second, .val (.long vx), .second, .val (.long vm), .second, .val (.ref b2), .val (.ref b5), .val (.ref b7), .val (.int (1 : Int32)), .val (.long (vn - vx)), .second, .val (.ref r12), .val (.long vc), .second, .val (.long vc), .second] [(.int (0 : Int32))]))
    refine own_go (fun t_ k_ => XS.ifNo X20.here hx rfl (hb hby at_212) rfl ((if0 _ _).trans (teq (by decide)).2) k_) ?_
    show OwnFin p e below s _ _ _ (T20.setTop (mkF m 215 #[.val (.long qn0), .second, .val (.long qx0), .second, .val (.long qy0), .second, .val (.long qm0), .second, .val (.int pf), .val (.long vn), .second, .val (.long vx), .second, .val (.long vm), .second, .val (.ref b2), .val (.ref b5), .val (.ref b7), .val (.int (1 : Int32)), .val (.long (vn - vx)), .second, .val (.ref r12), .val (.long vc), .second, .val (.long vc), .second] []))
    refine own_go (fun t_ k_ => XS.aload X20.here hx rfl (hb hby at_215) rfl rfl k_) ?_
    show OwnFin p e below s _ _ _ (T20.setTop (mkF m 217 #[.val (.long qn0), .second, .val (.long qx0), .second, .val (.long qy0), .second, .val (.long qm0), .second, .val (.int pf), .val (.long vn), .second, .val (.long vx), .second, .val (.long vm), .second, .val (.ref b2), .val (.ref b5), .val (.ref b7), .val (.int (1 : Int32)), .val (.long (vn - vx)), .second, .val (.ref r12), .val (.long vc), .second, .val (.long vc), .second] [(.ref b7)]))
    obtain ⟨v21, T21, L21, X21, hQ21, st21⟩ := own_callV X20 hx hZ (y := (⟨"com/example/trapline/trapline/collect/Budget", "isSpent", "()Z"⟩ : MethodName)) (z := (⟨"com/example/trapline/trapline/collect/Budget", "isSpent", "()Z"⟩ : MethodName)) hown (hw _ (List.mem_of_getElem? (i := 56) rfl)) (hw _ (List.mem_of_getElem? (i := 57) rfl)) (notFace_of_selects (args := #[]) (mvT hZ (hw _ (List.mem_of_getElem? (i := 59) rfl)))) (hw _ (List.mem_of_getElem? (i := 59) rfl)) (hw _ (List.mem_of_getElem? (i := 58) rfl)) (hw _ (List.mem_of_getElem? (i := 37) rfl)) (hw _ (List.mem_of_getElem? (i := 60) rfl)) (by decide) (W := 0) (rm11 l Z a0 hw [] b7 T19.heap n0 Z19 Fq19_y (own_ge (by rw [hs2]; have h1 := hy.2; have h2 := hvc.2.1; omega))) (by decide) (by decide) E_b7_19 (g := (mkF m 217 #[.val (.long qn0), .second, .val (.long qx0), .second, .val (.long qy0), .second, .val (.long qm0), .second, .val (.int pf), .val (.long vn), .second, .val (.long vx), .second, .val (.long vm), .second, .val (.ref b2), .val (.ref b5), .val (.ref b7), .val (.int (1 : Int32)), .val (.long (vn - vx)), .second, .val (.ref r12), .val (.long vc), .second, .val (.long vc), .second] [(.ref b7)])) rfl (by rw [hml]; rfl) (argsL := []) (rest := []) (lenOf pd_0_10 rfl) rfl (by show 2 * 0 + _ ≤ _; exact Nat.le_of_eq rfl) (hb hby at_217) e20 rfl (by decide) (by decide)
    obtain ⟨rfl, Nq21, e21⟩ := hQ21
    have N21 := Fr.app N20 Nq21
    refine own_go st21 ?_
    show OwnFin p e below s _ _ _ (T21.setTop (mkF m 220 #[.val (.long qn0), .second, .val (.long qx0), .second, .val (.long qy0), .second, .val (.long qm0), .second, .val (.int pf), .val (.long vn), .second, .val (.long vx), .second, .val (.long vm), .second, .val (.ref b2), .val (.ref b5), .val (.ref b7), .val (.int (1 : Int32)), .val (.long (vn - vx)), .second, .val (.ref r12), .val (.long vc), .second, .val (.long vc), .second] [(.int (0 : Int32))]))
    refine own_go (fun t_ k_ => XS.ifNo X21.here hx rfl (hb hby at_220) rfl ((if0 _ _).trans (teq (by decide)).2) k_) ?_
    show OwnFin p e below s _ _ _ (T21.setTop (mkF m 223 #[.val (.long qn0), .second, .val (.long qx0), .second, .val (.long qy0), .second, .val (.long qm0), .second, .val (.int pf), .val (.long vn), .second, .val (.long vx), .second, .val (.long vm), .second, .val (.ref b2), .val (.ref b5), .val (.ref b7), .val (.int (1 : Int32)), .val (.long (vn - vx)), .second, .val (.ref r12), .val (.long vc), .second, .val (.long vc), .second] []))
    refine own_go (fun t_ k_ => XS.iconst X21.here hx rfl (hb hby at_223) k_) ?_
    show OwnFin p e below s _ _ _ (T21.setTop (mkF m 224 #[.val (.long qn0), .second, .val (.long qx0), .second, .val (.long qy0), .second, .val (.long qm0), .second, .val (.int pf), .val (.long vn), .second, .val (.long vx), .second, .val (.long vm), .second, .val (.ref b2), .val (.ref b5), .val (.ref b7), .val (.int (1 : Int32)), .val (.long (vn - vx)), .second, .val (.ref r12), .val (.long vc), .second, .val (.long vc), .second] [(.int (1 : Int32))]))
    refine own_go (fun t_ k_ => XS.goto X21.here hx rfl (pc0 := 224) (pc' := 228) rfl (hb hby at_224) (by decide) (by decide) k_) ?_
    show OwnFin p e below s _ _ _ (T21.setTop (mkF m 228 #[.val (.long qn0), .second, .val (.long qx0), .second, .val (.long qy0), .second, .val (.long qm0), .second, .val (.int pf), .val (.long vn), .second, .val (.long vx), .second, .val (.long vm), .second, .val (.ref b2), .val (.ref b5), .val (.ref b7), .val (.int (1 : Int32)), .val (.long (vn - vx)), .second, .val (.ref r12), .val (.long vc), .second, .val (.long vc), .second] [(.int (1 : Int32))]))
    refine own_go (fun t_ k_ => XS.istore X21.here hx rfl (hb hby at_228) rfl (l' := #[.val (.long qn0), .second, .val (.long qx0), .second, .val (.long qy0), .second, .val (.long qm0), .second, .val (.int pf), .val (.long vn), .second, .val (.long vx), .second, .val (.long vm), .second, .val (.ref b2), .val (.ref b5), .val (.ref b7), .val (.int (1 : Int32)), .val (.long (vn - vx)), .second, .val (.ref r12), .val (.long vc), .second, .val (.long vc), .second]) rfl k_) ?_
    show OwnFin p e below s _ _ _ (T21.setTop (mkF m 230 #[.val (.long qn0), .second, .val (.long qx0), .second, .val (.long qy0), .second, .val (.long qm0), .second, .val (.int pf), .val (.long vn), .second, .val (.long vx), .second, .val (.long vm), .second, .val (.ref b2), .val (.ref b5), .val (.ref b7), .val (.int (1 : Int32)), .val (.long (vn - vx)), .second, .val (.ref r12), .val (.long vc), .second, .val (.long vc), .second] []))
    refine own_go (fun t_ k_ => XS.iload X21.here hx rfl (hb hby at_230) rfl k_) ?_
    show OwnFin p e below s _ _ _ (T21.setTop (mkF m 232 #[.val (.long qn0), .second, .val (.long qx0), .second, .val (.long qy0), .second, .val (.long qm0), .second, .val (.int pf), .val (.long vn), .second, .val (.long vx), .second, .val (.long vm), .second, .val (.ref b2), .val (.ref b5), .val (.ref b7), .val (.int (1 : Int32)), .val (.long (vn - vx)), .second, .val (.ref r12), .val (.long vc), .second, .val (.long vc), .second] [(.int (1 : Int32))]))
    refine own_ret X21 (v := some (.int (1 : Int32))) hlk (fun hh => by rw [hret] at hh; cases hh) (fun fs hr => retN X21 hx (t := .boolean) hret (by simp) (hb hby at_232) hr) (by decide) (by decide) ?_
    exact ⟨rfl, N21⟩
set_option maxRecDepth 65536 in
set_option maxHeartbeats 40000000 in
theorem comes_1 {Post : Tables → Env → Array Value → State → Outcome → State → Prop} (hpost : ∀ tb e args s v u, (limb_1_1.after args s (.returned v) u = true ∧ limb_1_2.after args s (.returned v) u = true ∧ True) → FrameEnd s (.returned v) u (Jvm.fieldLocs frame_1_writes args s ++ Jvm.arrayLocs frame_1_arrays args s ++ Jvm.staticLocs frame_1_statics s) 24 128 → Post tb e args s (.returned v) u) :
    ArmFor flags0 classFile x code maxLocals ret World_1 tables_1 room_1 Calls_1 rest_1 Pre_1 Post := by
  intro l hfl _ _ p e ha hc hk s m args below hf hA hF happ hP
  obtain ⟨hcalls, hrest, hpre⟩ := hP
  obtain ⟨-, -, -, hnamed, -, -, -, hat⟩ := (Spec.applies_iff hf).mp happ
  obtain ⟨hg, hn⟩ := and_e (Cond.before_iff.mp (show (Jvm.Cond.and given_1 narrow_1).before args s = true from hpre))
  obtain ⟨g1, g2⟩ := and_e hg
  obtain ⟨g3, g4⟩ := and_e g2
  obtain ⟨g5, g6⟩ := and_e g4
  obtain ⟨g7, g8⟩ := and_e g6
  obtain ⟨g9, g10⟩ := and_e g8
  obtain ⟨w0, w1, w2, w3, w4, rfl⟩ : ∃ w0 w1 w2 w3 w4 : Value, args = #[w0, w1, w2, w3, w4] := by
    have hs : args.size = 5 := by simpa [Cond.value, given_1] using g1
    obtain ⟨L⟩ := args
    match L, hs with
    | [w0, w1, w2, w3, w4], _ => exact ⟨w0, w1, w2, w3, w4, rfl⟩
  have hw := fun d (hd : d ∈ tables_1) => atoms_spec (ws := Jvm.Cond.code x code maxLocals ret :: tables_1) hat d (List.mem_cons_of_mem _ hd)
  have hfit : Fit s := fun {y c} hc i hi => by
    obtain ⟨ha, rfl⟩ := Array.getElem?_eq_some_iff.mp hc
    have q := List.all_eq_true.mp ((Array.all_eq_true_iff_forall_mem.mp hF) _ (Array.getElem_mem ha)) i (List.mem_range.mpr hi)
    simpa [Array.getElem?_eq_getElem hi] using q
  obtain ⟨hsets, hown0⟩ := atoms_of _ (rest_1_c_eq ▸ (show rest_1_c.before _ s = true from hrest))
  have hr0 := Cond.before_iff.mp hown0
  obtain ⟨i0, ei0⟩ := isL_v g3
  obtain rfl : w0 = (.long i0) := Option.some.inj ei0
  obtain ⟨i1, ei1⟩ := isL_v g5
  obtain rfl : w1 = (.long i1) := Option.some.inj ei1
  obtain ⟨i2, ei2⟩ := isL_v g7
  obtain rfl : w2 = (.long i2) := Option.some.inj ei2
  obtain ⟨i3, ei3⟩ := isL_v g9
  obtain rfl : w3 = (.long i3) := Option.some.inj ei3
  obtain ⟨i4, ei4⟩ := is_v g10
  obtain rfl : w4 = (.int i4) := Option.some.inj ei4
  have n3 := not_v (Cond.before_iff.mp (hsets _ (List.mem_of_getElem? (i := 2) rfl)))
  obtain ⟨zc, ezc⟩ := is_v (Cond.before_iff.mp (hsets _ (List.mem_of_getElem? (i := 1) rfl)))
  have S_cs := Sta.start ezc (Or.inl (hsets _ (List.mem_of_getElem? (i := 0) rfl)))
  have hzc : ¬ zc = 0 := fun q => by
    have h := Jvm.RoadKit.eq_i ezc (Term.int_eval 0) (by rw [q])
    rw [n3] at h
    cases h
  obtain ⟨n, o, h1, h2, h3, _, L, rfl, ⟨rfl, N⟩, hq⟩ := rm0 l s _ hw tables_1 i0 i1 i2 i3 i4 zc s.heap s.heap.size (Nat.le_refl _) S_cs hzc p e ha hc hk s m _ below hf ((Spec.applies_iff_loose hf).mp happ).1 ⟨rfl, State.Warmed39.refl s, rfl⟩ trivial
  refine ⟨n, _, h1, h2, h3, hpost _ _ _ _ _ _ ⟨Cond.after_iff.mpr rfl, Cond.after_iff.mpr (eq_i res_at (Term.int_eval (1)) rfl), trivial⟩ ⟨hq.1, hq.2.1, (hq.2.2.sift fun y hy => Or.inr (N y hy)).mono (by decide) (by decide)⟩⟩
theorem main_1_1 : Claimed_1_1 := comes_1 fun _ _ _ _ _ _ h hF => ⟨h.1, hF⟩
theorem main_1_2 : Claimed_1_2 := comes_1 fun _ _ _ _ _ _ h hF => ⟨h.2.1, hF⟩
end Jvm.Pilot.@@N@@
namespace Jvm.Pilot.@@N@@
open Jvm Jvm.ClassFile Sem Op Lib Jvm.Free Jvm.Stand Jvm.Pilot.@@N@@.Jvm.D
/-! MADE BY PROGRAM (witnessworld.py) out of the Statement's table words and the real class files: 21 classes; the members and pool entries that the words name. The judged class is class 1, her method 1. -/
namespace start1
open Jvm.ClassFile
def u (s : String) : CpInfo := .utf8 (stringToUtf16 s)
/-- a pool by its gaps: so many unusable entries, then the entry; so many at the end -/
def gap : Nat → List CpInfo → List CpInfo
  | 0, r => r
  | n + 1, r => .unusable :: gap n r
def poolList (es : List (Nat × CpInfo)) (last : Nat) : List CpInfo := es.foldr (fun e r => gap e.1 (e.2 :: r)) (gap last [])
def pool (es : List (Nat × CpInfo)) (last : Nat) : Array CpInfo := ⟨poolList es last⟩
def fileOf (pool : Array CpInfo) (this : Nat) (attrs : Array Attribute := #[]) (ms : Array MethodInfo := #[]) (fl : Nat := 33) (sup : Nat := 0) (ifs : Array Nat := #[]) (fds : Array FieldInfo := #[]) : ClassFile where
  minorVersion := 0
  majorVersion := 65
  constantPool := pool
  accessFlags := fl
  thisClass := this
  superClass := sup
  interfaces := ifs
  fields := fds
  methods := ms
  attributes := attrs
def plain (name : String) (sup : Option ClassId) : Class where
  name := name
  kind := .ordinary
  loader := none
  accessFlags := 33
  super := sup
  interfaces := #[]
  cf := none
  fields := #[]
  methods := #[]
  instanceTypes := #[]
  staticTypes := #[]
  resolved := #[]
  callSites := []
  init := .initialized
  statics := none
  mirror := none

def pool0 : Array CpInfo := pool [(5, u "<init>"), (0, u "()V"), (1, .class_ 10), (1, u "java/lang/Object")] 113

def k0c0 : Code := { maxStack := 0, maxLocals := 1, code := object_method_1_code, exceptionTable := #[], attributes := #[] }
def k0m0 : Method := { name := "<init>", desc := "()V", sig := { parameters := [], returnType := none }, accessFlags := 1, code := some k0c0 }
/-- java/lang/Object -/
def k0 : Class := { plain "java/lang/Object" none with
  accessFlags := 33
  interfaces := #[]
  cf := some (fileOf pool0 8 #[] #[{ accessFlags := 1, nameIndex := 5, descriptorIndex := 6, attributes := #[] }] 33 0 #[] #[])
  fields := #[]
  methods := #[k0m0]
  instanceTypes := #[]
  staticTypes := #[]
  resolved := Array.replicate 124 none
  statics := none }

def pool1 : Array CpInfo := pool [(2, .class_ 4), (1, u "java/lang/Object"), (0, u "<init>"), (0, u "()V"), (2, .long 9223372036854775807), (1, .methodref 12 13), (0, .class_ 14), (0, .nameAndType 15 16), (0, u "java/lang/Math"), (0, u "min"), (0, u "(JJ)J"), (0, .class_ 18), (0, u "java/lang/String"), (0, .methodref 17 20), (0, .nameAndType 5 21), (0, u "([C)V"), (0, .class_ 23), (0, u "com/example/trapline/trapline/collect/Budget"), (0, .methodref 22 25), (0, .nameAndType 5 26), (0, u "(Ljava/lang/String;J)V"), (0, .methodref 22 28), (0, .nameAndType 29 30), (0, u "isSpent"), (0, u "()Z"), (0, .methodref 22 32), (0, .nameAndType 33 34), (0, u "spend"), (0, u "(J)V"), (0, .methodref 22 36), (0, .nameAndType 37 38), (0, u "part"), (0, u "(Ljava/lang/String;J)Lcom/example/trapline/trapline/collect/Budget;"), (0, .class_ 40), (0, u "com/example/trapline/trapline/collect/BudgetIsSpentPinLaw"), (2, u "law"), (0, u "(JJJJI)Z")] 5

def k1m0 : Method := { name := "<init>", desc := "()V", sig := { parameters := [], returnType := none }, accessFlags := 1, code := none }
def k1c1 : Code := { maxStack := 5, maxLocals := 26, code := code, exceptionTable := #[], attributes := #[] }
def k1m1 : Method := { name := "law", desc := "(JJJJI)Z", sig := { parameters := [.long, .long, .long, .long, .int], returnType := some .boolean }, accessFlags := 9, code := some k1c1 }
/-- com/example/trapline/trapline/collect/BudgetIsSpentPinLaw -/
def k1 : Class := { plain "com/example/trapline/trapline/collect/BudgetIsSpentPinLaw" (some 0) with
  accessFlags := 49
  interfaces := #[]
  cf := some (fileOf pool1 39 #[] #[{ accessFlags := 1, nameIndex := 5, descriptorIndex := 6, attributes := #[] }, { accessFlags := 9, nameIndex := 43, descriptorIndex := 44, attributes := #[] }] 49 2 #[] #[])
  fields := #[]
  methods := #[k1m0, k1m1]
  instanceTypes := #[]
  staticTypes := #[]
  resolved := Array.replicate 50 none
  statics := none }

def pool2 : Array CpInfo := pool [(1, .class_ 2), (0, u "java/lang/Math"), (1, .class_ 6), (1, u "java/lang/Object"), (0, u "<init>"), (0, u "()V"), (89, .class_ 100), (1, u "java/lang/Math$RandomNumberGeneratorHolder"), (20, u "(JJ)J"), (50, u "negativeZeroFloatBits"), (0, u "J"), (2, u "negativeZeroDoubleBits"), (24, u "min"), (43, u "$assertionsDisabled"), (0, u "Z"), (91, u "twoToTheDoubleScaleDown"), (0, u "D"), (4, u "twoToTheDoubleScaleUp"), (9, u "E"), (3, u "PI"), (2, u "TAU"), (2, u "DEGREES_TO_RADIANS"), (0, u "RADIANS_TO_DEGREES")] 94

def k2m0 : Method := { name := "<init>", desc := "()V", sig := { parameters := [], returnType := none }, accessFlags := 2, code := none }
def k2c1 : Code := { maxStack := 4, maxLocals := 4, code := jdk_29_method_70_code, exceptionTable := #[], attributes := #[] }
def k2m1 : Method := { name := "min", desc := "(JJ)J", sig := { parameters := [.long, .long], returnType := some .long }, accessFlags := 9, code := some k2c1 }
/-- java/lang/Math -/
def k2 : Class := { plain "java/lang/Math" (some 0) with
  accessFlags := 49
  interfaces := #[]
  cf := some (fileOf pool2 1 #[.nestMembers #[98]] #[{ accessFlags := 2, nameIndex := 7, descriptorIndex := 8, attributes := #[] }, { accessFlags := 9, nameIndex := 201, descriptorIndex := 121, attributes := #[] }] 49 4 #[] #[{ accessFlags := 25, nameIndex := 354, descriptorIndex := 339, attributes := #[] }, { accessFlags := 25, nameIndex := 358, descriptorIndex := 339, attributes := #[] }, { accessFlags := 25, nameIndex := 361, descriptorIndex := 339, attributes := #[] }, { accessFlags := 26, nameIndex := 364, descriptorIndex := 339, attributes := #[] }, { accessFlags := 26, nameIndex := 365, descriptorIndex := 339, attributes := #[] }, { accessFlags := 26, nameIndex := 172, descriptorIndex := 173, attributes := #[] }, { accessFlags := 26, nameIndex := 176, descriptorIndex := 173, attributes := #[] }, { accessFlags := 8, nameIndex := 344, descriptorIndex := 339, attributes := #[] }, { accessFlags := 8, nameIndex := 338, descriptorIndex := 339, attributes := #[] }, { accessFlags := 4120, nameIndex := 245, descriptorIndex := 246, attributes := #[] }])
  fields := #[{ name := "E", type := .double, accessFlags := 25, slot := 0, constantValue := 0 }, { name := "PI", type := .double, accessFlags := 25, slot := 1, constantValue := 0 }, { name := "TAU", type := .double, accessFlags := 25, slot := 2, constantValue := 0 }, { name := "DEGREES_TO_RADIANS", type := .double, accessFlags := 26, slot := 3, constantValue := 0 }, { name := "RADIANS_TO_DEGREES", type := .double, accessFlags := 26, slot := 4, constantValue := 0 }, { name := "negativeZeroFloatBits", type := .long, accessFlags := 26, slot := 5, constantValue := 0 }, { name := "negativeZeroDoubleBits", type := .long, accessFlags := 26, slot := 6, constantValue := 0 }, { name := "twoToTheDoubleScaleUp", type := .double, accessFlags := 8, slot := 7, constantValue := 0 }, { name := "twoToTheDoubleScaleDown", type := .double, accessFlags := 8, slot := 8, constantValue := 0 }, { name := "$assertionsDisabled", type := .boolean, accessFlags := 4120, slot := 9, constantValue := 0 }]
  methods := #[k2m0, k2m1]
  instanceTypes := #[]
  staticTypes := #[.double, .double, .double, .double, .double, .long, .long, .double, .double, .boolean]
  resolved := Array.replicate 460 none
  statics := none }

def pool3 : Array CpInfo := pool [(1, .class_ 2), (0, u "java/io/Serializable"), (0, .class_ 4), (0, u "java/lang/Object")] 2

/-- java/io/Serializable -/
def k3 : Class := { plain "java/io/Serializable" (some 0) with
  accessFlags := 1537
  interfaces := #[]
  cf := some (fileOf pool3 1 #[] #[] 1537 3 #[] #[])
  fields := #[]
  methods := #[]
  instanceTypes := #[]
  staticTypes := #[]
  resolved := Array.replicate 7 none
  statics := none }

def pool4 : Array CpInfo := pool [(1, .class_ 2), (0, u "java/lang/Comparable"), (0, .class_ 4), (0, u "java/lang/Object")] 7

/-- java/lang/Comparable -/
def k4 : Class := { plain "java/lang/Comparable" (some 0) with
  accessFlags := 1537
  interfaces := #[]
  cf := some (fileOf pool4 1 #[] #[] 1537 3 #[] #[])
  fields := #[]
  methods := #[]
  instanceTypes := #[]
  staticTypes := #[]
  resolved := Array.replicate 12 none
  statics := none }

def pool5 : Array CpInfo := pool [(2, .class_ 4), (1, u "java/lang/CharSequence"), (42, .class_ 48), (0, u "java/lang/CharSequence$1CodePointIterator"), (10, .class_ 60), (0, u "java/lang/CharSequence$1CharIterator"), (5, .class_ 67), (0, u "java/lang/Object")] 63

/-- java/lang/CharSequence -/
def k5 : Class := { plain "java/lang/CharSequence" (some 0) with
  accessFlags := 1537
  interfaces := #[]
  cf := some (fileOf pool5 2 #[.nestMembers #[47, 59]] #[] 1537 66 #[] #[])
  fields := #[]
  methods := #[]
  instanceTypes := #[]
  staticTypes := #[]
  resolved := Array.replicate 131 none
  statics := none }

def pool6 : Array CpInfo := pool [(1, .class_ 2), (0, u "java/lang/constant/Constable"), (0, .class_ 4), (0, u "java/lang/Object")] 6

/-- java/lang/constant/Constable -/
def k6 : Class := { plain "java/lang/constant/Constable" (some 0) with
  accessFlags := 1537
  interfaces := #[]
  cf := some (fileOf pool6 1 #[] #[] 1537 3 #[] #[])
  fields := #[]
  methods := #[]
  instanceTypes := #[]
  staticTypes := #[]
  resolved := Array.replicate 11 none
  statics := none }

def pool7 : Array CpInfo := pool [(1, .class_ 2), (0, u "java/lang/constant/ConstantDesc"), (0, .class_ 4), (0, u "java/lang/Object")] 32

/-- java/lang/constant/ConstantDesc -/
def k7 : Class := { plain "java/lang/constant/ConstantDesc" (some 0) with
  accessFlags := 1537
  interfaces := #[]
  cf := some (fileOf pool7 1 #[] #[] 1537 3 #[] #[])
  fields := #[]
  methods := #[]
  instanceTypes := #[]
  staticTypes := #[]
  resolved := Array.replicate 37 none
  statics := none }

def pool8 : Array CpInfo := pool [(1, .methodref 2 3), (0, .class_ 4), (0, .nameAndType 5 6), (0, u "java/lang/Object"), (0, u "<init>"), (0, u "()V"), (2, .fieldref 10 11), (0, .class_ 12), (0, .nameAndType 13 14), (0, u "java/lang/String"), (0, u "value"), (0, u "[B"), (0, .fieldref 10 16), (0, .nameAndType 17 18), (0, u "coder"), (0, u "B"), (2, u "hash"), (0, u "I"), (2, u "hashIsZero"), (0, u "Z"), (0, .methodref 10 28), (0, .nameAndType 5 29), (0, u "([CIILjava/lang/Void;)V"), (8, .fieldref 10 39), (0, .nameAndType 40 26), (0, u "COMPACT_STRINGS"), (1, .class_ 44), (1, u "java/lang/StringUTF16"), (0, u "compress"), (1, .methodref 42 48), (0, .nameAndType 49 50), (0, u "coderFromArrayLen"), (0, u "([BI)B"), (126, .methodref 42 178), (0, .nameAndType 45 179), (0, u "([CII)[B"), (395, .class_ 576), (0, u "java/lang/CharSequence"), (22, u "CASE_INSENSITIVE_ORDER"), (0, u "Ljava/util/Comparator;"), (409, u "([C)V"), (90, u "serialPersistentFields"), (0, u "[Ljava/io/ObjectStreamField;"), (0, .class_ 1104), (0, u "java/lang/String$CaseInsensitiveComparator"), (1, .class_ 1107), (0, u "java/io/Serializable"), (0, .class_ 1109), (0, u "java/lang/Comparable"), (0, .class_ 1111), (0, u "java/lang/constant/Constable"), (0, .class_ 1113), (0, u "java/lang/constant/ConstantDesc"), (2, u "serialVersionUID"), (0, u "J"), (3, u "REPL"), (0, u "C"), (2, u "LATIN1"), (1, u "UTF16")] 323

def k8m0 : Method := { name := "<init>", desc := "()V", sig := { parameters := [], returnType := none }, accessFlags := 1, code := none }
def k8c1 : Code := { maxStack := 5, maxLocals := 2, code := jdk_42_method_3_code, exceptionTable := #[], attributes := #[] }
def k8m1 : Method := { name := "<init>", desc := "([C)V", sig := { parameters := [(.array .char)], returnType := none }, accessFlags := 1, code := some k8c1 }
def k8c2 : Code := { maxStack := 4, maxLocals := 6, code := jdk_42_method_149_code, exceptionTable := #[], attributes := #[] }
def k8m2 : Method := { name := "<init>", desc := "([CIILjava/lang/Void;)V", sig := { parameters := [(.array .char), .int, .int, (.object "java/lang/Void")], returnType := none }, accessFlags := 2, code := some k8c2 }
/-- java/lang/String -/
def k8 : Class := { plain "java/lang/String" (some 0) with
  accessFlags := 49
  interfaces := #[3, 4, 5, 6, 7]
  cf := some (fileOf pool8 10 #[.nestMembers #[1103]] #[{ accessFlags := 1, nameIndex := 5, descriptorIndex := 6, attributes := #[] }, { accessFlags := 1, nameIndex := 5, descriptorIndex := 1010, attributes := #[] }, { accessFlags := 2, nameIndex := 5, descriptorIndex := 29, attributes := #[] }] 49 2 #[1106, 1108, 575, 1110, 1112] #[{ accessFlags := 18, nameIndex := 13, descriptorIndex := 14, attributes := #[] }, { accessFlags := 18, nameIndex := 17, descriptorIndex := 18, attributes := #[] }, { accessFlags := 2, nameIndex := 21, descriptorIndex := 22, attributes := #[] }, { accessFlags := 2, nameIndex := 25, descriptorIndex := 26, attributes := #[] }, { accessFlags := 26, nameIndex := 1116, descriptorIndex := 1117, attributes := #[] }, { accessFlags := 24, nameIndex := 40, descriptorIndex := 26, attributes := #[] }, { accessFlags := 26, nameIndex := 1101, descriptorIndex := 1102, attributes := #[] }, { accessFlags := 26, nameIndex := 1121, descriptorIndex := 1122, attributes := #[] }, { accessFlags := 25, nameIndex := 599, descriptorIndex := 600, attributes := #[] }, { accessFlags := 24, nameIndex := 1125, descriptorIndex := 18, attributes := #[] }, { accessFlags := 24, nameIndex := 1127, descriptorIndex := 18, attributes := #[] }])
  fields := #[{ name := "value", type := (.array .byte), accessFlags := 18, slot := 0, constantValue := 0 }, { name := "coder", type := .byte, accessFlags := 18, slot := 1, constantValue := 0 }, { name := "hash", type := .int, accessFlags := 2, slot := 2, constantValue := 0 }, { name := "hashIsZero", type := .boolean, accessFlags := 2, slot := 3, constantValue := 0 }, { name := "serialVersionUID", type := .long, accessFlags := 26, slot := 0, constantValue := 0 }, { name := "COMPACT_STRINGS", type := .boolean, accessFlags := 24, slot := 1, constantValue := 0 }, { name := "serialPersistentFields", type := (.array (.object "java/io/ObjectStreamField")), accessFlags := 26, slot := 2, constantValue := 0 }, { name := "REPL", type := .char, accessFlags := 26, slot := 3, constantValue := 0 }, { name := "CASE_INSENSITIVE_ORDER", type := (.object "java/util/Comparator"), accessFlags := 25, slot := 4, constantValue := 0 }, { name := "LATIN1", type := .byte, accessFlags := 24, slot := 5, constantValue := 0 }, { name := "UTF16", type := .byte, accessFlags := 24, slot := 6, constantValue := 0 }]
  methods := #[k8m0, k8m1, k8m2]
  instanceTypes := #[(.array .byte), .byte, .int, .boolean]
  staticTypes := #[.long, .boolean, (.array (.object "java/io/ObjectStreamField")), .char, (.object "java/util/Comparator"), .byte, .byte]
  resolved := Array.replicate 1451 none
  statics := some 0 }

def pool9 : Array CpInfo := pool [(6, .class_ 8), (1, u "java/lang/Object"), (0, u "<init>"), (0, u "()V"), (1, .class_ 14), (1, u "java/lang/StringUTF16"), (31, u "$assertionsDisabled"), (0, u "Z"), (13, u "HI_BYTE_SHIFT"), (0, u "I"), (2, u "LO_BYTE_SHIFT"), (49, .methodref 12 116), (0, .nameAndType 117 118), (0, u "compress"), (0, u "([CI[BII)I"), (3, u "([CII)[B"), (138, u "coderFromArrayLen"), (0, u "([BI)B"), (106, .class_ 371), (1, u "java/lang/StringUTF16$LinesSpliterator"), (58, u "MAX_LENGTH"), (196, .class_ 628), (0, u "java/lang/StringUTF16$CodePointsSpliterator"), (0, .class_ 630), (0, u "java/lang/StringUTF16$CharsSpliterator")] 4

def k9m0 : Method := { name := "<init>", desc := "()V", sig := { parameters := [], returnType := none }, accessFlags := 0, code := none }
def k9c1 : Code := { maxStack := 2, maxLocals := 2, code := jdk_52_method_15_code, exceptionTable := #[], attributes := #[] }
def k9m1 : Method := { name := "coderFromArrayLen", desc := "([BI)B", sig := { parameters := [(.array .byte), .int], returnType := some .byte }, accessFlags := 8, code := some k9c1 }
def k9c2 : Code := { maxStack := 5, maxLocals := 6, code := jdk_52_method_16_code, exceptionTable := #[], attributes := #[] }
def k9m2 : Method := { name := "compress", desc := "([CII)[B", sig := { parameters := [(.array .char), .int, .int], returnType := some (.array .byte) }, accessFlags := 9, code := some k9c2 }
def k9c3 : Code := { maxStack := 3, maxLocals := 7, code := jdk_52_method_21_code, exceptionTable := #[], attributes := #[] }
def k9m3 : Method := { name := "compress", desc := "([CI[BII)I", sig := { parameters := [(.array .char), .int, (.array .byte), .int, .int], returnType := some .int }, accessFlags := 9, code := some k9c3 }
/-- java/lang/StringUTF16 -/
def k9 : Class := { plain "java/lang/StringUTF16" (some 0) with
  accessFlags := 48
  interfaces := #[]
  cf := some (fileOf pool9 12 #[.nestMembers #[627, 629, 369]] #[{ accessFlags := 0, nameIndex := 9, descriptorIndex := 10, attributes := #[] }, { accessFlags := 8, nameIndex := 261, descriptorIndex := 262, attributes := #[] }, { accessFlags := 9, nameIndex := 117, descriptorIndex := 122, attributes := #[] }, { accessFlags := 9, nameIndex := 117, descriptorIndex := 118, attributes := #[] }] 48 6 #[] #[{ accessFlags := 26, nameIndex := 61, descriptorIndex := 62, attributes := #[] }, { accessFlags := 26, nameIndex := 65, descriptorIndex := 62, attributes := #[] }, { accessFlags := 24, nameIndex := 430, descriptorIndex := 62, attributes := #[] }, { accessFlags := 4120, nameIndex := 46, descriptorIndex := 47, attributes := #[] }])
  fields := #[{ name := "HI_BYTE_SHIFT", type := .int, accessFlags := 26, slot := 0, constantValue := 0 }, { name := "LO_BYTE_SHIFT", type := .int, accessFlags := 26, slot := 1, constantValue := 0 }, { name := "MAX_LENGTH", type := .int, accessFlags := 24, slot := 2, constantValue := 0 }, { name := "$assertionsDisabled", type := .boolean, accessFlags := 4120, slot := 3, constantValue := 0 }]
  methods := #[k9m0, k9m1, k9m2, k9m3]
  instanceTypes := #[]
  staticTypes := #[.int, .int, .int, .boolean]
  resolved := Array.replicate 635 none
  statics := none }

def pool10 : Array CpInfo := pool [(3, .methodref 4 5), (0, .class_ 6), (0, .nameAndType 7 8), (0, u "com/example/trapline/trapline/collect/Budget"), (0, u "<init>"), (0, u "(Ljava/lang/String;JLcom/example/trapline/trapline/collect/Budget;)V"), (0, .methodref 10 11), (0, .class_ 12), (0, .nameAndType 7 13), (0, u "java/lang/Object"), (0, u "()V"), (0, .methodref 4 15), (0, .nameAndType 16 17), (0, u "check"), (0, u "(J)V"), (0, .fieldref 4 19), (0, .nameAndType 20 21), (0, u "computation"), (0, u "Ljava/lang/String;"), (0, .fieldref 4 23), (0, .nameAndType 24 25), (0, u "operations"), (0, u "J"), (0, .fieldref 4 27), (0, .nameAndType 28 29), (0, u "whole"), (0, u "Lcom/example/trapline/trapline/collect/Budget;"), (0, .fieldref 4 31), (0, .nameAndType 32 25), (0, u "left"), (9, .methodref 4 43), (0, .nameAndType 44 17), (0, u "spend"), (4, u "(Ljava/lang/String;J)V"), (0, u "UNBOUNDED"), (5, u "part"), (0, u "(Ljava/lang/String;J)Lcom/example/trapline/trapline/collect/Budget;"), (1, u "isSpent"), (0, u "()Z")] 17

def k10c0 : Code := { maxStack := 5, maxLocals := 4, code := prog_11_method_1_code, exceptionTable := #[], attributes := #[] }
def k10m0 : Method := { name := "<init>", desc := "(Ljava/lang/String;J)V", sig := { parameters := [(.object "java/lang/String"), .long], returnType := none }, accessFlags := 1, code := some k10c0 }
def k10c1 : Code := { maxStack := 3, maxLocals := 5, code := prog_11_method_2_code, exceptionTable := #[], attributes := #[] }
def k10m1 : Method := { name := "<init>", desc := "(Ljava/lang/String;JLcom/example/trapline/trapline/collect/Budget;)V", sig := { parameters := [(.object "java/lang/String"), .long, (.object "com/example/trapline/trapline/collect/Budget")], returnType := none }, accessFlags := 2, code := some k10c1 }
def k10c2 : Code := { maxStack := 6, maxLocals := 4, code := prog_11_method_3_code, exceptionTable := #[], attributes := #[] }
def k10m2 : Method := { name := "part", desc := "(Ljava/lang/String;J)Lcom/example/trapline/trapline/collect/Budget;", sig := { parameters := [(.object "java/lang/String"), .long], returnType := some (.object "com/example/trapline/trapline/collect/Budget") }, accessFlags := 1, code := some k10c2 }
def k10c3 : Code := { maxStack := 4, maxLocals := 2, code := prog_11_method_4_code, exceptionTable := #[], attributes := #[] }
def k10m3 : Method := { name := "check", desc := "(J)V", sig := { parameters := [.long], returnType := none }, accessFlags := 9, code := some k10c3 }
def k10c4 : Code := { maxStack := 4, maxLocals := 1, code := prog_11_method_5_code, exceptionTable := #[], attributes := #[] }
def k10m4 : Method := { name := "isSpent", desc := "()Z", sig := { parameters := [], returnType := some .boolean }, accessFlags := 1, code := some k10c4 }
def k10c5 : Code := { maxStack := 5, maxLocals := 3, code := prog_11_method_6_code, exceptionTable := #[], attributes := #[] }
def k10m5 : Method := { name := "spend", desc := "(J)V", sig := { parameters := [.long], returnType := none }, accessFlags := 1, code := some k10c5 }
/-- com/example/trapline/trapline/collect/Budget -/
def k10 : Class := { plain "com/example/trapline/trapline/collect/Budget" (some 0) with
  accessFlags := 49
  interfaces := #[]
  cf := some (fileOf pool10 4 #[] #[{ accessFlags := 1, nameIndex := 7, descriptorIndex := 49, attributes := #[] }, { accessFlags := 2, nameIndex := 7, descriptorIndex := 8, attributes := #[] }, { accessFlags := 1, nameIndex := 56, descriptorIndex := 57, attributes := #[] }, { accessFlags := 9, nameIndex := 16, descriptorIndex := 17, attributes := #[] }, { accessFlags := 1, nameIndex := 59, descriptorIndex := 60, attributes := #[] }, { accessFlags := 1, nameIndex := 44, descriptorIndex := 17, attributes := #[] }] 49 10 #[] #[{ accessFlags := 25, nameIndex := 50, descriptorIndex := 25, attributes := #[] }, { accessFlags := 18, nameIndex := 20, descriptorIndex := 21, attributes := #[] }, { accessFlags := 18, nameIndex := 24, descriptorIndex := 25, attributes := #[] }, { accessFlags := 18, nameIndex := 28, descriptorIndex := 29, attributes := #[] }, { accessFlags := 2, nameIndex := 32, descriptorIndex := 25, attributes := #[] }])
  fields := #[{ name := "UNBOUNDED", type := .long, accessFlags := 25, slot := 0, constantValue := 0 }, { name := "computation", type := (.object "java/lang/String"), accessFlags := 18, slot := 0, constantValue := 0 }, { name := "operations", type := .long, accessFlags := 18, slot := 1, constantValue := 0 }, { name := "whole", type := (.object "com/example/trapline/trapline/collect/Budget"), accessFlags := 18, slot := 2, constantValue := 0 }, { name := "left", type := .long, accessFlags := 2, slot := 3, constantValue := 0 }]
  methods := #[k10m0, k10m1, k10m2, k10m3, k10m4, k10m5]
  instanceTypes := #[(.object "java/lang/String"), .long, (.object "com/example/trapline/trapline/collect/Budget"), .long]
  staticTypes := #[.long]
  resolved := Array.replicate 78 none
  statics := none }

def pool11 : Array CpInfo := pool [(4, .class_ 6), (1, u "java/lang/Object"), (0, u "<init>"), (0, u "()V"), (5, .class_ 16), (1, u "java/lang/StringLatin1"), (104, u "$assertionsDisabled"), (0, u "Z"), (98, .class_ 223), (1, u "java/lang/StringLatin1$LinesSpliterator"), (166, .class_ 391), (0, u "java/lang/StringLatin1$CharsSpliterator")] 3

def k11m0 : Method := { name := "<init>", desc := "()V", sig := { parameters := [], returnType := none }, accessFlags := 0, code := none }
/-- java/lang/StringLatin1 -/
def k11 : Class := { plain "java/lang/StringLatin1" (some 0) with
  accessFlags := 48
  interfaces := #[]
  cf := some (fileOf pool11 14 #[.nestMembers #[390, 221]] #[{ accessFlags := 0, nameIndex := 7, descriptorIndex := 8, attributes := #[] }] 48 4 #[] #[{ accessFlags := 4120, nameIndex := 121, descriptorIndex := 122, attributes := #[] }])
  fields := #[{ name := "$assertionsDisabled", type := .boolean, accessFlags := 4120, slot := 0, constantValue := 0 }]
  methods := #[k11m0]
  instanceTypes := #[]
  staticTypes := #[.boolean]
  resolved := Array.replicate 395 none
  statics := none }

def pool12 : Array CpInfo := pool [(2, .class_ 4), (1, u "java/lang/Object"), (0, u "<init>"), (0, u "()V"), (17, .class_ 26), (1, u "jdk/internal/util/Preconditions"), (28, .class_ 56), (0, u "jdk/internal/util/Preconditions$4"), (57, .class_ 115), (0, u "jdk/internal/util/Preconditions$1"), (7, u "SIOOBE_FORMATTER"), (0, u "Ljava/util/function/BiFunction;"), (0, .class_ 126), (0, u "jdk/internal/util/Preconditions$2"), (3, u "AIOOBE_FORMATTER"), (0, .class_ 132), (0, u "jdk/internal/util/Preconditions$3"), (3, u "IOOBE_FORMATTER")] 57

def k12m0 : Method := { name := "<init>", desc := "()V", sig := { parameters := [], returnType := none }, accessFlags := 1, code := none }
/-- jdk/internal/util/Preconditions -/
def k12 : Class := { plain "jdk/internal/util/Preconditions" (some 0) with
  accessFlags := 33
  interfaces := #[]
  cf := some (fileOf pool12 24 #[.nestMembers #[55, 131, 125, 114]] #[{ accessFlags := 1, nameIndex := 5, descriptorIndex := 6, attributes := #[] }] 33 2 #[] #[{ accessFlags := 25, nameIndex := 123, descriptorIndex := 124, attributes := #[] }, { accessFlags := 25, nameIndex := 130, descriptorIndex := 124, attributes := #[] }, { accessFlags := 25, nameIndex := 136, descriptorIndex := 124, attributes := #[] }])
  fields := #[{ name := "SIOOBE_FORMATTER", type := (.object "java/util/function/BiFunction"), accessFlags := 25, slot := 0, constantValue := 0 }, { name := "AIOOBE_FORMATTER", type := (.object "java/util/function/BiFunction"), accessFlags := 25, slot := 1, constantValue := 0 }, { name := "IOOBE_FORMATTER", type := (.object "java/util/function/BiFunction"), accessFlags := 25, slot := 2, constantValue := 0 }]
  methods := #[k12m0]
  instanceTypes := #[]
  staticTypes := #[(.object "java/util/function/BiFunction"), (.object "java/util/function/BiFunction"), (.object "java/util/function/BiFunction")]
  resolved := Array.replicate 194 none
  statics := some 1 }

def pool13 : Array CpInfo := pool [(9, u "<init>"), (6, .class_ 18), (1, u "java/lang/Object"), (0, u "()V"), (1, .class_ 23), (1, u "jdk/internal/util/ArraysSupport"), (0, u "LOG2_ARRAY_LONG_INDEX_SCALE"), (0, u "I"), (2, u "U"), (0, u "Ljdk/internal/misc/Unsafe;"), (8, u "BIG_ENDIAN"), (0, u "Z"), (8, u "LOG2_BYTE_BIT_SIZE"), (4, u "LOG2_ARRAY_INT_INDEX_SCALE"), (54, u "JLA"), (0, u "Ljdk/internal/access/JavaLangAccess;"), (11, u "LOG2_ARRAY_BOOLEAN_INDEX_SCALE"), (9, u "LOG2_ARRAY_BYTE_INDEX_SCALE"), (5, u "LOG2_ARRAY_CHAR_INDEX_SCALE"), (5, u "LOG2_ARRAY_SHORT_INDEX_SCALE"), (18, u "LOG2_ARRAY_FLOAT_INDEX_SCALE"), (24, u "LOG2_ARRAY_DOUBLE_INDEX_SCALE"), (89, u "T_BOOLEAN"), (2, u "T_CHAR"), (1, u "T_FLOAT"), (1, u "T_DOUBLE"), (1, u "T_BYTE"), (1, u "T_SHORT"), (1, u "T_INT"), (1, u "T_LONG"), (1, u "SOFT_MAX_ARRAY_LENGTH")] 83

def k13m0 : Method := { name := "<init>", desc := "()V", sig := { parameters := [], returnType := none }, accessFlags := 2, code := none }
/-- jdk/internal/util/ArraysSupport -/
def k13 : Class := { plain "jdk/internal/util/ArraysSupport" (some 0) with
  accessFlags := 33
  interfaces := #[]
  cf := some (fileOf pool13 21 #[] #[{ accessFlags := 2, nameIndex := 9, descriptorIndex := 19, attributes := #[] }] 33 16 #[] #[{ accessFlags := 24, nameIndex := 28, descriptorIndex := 29, attributes := #[] }, { accessFlags := 26, nameIndex := 38, descriptorIndex := 39, attributes := #[] }, { accessFlags := 25, nameIndex := 121, descriptorIndex := 25, attributes := #[] }, { accessFlags := 25, nameIndex := 131, descriptorIndex := 25, attributes := #[] }, { accessFlags := 25, nameIndex := 137, descriptorIndex := 25, attributes := #[] }, { accessFlags := 25, nameIndex := 143, descriptorIndex := 25, attributes := #[] }, { accessFlags := 25, nameIndex := 53, descriptorIndex := 25, attributes := #[] }, { accessFlags := 25, nameIndex := 24, descriptorIndex := 25, attributes := #[] }, { accessFlags := 25, nameIndex := 162, descriptorIndex := 25, attributes := #[] }, { accessFlags := 25, nameIndex := 187, descriptorIndex := 25, attributes := #[] }, { accessFlags := 26, nameIndex := 48, descriptorIndex := 25, attributes := #[] }, { accessFlags := 25, nameIndex := 277, descriptorIndex := 25, attributes := #[] }, { accessFlags := 25, nameIndex := 280, descriptorIndex := 25, attributes := #[] }, { accessFlags := 25, nameIndex := 282, descriptorIndex := 25, attributes := #[] }, { accessFlags := 25, nameIndex := 284, descriptorIndex := 25, attributes := #[] }, { accessFlags := 25, nameIndex := 286, descriptorIndex := 25, attributes := #[] }, { accessFlags := 25, nameIndex := 288, descriptorIndex := 25, attributes := #[] }, { accessFlags := 25, nameIndex := 290, descriptorIndex := 25, attributes := #[] }, { accessFlags := 25, nameIndex := 292, descriptorIndex := 25, attributes := #[] }, { accessFlags := 26, nameIndex := 108, descriptorIndex := 109, attributes := #[] }, { accessFlags := 25, nameIndex := 294, descriptorIndex := 25, attributes := #[] }])
  fields := #[{ name := "U", type := (.object "jdk/internal/misc/Unsafe"), accessFlags := 24, slot := 0, constantValue := 0 }, { name := "BIG_ENDIAN", type := .boolean, accessFlags := 26, slot := 1, constantValue := 0 }, { name := "LOG2_ARRAY_BOOLEAN_INDEX_SCALE", type := .int, accessFlags := 25, slot := 2, constantValue := 0 }, { name := "LOG2_ARRAY_BYTE_INDEX_SCALE", type := .int, accessFlags := 25, slot := 3, constantValue := 0 }, { name := "LOG2_ARRAY_CHAR_INDEX_SCALE", type := .int, accessFlags := 25, slot := 4, constantValue := 0 }, { name := "LOG2_ARRAY_SHORT_INDEX_SCALE", type := .int, accessFlags := 25, slot := 5, constantValue := 0 }, { name := "LOG2_ARRAY_INT_INDEX_SCALE", type := .int, accessFlags := 25, slot := 6, constantValue := 0 }, { name := "LOG2_ARRAY_LONG_INDEX_SCALE", type := .int, accessFlags := 25, slot := 7, constantValue := 0 }, { name := "LOG2_ARRAY_FLOAT_INDEX_SCALE", type := .int, accessFlags := 25, slot := 8, constantValue := 0 }, { name := "LOG2_ARRAY_DOUBLE_INDEX_SCALE", type := .int, accessFlags := 25, slot := 9, constantValue := 0 }, { name := "LOG2_BYTE_BIT_SIZE", type := .int, accessFlags := 26, slot := 10, constantValue := 0 }, { name := "T_BOOLEAN", type := .int, accessFlags := 25, slot := 11, constantValue := 0 }, { name := "T_CHAR", type := .int, accessFlags := 25, slot := 12, constantValue := 0 }, { name := "T_FLOAT", type := .int, accessFlags := 25, slot := 13, constantValue := 0 }, { name := "T_DOUBLE", type := .int, accessFlags := 25, slot := 14, constantValue := 0 }, { name := "T_BYTE", type := .int, accessFlags := 25, slot := 15, constantValue := 0 }, { name := "T_SHORT", type := .int, accessFlags := 25, slot := 16, constantValue := 0 }, { name := "T_INT", type := .int, accessFlags := 25, slot := 17, constantValue := 0 }, { name := "T_LONG", type := .int, accessFlags := 25, slot := 18, constantValue := 0 }, { name := "JLA", type := (.object "jdk/internal/access/JavaLangAccess"), accessFlags := 26, slot := 19, constantValue := 0 }, { name := "SOFT_MAX_ARRAY_LENGTH", type := .int, accessFlags := 25, slot := 20, constantValue := 0 }]
  methods := #[k13m0]
  instanceTypes := #[]
  staticTypes := #[(.object "jdk/internal/misc/Unsafe"), .boolean, .int, .int, .int, .int, .int, .int, .int, .int, .int, .int, .int, .int, .int, .int, .int, .int, .int, (.object "jdk/internal/access/JavaLangAccess"), .int]
  resolved := Array.replicate 378 none
  statics := none }

def pool14 : Array CpInfo := pool [(1, u "java/lang/Cloneable"), (0, .class_ 1), (0, u "java/lang/Object"), (0, .class_ 3)] 3

/-- java/lang/Cloneable -/
def k14 : Class := { plain "java/lang/Cloneable" (some 0) with
  accessFlags := 1537
  interfaces := #[]
  cf := some (fileOf pool14 2 #[] #[] 1537 4 #[] #[])
  fields := #[]
  methods := #[]
  instanceTypes := #[]
  staticTypes := #[]
  resolved := Array.replicate 8 none
  statics := none }

/-- the primitive byte -/
def k15 : Class := { plain "byte" none with kind := .primitive 'B', accessFlags := 0x411 }
/-- [B -/
def k16 : Class := { plain "[B" (some 0) with kind := .array 15 .byte, interfaces := #[14, 3], accessFlags := 1041 }

/-- the primitive char -/
def k17 : Class := { plain "char" none with kind := .primitive 'C', accessFlags := 0x411 }
/-- [C -/
def k18 : Class := { plain "[C" (some 0) with kind := .array 17 .char, interfaces := #[14, 3], accessFlags := 1041 }

/-- the primitive int -/
def k19 : Class := { plain "int" none with kind := .primitive 'I', accessFlags := 0x411 }
/-- [I -/
def k20 : Class := { plain "[I" (some 0) with kind := .array 19 .int, interfaces := #[14, 3], accessFlags := 1041 }

def heap : Heap := #[{ cls := 8, slots := #[.long 0, .int 1, .null, .int 0, .null, .int 0, .int 0], vm := .statics 8 },
  { cls := 12, slots := #[.null, .null, .null], vm := .statics 12 }]
def classes : Array Class := #[k0, k1, k2, k3, k4, k5, k6, k7, k8, k9, k10, k11, k12, k13, k14, k15, k16, k17, k18, k19, k20]
def interned : List (Array UInt16 × Addr) := []
def slotsUsed : Nat := 10
def theMethod : MethodId := ⟨1, 1⟩
def args0 : Array Value := #[.long 5, .long 3, .long 7, .long 9, .int 4660]
def aboutOver (below : List Frame) : State where
  vm := { classes := classes, interned := interned.toArray }
  heap := heap
  slotsUsed := slotsUsed
  threads := #[{ frames := .invoking theMethod args0 :: below }]
def below0 : List Frame := [.native { method := ⟨0, 0⟩, args := #[] }]
def about1 : State := aboutOver below0
def p0 : Program := .bare "" "" ""
def e0 : Env := launch0.env 0 0 0
theorem w_frames : about1.frames = Frame.invoking theMethod args0 :: below0 := rfl
set_option maxRecDepth 65536 in
theorem w_args : argsFit about1.vm theMethod args0 = true := by decide +kernel
set_option maxRecDepth 65536 in
theorem w_heap : heapFits about1 = true := by decide +kernel
set_option maxRecDepth 65536 in
theorem w_runnable : about1.curStatus? = some .runnable := by decide +kernel
set_option maxRecDepth 65536 in
theorem w_alone : about1.alone = true := by decide +kernel
set_option maxRecDepth 65536 in
theorem w_named : about1.methodNamed? x = some theMethod := by decide +kernel
set_option maxRecDepth 65536 in
theorem w_hears : about1.hears theMethod below0 = true := by decide +kernel
set_option maxRecDepth 65536 in
theorem w_ripe : about1.ripe theMethod args0 below0 = true := by decide +kernel
theorem w_running : about1.status = .running := rfl
set_option maxRecDepth 65536 in
theorem w_room : about1.hasRoom e0.platform room_1 = true :=
  launch0.hasRoom_least _ room_1 (by decide +kernel) (by decide +kernel) (by decide +kernel) (by decide +kernel) (by decide +kernel) (by decide +kernel)
theorem allAtoms_all (ts : List Jvm.Cond) (a : Array Jvm.Value) (st : Jvm.State) : (allAtoms ts).before a st = ts.all (fun c => c.before a st) := by
  induction ts with
  | nil => rfl
  | cons c t ih =>
    show (Jvm.Cond.and c (allAtoms t)).before a st = _
    rw [Jvm.Cond.before_and, ih, List.all_cons]
def words1 : List Jvm.Cond := Jvm.Cond.code x code maxLocals ret :: tables_1
/-- a 'code' word, met by the world's own term for the bytes: nothing is compared byte by byte -/
theorem code_word {y : MethodName} {bytes : ByteArray} {mx : Nat} {rt : Option FieldType} {a : Array Value} {s : State} {m : MethodId} {meth : Method} {c : Code} (h1 : s.methodNamed? y = some m) (h2 : s.vm.method? m = some meth) (h3 : meth.code = some c) (h4 : c.code = bytes)
    (h5 : (c.maxLocals == mx && c.exceptionTable.isEmpty && decide (c.maxStack ≤ mostOperands) && decide (meth.sig.returnType = rt) && !meth.locks && decide (parseMethodDescriptor y.desc = some meth.sig)) = true) : (Jvm.Cond.code y bytes mx rt).before a s = true := by
  simp only [Bool.and_eq_true, beq_iff_eq, Bool.not_eq_true', decide_eq_true_eq] at h5
  obtain ⟨⟨⟨⟨⟨g1, g2⟩, g3⟩, g4⟩, g5⟩, g6⟩ := h5
  simp [Cond.before, Cond.holds, Cond.value, h1, h2, h3, h4, g1, g2, g3, g4, g5, g6]
def isCode : Jvm.Cond → Bool
  | .code _ _ _ _ => true
  | _ => false
theorem all_split {L : List Jvm.Cond} {P : Jvm.Cond → Bool} (h1 : L.all (fun c => isCode c || P c) = true) (h2 : ∀ c ∈ L.filter isCode, P c = true) : L.all P = true := by
  refine List.all_eq_true.mpr fun c hc => ?_
  have h := List.all_eq_true.mp h1 c hc
  rcases Bool.eq_false_or_eq_true (isCode c) with hi | hi
  · exact h2 c (List.mem_filter.mpr ⟨hc, hi⟩)
  · simpa [hi] using h
set_option maxRecDepth 65536 in
theorem w_c0 : (Jvm.Cond.code x code maxLocals ret).before args0 about1 = true := code_word (m := ⟨1, 1⟩) (meth := k1m1) (c := k1c1) (by decide +kernel) rfl rfl rfl (by decide +kernel)
set_option maxRecDepth 65536 in
theorem w_c1 : (Jvm.Cond.code ({ cls := "java/lang/Math", name := "min", desc := "(JJ)J" } : Jvm.MethodName) jdk_29_method_70_code (4 : Nat) (Option.some Jvm.ClassFile.FieldType.long)).before args0 about1 = true := code_word (m := ⟨2, 1⟩) (meth := k2m1) (c := k2c1) (by decide +kernel) rfl rfl rfl (by decide +kernel)
set_option maxRecDepth 65536 in
theorem w_c2 : (Jvm.Cond.code ({ cls := "java/lang/String", name := "<init>", desc := "([C)V" } : Jvm.MethodName) jdk_42_method_3_code (2 : Nat) (Option.none : Option Jvm.ClassFile.FieldType)).before args0 about1 = true := code_word (m := ⟨8, 1⟩) (meth := k8m1) (c := k8c1) (by decide +kernel) rfl rfl rfl (by decide +kernel)
set_option maxRecDepth 65536 in
theorem w_c3 : (Jvm.Cond.code ({ cls := "java/lang/String", name := "<init>", desc := "([CIILjava/lang/Void;)V" } : Jvm.MethodName) jdk_42_method_149_code (6 : Nat) (Option.none : Option Jvm.ClassFile.FieldType)).before args0 about1 = true := code_word (m := ⟨8, 2⟩) (meth := k8m2) (c := k8c2) (by decide +kernel) rfl rfl rfl (by decide +kernel)
set_option maxRecDepth 65536 in
theorem w_c4 : (Jvm.Cond.code ({ cls := "java/lang/Object", name := "<init>", desc := "()V" } : Jvm.MethodName) object_method_1_code (1 : Nat) (Option.none : Option Jvm.ClassFile.FieldType)).before args0 about1 = true := code_word (m := ⟨0, 0⟩) (meth := k0m0) (c := k0c0) (by decide +kernel) rfl rfl rfl (by decide +kernel)
set_option maxRecDepth 65536 in
theorem w_c5 : (Jvm.Cond.code ({ cls := "java/lang/StringUTF16", name := "compress", desc := "([CII)[B" } : Jvm.MethodName) jdk_52_method_16_code (6 : Nat) (Option.some (Jvm.ClassFile.FieldType.array Jvm.ClassFile.FieldType.byte))).before args0 about1 = true := code_word (m := ⟨9, 2⟩) (meth := k9m2) (c := k9c2) (by decide +kernel) rfl rfl rfl (by decide +kernel)
set_option maxRecDepth 65536 in
theorem w_c6 : (Jvm.Cond.code ({ cls := "java/lang/StringUTF16", name := "compress", desc := "([CI[BII)I" } : Jvm.MethodName) jdk_52_method_21_code (7 : Nat) (Option.some Jvm.ClassFile.FieldType.int)).before args0 about1 = true := code_word (m := ⟨9, 3⟩) (meth := k9m3) (c := k9c3) (by decide +kernel) rfl rfl rfl (by decide +kernel)
set_option maxRecDepth 65536 in
theorem w_c7 : (Jvm.Cond.code ({ cls := "java/lang/StringUTF16", name := "coderFromArrayLen", desc := "([BI)B" } : Jvm.MethodName) jdk_52_method_15_code (2 : Nat) (Option.some Jvm.ClassFile.FieldType.byte)).before args0 about1 = true := code_word (m := ⟨9, 1⟩) (meth := k9m1) (c := k9c1) (by decide +kernel) rfl rfl rfl (by decide +kernel)
set_option maxRecDepth 65536 in
theorem w_c8 : (Jvm.Cond.code ({ cls := "com/example/trapline/trapline/collect/Budget", name := "<init>", desc := "(Ljava/lang/String;J)V" } : Jvm.MethodName) prog_11_method_1_code (4 : Nat) (Option.none : Option Jvm.ClassFile.FieldType)).before args0 about1 = true := code_word (m := ⟨10, 0⟩) (meth := k10m0) (c := k10c0) (by decide +kernel) rfl rfl rfl (by decide +kernel)
set_option maxRecDepth 65536 in
theorem w_c9 : (Jvm.Cond.code ({ cls := "com/example/trapline/trapline/collect/Budget", name := "<init>", desc := "(Ljava/lang/String;JLcom/example/trapline/trapline/collect/Budget;)V" } : Jvm.MethodName) prog_11_method_2_code (5 : Nat) (Option.none : Option Jvm.ClassFile.FieldType)).before args0 about1 = true := code_word (m := ⟨10, 1⟩) (meth := k10m1) (c := k10c1) (by decide +kernel) rfl rfl rfl (by decide +kernel)
set_option maxRecDepth 65536 in
theorem w_c10 : (Jvm.Cond.code ({ cls := "com/example/trapline/trapline/collect/Budget", name := "check", desc := "(J)V" } : Jvm.MethodName) prog_11_method_4_code (2 : Nat) (Option.none : Option Jvm.ClassFile.FieldType)).before args0 about1 = true := code_word (m := ⟨10, 3⟩) (meth := k10m3) (c := k10c3) (by decide +kernel) rfl rfl rfl (by decide +kernel)
set_option maxRecDepth 65536 in
theorem w_c11 : (Jvm.Cond.code ({ cls := "com/example/trapline/trapline/collect/Budget", name := "isSpent", desc := "()Z" } : Jvm.MethodName) prog_11_method_5_code (1 : Nat) (Option.some Jvm.ClassFile.FieldType.boolean)).before args0 about1 = true := code_word (m := ⟨10, 4⟩) (meth := k10m4) (c := k10c4) (by decide +kernel) rfl rfl rfl (by decide +kernel)
set_option maxRecDepth 65536 in
theorem w_c12 : (Jvm.Cond.code ({ cls := "com/example/trapline/trapline/collect/Budget", name := "spend", desc := "(J)V" } : Jvm.MethodName) prog_11_method_6_code (3 : Nat) (Option.none : Option Jvm.ClassFile.FieldType)).before args0 about1 = true := code_word (m := ⟨10, 5⟩) (meth := k10m5) (c := k10c5) (by decide +kernel) rfl rfl rfl (by decide +kernel)
set_option maxRecDepth 65536 in
theorem w_c13 : (Jvm.Cond.code ({ cls := "com/example/trapline/trapline/collect/Budget", name := "part", desc := "(Ljava/lang/String;J)Lcom/example/trapline/trapline/collect/Budget;" } : Jvm.MethodName) prog_11_method_3_code (4 : Nat) (Option.some (Jvm.ClassFile.FieldType.object "com/example/trapline/trapline/collect/Budget"))).before args0 about1 = true := code_word (m := ⟨10, 2⟩) (meth := k10m2) (c := k10c2) (by decide +kernel) rfl rfl rfl (by decide +kernel)
def codes1 : List Jvm.Cond := [Jvm.Cond.code x code maxLocals ret, Jvm.Cond.code ({ cls := "java/lang/Math", name := "min", desc := "(JJ)J" } : Jvm.MethodName) jdk_29_method_70_code (4 : Nat) (Option.some Jvm.ClassFile.FieldType.long), Jvm.Cond.code ({ cls := "java/lang/String", name := "<init>", desc := "([C)V" } : Jvm.MethodName) jdk_42_method_3_code (2 : Nat) (Option.none : Option Jvm.ClassFile.FieldType), Jvm.Cond.code ({ cls := "java/lang/String", name := "<init>", desc := "([CIILjava/lang/Void;)V" } : Jvm.MethodName) jdk_42_method_149_code (6 : Nat) (Option.none : Option Jvm.ClassFile.FieldType), Jvm.Cond.code ({ cls := "java/lang/Object", name := "<init>", desc := "()V" } : Jvm.MethodName) object_method_1_code (1 : Nat) (Option.none : Option Jvm.ClassFile.FieldType), Jvm.Cond.code ({ cls := "java/lang/StringUTF16", name := "compress", desc := "([CII)[B" } : Jvm.MethodName) jdk_52_method_16_code (6 : Nat) (Option.some (Jvm.ClassFile.FieldType.array Jvm.ClassFile.FieldType.byte)), Jvm.Cond.code ({ cls := "java/lang/StringUTF16", name := "compress", desc := "([CI[BII)I" } : Jvm.MethodName) jdk_52_method_21_code (7 : Nat) (Option.some Jvm.ClassFile.FieldType.int), Jvm.Cond.code ({ cls := "java/lang/StringUTF16", name := "coderFromArrayLen", desc := "([BI)B" } : Jvm.MethodName) jdk_52_method_15_code (2 : Nat) (Option.some Jvm.ClassFile.FieldType.byte), Jvm.Cond.code ({ cls := "com/example/trapline/trapline/collect/Budget", name := "<init>", desc := "(Ljava/lang/String;J)V" } : Jvm.MethodName) prog_11_method_1_code (4 : Nat) (Option.none : Option Jvm.ClassFile.FieldType), Jvm.Cond.code ({ cls := "com/example/trapline/trapline/collect/Budget", name := "<init>", desc := "(Ljava/lang/String;JLcom/example/trapline/trapline/collect/Budget;)V" } : Jvm.MethodName) prog_11_method_2_code (5 : Nat) (Option.none : Option Jvm.ClassFile.FieldType), Jvm.Cond.code ({ cls := "com/example/trapline/trapline/collect/Budget", name := "check", desc := "(J)V" } : Jvm.MethodName) prog_11_method_4_code (2 : Nat) (Option.none : Option Jvm.ClassFile.FieldType), Jvm.Cond.code ({ cls := "com/example/trapline/trapline/collect/Budget", name := "isSpent", desc := "()Z" } : Jvm.MethodName) prog_11_method_5_code (1 : Nat) (Option.some Jvm.ClassFile.FieldType.boolean), Jvm.Cond.code ({ cls := "com/example/trapline/trapline/collect/Budget", name := "spend", desc := "(J)V" } : Jvm.MethodName) prog_11_method_6_code (3 : Nat) (Option.none : Option Jvm.ClassFile.FieldType), Jvm.Cond.code ({ cls := "com/example/trapline/trapline/collect/Budget", name := "part", desc := "(Ljava/lang/String;J)Lcom/example/trapline/trapline/collect/Budget;" } : Jvm.MethodName) prog_11_method_3_code (4 : Nat) (Option.some (Jvm.ClassFile.FieldType.object "com/example/trapline/trapline/collect/Budget"))]
set_option maxRecDepth 65536 in
theorem codes_eq : words1.filter isCode = codes1 := rfl
theorem w_codes : ∀ c ∈ words1.filter isCode, c.before args0 about1 = true := by
  rw [codes_eq]
  intro c hc
  simp only [codes1, List.mem_cons, List.not_mem_nil, or_false] at hc
  rcases hc with rfl | rfl | rfl | rfl | rfl | rfl | rfl | rfl | rfl | rfl | rfl | rfl | rfl | rfl
  · exact w_c0
  · exact w_c1
  · exact w_c2
  · exact w_c3
  · exact w_c4
  · exact w_c5
  · exact w_c6
  · exact w_c7
  · exact w_c8
  · exact w_c9
  · exact w_c10
  · exact w_c11
  · exact w_c12
  · exact w_c13
set_option maxRecDepth 65536 in
theorem w_t1 : (words1.take 24).all (fun c => isCode c || c.before args0 about1) = true := by decide +kernel
set_option maxRecDepth 65536 in
theorem w_t2 : ((words1.drop 24).take 24).all (fun c => isCode c || c.before args0 about1) = true := by decide +kernel
set_option maxRecDepth 65536 in
theorem w_t3 : (((words1.drop 24).drop 24).take 24).all (fun c => isCode c || c.before args0 about1) = true := by decide +kernel
set_option maxRecDepth 65536 in
theorem w_t4 : (((words1.drop 24).drop 24).drop 24).all (fun c => isCode c || c.before args0 about1) = true := by decide +kernel
theorem w_tables : (allAtoms (Jvm.Cond.code x code maxLocals ret :: tables_1)).before args0 about1 = true := by
  rw [allAtoms_all]
  show words1.all (fun c => c.before args0 about1) = true
  refine all_split ?_ w_codes
  rw [← List.take_append_drop 24 words1, List.all_append, w_t1, ← List.take_append_drop 24 (words1.drop 24), List.all_append, w_t2, ← List.take_append_drop 24 ((words1.drop 24).drop 24), List.all_append, w_t3, w_t4]
  rfl
set_option maxRecDepth 65536 in
theorem w_rest : rest_1_c.before args0 about1 = true := by decide +kernel
set_option maxRecDepth 65536 in
theorem w_case : (Jvm.Cond.and given_1 narrow_1).before args0 about1 = true := by decide +kernel
theorem w_applies : (headSpec (Jvm.Cond.code x code maxLocals ret :: tables_1) room_1).applies x e0.platform about1 = true :=
  (Spec.applies_iff w_frames).mpr ⟨w_running, w_runnable, w_alone, w_named, w_hears, w_ripe, w_room, w_tables⟩
theorem atStart : AtStart classFile x code maxLocals ret World_1 tables_1 room_1 Calls_1 rest_1 Pre_1 launch0 p0 e0 about1 theMethod args0 below0 :=
  ⟨lists_1, trivial, launch0.admits_env _ _ _, launch0.least_env, fairChoices_fair.cas, fairChoices_fair.clock, w_frames, w_args, w_heap, w_applies, trivial, w_rest, w_case⟩
end start1
theorem witness_1 : WitnessClaimed_1 := ⟨start1.p0, start1.e0, start1.about1, start1.theMethod, start1.args0, start1.below0, start1.atStart⟩
end Jvm.Pilot.@@N@@
