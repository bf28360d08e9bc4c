import JvmDerived
import JvmDerived.Pilot.@@N@@Statement
import JvmDerived.Pilot.@@N@@Code
set_option linter.unusedVariables false
set_option linter.unusedSimpArgs false
@@BLOCK:NumsL.lean.txt@@
/- laws to paste: Road.backV (cut by pick.py; bodies as the Statement names them) -/
namespace Jvm.Pilot.@@N@@
namespace StrChars
open Jvm Sem ClassFile Op Lib Jvm.Stand Jvm.Free.XT Jvm.Free.ALB Jvm.Free.JM Jvm.Free
open Jvm.Lib.Cold (StaticIs)
/-- a char array whose places are chars -/
def Ch (a : Addr) (A : Cell) (U : State) : Prop := Arr .char a A U ∧ Typed .char A
theorem Ch.mv {a : Addr} {A : Cell} {U U' : State} (h : Ch a A U) (hal : U.vm.Alike U'.vm) (hh : U'.heap = U.heap) : Ch a A U' := ⟨h.1.mv hal hh, h.2⟩
theorem Ch.keep {a : Addr} {A : Cell} {U U' : State} (h : Ch a A U) (hal : U.vm.Alike U'.vm) (hk : U'.heap[a]? = some A) : Ch a A U' := ⟨h.1.keep hal hk, h.2⟩
/-- what place i of a char[]'s cell holds -/
def cv (A : Cell) (i : Nat) : Int32 := match A.slots[i]? with | some (.int x) => x | _ => 0
theorem Ch.get {a : Addr} {A : Cell} {U : State} (h : Ch a A U) {i : Nat} (hi : i < A.slots.size) : A.slots[i]? = some (.int (cv A i)) := by
  have e := Array.getElem?_eq_getElem hi
  have f := h.2 i _ e
  unfold cv; rw [e]
  generalize A.slots[i] = v at f
  cases v <;> simp [fits] at f ⊢
/-- the byte that i2b leaves of a char -/
def lo8 (x : Int32) : Int32 := x.toInt8.toInt32
theorem fits_lo8 (y : Int32) : fits .byte (.int (lo8 y)) = true := by
  have h1 := y.toInt8.le_toInt
  have h2 := y.toInt8.toInt_lt
  simp only [lo8, fits, Bool.and_eq_true, decide_eq_true_eq, Int32.le_iff_toInt_le, Int8.toInt_toInt32, show (-128 : Int32).toInt = -128 from by decide, show (127 : Int32).toInt = 127 from by decide]
  omega
/-- A' is A but that each place j of lo .. hi - 1 holds f j -/
def Laid (A A' : Cell) (lo hi : Nat) (f : Nat → Value) : Prop := A'.cls = A.cls ∧ A'.vm = A.vm ∧ A'.slots.size = A.slots.size ∧ ∀ i, A'.slots[i]? = if lo ≤ i ∧ i < hi then some (f i) else A.slots[i]?
theorem Laid.zero (A : Cell) (lo : Nat) (f : Nat → Value) : Laid A A lo (lo + 0) f := ⟨rfl, rfl, rfl, fun i => by rw [if_neg (by omega)]⟩
theorem Laid.step {A Ak : Cell} {lo k : Nat} {f : Nat → Value} {v : Value} (h : Laid A Ak lo k f) (hlo : lo ≤ k) (hk : k < Ak.slots.size) (hv : v = f k) : Laid A (Ak.setSlot k v) lo (k + 1) f := by
  refine ⟨h.1, h.2.1, by simpa [Cell.setSlot] using h.2.2.1, fun i => ?_⟩
  by_cases e : k = i
  · subst e; rw [Cell.slots_setSlot_self v hk, if_pos (by omega), hv]
  · rw [Cell.slots_setSlot_ne v e, h.2.2.2 i]
    by_cases q : lo ≤ i ∧ i < k
    · rw [if_pos q, if_pos (by omega)]
    · rw [if_neg q, if_neg (by omega)]
def U16 : String := "java/lang/StringUTF16"
namespace Cmp5
def yN : MethodName := ⟨"java/lang/StringUTF16", "compress", "([CI[BII)I"⟩
abbrev yB : ByteArray := jdk_52_method_21_code
theorem d0 : decode yB 0 = .ok (.iconst 0, 1) := by decide +kernel
theorem d1 : decode yB 1 = .ok (.istore 5, 2) := by decide +kernel
theorem d3 : decode yB 3 = .ok (.iload 5, 2) := by decide +kernel
theorem d5 : decode yB 5 = .ok (.iload 4, 2) := by decide +kernel
theorem d7 : decode yB 7 = .ok (.if_icmp (.ge) 37, 3) := by decide +kernel
theorem d10 : decode yB 10 = .ok (.aload_n 0, 1) := by decide +kernel
theorem d11 : decode yB 11 = .ok (.iload_n 1, 1) := by decide +kernel
theorem d12 : decode yB 12 = .ok (.caload, 1) := by decide +kernel
theorem d13 : decode yB 13 = .ok (.istore 6, 2) := by decide +kernel
theorem d15 : decode yB 15 = .ok (.iload 6, 2) := by decide +kernel
theorem d17 : decode yB 17 = .ok (.sipush 255, 3) := by decide +kernel
theorem d20 : decode yB 20 = .ok (.if_icmp (.le) 6, 3) := by decide +kernel
theorem d26 : decode yB 26 = .ok (.aload_n 2, 1) := by decide +kernel
theorem d27 : decode yB 27 = .ok (.iload_n 3, 1) := by decide +kernel
theorem d28 : decode yB 28 = .ok (.iload 6, 2) := by decide +kernel
theorem d30 : decode yB 30 = .ok (.i2b, 1) := by decide +kernel
theorem d31 : decode yB 31 = .ok (.bastore, 1) := by decide +kernel
theorem d32 : decode yB 32 = .ok (.iinc 1 1, 3) := by decide +kernel
theorem d35 : decode yB 35 = .ok (.iinc 3 1, 3) := by decide +kernel
theorem d38 : decode yB 38 = .ok (.iinc 5 1, 3) := by decide +kernel
theorem d41 : decode yB 41 = .ok (.goto (-38), 3) := by decide +kernel
theorem d44 : decode yB 44 = .ok (.iload 4, 2) := by decide +kernel
theorem d46 : decode yB 46 = .ok (.ireturn, 1) := by decide +kernel
def site : List Cond := []
def tab : Cond := tabOf yN yB 7 (some .int) site
def P (b : Addr) (A : Cell) (d : Addr) (B : Cell) (o q len : Nat) (args : Array Value) (s : State) : Prop := args = #[.ref b, .int (Int32.ofNat o), .ref d, .int (Int32.ofNat q), .int (Int32.ofNat len)] ∧ Ch b A s ∧ Arr .byte d B s ∧ b ≠ d ∧ o + len ≤ A.slots.size ∧ q + len ≤ B.slots.size ∧ ∀ i, i < len → ¬ 255 < cv A (o + i)
def E (b : Addr) (A : Cell) (d : Addr) (B : Cell) (o q len : Nat) (r : Option Value) (s u : State) : Prop := r = some (.int (Int32.ofNat len)) ∧ ∃ B', Put d B' s u ∧ Laid B B' q (q + len) (fun j => Value.int (lo8 (cv A (o + (j - q)))))
/-- no char of the range above 255: len; the places written hold each char's low byte -/
theorem law (l : Launch) (b : Addr) (A : Cell) (d : Addr) (B : Cell) (o q len : Nat) : Law l yN 5 5 0 0 yB 7 (some .int) site (P b A d B o q len) (E b A d B o q len) (copyLocs d q len) 0 0 := by
  refine Law.of_walk (plainFor_of_name (by decide +kernel)) (by decide +kernel) (by decide +kernel) (by decide) (fun _ _ h => by rw [h.1]; rfl) (fun _ U U' hal hh h => ⟨h.1, h.2.1.mv hal hh, h.2.2.1.mv hal hh, h.2.2.2⟩) (fun r U U' V V' h1 hal h2 h => ⟨h.1, h.2.elim fun B' q => ⟨B', q.1.mv h1 h2, q.2⟩⟩) ?_
  intro p e s m args below meth c s₁ X0 hexec hbytes hml hret hlk hnm hown hh0 W hP
  obtain ⟨rfl, hA, hB, hne, l1, l2, hp⟩ := hP
  have c1 : Steps p.tables e below (s₁.setTop (entryFrame m #[.ref b, .int (Int32.ofNat o), .ref d, .int (Int32.ofNat q), .int (Int32.ofNat len)] 7)) (s₁.setTop (mkF m 0 #[.val (.ref b), .val (.int (Int32.ofNat o)), .val (.ref d), .val (.int (Int32.ofNat q)), .val (.int (Int32.ofNat len)), .unset, .unset] [])) := entry rfl
  have hA0 := hA.1.mv X0.warmed.alike hh0
  have hB0 := hB.mv X0.warmed.alike hh0
  have a31 := hA.1.2.2.2
  have c2 : Steps p.tables e below (s₁.setTop (entryFrame m #[.ref b, .int (Int32.ofNat o), .ref d, .int (Int32.ofNat q), .int (Int32.ofNat len)] 7)) (s₁.setTop (mkF m 3 #[.val (.ref b), .val (.int (Int32.ofNat o)), .val (.ref d), .val (.int (Int32.ofNat q)), .val (.int (Int32.ofNat len)), .val (.int 0), .unset] [])) := c1.trans (by
    refine iconstV X0.here hexec rfl 0 (hb hbytes d0) (by decide) ?_
    refine XS.istore X0.here hexec rfl (hb hbytes d1) rfl rfl ?_
    exact Steps.refl _)
  have loop : ∀ (r i : Nat), i + r = len → ∀ (z : Slot), (z = .unset ∨ ∃ w, z = .val w ∧ w.category = 1) → ∀ (Tl : State) (Bk : Cell), Stand p l e { frames := 0, locals := 0, cells := 0, slots := 0 } s m #[.ref b, .int (Int32.ofNat o), .ref d, .int (Int32.ofNat q), .int (Int32.ofNat len)] below meth c Tl ([] ++ copyLocs d q i) 0 0 → Put d Bk s₁ Tl → Laid B Bk q (q + i) (fun j => Value.int (lo8 (cv A (o + (j - q))))) →
      Steps p.tables e below (s₁.setTop (entryFrame m #[.ref b, .int (Int32.ofNat o), .ref d, .int (Int32.ofNat q), .int (Int32.ofNat len)] 7)) (Tl.setTop (mkF m 3 #[.val (.ref b), .val (.int (Int32.ofNat (o + i))), .val (.ref d), .val (.int (Int32.ofNat (q + i))), .val (.int (Int32.ofNat len)), .val (.int (Int32.ofNat i)), z] [])) → ∃ (T' : State) (B' : Cell) (z' : Slot), Stand p l e { frames := 0, locals := 0, cells := 0, slots := 0 } s m #[.ref b, .int (Int32.ofNat o), .ref d, .int (Int32.ofNat q), .int (Int32.ofNat len)] below meth c T' ([] ++ copyLocs d q len) 0 0 ∧ Put d B' s₁ T' ∧ Laid B B' q (q + len) (fun j => Value.int (lo8 (cv A (o + (j - q))))) ∧
      Steps p.tables e below (s₁.setTop (entryFrame m #[.ref b, .int (Int32.ofNat o), .ref d, .int (Int32.ofNat q), .int (Int32.ofNat len)] 7)) (T'.setTop (mkF m 3 #[.val (.ref b), .val (.int (Int32.ofNat (o + len))), .val (.ref d), .val (.int (Int32.ofNat (q + len))), .val (.int (Int32.ofNat len)), .val (.int (Int32.ofNat len)), z'] [])) := by
    intro r
    induction r with
    | zero =>
      intro i hi z hz Tl Bk Xl pl fl cl
      have hil : i = len := by omega
      rw [hil] at Xl fl cl
      exact ⟨Tl, Bk, z, Xl, pl, fl, cl⟩
    | succ r ih =>
      intro i hi z hz Tl Bk Xl pl fl cl
      have all := X0.warmed.alike.symm.trans Xl.warmed.alike
      have hAl := hA0.keep all (pl.other hne hA0.1)
      have hBk := hB0.like all pl.1 fl.1 fl.2.1 fl.2.2.1
      have hlt : q + i < Bk.slots.size := by rw [fl.2.2.1]; omega
      have c3 : Steps p.tables e below (s₁.setTop (entryFrame m #[.ref b, .int (Int32.ofNat o), .ref d, .int (Int32.ofNat q), .int (Int32.ofNat len)] 7)) (Tl.setTop (mkF m 12 #[.val (.ref b), .val (.int (Int32.ofNat (o + i))), .val (.ref d), .val (.int (Int32.ofNat (q + i))), .val (.int (Int32.ofNat len)), .val (.int (Int32.ofNat i)), z] [.int (Int32.ofNat (o + i)), .ref b])) := cl.trans (by
        refine XS.iload Xl.here hexec rfl (hb hbytes d3) rfl ?_
        refine XS.iload Xl.here hexec rfl (hb hbytes d5) rfl ?_
        refine XS.icmpNo Xl.here hexec rfl (hb hbytes d7) rfl (ii_ge_f (lt32 (by omega) (by omega))) ?_
        refine XS.aloadN Xl.here hexec rfl (hb hbytes d10) rfl rfl ?_
        refine XS.iloadN Xl.here hexec rfl (hb hbytes d11) rfl ?_
        exact Steps.refl _)
      have c4 : Steps p.tables e below (s₁.setTop (entryFrame m #[.ref b, .int (Int32.ofNat o), .ref d, .int (Int32.ofNat q), .int (Int32.ofNat len)] 7)) (Tl.setTop (mkF m 13 #[.val (.ref b), .val (.int (Int32.ofNat (o + i))), .val (.ref d), .val (.int (Int32.ofNat (q + i))), .val (.int (Int32.ofNat len)), .val (.int (Int32.ofNat i)), z] [.int (cv A (o + i))])) := c3.trans (by
        refine Xl.aget hexec hAl rfl (hA.get (i := o + i) (by omega)) rfl rfl (hb hbytes d12) ?_
        exact Steps.refl _)
      have c5 : Steps p.tables e below (s₁.setTop (entryFrame m #[.ref b, .int (Int32.ofNat o), .ref d, .int (Int32.ofNat q), .int (Int32.ofNat len)] 7)) (Tl.setTop (mkF m 15 #[.val (.ref b), .val (.int (Int32.ofNat (o + i))), .val (.ref d), .val (.int (Int32.ofNat (q + i))), .val (.int (Int32.ofNat len)), .val (.int (Int32.ofNat i)), .val (.int (cv A (o + i)))] [])) := c4.trans (by
        refine XS.istoreS Xl.here hexec rfl (hb hbytes d13) rfl rfl hz ?_
        exact Steps.refl _)
      have c6 : Steps p.tables e below (s₁.setTop (entryFrame m #[.ref b, .int (Int32.ofNat o), .ref d, .int (Int32.ofNat q), .int (Int32.ofNat len)] 7)) (Tl.setTop (mkF m 31 #[.val (.ref b), .val (.int (Int32.ofNat (o + i))), .val (.ref d), .val (.int (Int32.ofNat (q + i))), .val (.int (Int32.ofNat len)), .val (.int (Int32.ofNat i)), .val (.int (cv A (o + i)))] [.int (lo8 (cv A (o + i))), .int (Int32.ofNat (q + i)), .ref d])) := c5.trans (by
        refine XS.iload Xl.here hexec rfl (hb hbytes d15) rfl ?_
        refine sipushV Xl.here hexec rfl 255 (hb hbytes d17) (by decide) ?_
        refine XS.icmpYes Xl.here hexec rfl (pc0 := 20) rfl (hb hbytes d20) rfl (ii_le_t (hp i (by omega))) (by decide) rfl ?_
        refine XS.aloadN Xl.here hexec rfl (hb hbytes d26) rfl rfl ?_
        refine XS.iloadN Xl.here hexec rfl (hb hbytes d27) rfl ?_
        refine XS.iload Xl.here hexec rfl (hb hbytes d28) rfl ?_
        refine i2b Xl.here hexec rfl (hb hbytes d30) rfl ?_
        exact Steps.refl _)
      obtain ⟨T7, X7, p7, st7⟩ := Xl.aput hexec hBk rfl hlt rfl (fits_lo8 (cv A (o + i))) (g := (mkF m 31 #[.val (.ref b), .val (.int (Int32.ofNat (o + i))), .val (.ref d), .val (.int (Int32.ofNat (q + i))), .val (.int (Int32.ofNat len)), .val (.int (Int32.ofNat i)), .val (.int (cv A (o + i)))] [.int (lo8 (cv A (o + i))), .int (Int32.ofNat (q + i)), .ref d])) rfl (rest := []) rfl (hb hbytes d31)
      have c8 : Steps p.tables e below (s₁.setTop (entryFrame m #[.ref b, .int (Int32.ofNat o), .ref d, .int (Int32.ofNat q), .int (Int32.ofNat len)] 7)) (T7.setTop (mkF m 32 #[.val (.ref b), .val (.int (Int32.ofNat (o + i))), .val (.ref d), .val (.int (Int32.ofNat (q + i))), .val (.int (Int32.ofNat len)), .val (.int (Int32.ofNat i)), .val (.int (cv A (o + i)))] [])) := c6.trans (st7 _ (Steps.refl _))
      have c9 : Steps p.tables e below (s₁.setTop (entryFrame m #[.ref b, .int (Int32.ofNat o), .ref d, .int (Int32.ofNat q), .int (Int32.ofNat len)] 7)) (T7.setTop (mkF m 3 #[.val (.ref b), .val (.int (Int32.ofNat (o + i) + 1)), .val (.ref d), .val (.int (Int32.ofNat (q + i) + 1)), .val (.int (Int32.ofNat len)), .val (.int (Int32.ofNat i + 1)), .val (.int (cv A (o + i)))] [])) := c8.trans (by
        refine iincV X7.here hexec rfl 1 (hb hbytes d32) (by decide) rfl rfl ?_
        refine iincV X7.here hexec rfl 1 (hb hbytes d35) (by decide) rfl rfl ?_
        refine iincV X7.here hexec rfl 1 (hb hbytes d38) (by decide) rfl rfl ?_
        refine XS.goto X7.here hexec rfl (pc0 := 41) rfl (hb hbytes d41) (by decide) rfl ?_
        exact Steps.refl _)
      have c10 : Steps p.tables e below (s₁.setTop (entryFrame m #[.ref b, .int (Int32.ofNat o), .ref d, .int (Int32.ofNat q), .int (Int32.ofNat len)] 7)) (T7.setTop (mkF m 3 #[.val (.ref b), .val (.int (Int32.ofNat (o + (i + 1)))), .val (.ref d), .val (.int (Int32.ofNat (q + (i + 1)))), .val (.int (Int32.ofNat len)), .val (.int (Int32.ofNat (i + 1))), .val (.int (cv A (o + i)))] [])) := by
        have := c9
        rw [succ32, succ32, succ32] at this
        exact this
      exact ih (i + 1) (by omega) _ (Or.inr ⟨_, rfl, rfl⟩) T7 _ (by rw [copyLocs_step, ← List.append_assoc]; exact X7) (pl.trans p7) (fl.step (by omega) hlt (by simp)) c10
  obtain ⟨T9, B9, z9, X9, p9, f9, g9⟩ := loop len 0 (by omega) .unset (Or.inl rfl) s₁ B (by simpa [copyLocs] using X0) ⟨hB0.1, fun _ _ => rfl, rfl⟩ (Laid.zero _ _ _) c2
  have c11 : Steps p.tables e below (s₁.setTop (entryFrame m #[.ref b, .int (Int32.ofNat o), .ref d, .int (Int32.ofNat q), .int (Int32.ofNat len)] 7)) (T9.setTop (mkF m 46 #[.val (.ref b), .val (.int (Int32.ofNat (o + len))), .val (.ref d), .val (.int (Int32.ofNat (q + len))), .val (.int (Int32.ofNat len)), .val (.int (Int32.ofNat len)), z9] [.int (Int32.ofNat len)])) := g9.trans (by
    refine XS.iload X9.here hexec rfl (hb hbytes d3) rfl ?_
    refine XS.iload X9.here hexec rfl (hb hbytes d5) rfl ?_
    refine XS.icmpYes X9.here hexec rfl (pc0 := 7) rfl (hb hbytes d7) rfl (ii_ge_t (nlt32 (by omega) (Nat.le_refl _))) (by decide) rfl ?_
    refine XS.iload X9.here hexec rfl (hb hbytes d44) rfl ?_
    exact Steps.refl _)
  exact ⟨T9, some (.int (Int32.ofNat len)), _, _, _, X9, by simp, rfl, rfl, (fun h => by cases h), ⟨rfl, B9, p9.from hh0, f9⟩, fun fs hl => c11.trans (X9.ireturnOut hexec hret rfl (Or.inl rfl) (hb hbytes d46) hl)⟩
end Cmp5
namespace Cmp3
def yN : MethodName := ⟨"java/lang/StringUTF16", "compress", "([CII)[B"⟩
abbrev yB : ByteArray := jdk_52_method_16_code
theorem d0 : decode yB 0 = .ok (.iload_n 2, 1) := by decide +kernel
theorem d1 : decode yB 1 = .ok (.newarray .byte, 2) := by decide +kernel
theorem d3 : decode yB 3 = .ok (.astore_n 3, 1) := by decide +kernel
theorem d4 : decode yB 4 = .ok (.aload_n 0, 1) := by decide +kernel
theorem d5 : decode yB 5 = .ok (.iload_n 1, 1) := by decide +kernel
theorem d6 : decode yB 6 = .ok (.aload_n 3, 1) := by decide +kernel
theorem d7 : decode yB 7 = .ok (.iconst 0, 1) := by decide +kernel
theorem d8 : decode yB 8 = .ok (.iload_n 2, 1) := by decide +kernel
theorem d9 : decode yB 9 = .ok (.invokestatic 115, 3) := by decide +kernel
theorem d12 : decode yB 12 = .ok (.istore 4, 2) := by decide +kernel
theorem d14 : decode yB 14 = .ok (.iload 4, 2) := by decide +kernel
theorem d16 : decode yB 16 = .ok (.iload_n 2, 1) := by decide +kernel
theorem d17 : decode yB 17 = .ok (.if_icmp (.eq) 40, 3) := by decide +kernel
theorem d57 : decode yB 57 = .ok (.aload_n 3, 1) := by decide +kernel
theorem d58 : decode yB 58 = .ok (.areturn, 1) := by decide +kernel
def site : List Cond := [.arrayClass .byte, Cmp5.tab] ++ staticW U16 115 Cmp5.yN
def tab : Cond := tabOf yN yB 6 (some (.array .byte)) site
def P (b : Addr) (A : Cell) (o len : Nat) (args : Array Value) (s : State) : Prop := args = #[.ref b, .int (Int32.ofNat o), .int (Int32.ofNat len)] ∧ Ch b A s ∧ o + len ≤ A.slots.size ∧ len ≤ 536870912 ∧ ∀ i, i < len → ¬ 255 < cv A (o + i)
def E (b : Addr) (A : Cell) (o len : Nat) (r : Option Value) (s u : State) : Prop := NewArr .byte "[B" len (fun j => .int (lo8 (cv A (o + j)))) r s u ∧ u.heap.size = s.heap.size + 1
/-- no char of the range above 255: a new byte[] of their low bytes -/
theorem law (l : Launch) (b : Addr) (A : Cell) (o len : Nat) : Law l yN 3 3 1 18 yB 6 (some (.array .byte)) site (P b A o len) (E b A o len) [] 1 len := by
  refine Law.of_walk (plainFor_of_name (by decide +kernel)) (by decide +kernel) (by decide +kernel) (by decide) (fun _ _ h => by rw [h.1]; rfl) (fun _ U U' hal hh h => ⟨h.1, h.2.1.mv hal hh, h.2.2⟩) (fun r U U' V V' h1 hal h2 h => ⟨NewArr.mv r U U' V V' h1 hal h2 h.1, by rw [h1, h2]; exact h.2⟩) ?_
  intro p e s m args below meth c s₁ X0 hexec hbytes hml hret hlk hnm hown hh0 W hP
  obtain ⟨rfl, hA, l1, l2, hp⟩ := hP
  have a31 := hA.1.2.2.2
  have c1 : Steps p.tables e below (s₁.setTop (entryFrame m #[.ref b, .int (Int32.ofNat o), .int (Int32.ofNat len)] 6)) (s₁.setTop (mkF m 0 #[.val (.ref b), .val (.int (Int32.ofNat o)), .val (.int (Int32.ofNat len)), .unset, .unset, .unset] [])) := entry rfl
  have c2 : Steps p.tables e below (s₁.setTop (entryFrame m #[.ref b, .int (Int32.ofNat o), .int (Int32.ofNat len)] 6)) (s₁.setTop (mkF m 1 #[.val (.ref b), .val (.int (Int32.ofNat o)), .val (.int (Int32.ofNat len)), .unset, .unset, .unset] [.int (Int32.ofNat len)])) := c1.trans (by
    refine XS.iloadN X0.here hexec rfl (hb hbytes d0) rfl ?_
    exact Steps.refl _)
  obtain ⟨T3, B3, X3, ba3, bs3, bv3, bh3, bf3, st3⟩ := X0.anew hexec (atype := .byte) (wk W (.arrayClass .byte)) rfl (by show len * 1 ≤ _; omega) (by omega) (g := (mkF m 1 #[.val (.ref b), .val (.int (Int32.ofNat o)), .val (.int (Int32.ofNat len)), .unset, .unset, .unset] [.int (Int32.ofNat len)])) rfl (hb hbytes d1) (rest := []) rfl (Nat.le_refl _) (by show 0 + len ≤ len; omega)
  rw [hh0] at ba3 st3
  have kp3 : XT.Kept s T3 := (XT.Kept.of_eq hh0).push bh3
  have hA3 := hA.keep X3.warmed.alike (kp3 _ _ hA.1.1)
  have hne : b ≠ s.heap.size := hA.1.ne
  have c4 : Steps p.tables e below (s₁.setTop (entryFrame m #[.ref b, .int (Int32.ofNat o), .int (Int32.ofNat len)] 6)) (T3.setTop (mkF m 3 #[.val (.ref b), .val (.int (Int32.ofNat o)), .val (.int (Int32.ofNat len)), .unset, .unset, .unset] [.ref s.heap.size])) := c2.trans (st3 _ (Steps.refl _))
  have c5 : Steps p.tables e below (s₁.setTop (entryFrame m #[.ref b, .int (Int32.ofNat o), .int (Int32.ofNat len)] 6)) (T3.setTop (mkF m 9 #[.val (.ref b), .val (.int (Int32.ofNat o)), .val (.int (Int32.ofNat len)), .val (.ref s.heap.size), .unset, .unset] [.int (Int32.ofNat len), .int 0, .ref s.heap.size, .int (Int32.ofNat o), .ref b])) := c4.trans (by
    refine XS.astoreN X3.here hexec rfl (hb hbytes d3) rfl rfl rfl ?_
    refine XS.aloadN X3.here hexec rfl (hb hbytes d4) rfl rfl ?_
    refine XS.iloadN X3.here hexec rfl (hb hbytes d5) rfl ?_
    refine XS.aloadN X3.here hexec rfl (hb hbytes d6) rfl rfl ?_
    refine iconstV X3.here hexec rfl 0 (hb hbytes d7) (by decide) ?_
    refine XS.iloadN X3.here hexec rfl (hb hbytes d8) rfl ?_
    exact Steps.refl _)
  obtain ⟨v6, T6, X6, E6, g6⟩ := X3.callS hexec (Cmp5.law l b A s.heap.size B3 o 0 len) hown (wks W (staticW U16 115 Cmp5.yN)) (wk W Cmp5.tab) (W := 0) (Nat.le_of_ble_eq_true rfl) (Nat.le_of_ble_eq_true rfl) (Nat.le_refl _) (by show 0 + len + 0 ≤ len; omega) (g := (mkF m 9 #[.val (.ref b), .val (.int (Int32.ofNat o)), .val (.int (Int32.ofNat len)), .val (.ref s.heap.size), .unset, .unset] [.int (Int32.ofNat len), .int (Int32.ofNat 0), .ref s.heap.size, .int (Int32.ofNat o), .ref b])) rfl (by rw [hml]; rfl) c5 (argsL := [.ref b, .int (Int32.ofNat o), .ref s.heap.size, .int (Int32.ofNat 0), .int (Int32.ofNat len)]) (rest := []) rfl rfl (by show 2 * 0 + 0 ≤ _; decide) (hb hbytes d9) (⟨rfl, hA3, ba3, hne, l1, by rw [bs3]; simp, hp⟩)
  obtain ⟨rfl, B6, p6, f6⟩ := E6
  have c7 : Steps p.tables e below (s₁.setTop (entryFrame m #[.ref b, .int (Int32.ofNat o), .int (Int32.ofNat len)] 6)) (T6.setTop (mkF m 12 #[.val (.ref b), .val (.int (Int32.ofNat o)), .val (.int (Int32.ofNat len)), .val (.ref s.heap.size), .unset, .unset] [.int (Int32.ofNat len)])) := g6
  have c8 : Steps p.tables e below (s₁.setTop (entryFrame m #[.ref b, .int (Int32.ofNat o), .int (Int32.ofNat len)] 6)) (T6.setTop (mkF m 58 #[.val (.ref b), .val (.int (Int32.ofNat o)), .val (.int (Int32.ofNat len)), .val (.ref s.heap.size), .val (.int (Int32.ofNat len)), .unset] [.ref s.heap.size])) := c7.trans (by
    refine XS.istore X6.here hexec rfl (hb hbytes d12) rfl rfl ?_
    refine XS.iload X6.here hexec rfl (hb hbytes d14) rfl ?_
    refine XS.iloadN X6.here hexec rfl (hb hbytes d16) rfl ?_
    refine XS.icmpYes X6.here hexec rfl (pc0 := 17) rfl (hb hbytes d17) rfl (ii_eq_t rfl) (by decide) rfl ?_
    refine XS.aloadN X6.here hexec rfl (hb hbytes d57) rfl rfl ?_
    exact Steps.refl _)
  have X8 := X6.wide (L' := []) (cells' := 1) (slots' := len) (fun x hx hlt => by
    simp only [List.nil_append, copyLocs, List.mem_map, List.mem_range] at hx
    obtain ⟨i, -, rfl⟩ := hx
    exact absurd hlt (Nat.lt_irrefl _)) (Nat.le_refl _) (by omega)
  exact ⟨T6, some (.ref s.heap.size), _, _, _, X8, rfl, rfl, rfl, (fun h => by cases h), ⟨⟨rfl, B6, ba3.like (X3.warmed.alike.symm.trans X6.warmed.alike) p6.1 f6.1 f6.2.1 f6.2.2.1, f6.2.1.trans bv3, by rw [X6.warmed.alike.findClass, f6.1]; exact bf3, by rw [f6.2.2.1, bs3]; simp, fun j hj => by rw [f6.2.2.2 j, if_pos (by omega)]; rfl, kp3.put p6 (Nat.le_refl _)⟩, by rw [p6.2.2, bh3, hh0]; simp⟩, fun fs hl => c8.trans (X8.areturnOut hexec rfl hret rfl (hb hbytes d58) hl)⟩
end Cmp3
namespace CodL
def yN : MethodName := ⟨"java/lang/StringUTF16", "coderFromArrayLen", "([BI)B"⟩
abbrev yB : ByteArray := jdk_52_method_15_code
theorem d0 : decode yB 0 = .ok (.iload_n 1, 1) := by decide +kernel
theorem d1 : decode yB 1 = .ok (.aload_n 0, 1) := by decide +kernel
theorem d2 : decode yB 2 = .ok (.arraylength, 1) := by decide +kernel
theorem d3 : decode yB 3 = .ok (.isub, 1) := by decide +kernel
theorem d4 : decode yB 4 = .ok (.bipush 31, 2) := by decide +kernel
theorem d6 : decode yB 6 = .ok (.iushr, 1) := by decide +kernel
theorem d7 : decode yB 7 = .ok (.i2b, 1) := by decide +kernel
theorem d8 : decode yB 8 = .ok (.ireturn, 1) := by decide +kernel
def site : List Cond := []
def tab : Cond := tabOf yN yB 2 (some .byte) site
def P (d : Addr) (B : Cell) (args : Array Value) (s : State) : Prop := args = #[.ref d, .int (Int32.ofNat B.slots.size)] ∧ Arr .byte d B s
def E (r : Option Value) (s u : State) : Prop := XT.PureE (some (.int 0)) r s u
/-- an array as long as the number of chars: LATIN1 -/
theorem law (l : Launch) (d : Addr) (B : Cell) : Law l yN 2 2 0 0 yB 2 (some .byte) site (P d B) E [] 0 0 := by
  refine Law.of_walk (plainFor_of_name (by decide +kernel)) (by decide +kernel) (by decide +kernel) (by decide) (fun _ _ h => by rw [h.1]; rfl) (fun _ U U' hal hh h => ⟨h.1, h.2.mv hal hh⟩) (fun r U U' V V' h1 hal h2 h => XT.PureE.mv r U U' V V' h1 hal h2 h) ?_
  intro p e s m args below meth c s₁ X0 hexec hbytes hml hret hlk hnm hown hh0 W hP
  obtain ⟨rfl, hB⟩ := hP
  have hB0 := hB.mv X0.warmed.alike hh0
  have c1 : Steps p.tables e below (s₁.setTop (entryFrame m #[.ref d, .int (Int32.ofNat B.slots.size)] 2)) (s₁.setTop (mkF m 0 #[.val (.ref d), .val (.int (Int32.ofNat B.slots.size))] [])) := entry rfl
  have c2 : Steps p.tables e below (s₁.setTop (entryFrame m #[.ref d, .int (Int32.ofNat B.slots.size)] 2)) (s₁.setTop (mkF m 2 #[.val (.ref d), .val (.int (Int32.ofNat B.slots.size))] [.ref d, .int (Int32.ofNat B.slots.size)])) := c1.trans (by
    refine XS.iloadN X0.here hexec rfl (hb hbytes d0) rfl ?_
    refine XS.aloadN X0.here hexec rfl (hb hbytes d1) rfl rfl ?_
    exact Steps.refl _)
  have c3 : Steps p.tables e below (s₁.setTop (entryFrame m #[.ref d, .int (Int32.ofNat B.slots.size)] 2)) (s₁.setTop (mkF m 8 #[.val (.ref d), .val (.int (Int32.ofNat B.slots.size))] [.int (lo8 (ushr (Int32.ofNat B.slots.size - Int32.ofNat B.slots.size) 31))])) := c2.trans (by
    refine X0.alen hexec hB0 rfl rfl (hb hbytes d2) ?_
    refine XS.isub X0.here hexec rfl (hb hbytes d3) rfl ?_
    refine bipushV X0.here hexec rfl 31 (hb hbytes d4) (by decide) ?_
    refine iushr X0.here hexec rfl (hb hbytes d6) rfl ?_
    refine i2b X0.here hexec rfl (hb hbytes d7) rfl ?_
    exact Steps.refl _)
  have e0 : lo8 (ushr (Int32.ofNat B.slots.size - Int32.ofNat B.slots.size) 31) = 0 := by rw [Int32.sub_self]; decide
  rw [e0] at c3
  exact ⟨s₁, some (.int 0), _, _, _, X0, rfl, rfl, rfl, (fun h => by cases h), ⟨rfl, hh0⟩, fun fs hl => c3.trans (X0.ireturnOut hexec hret rfl (Or.inr (Or.inr (Or.inl rfl))) (hb hbytes d8) hl)⟩
end CodL
/-- the String at a is Latin-1 over a new byte[] (the heap's one new cell): the low bytes of the len chars of A from o on; every cell but a is kept -/
def Got (a : Addr) (D : Cell) (fV fC : Field) (A : Cell) (o len : Nat) (r : Option Value) (s u : State) : Prop := r = none ∧ ∃ D' V : Cell, Blank "java/lang/String" a D' u ∧ Same D D' [fV.slot, fC.slot] ∧ D'.slots[fV.slot]? = some (.ref s.heap.size) ∧ D'.slots[fC.slot]? = some (.int 0) ∧ Arr .byte s.heap.size V u ∧ V.vm = .none ∧ u.vm.findClass "[B" = some V.cls ∧ V.slots.size = len ∧ (∀ j, j < len → V.slots[j]? = some (.int (lo8 (cv A (o + j))))) ∧ (∀ (y : Addr) (c : Cell), y ≠ a → s.heap[y]? = some c → u.heap[y]? = some c) ∧ u.heap.size = s.heap.size + 1
theorem Got.mv {a : Addr} {D A : Cell} {fV fC : Field} {o len : Nat} : ∀ r (U U' V V' : State), U'.heap = U.heap → V.vm.Alike V'.vm → V'.heap = V.heap → Got a D fV fC A o len r U V → Got a D fV fC A o len r U' V' :=
  fun r U U' V V' h1 hal h2 ⟨e0, D', X, a1, a2, a3, a4, a5, a6, a7, a8, a9, a10, a11⟩ => ⟨e0, D', X, a1.mv hal h2, a2, by rw [h1]; exact a3, a4, by rw [h1]; exact a5.mv hal h2, a6, by rw [hal.findClass]; exact a7, a8, a9, by rw [h1, h2]; exact a10, by rw [h1, h2]; exact a11⟩
namespace New4
def yN : MethodName := ⟨"java/lang/String", "<init>", "([CIILjava/lang/Void;)V"⟩
abbrev yB : ByteArray := jdk_42_method_149_code
theorem d0 : decode yB 0 = .ok (.aload_n 0, 1) := by decide +kernel
theorem d1 : decode yB 1 = .ok (.invokespecial 1, 3) := by decide +kernel
theorem d4 : decode yB 4 = .ok (.iload_n 3, 1) := by decide +kernel
theorem d5 : decode yB 5 = .ok (.ifCond (.ne) 22, 3) := by decide +kernel
theorem d27 : decode yB 27 = .ok (.getstatic 38, 3) := by decide +kernel
theorem d30 : decode yB 30 = .ok (.ifCond (.eq) 28, 3) := by decide +kernel
theorem d33 : decode yB 33 = .ok (.aload_n 1, 1) := by decide +kernel
theorem d34 : decode yB 34 = .ok (.iload_n 2, 1) := by decide +kernel
theorem d35 : decode yB 35 = .ok (.iload_n 3, 1) := by decide +kernel
theorem d36 : decode yB 36 = .ok (.invokestatic 177, 3) := by decide +kernel
theorem d39 : decode yB 39 = .ok (.astore 5, 2) := by decide +kernel
theorem d41 : decode yB 41 = .ok (.aload_n 0, 1) := by decide +kernel
theorem d42 : decode yB 42 = .ok (.aload 5, 2) := by decide +kernel
theorem d44 : decode yB 44 = .ok (.iload_n 3, 1) := by decide +kernel
theorem d45 : decode yB 45 = .ok (.invokestatic 47, 3) := by decide +kernel
theorem d48 : decode yB 48 = .ok (.putfield 15, 3) := by decide +kernel
theorem d51 : decode yB 51 = .ok (.aload_n 0, 1) := by decide +kernel
theorem d52 : decode yB 52 = .ok (.aload 5, 2) := by decide +kernel
theorem d54 : decode yB 54 = .ok (.putfield 9, 3) := by decide +kernel
theorem d57 : decode yB 57 = .ok (.return_, 1) := by decide +kernel
def site : List Cond := [.fieldLink "java/lang/String" 38 "java/lang/String" "COMPACT_STRINGS" "Z", Cmp3.tab, CodL.tab, .laysFinal "java/lang/String" "java/lang/String" "value" "[B", .fieldLink "java/lang/String" 9 "java/lang/String" "value" "[B", .laysFinal "java/lang/String" "java/lang/String" "coder" "B", .fieldLink "java/lang/String" 15 "java/lang/String" "coder" "B"] ++ objW "java/lang/String" 1 ++ staticW "java/lang/String" 177 Cmp3.yN ++ staticW "java/lang/String" 47 CodL.yN
def tab : Cond := tabOf yN yB 6 none site
def P (a : Addr) (D : Cell) (fV fC : Field) (b : Addr) (A : Cell) (z : Int32) (o len : Nat) (args : Array Value) (s : State) : Prop := args = #[.ref a, .ref b, .int (Int32.ofNat o), .int (Int32.ofNat len), .null] ∧ Blank "java/lang/String" a D s ∧ Found "java/lang/String" "value" "[B" fV s ∧ Found "java/lang/String" "coder" "B" fC s ∧ Ch b A s ∧ StaticIs s "java/lang/String" "COMPACT_STRINGS" "Z" (.int z) ∧ ¬ z = 0 ∧ 0 < len ∧ o + len ≤ A.slots.size ∧ len ≤ 536870912 ∧ ∀ i, i < len → ¬ 255 < cv A (o + i)
def E (a : Addr) (D : Cell) (fV fC : Field) (A : Cell) (o len : Nat) (r : Option Value) (s u : State) : Prop := Got a D fV fC A o len r s u
/-- len > 0, no char of the range above 255: a Latin-1 String of their low bytes -/
theorem law (l : Launch) (a : Addr) (D : Cell) (fV fC : Field) (b : Addr) (A : Cell) (z : Int32) (o len : Nat) : Law l yN 5 4 2 35 yB 6 none site (P a D fV fC b A z o len) (E a D fV fC A o len) [⟨a, fC.slot⟩, ⟨a, fV.slot⟩] 1 len := by
  refine Law.of_walk (plainFor_of_name (by decide +kernel)) (by decide +kernel) (by decide +kernel) (by decide) (fun _ _ h => by rw [h.1]; rfl) (fun _ U U' hal hh h => ⟨h.1, h.2.1.mv hal hh, h.2.2.1.al hal, h.2.2.2.1.al hal, h.2.2.2.2.1.mv hal hh, h.2.2.2.2.2.1.there hal hh, h.2.2.2.2.2.2⟩) (fun r U U' V V' h1 hal h2 h => Got.mv r U U' V V' h1 hal h2 h) ?_
  intro p e s m args below meth c s₁ X0 hexec hbytes hml hret hlk hnm hown hh0 W hP
  obtain ⟨rfl, hB, f1, f2, hA, s1, hz, l0, l1, l2, hp⟩ := hP
  have a31 := hA.1.2.2.2
  have c1 : Steps p.tables e below (s₁.setTop (entryFrame m #[.ref a, .ref b, .int (Int32.ofNat o), .int (Int32.ofNat len), .null] 6)) (s₁.setTop (mkF m 0 #[.val (.ref a), .val (.ref b), .val (.int (Int32.ofNat o)), .val (.int (Int32.ofNat len)), .val .null, .unset] [])) := entry rfl
  have c2 : Steps p.tables e below (s₁.setTop (entryFrame m #[.ref a, .ref b, .int (Int32.ofNat o), .int (Int32.ofNat len), .null] 6)) (s₁.setTop (mkF m 1 #[.val (.ref a), .val (.ref b), .val (.int (Int32.ofNat o)), .val (.int (Int32.ofNat len)), .val .null, .unset] [.ref a])) := c1.trans (by
    refine XS.aloadN X0.here hexec rfl (hb hbytes d0) rfl rfl ?_
    exact Steps.refl _)
  obtain ⟨T3, X3, q3, st3⟩ := X0.oinit hexec hown (wks W (objW "java/lang/String" 1)) (g := (mkF m 1 #[.val (.ref a), .val (.ref b), .val (.int (Int32.ofNat o)), .val (.int (Int32.ofNat len)), .val .null, .unset] [.ref a])) rfl (by rw [hml]; rfl) (rest := []) rfl (hb hbytes d1) (W := 0) (by show 2 * 0 + 0 ≤ _; decide) (Nat.le_of_ble_eq_true rfl) (Nat.le_of_ble_eq_true rfl)
  have hh3 := q3.trans hh0
  have c4 : Steps p.tables e below (s₁.setTop (entryFrame m #[.ref a, .ref b, .int (Int32.ofNat o), .int (Int32.ofNat len), .null] 6)) (T3.setTop (mkF m 27 #[.val (.ref a), .val (.ref b), .val (.int (Int32.ofNat o)), .val (.int (Int32.ofNat len)), .val .null, .unset] [])) := (c2.trans (st3 _ (Steps.refl _))).trans (by
    refine XS.iloadN X3.here hexec rfl (hb hbytes d4) rfl ?_
    refine XS.ifYes X3.here hexec rfl (pc0 := 5) rfl (hb hbytes d5) rfl (i0_ne_t (nz32 (by omega) l0)) (by decide) rfl ?_
    exact Steps.refl _)
  obtain ⟨T5, X5, q5, st5⟩ := X3.sget hexec hown (wk W (.fieldLink "java/lang/String" 38 "java/lang/String" "COMPACT_STRINGS" "Z")) s1 (fun _ _ h => by rw [hh3]; exact h) (g := (mkF m 27 #[.val (.ref a), .val (.ref b), .val (.int (Int32.ofNat o)), .val (.int (Int32.ofNat len)), .val .null, .unset] [])) rfl (hb hbytes d27)
  have hh5 := q5.trans hh3
  have c6 : Steps p.tables e below (s₁.setTop (entryFrame m #[.ref a, .ref b, .int (Int32.ofNat o), .int (Int32.ofNat len), .null] 6)) (T5.setTop (mkF m 30 #[.val (.ref a), .val (.ref b), .val (.int (Int32.ofNat o)), .val (.int (Int32.ofNat len)), .val .null, .unset] [.int z])) := c4.trans (st5 _ (Steps.refl _))
  have c7 : Steps p.tables e below (s₁.setTop (entryFrame m #[.ref a, .ref b, .int (Int32.ofNat o), .int (Int32.ofNat len), .null] 6)) (T5.setTop (mkF m 36 #[.val (.ref a), .val (.ref b), .val (.int (Int32.ofNat o)), .val (.int (Int32.ofNat len)), .val .null, .unset] [.int (Int32.ofNat len), .int (Int32.ofNat o), .ref b])) := c6.trans (by
    refine XS.ifNo X5.here hexec rfl (hb hbytes d30) rfl (i0_eq_f hz) ?_
    refine XS.aloadN X5.here hexec rfl (hb hbytes d33) rfl rfl ?_
    refine XS.iloadN X5.here hexec rfl (hb hbytes d34) rfl ?_
    refine XS.iloadN X5.here hexec rfl (hb hbytes d35) rfl ?_
    exact Steps.refl _)
  obtain ⟨v8, T8, X8, E8, g8⟩ := X5.callS hexec (Cmp3.law l b A o len) hown (wks W (staticW "java/lang/String" 177 Cmp3.yN)) (wk W Cmp3.tab) (W := 0) (Nat.le_of_ble_eq_true rfl) (Nat.le_of_ble_eq_true rfl) (Nat.le_refl _) (by show 0 + len ≤ len; omega) (g := (mkF m 36 #[.val (.ref a), .val (.ref b), .val (.int (Int32.ofNat o)), .val (.int (Int32.ofNat len)), .val .null, .unset] [.int (Int32.ofNat len), .int (Int32.ofNat o), .ref b])) rfl (by rw [hml]; rfl) c7 (argsL := [.ref b, .int (Int32.ofNat o), .int (Int32.ofNat len)]) (rest := []) rfl rfl (by show 2 * 0 + 0 ≤ _; decide) (hb hbytes d36) (⟨rfl, hA.mv X5.warmed.alike hh5, l1, l2, hp⟩)
  obtain ⟨e8, z8⟩ := E8
  obtain ⟨rfl, N, n1, n2, n3, n4, n5, n6⟩ := NewArr.mv _ T5 s _ _ hh5.symm (Vm.Alike.refl _) rfl e8
  rw [hh5] at z8
  have hB1 := hB.keep X8.warmed.alike (n6 _ _ hB.1)
  have hne : s.heap.size ≠ a := (Nat.ne_of_lt (Array.getElem?_eq_some_iff.mp hB.1).1).symm
  have c9 : Steps p.tables e below (s₁.setTop (entryFrame m #[.ref a, .ref b, .int (Int32.ofNat o), .int (Int32.ofNat len), .null] 6)) (T8.setTop (mkF m 39 #[.val (.ref a), .val (.ref b), .val (.int (Int32.ofNat o)), .val (.int (Int32.ofNat len)), .val .null, .unset] [.ref s.heap.size])) := g8
  have c10 : Steps p.tables e below (s₁.setTop (entryFrame m #[.ref a, .ref b, .int (Int32.ofNat o), .int (Int32.ofNat len), .null] 6)) (T8.setTop (mkF m 45 #[.val (.ref a), .val (.ref b), .val (.int (Int32.ofNat o)), .val (.int (Int32.ofNat len)), .val .null, .val (.ref s.heap.size)] [.int (Int32.ofNat N.slots.size), .ref s.heap.size, .ref a])) := by
    have hc : Steps p.tables e below (s₁.setTop (entryFrame m #[.ref a, .ref b, .int (Int32.ofNat o), .int (Int32.ofNat len), .null] 6)) (T8.setTop (mkF m 45 #[.val (.ref a), .val (.ref b), .val (.int (Int32.ofNat o)), .val (.int (Int32.ofNat len)), .val .null, .val (.ref s.heap.size)] [.int (Int32.ofNat len), .ref s.heap.size, .ref a])) := c9.trans (by
      refine XS.astore X8.here hexec rfl (hb hbytes d39) rfl rfl rfl ?_
      refine XS.aloadN X8.here hexec rfl (hb hbytes d41) rfl rfl ?_
      refine XS.aload X8.here hexec rfl (hb hbytes d42) rfl rfl ?_
      refine XS.iloadN X8.here hexec rfl (hb hbytes d44) rfl ?_
      exact Steps.refl _)
    rw [n4]; exact hc
  obtain ⟨v11, T11, X11, E11, g11⟩ := X8.callS hexec (CodL.law l s.heap.size N) hown (wks W (staticW "java/lang/String" 47 CodL.yN)) (wk W CodL.tab) (W := 1) (Nat.le_of_ble_eq_true rfl) (Nat.le_of_ble_eq_true rfl) (Nat.le_refl _) (by show 0 + len + 0 ≤ len; omega) (g := (mkF m 45 #[.val (.ref a), .val (.ref b), .val (.int (Int32.ofNat o)), .val (.int (Int32.ofNat len)), .val .null, .val (.ref s.heap.size)] [.int (Int32.ofNat N.slots.size), .ref s.heap.size, .ref a])) rfl (by rw [hml]; rfl) c10 (argsL := [.ref s.heap.size, .int (Int32.ofNat N.slots.size)]) (rest := [.ref a]) rfl rfl (by show 2 * 0 + (1 + 0) ≤ _; decide) (hb hbytes d45) (⟨rfl, n1⟩)
  obtain ⟨rfl, q11⟩ := E11
  have hB11 := hB1.mv (X8.warmed.alike.symm.trans X11.warmed.alike) q11
  have c12 : Steps p.tables e below (s₁.setTop (entryFrame m #[.ref a, .ref b, .int (Int32.ofNat o), .int (Int32.ofNat len), .null] 6)) (T11.setTop (mkF m 48 #[.val (.ref a), .val (.ref b), .val (.int (Int32.ofNat o)), .val (.int (Int32.ofNat len)), .val .null, .val (.ref s.heap.size)] [.int 0, .ref a])) := g11
  obtain ⟨T13, X13, p13, bl13, sl13, st13⟩ := X11.finit hexec hown (wk W (.fieldLink "java/lang/String" 15 "java/lang/String" "coder" "B")) (Or.inr ⟨_, (wk W (.laysFinal "java/lang/String" "java/lang/String" "coder" "B"))⟩) (Or.inl ⟨rfl, hnm⟩) f2 (Or.inl rfl) hB11 (t := .byte) (by decide +kernel) rfl (g := (mkF m 48 #[.val (.ref a), .val (.ref b), .val (.int (Int32.ofNat o)), .val (.int (Int32.ofNat len)), .val .null, .val (.ref s.heap.size)] [.int 0, .ref a])) rfl (rest := []) rfl (hb hbytes d48)
  have c14 : Steps p.tables e below (s₁.setTop (entryFrame m #[.ref a, .ref b, .int (Int32.ofNat o), .int (Int32.ofNat len), .null] 6)) (T13.setTop (mkF m 54 #[.val (.ref a), .val (.ref b), .val (.int (Int32.ofNat o)), .val (.int (Int32.ofNat len)), .val .null, .val (.ref s.heap.size)] [.ref s.heap.size, .ref a])) := (c12.trans (st13 _ (Steps.refl _))).trans (by
    refine XS.aloadN X13.here hexec rfl (hb hbytes d51) rfl rfl ?_
    refine XS.aload X13.here hexec rfl (hb hbytes d52) rfl rfl ?_
    exact Steps.refl _)
  obtain ⟨T15, X15, p15, bl15, sl15, st15⟩ := X13.finit hexec hown (wk W (.fieldLink "java/lang/String" 9 "java/lang/String" "value" "[B")) (Or.inr ⟨_, (wk W (.laysFinal "java/lang/String" "java/lang/String" "value" "[B"))⟩) (Or.inl ⟨rfl, hnm⟩) f1 (Or.inl rfl) bl13 (t := (.array .byte)) (by decide +kernel) rfl (g := (mkF m 54 #[.val (.ref a), .val (.ref b), .val (.int (Int32.ofNat o)), .val (.int (Int32.ofNat len)), .val .null, .val (.ref s.heap.size)] [.ref s.heap.size, .ref a])) rfl (rest := []) rfl (hb hbytes d54)
  have c16 : Steps p.tables e below (s₁.setTop (entryFrame m #[.ref a, .ref b, .int (Int32.ofNat o), .int (Int32.ofNat len), .null] 6)) (T15.setTop (mkF m 57 #[.val (.ref a), .val (.ref b), .val (.int (Int32.ofNat o)), .val (.int (Int32.ofNat len)), .val .null, .val (.ref s.heap.size)] [])) := c14.trans (st15 _ (Steps.refl _))
  have ap := apart (Or.inr ⟨_, (wk W (.laysFinal "java/lang/String" "java/lang/String" "value" "[B"))⟩) (Or.inr ⟨_, (wk W (.laysFinal "java/lang/String" "java/lang/String" "coder" "B"))⟩) f1 f2 (t₁ := .array .byte) (t₂ := .byte) (by decide +kernel) (by decide +kernel) (by decide)
  have al := X8.warmed.alike.symm.trans X15.warmed.alike
  have n7 : T11.heap[s.heap.size]? = some N := by rw [q11]; exact n1.1
  exact ⟨T15, none, _, _, _, X15, by simp, rfl, by omega, (fun _ => rfl), ⟨rfl, _, N, bl15, ((Same.refl D _).set _ (by simp)).set _ (by simp), sl15, (Cell.slots_setSlot_ne _ ap).trans sl13, n1.keep al (p15.other hne (p13.other hne n7)), n2, by rw [al.findClass]; exact n3, n4, n5, fun y c h1 h2 => p15.other h1 (p13.other h1 (by rw [q11]; exact n6 y c h2)), by rw [p15.2.2, p13.2.2, q11]; exact z8⟩, fun fs hl => c16.trans (X15.returnOut hexec hret (hb hbytes d57) hl)⟩
end New4
namespace New1
def yN : MethodName := ⟨"java/lang/String", "<init>", "([C)V"⟩
abbrev yB : ByteArray := jdk_42_method_3_code
theorem d0 : decode yB 0 = .ok (.aload_n 0, 1) := by decide +kernel
theorem d1 : decode yB 1 = .ok (.aload_n 1, 1) := by decide +kernel
theorem d2 : decode yB 2 = .ok (.iconst 0, 1) := by decide +kernel
theorem d3 : decode yB 3 = .ok (.aload_n 1, 1) := by decide +kernel
theorem d4 : decode yB 4 = .ok (.arraylength, 1) := by decide +kernel
theorem d5 : decode yB 5 = .ok (.aconst_null, 1) := by decide +kernel
theorem d6 : decode yB 6 = .ok (.invokespecial 27, 3) := by decide +kernel
theorem d9 : decode yB 9 = .ok (.return_, 1) := by decide +kernel
def site : List Cond := [New4.tab] ++ initW "java/lang/String" 27 New4.yN
def tab : Cond := tabOf yN yB 2 none site
def P (a : Addr) (D : Cell) (fV fC : Field) (b : Addr) (A : Cell) (z : Int32) (args : Array Value) (s : State) : Prop := args = #[.ref a, .ref b] ∧ Blank "java/lang/String" a D s ∧ Found "java/lang/String" "value" "[B" fV s ∧ Found "java/lang/String" "coder" "B" fC s ∧ Ch b A s ∧ StaticIs s "java/lang/String" "COMPACT_STRINGS" "Z" (.int z) ∧ ¬ z = 0 ∧ 0 < A.slots.size ∧ A.slots.size ≤ 536870912 ∧ ∀ i, i < A.slots.size → ¬ 255 < cv A i
def E (a : Addr) (D : Cell) (fV fC : Field) (A : Cell) (r : Option Value) (s u : State) : Prop := Got a D fV fC A 0 A.slots.size r s u
/-- new String(chars), not empty, no char above 255: a Latin-1 String of their low bytes -/
theorem law (l : Launch) (a : Addr) (D : Cell) (fV fC : Field) (b : Addr) (A : Cell) (z : Int32) : Law l yN 2 1 3 52 yB 2 none site (P a D fV fC b A z) (E a D fV fC A) [⟨a, fC.slot⟩, ⟨a, fV.slot⟩] 1 A.slots.size := by
  refine Law.of_walk (plainFor_of_name (by decide +kernel)) (by decide +kernel) (by decide +kernel) (by decide) (fun _ _ h => by rw [h.1]; rfl) (fun _ U U' hal hh h => ⟨h.1, h.2.1.mv hal hh, h.2.2.1.al hal, h.2.2.2.1.al hal, h.2.2.2.2.1.mv hal hh, h.2.2.2.2.2.1.there hal hh, h.2.2.2.2.2.2⟩) (fun r U U' V V' h1 hal h2 h => Got.mv r U U' V V' h1 hal h2 h) ?_
  intro p e s m args below meth c s₁ X0 hexec hbytes hml hret hlk hnm hown hh0 W hP
  obtain ⟨rfl, hB, f1, f2, hA, s1, hz, l0, l2, hp⟩ := hP
  have c1 : Steps p.tables e below (s₁.setTop (entryFrame m #[.ref a, .ref b] 2)) (s₁.setTop (mkF m 0 #[.val (.ref a), .val (.ref b)] [])) := entry rfl
  have c2 : Steps p.tables e below (s₁.setTop (entryFrame m #[.ref a, .ref b] 2)) (s₁.setTop (mkF m 6 #[.val (.ref a), .val (.ref b)] [.null, .int (Int32.ofNat A.slots.size), .int 0, .ref b, .ref a])) := c1.trans (by
    refine XS.aloadN X0.here hexec rfl (hb hbytes d0) rfl rfl ?_
    refine XS.aloadN X0.here hexec rfl (hb hbytes d1) rfl rfl ?_
    refine iconstV X0.here hexec rfl 0 (hb hbytes d2) (by decide) ?_
    refine XS.aloadN X0.here hexec rfl (hb hbytes d3) rfl rfl ?_
    refine X0.alen hexec (hA.1.mv X0.warmed.alike hh0) rfl rfl (hb hbytes d4) ?_
    refine XS.aconstNull X0.here hexec rfl (hb hbytes d5) ?_
    exact Steps.refl _)
  obtain ⟨v3, T3, X3, E3, g3⟩ := X0.callN hexec (New4.law l a D fV fC b A z 0 A.slots.size) rfl hown (wks W (initW "java/lang/String" 27 New4.yN)) (W New4.tab (by simp only [site, List.mem_cons, List.mem_append, true_or, or_true])) (W := 0) (Nat.le_of_ble_eq_true rfl) (Nat.le_of_ble_eq_true rfl) (Nat.le_refl _) (by show 0 + A.slots.size ≤ A.slots.size; omega) (g := (mkF m 6 #[.val (.ref a), .val (.ref b)] [.null, .int (Int32.ofNat A.slots.size), .int (Int32.ofNat 0), .ref b, .ref a])) rfl (by rw [hml]; rfl) c2 (argsL := [.ref b, .int (Int32.ofNat 0), .int (Int32.ofNat A.slots.size), .null]) (rest := []) rfl rfl (by show 2 * 0 + 0 ≤ _; decide) (hb hbytes d6) (⟨rfl, hB.mv X0.warmed.alike hh0, f1.al X0.warmed.alike, f2.al X0.warmed.alike, hA.mv X0.warmed.alike hh0, s1.there X0.warmed.alike hh0, hz, l0, by omega, l2, fun i hi => by rw [Nat.zero_add]; exact hp i hi⟩)
  have e0 := Got.mv _ s₁ s _ _ hh0.symm (Vm.Alike.refl _) rfl E3
  obtain rfl := e0.1
  have c4 : Steps p.tables e below (s₁.setTop (entryFrame m #[.ref a, .ref b] 2)) (T3.setTop (mkF m 9 #[.val (.ref a), .val (.ref b)] [])) := g3
  exact ⟨T3, none, _, _, _, X3, by simp, rfl, by omega, (fun _ => rfl), e0, fun fs hl => c4.trans (X3.returnOut hexec hret (hb hbytes d9) hl)⟩
theorem pays {l : Launch} {R : Room} {p : Program} {e : Env} {below : List Frame} {s : State} {sargs : Array Value} {len W : Nat} (a : Addr) (D : Cell) (fV fC : Field) (b : Addr) (A : Cell) (z : Int32) (htab : tab.before sargs s = true) (hfr : 4 ≤ R.frames) (hlo : W + 65 ≤ R.locals) :
    Back l R p e below s sargs yN len W (fun A₁ a₁ => A₁.cells + 1 ≤ R.cells ∧ A₁.slots + A.slots.size ≤ R.slots ∧ P a D fV fC b A z a₁ A₁.U) (fun A₁ _ v₁ B₁ => E a D fV fC A v₁ A₁.U B₁.U ∧ B₁.locs = A₁.locs ++ [⟨a, fC.slot⟩, ⟨a, fV.slot⟩] ∧ B₁.cells = A₁.cells + 1 ∧ B₁.slots = A₁.slots + A.slots.size) :=
  (law l a D fV fC b A z).pays htab hfr (by omega)
end New1
end StrChars
namespace StrChars.Road
open Jvm Sem ClassFile Op Lib Jvm.Stand Jvm.Free Jvm.Free.XT
open Jvm.Lib.Cold (StaticIs)
abbrev ST : String := "java/lang/String"
/-- every table word that New1's law asks, flat -/
abbrev words : List Jvm.Cond := [.code New1.yN New1.yB 2 none, .initialized ST, .methodLink ST 27 New4.yN, .instanceMethod New4.yN,
  .code New4.yN New4.yB 6 none, .fieldLink ST 38 ST "COMPACT_STRINGS" "Z", .laysFinal ST ST "value" "[B", .fieldLink ST 9 ST "value" "[B", .laysFinal ST ST "coder" "B", .fieldLink ST 15 ST "coder" "B",
  .methodLink ST 1 Lib.objectInit, .instanceMethod Lib.objectInit, .code Lib.objectInit ⟨#[0xb1]⟩ 1 none, .methodLink ST 177 Cmp3.yN, .static Cmp3.yN, .methodLink ST 47 CodL.yN, .static CodL.yN,
  .code Cmp3.yN Cmp3.yB 6 (some (.array .byte)), .initialized U16, .arrayClass .byte, .methodLink U16 115 Cmp5.yN, .static Cmp5.yN, .code Cmp5.yN Cmp5.yB 7 (some .int), .code CodL.yN CodL.yB 2 (some .byte)]
theorem tab_of {a : Array Value} {s : State} (h : ∀ w ∈ words, w.before a s = true) : New1.tab.before a s = true := by
  have h5 : Cmp5.tab.before a s = true := unparts (wk h (.code Cmp5.yN Cmp5.yB 7 (some .int))) (wks h (.initialized Cmp5.yN.cls :: Cmp5.site))
  have hc : CodL.tab.before a s = true := unparts (wk h (.code CodL.yN CodL.yB 2 (some .byte))) (wks h (.initialized CodL.yN.cls :: CodL.site))
  have q5 : ∀ w ∈ Cmp5.tab :: words, w.before a s = true := fun w hw => (List.mem_cons.mp hw).elim (fun e => e ▸ h5) (h w)
  have h3 : Cmp3.tab.before a s = true := unparts (wk q5 (.code Cmp3.yN Cmp3.yB 6 (some (.array .byte)))) (wks q5 (.initialized Cmp3.yN.cls :: Cmp3.site))
  have q3 : ∀ w ∈ Cmp3.tab :: CodL.tab :: words, w.before a s = true := fun w hw => (List.mem_cons.mp hw).elim (fun e => e ▸ h3) fun hw => (List.mem_cons.mp hw).elim (fun e => e ▸ hc) (h w)
  have h4 : New4.tab.before a s = true := unparts (wk q3 (.code New4.yN New4.yB 6 none)) (wks q3 (.initialized New4.yN.cls :: New4.site))
  have q4 : ∀ w ∈ New4.tab :: words, w.before a s = true := fun w hw => (List.mem_cons.mp hw).elim (fun e => e ▸ h4) (h w)
  exact unparts (wk q4 (.code New1.yN New1.yB 2 none)) (wks q4 (.initialized New1.yN.cls :: New1.site))
/-- the words ride from the start Z to the walk's own state -/
theorem moved {Z s : State} {a0 args : Array Value} (hZ : Z.Warmed39 s.vm) (hw : ∀ d ∈ words, d.before a0 Z = true) : ∀ d ∈ words, d.before args s = true := fun d hd => by
  have q := hw d hd
  have t : ∀ d ∈ words, d = .arrayClass .byte ∨ (d.onTables && d.keepsFace) = true := by decide +kernel
  rcases t d hd with rfl | t
  · exact RoadKit.mvA hZ q
  · exact RoadKit.mv hZ q t
/-- WHAT COMES BACK, over the tables of the start Z: h the heap at the call, h' behind it -/
def Q (Z : State) (x : Addr) (A : Cell) (h : Heap) (v : Option Value) (h' : Heap) (L : List Loc) : Prop := v = none ∧ (∀ y ∈ L, y.base = x) ∧ RoadKit.Keep h h' [x] ∧ h'.size = h.size + 1 ∧ RoadKit.Exa Z h' x ST ∧ RoadKit.Fld Z h' x ST "value" "[B" (.ref h.size) ∧ RoadKit.Fld Z h' x ST "coder" "B" (.int 0) ∧
  (∃ V : Cell, RoadKit.Arr Z h' h.size V .byte ∧ V.vm = .none ∧ Z.vm.findClass "[B" = some V.cls ∧ V.slots.size = A.slots.size ∧ ∀ j, j < A.slots.size → V.slots[j]? = some (.int (lo8 (cv A j)))) ∧
  ∀ (O n d : String) (w : Value), RoadKit.Fld Z h x O n d w → RoadKit.slotOf Z O n d ≠ RoadKit.slotOf Z ST "value" "[B" → RoadKit.slotOf Z O n d ≠ RoadKit.slotOf Z ST "coder" "B" → RoadKit.Fld Z h' x O n d w
/-- **new String(chars) AT A CALL, IN THE ROAD'S FORM**: for specialBack behind newO: x the fresh String, b the char[] with the cell A -/
theorem back {p : Program} {l : Launch} {e : Env} {R : Room} {s : State} {args : Array Value} {below : List Frame} {len W : Nat} {Z : State} {a0 : Array Value} {h : Heap} (hZ : Z.Warmed39 s.vm) (hw : ∀ d ∈ words, d.before a0 Z = true) {kI : Nat} (wi : (Jvm.Cond.instantiable ST kI).before a0 Z = true)
    {x b : Addr} {A : Cell} {z : Int32} {v0 c0 : Value} (E : RoadKit.Exa Z h x ST) (V : RoadKit.Fld Z h x ST "value" "[B" v0) (C : RoadKit.Fld Z h x ST "coder" "B" c0) (K : RoadKit.Arr Z h b A .char) (hty : Typed .char A) (S : RoadKit.Sta Z h ST "COMPACT_STRINGS" "Z" (.int z)) (hz : ¬ z = 0)
    (l0 : 0 < A.slots.size) (l2 : A.slots.size ≤ 536870912) (hp : ∀ i, i < A.slots.size → ¬ 255 < cv A i) (hfr : 4 ≤ R.frames) (hlo : W + 65 ≤ R.locals) :
    Back l R p e below s args New1.yN len W (fun P a => a = #[.ref x, .ref b] ∧ P.U.heap = h ∧ P.cells + 1 ≤ R.cells ∧ P.slots + A.slots.size ≤ R.slots)
      (fun P _ v B => ∃ L, Q Z x A h v B.U.heap L ∧ B.locs = P.locs ++ L ∧ B.cells = P.cells + 1 ∧ B.slots = P.slots + A.slots.size) := by
  intro m meth c P g ig mk a X hg hsize hdg hW hn hp'
  obtain ⟨rfl, rfl, r1, r2⟩ := hp'
  have al : Z.vm.Alike P.U.vm := hZ.alike.trans X.warmed.alike
  obtain ⟨D, cfV, kV, iV, fV, hD, gV, stV, knV, obV, asV, slV⟩ := id V
  obtain ⟨D', cfC, kC, iC, fC, hD', gC, stC, -, -, asC, slC⟩ := id C
  cases hD.symm.trans hD'
  obtain ⟨D2, kD, e1, e2, e3, e4, e5⟩ := id E
  cases hD.symm.trans e1
  obtain ⟨c2, k2, i1, i2, i3, -⟩ := Cond.instantiable_spec wi
  cases e2.symm.trans i1
  cases e3.symm.trans i2
  obtain ⟨kU, u1, u2⟩ := al.2.2 _ _ e3
  have hB : Blank ST x D P.U := ⟨hD, ⟨knV, fun q hq => by rw [hq] at obV; cases obV⟩, by rw [al.findClass]; exact e2, kU, u1, by rw [u2]; exact i3, by rw [u2]; exact e5 i3⟩
  have F1 : Found ST "value" "[B" fV P.U := ⟨SBG.found_only al ⟨cfV, kV, iV, gV⟩, stV⟩
  have F2 : Found ST "coder" "B" fC P.U := ⟨SBG.found_only al ⟨cfC, kC, iC, gC⟩, stC⟩
  have hA : Ch b A P.U := ⟨⟨K.1, State.isArrayOf_alike al K.2.1, K.2.2, by omega⟩, hty⟩
  have hS : StaticIs P.U ST "COMPACT_STRINGS" "Z" (.int z) := by
    obtain ⟨cfS, iS, kS, fS, st, cS, t1, t2, t3, t4, t5, t6, t7⟩ := S
    exact StaticIs.there (s := { Z with heap := P.U.heap }) ⟨cfS, iS, kS, fS, st, cS, t1, t2, t3, t4, t5, (fun q => by rw [q] at t6; cases t6), t7⟩ al rfl
  obtain ⟨v, B, X', ⟨⟨hv, E', V', q1, q2, q3, q4, q5, q6, q7, q8, q9, q10, q11⟩, hl, hc, hs⟩, st⟩ := New1.pays x D fV fC b A z (tab_of (moved hZ hw)) hfr hlo m meth c P g ig mk _ X hg hsize hdg hW hn ⟨r1, r2, rfl, hB, F1, F2, hA, hS, hz, l0, l2, hp⟩
  have al' : Z.vm.Alike B.U.vm := hZ.alike.trans X'.warmed.alike
  have hsz : E'.slots.size = D.slots.size := by
    obtain ⟨-, -, -, kB, w1, w2, w3⟩ := q1
    obtain ⟨kB', y1, y2⟩ := al'.2.2 _ _ e3
    rw [q2.2.1] at w1
    cases w1.symm.trans y1
    rw [w3, e5 i3, y2]
  refine ⟨v, B, X', ⟨_, ⟨hv, ?_, ⟨by omega, fun y cy hy hn' => q10 y cy (by simpa using hn') hy, fun y cy hy => ?_⟩, q11, ⟨E', _, q1.1, by rw [q2.2.1]; exact e2, by rw [q2.2.1]; exact e3, by rw [q2.1]; exact obV, fun _ => by rw [hsz]; exact e5 i3⟩,
    ⟨E', cfV, kV, iV, fV, q1.1, gV, stV, by rw [q2.1]; exact knV, by rw [q2.1]; exact obV, by rw [q2.2.1]; exact asV, q3⟩, ⟨E', cfC, kC, iC, fC, q1.1, gC, stC, by rw [q2.1]; exact knV, by rw [q2.1]; exact obV, by rw [q2.2.1]; exact asC, q4⟩,
    ⟨V', ⟨q5.1, State.isArrayOf_alike al'.symm q5.2.1, q5.2.2.1⟩, q6, by rw [← al'.findClass]; exact q7, q8, fun j hj => by have := q9 j hj; rwa [Nat.zero_add] at this⟩, fun O n d w F n1 n2 => ?_⟩, hl, hc, hs⟩, st⟩
  · intro y hy
    simp only [List.mem_cons, List.not_mem_nil, or_false] at hy
    rcases hy with rfl | rfl <;> rfl
  · by_cases q : y = x
    · subst q
      cases hD.symm.trans hy
      exact ⟨E', q1.1, q2.2.1, q2.1, hsz⟩
    · exact ⟨cy, q10 y cy q hy, rfl, rfl, rfl⟩
  · obtain ⟨D3, cf, k, i, f, g1, g2, g3, g4, g5, g6, g7⟩ := F
    cases hD.symm.trans g1
    simp only [RoadKit.slotOf, g2, gV, gC, Option.map_some, Option.getD_some] at n1 n2
    exact ⟨E', cf, k, i, f, q1.1, g2, g3, by rw [q2.1]; exact g4, by rw [q2.1]; exact g5, by rw [q2.2.1]; exact g6, by rw [q2.2.2 f.slot (by simp [n1, n2])]; exact g7⟩
end StrChars.Road
namespace StrChars.Road
open Jvm Sem ClassFile Op Lib Jvm.Stand Jvm.Free Jvm.Free.XT
/-- WHAT COMES BACK, the byte[] as a list of values -/
def QA (Z : State) (x : Addr) (zn : Int32) (cs : List Int32) (h : Heap) (v : Option Value) (h' : Heap) (L : List Loc) : Prop := v = none ∧ (∀ y ∈ L, y.base = x) ∧ RoadKit.Keep h h' [x] ∧ h'.size = h.size + 1 ∧ RoadKit.Exa Z h' x ST ∧ RoadKit.Fld Z h' x ST "value" "[B" (.ref h.size) ∧ RoadKit.Fld Z h' x ST "coder" "B" (.int 0) ∧
  (∃ kb, Z.vm.findClass "[B" = some kb ∧ RoadKit.Arv Z h' h.size kb .byte zn (cs.map fun c => .int (lo8 c)) (.int 0)) ∧
  ∀ (O n d : String) (w : Value), RoadKit.Fld Z h x O n d w → RoadKit.slotOf Z O n d ≠ RoadKit.slotOf Z ST "value" "[B" → RoadKit.slotOf Z O n d ≠ RoadKit.slotOf Z ST "coder" "B" → RoadKit.Fld Z h' x O n d w
/-- **new String(chars) AT A CALL, THE ARRAYS AS LISTS**: the char[] at b holds cs, not empty, no char above 255 -/
theorem backArv {p : Program} {l : Launch} {e : Env} {R : Room} {s : State} {args : Array Value} {below : List Frame} {len W : Nat} {Z : State} {a0 : Array Value} {h : Heap} (hZ : Z.Warmed39 s.vm) (hw : ∀ d ∈ words, d.before a0 Z = true) {kI : Nat} (wi : (Jvm.Cond.instantiable ST kI).before a0 Z = true)
    {x b : Addr} {k : ClassId} {zn z : Int32} {cs : List Int32} {dv v0 c0 : Value} (E : RoadKit.Exa Z h x ST) (V : RoadKit.Fld Z h x ST "value" "[B" v0) (C : RoadKit.Fld Z h x ST "coder" "B" c0) (K : RoadKit.Arv Z h b k .char zn (cs.map Value.int) dv) (S : RoadKit.Sta Z h ST "COMPACT_STRINGS" "Z" (.int z)) (hz : ¬ z = 0)
    (hlen : zn.toNatClampNeg = cs.length) (h0 : 0 < cs.length) (hbig : cs.length ≤ 536870912) (hall : ∀ c ∈ cs, ¬ 255 < c) (hfr : 4 ≤ R.frames) (hlo : W + 65 ≤ R.locals) :
    Back l R p e below s args New1.yN len W (fun P a => a = #[.ref x, .ref b] ∧ P.U.heap = h ∧ P.cells + 1 ≤ R.cells ∧ P.slots + cs.length ≤ R.slots)
      (fun P _ v B => ∃ L, QA Z x zn cs h v B.U.heap L ∧ B.locs = P.locs ++ L ∧ B.cells = P.cells + 1 ∧ B.slots = P.slots + cs.length) := by
  obtain ⟨A, K1, K2, K3, K4, K5, K6⟩ := K
  have e : A.slots.size = cs.length := K3.trans hlen
  have hat : ∀ (i : Nat) (hi : i < cs.length), A.slots[i]? = some (.int cs[i]) := fun i hi => by rw [K5 i (by omega)]; simp [List.getD_eq_getElem?_getD, hi]
  have hcv : ∀ (i : Nat) (hi : i < cs.length), cv A i = cs[i] := fun i hi => by unfold cv; rw [hat i hi]
  have hty : Typed .char A := fun i v hv => by
    have hi : i < A.slots.size := (Array.getElem?_eq_some_iff.mp hv).1
    have q := K5 i hi
    rw [hv] at q
    rw [Option.some.inj q]
    exact K6 i hi
  refine Back.mono (back hZ hw wi E V C K1 hty S hz (by omega) (by omega) (fun i hi => by rw [hcv i (by omega)]; exact hall _ (List.getElem_mem _)) hfr hlo) (fun P a hp => ⟨hp.1, hp.2.1, hp.2.2.1, by rw [e]; exact hp.2.2.2⟩) (fun P a v B hp hq => ?_)
  obtain ⟨L, ⟨q1, q2, q3, q4, q5, q6, q7, ⟨V', v1, v2, v3, v4, v5⟩, q9⟩, hl, hc, hs⟩ := hq
  refine ⟨L, ⟨q1, q2, q3, q4, q5, q6, q7, ⟨V'.cls, v3, V', v1, rfl, by rw [v4, e, hlen], K4, fun i hi => ?_, fun i hi => ?_⟩, q9⟩, hl, hc, by rw [hs, e]⟩
  · have hi' : i < cs.length := by omega
    rw [v5 i (by omega), hcv i hi']; simp [List.getD_eq_getElem?_getD, hi']
  · have hi' : i < cs.length := by omega
    simp only [List.getD_eq_getElem?_getD, List.getElem?_map, List.getElem?_eq_getElem hi', Option.map_some, Option.getD_some]
    exact fits_lo8 _
end StrChars.Road
namespace StrChars.Road
open Jvm Sem ClassFile Op Lib Jvm.Stand Jvm.Free Jvm.Free.XT
/-- WHAT COMES BACK, in the writer's own shape -/
def QV (Z : State) (x : Addr) (N : Int32) (bs : List Int32) (h : Heap) (n0 : Nat) (v : Option Value) (h' : Heap) (L : List Loc) : Prop := v = none ∧ RoadKit.Fr n0 L ∧ RoadKit.Keep h h' [x] ∧ RoadKit.Exa Z h' x ST ∧ RoadKit.Fld Z h' x ST "coder" "B" (.int 0) ∧
  ∃ (t : Addr) (kb : ClassId), n0 ≤ t ∧ h.size ≤ t ∧ ¬ t = x ∧ RoadKit.Fld Z h' x ST "value" "[B" (.ref t) ∧ RoadKit.Arv Z h' t kb .byte N (bs.map Value.int) (.int 0)
/-- **new String(chars) AT A CALL, FOR THE WRITER**: a char[] of n known ints, each 0 to 255 -/
theorem backV {p : Program} {l : Launch} {e : Env} {R : Room} {s : State} {args : Array Value} {below : List Frame} {len W : Nat} {Z : State} {a0 : Array Value} {h : Heap} (hZ : Z.Warmed39 s.vm) (hw : ∀ d ∈ words, d.before a0 Z = true) {kI : Nat} (wi : (Jvm.Cond.instantiable ST kI).before a0 Z = true)
    {x b : Addr} {kC : ClassId} {cs bs : List Int32} {d v0 c0 : Value} {z N : Int32} {n n0 : Nat} (hx0 : n0 ≤ x) (hh0 : n0 ≤ h.size) (E : RoadKit.Exa Z h x ST) (V : RoadKit.Fld Z h x ST "value" "[B" v0) (C : RoadKit.Fld Z h x ST "coder" "B" c0) (K : RoadKit.Arv Z h b kC .char N (cs.map Value.int) d) (S : RoadKit.Sta Z h ST "COMPACT_STRINGS" "Z" (.int z)) (hz : ¬ z = 0)
    (hn : cs.length = n) (hN : N = Int32.ofNat n) (l0 : 0 < n) (l2 : n ≤ 4000) (hp : ∀ c ∈ cs, ¬ c < 0 ∧ ¬ (255 : Int32) < c) (hb : bs = cs.map (fun c => c.toInt8.toInt32)) (hfr : 4 ≤ R.frames) (hlo : W + 65 ≤ R.locals) :
    Back l R p e below s args (⟨"java/lang/String", "<init>", "([C)V"⟩ : MethodName) len W (fun P a => a = #[.ref x, .ref b] ∧ P.U.heap = h ∧ P.cells + 1 ≤ R.cells ∧ P.slots + n ≤ R.slots)
      (fun P _ v B => ∃ L, QV Z x N bs h n0 v B.U.heap L ∧ B.locs = P.locs ++ L ∧ B.cells = P.cells + 1 ∧ B.slots = P.slots + n) := by
  subst hn hN hb
  refine Back.mono (backArv hZ hw wi E V C K S hz (n32 (by omega)) l0 (by omega) (fun c hc => (hp c hc).2) hfr hlo) (fun P a hp => hp) (fun P a v B hp hq => ?_)
  obtain ⟨L, ⟨q1, q2, q3, q4, q5, q6, q7, ⟨kb, v1, v2⟩, q9⟩, hl, hc, hs⟩ := hq
  exact ⟨L, ⟨q1, fun y hy => by rw [q2 y hy]; exact hx0, q3, q5, q7, h.size, kb, hh0, Nat.le_refl _, Nat.ne_of_gt E.lt, q6, by rw [List.map_map]; exact v2⟩, hl, hc, hs⟩
end StrChars.Road
end Jvm.Pilot.@@N@@
namespace Jvm.Pilot.@@N@@
open Jvm Jvm.ClassFile Sem Op Lib Jvm.Free Jvm.Stand Jvm.LawKit Jvm.RoadKit Bundle Jvm.Pilot.@@N@@.Jvm.D
section Own
variable {p : Program} {l : Launch} {e : Env} {R rm : Room} {s : State} {m : MethodId} {args : Array Value} {below : List Frame} {meth : Method} {c : Code} {T : State} {locs : List Loc} {cells slots : Nat} {Z : State} {a0 : Array Value} {h : Heap}
/-- the run comes to the end of the invocation, and what is asked holds there -/
def own_Goes (p : Program) (e : Env) (below : List Frame) (G : Outcome → State → Prop) (S : State) : Prop := ∃ s₂ o, Steps p.tables e below S s₂ ∧ s₂.status = .running ∧ Ended s₂ below o ∧ G o s₂
theorem own_go {G : Outcome → State → Prop} {S S' : State} (h : ∀ t, Steps p.tables e below S' t → Steps p.tables e below S t) (k : own_Goes p e below G S') : own_Goes p e below G S := by
  obtain ⟨s₂, o, h1, h2⟩ := k
  exact ⟨s₂, o, h _ h1, h2⟩
theorem own_tr {G : Outcome → State → Prop} {S S' : State} (h : Steps p.tables e below S S') (k : own_Goes p e below G S') : own_Goes p e below G S := own_go (fun _ q => h.trans q) k
abbrev own_End (s : State) (rm : Room) (Q : Option Value → Heap → List Loc → Prop) : Outcome → State → Prop := fun o U' => ∃ v L, o = .returned v ∧ Q v U'.heap L ∧ FrameEnd s o U' L rm.cells rm.slots
/-- a body's contract: with these arguments, over this heap, it returns and leaves what Q says -/
def own_Met (l : Launch) (Z : State) (y : MethodName) (bytes : ByteArray) (maxL : Nat) (ret : Option FieldType) (ws : List Jvm.Cond) (rm : Room) (as : Array Value) (h0 : Heap) (Q : Option Value → Heap → List Loc → Prop) : Prop :=
  MetFree l y (head1 (Jvm.Cond.code y bytes maxL ret :: ws) rm) (fun a U => a = as ∧ Z.Warmed39 U.vm ∧ U.heap = h0) (fun _ _ _ _ _ => True) (fun _ U o U' => ∃ v L, o = .returned v ∧ Q v U'.heap L ∧ FrameEnd U o U' L rm.cells rm.slots)
theorem own_met {y : MethodName} {bytes : ByteArray} {maxL : Nat} {ret : Option FieldType} {ws : List Jvm.Cond} {as : Array Value} {h0 : Heap} {Q : Option Value → Heap → List Loc → Prop} (hp : plainFor y = true)
    (body : ∀ (p : Program) (e : Env) (s : State) (m : MethodId) (below : List Frame) (meth : Method) (c : Code) (s₁ : State), p.tables.exec = Jvm.exec → c.code = bytes → c.maxLocals = maxL → s.vm.findClass y.cls = some m.cls → meth.name = y.name → meth.sig.returnType = ret → meth.locks = false → Z.Warmed39 s.vm → s₁.heap = h0 →
      Stand p l e rm s m as below meth c s₁ [] 0 0 → own_Goes p e below (own_End s rm Q) (s₁.setTop (entryFrame m as maxL))) : own_Met l Z y bytes maxL ret ws rm as h0 Q := by
  refine MetFree.of_bodySF hp hisR ?_
  intro p e s m args below meth c s₁ Bd hml hP hK
  obtain ⟨rfl, hZ, hh⟩ := hP
  exact body p e s m below meth c s₁ Bd.exec Bd.bytes hml (findClass_of_methodNamed Bd.named) (name_of_methodNamed Bd.named Bd.method).1 Bd.returns Bd.notSynchronized hZ (by rw [← hh, Bd.state]; rfl) (Stand.of_body Bd)
/-- the returns -/
theorem own_retV {Q : Option Value → Heap → List Loc → Prop} (X : Stand p l e rm s m args below meth c T locs cells slots) (hx : p.tables.exec = Jvm.exec) (hlk : meth.locks = false) {pc : Nat} {Ls : Array Slot} {w : Value} {t : FieldType} {i : Instr} {rest : List Value} (hret : meth.sig.returnType = some t) (hn : narrow t w = w)
    (hi : (i = .ireturn ∧ (t = .int ∨ t = .boolean ∨ t = .byte ∨ t = .char ∨ t = .short) ∧ ∃ z, w = .int z) ∨ (i = .lreturn ∧ t = .long ∧ ∃ z, w = .long z) ∨ (i = .dreturn ∧ t = .double ∧ ∃ z, w = .double z) ∨ (i = .freturn ∧ t = .float ∧ ∃ z, w = .float z) ∨ (i = .areturn ∧ t.isReference = true ∧ w.isRef = true))
    (hd : decode c.code pc = .ok (i, 1)) (hc : cells ≤ rm.cells) (hs : slots ≤ rm.slots) (hq : Q (some w) T.heap locs) : own_Goes p e below (own_End s rm Q) (T.setTop (mkF m pc Ls (w :: rest))) := by
  obtain ⟨fs, hr, hrun, hended, hW, hsame⟩ := X.leave (v := some w) (fun h => by rw [hret] at h; cases h) hlk
  exact ⟨_, _, retOut X hx hret hn hi hd hr, hrun, hended, _, _, rfl, hq, ⟨_, rfl⟩, hW, hsame.mono hc hs⟩
theorem own_retI {Q : Option Value → Heap → List Loc → Prop} (X : Stand p l e rm s m args below meth c T locs cells slots) (hx : p.tables.exec = Jvm.exec) (hlk : meth.locks = false) {pc : Nat} {Ls : Array Slot} {z : Int32} {rest : List Value} (hret : meth.sig.returnType = some .int)
    (hd : decode c.code pc = .ok (.ireturn, 1)) (hc : cells ≤ rm.cells) (hs : slots ≤ rm.slots) (hq : Q (some (.int z)) T.heap locs) : own_Goes p e below (own_End s rm Q) (T.setTop (mkF m pc Ls (.int z :: rest))) :=
  own_retV X hx hlk hret rfl (Or.inl ⟨rfl, Or.inl rfl, z, rfl⟩) hd hc hs hq
theorem own_retJ {Q : Option Value → Heap → List Loc → Prop} (X : Stand p l e rm s m args below meth c T locs cells slots) (hx : p.tables.exec = Jvm.exec) (hlk : meth.locks = false) {pc : Nat} {Ls : Array Slot} {z : Int64} {rest : List Value} (hret : meth.sig.returnType = some .long)
    (hd : decode c.code pc = .ok (.lreturn, 1)) (hc : cells ≤ rm.cells) (hs : slots ≤ rm.slots) (hq : Q (some (.long z)) T.heap locs) : own_Goes p e below (own_End s rm Q) (T.setTop (mkF m pc Ls (.long z :: rest))) :=
  own_retV X hx hlk hret rfl (Or.inr (Or.inl ⟨rfl, rfl, z, rfl⟩)) hd hc hs hq
theorem own_retD {Q : Option Value → Heap → List Loc → Prop} (X : Stand p l e rm s m args below meth c T locs cells slots) (hx : p.tables.exec = Jvm.exec) (hlk : meth.locks = false) {pc : Nat} {Ls : Array Slot} {z : UInt64} {rest : List Value} (hret : meth.sig.returnType = some .double)
    (hd : decode c.code pc = .ok (.dreturn, 1)) (hc : cells ≤ rm.cells) (hs : slots ≤ rm.slots) (hq : Q (some (.double z)) T.heap locs) : own_Goes p e below (own_End s rm Q) (T.setTop (mkF m pc Ls (.double z :: rest))) :=
  own_retV X hx hlk hret rfl (Or.inr (Or.inr (Or.inl ⟨rfl, rfl, z, rfl⟩))) hd hc hs hq
theorem own_retR {Q : Option Value → Heap → List Loc → Prop} (X : Stand p l e rm s m args below meth c T locs cells slots) (hx : p.tables.exec = Jvm.exec) (hlk : meth.locks = false) {pc : Nat} {Ls : Array Slot} {w : Value} {t : FieldType} {rest : List Value} (hret : meth.sig.returnType = some t) (ht : t.isReference = true) (hw : w.isRef = true)
    (hd : decode c.code pc = .ok (.areturn, 1)) (hc : cells ≤ rm.cells) (hs : slots ≤ rm.slots) (hq : Q (some w) T.heap locs) : own_Goes p e below (own_End s rm Q) (T.setTop (mkF m pc Ls (w :: rest))) :=
  own_retV X hx hlk hret (by cases t <;> first | rfl | cases ht) (Or.inr (Or.inr (Or.inr (Or.inr ⟨rfl, ht, hw⟩)))) hd hc hs hq
theorem own_retN {Q : Option Value → Heap → List Loc → Prop} (X : Stand p l e rm s m args below meth c T locs cells slots) (hx : p.tables.exec = Jvm.exec) (hlk : meth.locks = false) {pc : Nat} {Ls : Array Slot} {z z' : Int32} {t : FieldType} {rest : List Value} (hret : meth.sig.returnType = some t) (ht : t = .boolean ∨ t = .byte ∨ t = .char ∨ t = .short) (hz : nar t z = z')
    (hd : decode c.code pc = .ok (.ireturn, 1)) (hc : cells ≤ rm.cells) (hs : slots ≤ rm.slots) (hq : Q (some (.int z')) T.heap locs) : own_Goes p e below (own_End s rm Q) (T.setTop (mkF m pc Ls (.int z :: rest))) := by
  subst hz
  obtain ⟨fs, hr, hrun, hended, hW, hsame⟩ := X.leave (v := some (.int (nar t z))) (fun h => by rw [hret] at h; cases h) hlk
  exact ⟨_, _, retN X hx hret ht hd hr, hrun, hended, _, _, rfl, hq, ⟨_, rfl⟩, hW, hsame.mono hc hs⟩
theorem own_ret0 {Q : Option Value → Heap → List Loc → Prop} (X : Stand p l e rm s m args below meth c T locs cells slots) (hx : p.tables.exec = Jvm.exec) (hlk : meth.locks = false) {pc : Nat} {Ls : Array Slot} (hret : meth.sig.returnType = none)
    (hd : decode c.code pc = .ok (.return_, 1)) (hc : cells ≤ rm.cells) (hs : slots ≤ rm.slots) (hq : Q none T.heap locs) : own_Goes p e below (own_End s rm Q) (T.setTop (mkF m pc Ls [])) := by
  obtain ⟨fs, hr, hrun, hended, hW, hsame⟩ := X.leave (v := none) (fun _ => rfl) hlk
  exact ⟨_, _, X.returnOut hx hret hd hr, hrun, hended, _, _, rfl, hq, ⟨_, rfl⟩, hW, hsame.mono hc hs⟩
/-- a static call by the callee's contract -/
theorem own_callS (X : Stand p l e R s m args below meth c T locs cells slots) (hx : p.tables.exec = Jvm.exec) (hZ : Z.Warmed39 s.vm) {own : String} {index : Nat} {y : MethodName} {bytes : ByteArray} {maxL : Nat} {ret : Option FieldType} (hown : s.vm.findClass own = some m.cls)
    (w1 : (Jvm.Cond.methodLink own index y).before a0 Z = true) (w2 : (Jvm.Cond.static y).before a0 Z = true) (w3 : (Jvm.Cond.initialized y.cls).before a0 Z = true) (w4 : (Jvm.Cond.code y bytes maxL ret).before a0 Z = true) (hy : y.cls ≠ "java/lang/invoke/MethodHandle" ∧ y.cls ≠ "java/lang/invoke/VarHandle")
    {as : List Value} {Q : Option Value → Heap → List Loc → Prop} (hM : own_Met l Z y bytes maxL ret [] rm as.toArray h Q) (eT : T.heap = h) {ps : List FieldType} {rt : Option FieldType} (hpd : parseMethodDescriptor y.desc = some ⟨ps, rt⟩) (hlen : as.length = ps.length)
    {pc : Nat} {Ls : Array Slot} {rest : List Value} {W : Nat} (hsize : Ls.size = c.maxLocals) (hW : (rest.map fun v => v.category).sum ≤ W) (hf : rm.frames + 1 ≤ R.frames) (hl : W + (maxL + 11) + rm.locals ≤ R.locals) (hd : decode c.code pc = .ok (.invokestatic index, 3)) (hc : cells + rm.cells ≤ R.cells) (hs : slots + rm.slots ≤ R.slots) :
    ∃ (v : Option Value) (T' : State) (L' : List Loc), Stand p l e R s m args below meth c T' (locs ++ L') (cells + rm.cells) (slots + rm.slots) ∧ Q v T'.heap L' ∧ ∀ target, Steps p.tables e below (T'.setTop (mkF m (pc + 3) Ls (v.toList ++ rest))) target → Steps p.tables e below (T.setTop (mkF m pc Ls (as.reverse ++ rest))) target := by
  obtain ⟨v, _, ⟨T', L', k', n'⟩, -, X', ⟨Lc, hQ, hl', hk', hn'⟩, st⟩ := Jvm.LawKit.callS X hx (y := y) hown (mvT hZ w1) (mvT hZ w2) (mvT hZ w3) (mvT hZ w4) hy (backOf (W := W) hM hZ w4 w3 hf hl) (g := mkF m pc Ls (as.reverse ++ rest)) rfl hsize (argsL := as) (rest := rest) (lenOf hpd hlen) rfl (by show 2 * 0 + _ ≤ _; omega) hd (fun _ _ => ⟨rfl, eT, hc, hs⟩)
  dsimp only [Pt.U, Pt.locs, Pt.cells, Pt.slots] at X' hl' hk' hn' st hQ
  subst hl' hk' hn'
  exact ⟨v, T', Lc, X', hQ, st⟩
/-- an instance method by the contract of the body that the receiver's class selects -/
theorem own_callV (X : Stand p l e R s m args below meth c T locs cells slots) (hx : p.tables.exec = Jvm.exec) (hZ : Z.Warmed39 s.vm) {own C : String} {index : Nat} {y : MethodName} {bytes : ByteArray} {maxL : Nat} {ret : Option FieldType} (hown : s.vm.findClass own = some m.cls)
    (w1 : (Jvm.Cond.methodLink own index y).before a0 Z = true) (w2 : (Jvm.Cond.declares y).before a0 Z = true) (w3 : (Jvm.Cond.selects C y y).before a0 Z = true) (w4 : (Jvm.Cond.instanceMethod y).before a0 Z = true) (w5 : (Jvm.Cond.initialized y.cls).before a0 Z = true) (w6 : (Jvm.Cond.code y bytes maxL ret).before a0 Z = true) (hy : y.cls ≠ "java/lang/invoke/MethodHandle" ∧ y.cls ≠ "java/lang/invoke/VarHandle")
    {b : Addr} {as : List Value} {Q : Option Value → Heap → List Loc → Prop} (hM : own_Met l Z y bytes maxL ret [] rm (Value.ref b :: as).toArray h Q) (eT : T.heap = h) (E : Exa Z h b C) {ps : List FieldType} {rt : Option FieldType} (hpd : parseMethodDescriptor y.desc = some ⟨ps, rt⟩) (hlen : as.length = ps.length)
    {pc : Nat} {Ls : Array Slot} {rest : List Value} {W : Nat} (hsize : Ls.size = c.maxLocals) (hW : (rest.map fun v => v.category).sum ≤ W) (hf : rm.frames + 1 ≤ R.frames) (hl : W + (maxL + 11) + rm.locals ≤ R.locals) (hd : decode c.code pc = .ok (.invokevirtual index, 3)) (hc : cells + rm.cells ≤ R.cells) (hs : slots + rm.slots ≤ R.slots) :
    ∃ (v : Option Value) (T' : State) (L' : List Loc), Stand p l e R s m args below meth c T' (locs ++ L') (cells + rm.cells) (slots + rm.slots) ∧ Q v T'.heap L' ∧ ∀ target, Steps p.tables e below (T'.setTop (mkF m (pc + 3) Ls (v.toList ++ rest))) target → Steps p.tables e below (T.setTop (mkF m pc Ls (as.reverse ++ Value.ref b :: rest))) target := by
  obtain ⟨cq, kq, qa, qb, qc⟩ := isOf hZ eT E
  obtain ⟨v, _, ⟨T', L', k', n'⟩, -, X', ⟨Lc, hQ, hl', hk', hn'⟩, st⟩ := X.virtualBack hx (y := y) (z := y) hown (mvT hZ w1) (mvT hZ w2) (notFace_of_selects (args := #[]) (mvT hZ w3)) (mvT hZ w3) (mvT hZ w4) hy (backOf (W := W) hM hZ w6 w5 hf hl) qa qc (g := mkF m pc Ls (as.reverse ++ Value.ref b :: rest)) rfl hsize (Steps.refl _) (argsL := as) (rest := rest) (lenOf hpd hlen) rfl (by show 2 * 0 + _ ≤ _; omega) hd (fun _ _ => ⟨rfl, eT, hc, hs⟩)
  dsimp only [Pt.U, Pt.locs, Pt.cells, Pt.slots] at X' hl' hk' hn' st hQ
  subst hl' hk' hn'
  exact ⟨v, T', Lc, X', hQ, fun _ q => st.trans q⟩
/-- a constructor by its contract -/
theorem own_callI (X : Stand p l e R s m args below meth c T locs cells slots) (hx : p.tables.exec = Jvm.exec) (hZ : Z.Warmed39 s.vm) {own : String} {index : Nat} {y : MethodName} {bytes : ByteArray} {maxL : Nat} (hy1 : y.name = "<init>") (hown : s.vm.findClass own = some m.cls)
    (w1 : (Jvm.Cond.methodLink own index y).before a0 Z = true) (w4 : (Jvm.Cond.instanceMethod y).before a0 Z = true) (w5 : (Jvm.Cond.initialized y.cls).before a0 Z = true) (w6 : (Jvm.Cond.code y bytes maxL none).before a0 Z = true) (hy : y.cls ≠ "java/lang/invoke/MethodHandle" ∧ y.cls ≠ "java/lang/invoke/VarHandle")
    {b : Addr} {as : List Value} {Q : Option Value → Heap → List Loc → Prop} (hM : own_Met l Z y bytes maxL none [] rm (Value.ref b :: as).toArray h Q) (eT : T.heap = h) {ps : List FieldType} {rt : Option FieldType} (hpd : parseMethodDescriptor y.desc = some ⟨ps, rt⟩) (hlen : as.length = ps.length)
    {pc : Nat} {Ls : Array Slot} {rest : List Value} {W : Nat} (hsize : Ls.size = c.maxLocals) (hW : (rest.map fun v => v.category).sum ≤ W) (hf : rm.frames + 1 ≤ R.frames) (hl : W + (maxL + 11) + rm.locals ≤ R.locals) (hd : decode c.code pc = .ok (.invokespecial index, 3)) (hc : cells + rm.cells ≤ R.cells) (hs : slots + rm.slots ≤ R.slots) :
    ∃ (v : Option Value) (T' : State) (L' : List Loc), Stand p l e R s m args below meth c T' (locs ++ L') (cells + rm.cells) (slots + rm.slots) ∧ Q v T'.heap L' ∧ ∀ target, Steps p.tables e below (T'.setTop (mkF m (pc + 3) Ls (v.toList ++ rest))) target → Steps p.tables e below (T.setTop (mkF m pc Ls (as.reverse ++ Value.ref b :: rest))) target := by
  obtain ⟨v, _, ⟨T', L', k', n'⟩, -, X', ⟨Lc, hQ, hl', hk', hn'⟩, st⟩ := X.specialBack hx (y := y) hy1 hown (mvT hZ w1) (mvT hZ w4) (mvT hZ w6) hy (backOf (W := W) hM hZ w6 w5 hf hl) (g := mkF m pc Ls (as.reverse ++ Value.ref b :: rest)) rfl hsize (Steps.refl _) (a := b) (argsL := as) (rest := rest) (lenOf hpd hlen) rfl (by show 2 * 0 + _ ≤ _; omega) hd (fun _ _ => ⟨rfl, eT, hc, hs⟩)
  dsimp only [Pt.U, Pt.locs, Pt.cells, Pt.slots] at X' hl' hk' hn' st hQ
  subst hl' hk' hn'
  exact ⟨v, T', Lc, X', hQ, fun _ q => st.trans q⟩
end Own
section OwnStr
variable {p : Program} {l : Launch} {e : Env} {R rm : Room} {s : State} {m : MethodId} {args : Array Value} {below : List Frame} {meth : Method} {c : Code} {T : State} {locs : List Loc} {cells slots : Nat} {Z : State} {a0 : Array Value} {h : Heap}
theorem own_pdStr : parseMethodDescriptor "([C)V" = some ⟨[.array .char], none⟩ := by decide +kernel
/-- new String(char[]) -/
theorem own_newStr (X : Stand p l e R s m args below meth c T locs cells slots) (hx : p.tables.exec = Jvm.exec) (hZ : Z.Warmed39 s.vm) {own : String} {index : Nat} {bytes : ByteArray} (hown : s.vm.findClass own = some m.cls)
    (w1 : (Jvm.Cond.methodLink own index ⟨"java/lang/String", "<init>", "([C)V"⟩).before a0 Z = true) (w4 : (Jvm.Cond.instanceMethod ⟨"java/lang/String", "<init>", "([C)V"⟩).before a0 Z = true) (w6 : (Jvm.Cond.code ⟨"java/lang/String", "<init>", "([C)V"⟩ bytes 2 none).before a0 Z = true) (wi : (Jvm.Cond.instantiable "java/lang/String" 4).before a0 Z = true)
    (hws : ∀ d ∈ StrChars.Road.words, d.before a0 Z = true) {x b : Addr} {kC : ClassId} {cs : List Int32} {d v0 c0 : Value} {z N : Int32} {n n0 : Nat} (hx0 : n0 ≤ x) (hh0 : n0 ≤ h.size) (E : Exa Z h x "java/lang/String") (V : Fld Z h x "java/lang/String" "value" "[B" v0) (C : Fld Z h x "java/lang/String" "coder" "B" c0)
    (K : Arv Z h b kC .char N (cs.map Value.int) d) (S : Sta Z h "java/lang/String" "COMPACT_STRINGS" "Z" (.int z)) (hz : ¬ z = 0) (hn : cs.length = n) (hN : N = Int32.ofNat n) (l0 : 0 < n) (l2 : n ≤ 4000) (hp : ∀ c ∈ cs, ¬ c < 0 ∧ ¬ (255 : Int32) < c) (eT : T.heap = h)
    {pc : Nat} {Ls : Array Slot} {rest : List Value} {W : Nat} (hsize : Ls.size = c.maxLocals) (hW : (rest.map fun v => v.category).sum ≤ W) (hf : 4 ≤ R.frames) (hl : W + 65 ≤ R.locals) (hd : decode c.code pc = .ok (.invokespecial index, 3)) (hc : cells + 1 ≤ R.cells) (hs : slots + n ≤ R.slots) :
    ∃ (T' : State) (L' : List Loc), Stand p l e R s m args below meth c T' (locs ++ L') (cells + 1) (slots + n) ∧ StrChars.Road.QV Z x N (cs.map fun c => c.toInt8.toInt32) h n0 none T'.heap L' ∧ ∀ target, Steps p.tables e below (T'.setTop (mkF m (pc + 3) Ls rest)) target → Steps p.tables e below (T.setTop (mkF m pc Ls (Value.ref b :: Value.ref x :: rest))) target := by
  obtain ⟨v, _, ⟨T', L', k', n'⟩, -, X', ⟨Lc, hQ, hl', hk', hn'⟩, st⟩ := X.specialBack hx (y := ⟨"java/lang/String", "<init>", "([C)V"⟩) rfl hown (mvT hZ w1) (mvT hZ w4) (mvT hZ w6) (by decide) (StrChars.Road.backV (W := W) hZ hws wi (cs := cs) (bs := cs.map fun c => c.toInt8.toInt32) (n := n) hx0 hh0 E V C K S hz hn hN l0 l2 hp rfl hf hl) (g := mkF m pc Ls (Value.ref b :: Value.ref x :: rest)) rfl hsize (Steps.refl _) (a := x) (argsL := [Value.ref b]) (rest := rest) (lenOf own_pdStr rfl) rfl (by show 2 * 0 + _ ≤ _; omega) hd (fun _ _ => ⟨rfl, eT, hc, hs⟩)
  dsimp only [Pt.U, Pt.locs, Pt.cells, Pt.slots] at X' hl' hk' hn' st hQ
  subst hl' hk' hn'
  have hv : v = none := hQ.1
  subst hv
  exact ⟨T', Lc, X', hQ, fun _ q => st.trans q⟩
end OwnStr

theorem own_ch (x : Int32) : ¬ nar .char ((x &&& (255 : Int32)).toUInt32.toUInt16.toUInt32.toInt32) < 0 ∧ ¬ (255 : Int32) < nar .char ((x &&& (255 : Int32)).toUInt32.toUInt16.toUInt32.toInt32) := by
  have t : ∀ k : Fin 256, ¬ nar .char ((Int32.ofNat k.val).toUInt32.toUInt16.toUInt32.toInt32) < 0 ∧ ¬ (255 : Int32) < nar .char ((Int32.ofNat k.val).toUInt32.toUInt16.toUInt32.toInt32) := by decide +kernel
  have h : (x &&& 255).toInt = x.toInt % 2 ^ 8 := Jvm.Kit.i32_mask x 255 (k := 8) (by decide) (by decide)
  have e : Int32.ofNat (x &&& 255).toInt.toNat = (x &&& 255) := by
    rw [← Int32.toInt_inj, Int32.toInt_ofNat_of_lt (by omega)]; omega
  have q := t ⟨(x &&& 255).toInt.toNat, by omega⟩
  simp only [e] at q
  exact q
theorem own_nz {args : Array Value} {s : State} {t : Term} {z : Int32} (v : t.eval args s none [] s = some (.int z)) (h : (Jvm.Cond.not (Jvm.Cond.eq t (Jvm.Term.int 0))).value args s none s [] = some true) : ¬ z = 0 := fun q => by
  have h1 := not_v h
  rw [eq_i v (Term.int_eval _) (by rw [q])] at h1
  cases h1

theorem own_a3 (x : Int32) : 0 ≤ (x &&& 3).toInt ∧ (x &&& 3).toInt ≤ 3 := by
  have e : (x &&& 3).toInt = x.toInt % 2 ^ 2 := Jvm.Kit.i32_mask x 3 (k := 2) (by decide) (by decide)
  omega
theorem own_lt12 {k : Int32} (h : k < (1 : Int32)) : k < (2 : Int32) := by
  rw [Int32.lt_iff_toInt_lt] at h ⊢; rw [show (1 : Int32).toInt = 1 from rfl] at h; rw [show (2 : Int32).toInt = 2 from rfl]; omega
theorem own_lt23 {k : Int32} (h : k < (2 : Int32)) : k < (3 : Int32) := by
  rw [Int32.lt_iff_toInt_lt] at h ⊢; rw [show (2 : Int32).toInt = 2 from rfl] at h; rw [show (3 : Int32).toInt = 3 from rfl]; omega
theorem own_q0 (x : Int32) (h : (x &&& (3 : Int32)) < (1 : Int32)) : (0 : Int32) = (x &&& (3 : Int32)) := by
  have := own_a3 x; rw [Int32.lt_iff_toInt_lt, show (1 : Int32).toInt = 1 from rfl] at h; rw [← Int32.toInt_inj, show (0 : Int32).toInt = 0 from rfl]; omega
theorem own_q1 (x : Int32) (h : ¬ (x &&& (3 : Int32)) < (1 : Int32)) (h' : (x &&& (3 : Int32)) < (2 : Int32)) : (1 : Int32) = (x &&& (3 : Int32)) := by
  have := own_a3 x; rw [Int32.lt_iff_toInt_lt, show (1 : Int32).toInt = 1 from rfl] at h; rw [Int32.lt_iff_toInt_lt, show (2 : Int32).toInt = 2 from rfl] at h'; rw [← Int32.toInt_inj, show (1 : Int32).toInt = 1 from rfl]; omega
theorem own_q2 (x : Int32) (h : ¬ (x &&& (3 : Int32)) < (2 : Int32)) (h' : (x &&& (3 : Int32)) < (3 : Int32)) : (2 : Int32) = (x &&& (3 : Int32)) := by
  have := own_a3 x; rw [Int32.lt_iff_toInt_lt, show (2 : Int32).toInt = 2 from rfl] at h; rw [Int32.lt_iff_toInt_lt, show (3 : Int32).toInt = 3 from rfl] at h'; rw [← Int32.toInt_inj, show (2 : Int32).toInt = 2 from rfl]; omega
theorem own_q3 (x : Int32) (h : ¬ (x &&& (3 : Int32)) < (3 : Int32)) : (3 : Int32) = (x &&& (3 : Int32)) := by
  have := own_a3 x; rw [Int32.lt_iff_toInt_lt, show (3 : Int32).toInt = 3 from rfl] at h; rw [← Int32.toInt_inj, show (3 : Int32).toInt = 3 from rfl]; omega
theorem own_dc (x : Int32) : (cmpValue (FP.dcmp (FP.i2d x) (FP.i2d x)) .l) = (0 : Int32) := dcmpV_self (nn_w (i2d_w x)) _
theorem own_hp (a : Int32) : ∀ z ∈ ([nar .char ((a &&& (255 : Int32)).toUInt32.toUInt16.toUInt32.toInt32)] : List Int32), ¬ z < 0 ∧ ¬ (255 : Int32) < z := by
  intro z hz
  simp only [List.mem_cons, List.not_mem_nil, or_false] at hz
  subst hz
  exact own_ch a
theorem own_d10_0 : decode jdk_71_method_1_code 0 = .ok (.aload_n 0, 1) := by decide +kernel
theorem own_d10_1 : decode jdk_71_method_1_code 1 = .ok (.invokespecial 1, 3) := by decide +kernel
theorem own_t57 : (Jvm.Cond.methodLink "java/util/AbstractMap" (1 : Nat) ({ cls := "java/lang/Object", name := "<init>", desc := "()V" } : Jvm.MethodName)) ∈ tables_1 := List.mem_of_getElem? (i := 57) rfl
theorem own_t15 : (Jvm.Cond.instanceMethod ({ cls := "java/lang/Object", name := "<init>", desc := "()V" } : Jvm.MethodName)) ∈ tables_1 := List.mem_of_getElem? (i := 15) rfl
theorem own_t16 : (Jvm.Cond.code ({ cls := "java/lang/Object", name := "<init>", desc := "()V" } : Jvm.MethodName) object_method_1_code (1 : Nat) (Option.none : Option Jvm.ClassFile.FieldType)) ∈ tables_1 := List.mem_of_getElem? (i := 16) rfl
theorem own_pn0 : plainName "java/util/AbstractMap" = true := by first | (simp [plainName, overriddenIn]; done) | decide +kernel
theorem own_d10_4 : decode jdk_71_method_1_code 4 = .ok (.return_, 1) := by decide +kernel
def own_Q10 (r0 : Addr) (h0 : Heap) (n0 : Nat) (v : Option Value) (h : Heap) (L : List Loc) : Prop := v = none ∧ Fr n0 L ∧ h = h0
abbrev own_R10 : Room := { frames := 1, cells := 0, slots := 0, locals := 12 }
theorem own_ef10 (m : MethodId) (z0 : Addr) : entryFrame m #[(.ref z0)] 1 = mkF m 0 #[.val (.ref z0)] [] := by first | (simp [entryFrame, mkF, argsToLocals, Value.category]; done) | rfl
set_option maxRecDepth 65536 in
set_option maxHeartbeats 40000000 in
theorem rm10 (l : Launch) (Z : State) (a0 : Array Value) (hw : ∀ d ∈ tables_1, d.before a0 Z = true) (ws : List Jvm.Cond) (r0 : Addr) (h0 : Heap) (n0 : Nat) : own_Met l Z (⟨"java/util/AbstractMap", "<init>", "()V"⟩ : MethodName) jdk_71_method_1_code 1 none ws own_R10 #[(.ref r0)] h0 (own_Q10 r0 h0 n0) := by
  refine own_met (plainFor_of_name own_pn0) ?_
  intro p e s m below meth c s₁ hx hby hml hown hnm hret hlk hZ e0 X0
  have N0 := Fr.nil n0
  have hml : c.maxLocals = 1 := hml
  have hown : s.vm.findClass "java/util/AbstractMap" = some m.cls := hown
  have hret : meth.sig.returnType = none := hret
  have hby : c.code = jdk_71_method_1_code := hby
  have hnm : meth.name = "<init>" := hnm
  rw [own_ef10]
  show own_Goes p e below _ (s₁.setTop (mkF m 0 #[.val (.ref r0)] []))
  refine own_go (fun t k => XS.aloadN X0.here hx rfl (hb hby own_d10_0) rfl rfl k) ?_
  show own_Goes p e below _ (s₁.setTop (mkF m 1 #[.val (.ref r0)] [(.ref r0)]))
  obtain ⟨T1, X1, e1, st1⟩ := initO X0 hx hZ hown (hw _ own_t57) (hw _ own_t15) (hw _ own_t16) e0 (g := (mkF m 1 #[.val (.ref r0)] [(.ref r0)])) rfl (by rw [hml]; rfl) rfl (hb hby own_d10_1) (by decide) (W := 0) (by show 2 * 0 + _ ≤ _; exact Nat.le_of_eq rfl) (by decide)
  refine own_go st1 ?_
  show own_Goes p e below _ (T1.setTop (mkF m 4 #[.val (.ref r0)] []))
  exact own_ret0 X1 hx hlk hret (hb hby own_d10_4) (by decide) (by decide) ⟨rfl, N0, e1⟩
theorem own_d9_0 : decode jdk_69_method_7_code 0 = .ok (.aload_n 0, 1) := by decide +kernel
theorem own_d9_1 : decode jdk_69_method_7_code 1 = .ok (.invokespecial 43, 3) := by decide +kernel
theorem own_t51 : (Jvm.Cond.methodLink "java/util/HashMap" (43 : Nat) ({ cls := "java/util/AbstractMap", name := "<init>", desc := "()V" } : Jvm.MethodName)) ∈ tables_1 := List.mem_of_getElem? (i := 51) rfl
theorem own_pd0 : parseMethodDescriptor "()V" = some ⟨[], none⟩ := by decide +kernel
theorem own_t52 : (Jvm.Cond.instanceMethod ({ cls := "java/util/AbstractMap", name := "<init>", desc := "()V" } : Jvm.MethodName)) ∈ tables_1 := List.mem_of_getElem? (i := 52) rfl
theorem own_t55 : (Jvm.Cond.initialized "java/util/AbstractMap") ∈ tables_1 := List.mem_of_getElem? (i := 55) rfl
theorem own_t56 : (Jvm.Cond.code ({ cls := "java/util/AbstractMap", name := "<init>", desc := "()V" } : Jvm.MethodName) jdk_71_method_1_code (1 : Nat) (Option.none : Option Jvm.ClassFile.FieldType)) ∈ tables_1 := List.mem_of_getElem? (i := 56) rfl
theorem own_d9_4 : decode jdk_69_method_7_code 4 = .ok (.aload_n 0, 1) := by decide +kernel
theorem own_d9_5 : decode jdk_69_method_7_code 5 = .ok (.ldc 92, 2) := by decide +kernel
theorem own_t58 : (Jvm.Cond.constantFloat "java/util/HashMap" (92 : Nat) (1061158912 : UInt32)) ∈ tables_1 := List.mem_of_getElem? (i := 58) rfl
theorem own_d9_7 : decode jdk_69_method_7_code 7 = .ok (.putfield 81, 3) := by decide +kernel
theorem own_t59 : (Jvm.Cond.fieldLink "java/util/HashMap" (81 : Nat) "java/util/HashMap" "loadFactor" "F") ∈ tables_1 := List.mem_of_getElem? (i := 59) rfl
theorem own_t60 : (Jvm.Cond.laysFinal "java/util/LinkedHashMap" "java/util/HashMap" "loadFactor" "F") ∈ tables_1 := List.mem_of_getElem? (i := 60) rfl
theorem own_t40 : (Jvm.Cond.instantiable "java/util/LinkedHashMap" (12 : Nat)) ∈ tables_1 := List.mem_of_getElem? (i := 40) rfl
theorem own_pn1 : plainName "java/util/HashMap" = true := by first | (simp [plainName, overriddenIn]; done) | decide +kernel
theorem own_d9_10 : decode jdk_69_method_7_code 10 = .ok (.return_, 1) := by decide +kernel
theorem own_t62 : (Jvm.Cond.lays "java/util/LinkedHashMap" "java/util/LinkedHashMap" "putMode" "I") ∈ tables_1 := List.mem_of_getElem? (i := 62) rfl
theorem own_t64 : (Jvm.Cond.laysFinal "java/util/LinkedHashMap" "java/util/LinkedHashMap" "accessOrder" "Z") ∈ tables_1 := List.mem_of_getElem? (i := 64) rfl
def own_Q9_L (Z : State) (r0 : Addr) (h0 : Heap) (n0 : Nat) (v : Option Value) (h : Heap) (L : List Loc) : Prop := v = none ∧ Fr n0 L ∧ Keep h0 h [r0] ∧ Exa Z h r0 "java/util/LinkedHashMap" ∧ Fld Z h r0 "java/util/LinkedHashMap" "putMode" "I" (.int (0 : Int32)) ∧ Fld Z h r0 "java/util/LinkedHashMap" "accessOrder" "Z" (.int (0 : Int32))
abbrev own_R9_L : Room := { frames := 2, cells := 0, slots := 0, locals := 24 }
theorem own_ef9_L (m : MethodId) (z0 : Addr) : entryFrame m #[(.ref z0)] 1 = mkF m 0 #[.val (.ref z0)] [] := by first | (simp [entryFrame, mkF, argsToLocals, Value.category]; done) | rfl
set_option maxRecDepth 65536 in
set_option maxHeartbeats 40000000 in
theorem rm9_L (l : Launch) (Z : State) (a0 : Array Value) (hw : ∀ d ∈ tables_1, d.before a0 Z = true) (ws : List Jvm.Cond) (r0 : Addr) (h0 : Heap) (n0 : Nat) (Z0 : n0 ≤ h0.size) (g_r0 : n0 ≤ r0) (E_r0 : Exa Z h0 r0 "java/util/LinkedHashMap") (F_l : Fld Z h0 r0 "java/util/HashMap" "loadFactor" "F" (.float (0 : UInt32))) (F_p : Fld Z h0 r0 "java/util/LinkedHashMap" "putMode" "I" (.int (0 : Int32))) (F_a : Fld Z h0 r0 "java/util/LinkedHashMap" "accessOrder" "Z" (.int (0 : Int32))) : own_Met l Z (⟨"java/util/HashMap", "<init>", "()V"⟩ : MethodName) jdk_69_method_7_code 1 none ws own_R9_L #[(.ref r0)] h0 (own_Q9_L Z r0 h0 n0) := by
  refine own_met (plainFor_of_name own_pn1) ?_
  intro p e s m below meth c s₁ hx hby hml hown hnm hret hlk hZ e0 X0
  have N0 := Fr.nil n0
  have hml : c.maxLocals = 1 := hml
  have hown : s.vm.findClass "java/util/HashMap" = some m.cls := hown
  have hret : meth.sig.returnType = none := hret
  have hby : c.code = jdk_69_method_7_code := hby
  have hnm : meth.name = "<init>" := hnm
  rw [own_ef9_L]
  show own_Goes p e below _ (s₁.setTop (mkF m 0 #[.val (.ref r0)] []))
  refine own_go (fun t k => XS.aloadN X0.here hx rfl (hb hby own_d9_0) rfl rfl k) ?_
  show own_Goes p e below _ (s₁.setTop (mkF m 1 #[.val (.ref r0)] [(.ref r0)]))
  obtain ⟨_, T2, L2, X2, ⟨rfl, N2q, e2⟩, st2⟩ := own_callI X0 hx hZ rfl hown (hw _ own_t51) (hw _ own_t52) (hw _ own_t55) (hw _ own_t56) (by decide) (b := r0) (as := []) (rm10 l Z a0 hw [] r0 h0 n0) e0 own_pd0 rfl (pc := 1) (Ls := #[.val (.ref r0)]) (rest := []) (W := 0) (by rw [hml]; rfl) (Nat.le_of_eq rfl) (by decide) (by decide) (hb hby own_d9_1) (by decide) (by decide)
  have N2 := Fr.app N0 N2q
  refine own_go st2 ?_
  show own_Goes p e below _ (T2.setTop (mkF m 4 #[.val (.ref r0)] []))
  refine own_go (fun t k => XS.aloadN X2.here hx rfl (hb hby own_d9_4) rfl rfl k) ?_
  show own_Goes p e below _ (T2.setTop (mkF m 5 #[.val (.ref r0)] [(.ref r0)]))
  refine own_go (fun t k => X2.ldcFloatC hx hown (mvT hZ (hw _ own_t58)) (g := (mkF m 5 #[.val (.ref r0)] [(.ref r0)])) rfl (hb hby own_d9_5) t k) ?_
  show own_Goes p e below _ (T2.setTop (mkF m 7 #[.val (.ref r0)] [(.float (1061158912 : UInt32)), (.ref r0)]))
  obtain ⟨T3, h3, X3, e3, W3, st3⟩ := putF X2 hx hZ hown (host := "") (Or.inl (hw _ own_t59)) Via.refl e2 F_l E_r0 (Or.inr ⟨(hw _ own_t60), rfl, hnm⟩) (hw _ own_t40) (ty := .float) (by decide) rfl rfl (g := (mkF m 7 #[.val (.ref r0)] [(.float (1061158912 : UInt32)), (.ref r0)])) rfl rfl (hb hby own_d9_7)
  have N3 := Fr.snoc X3 N2 g_r0
  have Fw3 := F_l.same W3
  refine own_go st3 ?_
  show own_Goes p e below _ (T3.setTop (mkF m 10 #[.val (.ref r0)] []))
  have ff4 : Fld Z h3 r0 "java/util/LinkedHashMap" "putMode" "I" (.int (0 : Int32)) := (F_p.other W3 (Or.inr (slot_ne (Or.inl (hw _ own_t62)) (Or.inr (hw _ own_t60)) (by decide) (t := .int) (t' := .float) (by decide) (by decide))))
  have ff5 : Fld Z h3 r0 "java/util/LinkedHashMap" "accessOrder" "Z" (.int (0 : Int32)) := (F_a.other W3 (Or.inr (slot_ne (Or.inr (hw _ own_t64)) (Or.inr (hw _ own_t60)) (by decide) (t := .boolean) (t' := .float) (by decide) (by decide))))
  exact own_ret0 X3 hx hlk hret (hb hby own_d9_10) (by decide) (by decide) (by show own_Q9_L Z r0 h0 n0 _ T3.heap _; rw [e3]; exact ⟨rfl, N3, ((Keep.refl h0 ([r0] : List Addr)).wr W3 (Or.inl (List.mem_of_getElem? (i := 0) rfl))), (E_r0.wr W3), ff4, ff5⟩)
theorem own_t77 : (Jvm.Cond.laysFinal "java/util/HashMap" "java/util/HashMap" "loadFactor" "F") ∈ tables_1 := List.mem_of_getElem? (i := 77) rfl
theorem own_t74 : (Jvm.Cond.instantiable "java/util/HashMap" (8 : Nat)) ∈ tables_1 := List.mem_of_getElem? (i := 74) rfl
def own_Q9_H (Z : State) (r0 : Addr) (h0 : Heap) (n0 : Nat) (v : Option Value) (h : Heap) (L : List Loc) : Prop := v = none ∧ Fr n0 L ∧ Keep h0 h [r0] ∧ Exa Z h r0 "java/util/HashMap"
abbrev own_R9_H : Room := { frames := 2, cells := 0, slots := 0, locals := 24 }
theorem own_ef9_H (m : MethodId) (z0 : Addr) : entryFrame m #[(.ref z0)] 1 = mkF m 0 #[.val (.ref z0)] [] := by first | (simp [entryFrame, mkF, argsToLocals, Value.category]; done) | rfl
set_option maxRecDepth 65536 in
set_option maxHeartbeats 40000000 in
theorem rm9_H (l : Launch) (Z : State) (a0 : Array Value) (hw : ∀ d ∈ tables_1, d.before a0 Z = true) (ws : List Jvm.Cond) (r0 : Addr) (h0 : Heap) (n0 : Nat) (Z0 : n0 ≤ h0.size) (g_r0 : n0 ≤ r0) (E_r0 : Exa Z h0 r0 "java/util/HashMap") (F_l : Fld Z h0 r0 "java/util/HashMap" "loadFactor" "F" (.float (0 : UInt32))) : own_Met l Z (⟨"java/util/HashMap", "<init>", "()V"⟩ : MethodName) jdk_69_method_7_code 1 none ws own_R9_H #[(.ref r0)] h0 (own_Q9_H Z r0 h0 n0) := by
  refine own_met (plainFor_of_name own_pn1) ?_
  intro p e s m below meth c s₁ hx hby hml hown hnm hret hlk hZ e0 X0
  have N0 := Fr.nil n0
  have hml : c.maxLocals = 1 := hml
  have hown : s.vm.findClass "java/util/HashMap" = some m.cls := hown
  have hret : meth.sig.returnType = none := hret
  have hby : c.code = jdk_69_method_7_code := hby
  have hnm : meth.name = "<init>" := hnm
  rw [own_ef9_H]
  show own_Goes p e below _ (s₁.setTop (mkF m 0 #[.val (.ref r0)] []))
  refine own_go (fun t k => XS.aloadN X0.here hx rfl (hb hby own_d9_0) rfl rfl k) ?_
  show own_Goes p e below _ (s₁.setTop (mkF m 1 #[.val (.ref r0)] [(.ref r0)]))
  obtain ⟨_, T6, L6, X6, ⟨rfl, N6q, e6⟩, st6⟩ := own_callI X0 hx hZ rfl hown (hw _ own_t51) (hw _ own_t52) (hw _ own_t55) (hw _ own_t56) (by decide) (b := r0) (as := []) (rm10 l Z a0 hw [] r0 h0 n0) e0 own_pd0 rfl (pc := 1) (Ls := #[.val (.ref r0)]) (rest := []) (W := 0) (by rw [hml]; rfl) (Nat.le_of_eq rfl) (by decide) (by decide) (hb hby own_d9_1) (by decide) (by decide)
  have N6 := Fr.app N0 N6q
  refine own_go st6 ?_
  show own_Goes p e below _ (T6.setTop (mkF m 4 #[.val (.ref r0)] []))
  refine own_go (fun t k => XS.aloadN X6.here hx rfl (hb hby own_d9_4) rfl rfl k) ?_
  show own_Goes p e below _ (T6.setTop (mkF m 5 #[.val (.ref r0)] [(.ref r0)]))
  refine own_go (fun t k => X6.ldcFloatC hx hown (mvT hZ (hw _ own_t58)) (g := (mkF m 5 #[.val (.ref r0)] [(.ref r0)])) rfl (hb hby own_d9_5) t k) ?_
  show own_Goes p e below _ (T6.setTop (mkF m 7 #[.val (.ref r0)] [(.float (1061158912 : UInt32)), (.ref r0)]))
  obtain ⟨T7, h7, X7, e7, W7, st7⟩ := putF X6 hx hZ hown (host := "") (Or.inl (hw _ own_t59)) Via.refl e6 F_l E_r0 (Or.inr ⟨(hw _ own_t77), rfl, hnm⟩) (hw _ own_t74) (ty := .float) (by decide) rfl rfl (g := (mkF m 7 #[.val (.ref r0)] [(.float (1061158912 : UInt32)), (.ref r0)])) rfl rfl (hb hby own_d9_7)
  have N7 := Fr.snoc X7 N6 g_r0
  have Fw7 := F_l.same W7
  refine own_go st7 ?_
  show own_Goes p e below _ (T7.setTop (mkF m 10 #[.val (.ref r0)] []))
  exact own_ret0 X7 hx hlk hret (hb hby own_d9_10) (by decide) (by decide) (by show own_Q9_H Z r0 h0 n0 _ T7.heap _; rw [e7]; exact ⟨rfl, N7, ((Keep.refl h0 ([r0] : List Addr)).wr W7 (Or.inl (List.mem_of_getElem? (i := 0) rfl))), (E_r0.wr W7)⟩)
theorem own_d8_0 : decode jdk_94_method_16_code 0 = .ok (.aload_n 0, 1) := by decide +kernel
theorem own_d8_1 : decode jdk_94_method_16_code 1 = .ok (.invokespecial 87, 3) := by decide +kernel
theorem own_t45 : (Jvm.Cond.methodLink "java/util/LinkedHashMap" (87 : Nat) ({ cls := "java/util/HashMap", name := "<init>", desc := "()V" } : Jvm.MethodName)) ∈ tables_1 := List.mem_of_getElem? (i := 45) rfl
theorem own_t46 : (Jvm.Cond.instanceMethod ({ cls := "java/util/HashMap", name := "<init>", desc := "()V" } : Jvm.MethodName)) ∈ tables_1 := List.mem_of_getElem? (i := 46) rfl
theorem own_t49 : (Jvm.Cond.initialized "java/util/HashMap") ∈ tables_1 := List.mem_of_getElem? (i := 49) rfl
theorem own_t50 : (Jvm.Cond.code ({ cls := "java/util/HashMap", name := "<init>", desc := "()V" } : Jvm.MethodName) jdk_69_method_7_code (1 : Nat) (Option.none : Option Jvm.ClassFile.FieldType)) ∈ tables_1 := List.mem_of_getElem? (i := 50) rfl
theorem own_d8_4 : decode jdk_94_method_16_code 4 = .ok (.aload_n 0, 1) := by decide +kernel
theorem own_d8_5 : decode jdk_94_method_16_code 5 = .ok (.iconst 0, 1) := by decide +kernel
theorem own_d8_6 : decode jdk_94_method_16_code 6 = .ok (.putfield 1, 3) := by decide +kernel
theorem own_t61 : (Jvm.Cond.fieldLink "java/util/LinkedHashMap" (1 : Nat) "java/util/LinkedHashMap" "putMode" "I") ∈ tables_1 := List.mem_of_getElem? (i := 61) rfl
theorem own_d8_9 : decode jdk_94_method_16_code 9 = .ok (.aload_n 0, 1) := by decide +kernel
theorem own_d8_10 : decode jdk_94_method_16_code 10 = .ok (.iconst 0, 1) := by decide +kernel
theorem own_d8_11 : decode jdk_94_method_16_code 11 = .ok (.putfield 64, 3) := by decide +kernel
theorem own_t63 : (Jvm.Cond.fieldLink "java/util/LinkedHashMap" (64 : Nat) "java/util/LinkedHashMap" "accessOrder" "Z") ∈ tables_1 := List.mem_of_getElem? (i := 63) rfl
theorem own_pn2 : plainName "java/util/LinkedHashMap" = true := by first | (simp [plainName, overriddenIn]; done) | decide +kernel
theorem own_d8_14 : decode jdk_94_method_16_code 14 = .ok (.return_, 1) := by decide +kernel
def own_Q8 (Z : State) (r0 : Addr) (h0 : Heap) (n0 : Nat) (v : Option Value) (h : Heap) (L : List Loc) : Prop := v = none ∧ Fr n0 L ∧ Keep h0 h [r0] ∧ Exa Z h r0 "java/util/LinkedHashMap"
abbrev own_R8 : Room := { frames := 3, cells := 0, slots := 0, locals := 36 }
theorem own_ef8 (m : MethodId) (z0 : Addr) : entryFrame m #[(.ref z0)] 1 = mkF m 0 #[.val (.ref z0)] [] := by first | (simp [entryFrame, mkF, argsToLocals, Value.category]; done) | rfl
set_option maxRecDepth 65536 in
set_option maxHeartbeats 40000000 in
theorem rm8 (l : Launch) (Z : State) (a0 : Array Value) (hw : ∀ d ∈ tables_1, d.before a0 Z = true) (ws : List Jvm.Cond) (r0 : Addr) (h0 : Heap) (n0 : Nat) (Z0 : n0 ≤ h0.size) (g_r0 : n0 ≤ r0) (E_r0 : Exa Z h0 r0 "java/util/LinkedHashMap") (F_l : Fld Z h0 r0 "java/util/HashMap" "loadFactor" "F" (.float (0 : UInt32))) (F_p : Fld Z h0 r0 "java/util/LinkedHashMap" "putMode" "I" (.int (0 : Int32))) (F_a : Fld Z h0 r0 "java/util/LinkedHashMap" "accessOrder" "Z" (.int (0 : Int32))) : own_Met l Z (⟨"java/util/LinkedHashMap", "<init>", "()V"⟩ : MethodName) jdk_94_method_16_code 1 none ws own_R8 #[(.ref r0)] h0 (own_Q8 Z r0 h0 n0) := by
  refine own_met (plainFor_of_name own_pn2) ?_
  intro p e s m below meth c s₁ hx hby hml hown hnm hret hlk hZ e0 X0
  have N0 := Fr.nil n0
  have hml : c.maxLocals = 1 := hml
  have hown : s.vm.findClass "java/util/LinkedHashMap" = some m.cls := hown
  have hret : meth.sig.returnType = none := hret
  have hby : c.code = jdk_94_method_16_code := hby
  have hnm : meth.name = "<init>" := hnm
  rw [own_ef8]
  show own_Goes p e below _ (s₁.setTop (mkF m 0 #[.val (.ref r0)] []))
  refine own_go (fun t k => XS.aloadN X0.here hx rfl (hb hby own_d8_0) rfl rfl k) ?_
  show own_Goes p e below _ (s₁.setTop (mkF m 1 #[.val (.ref r0)] [(.ref r0)]))
  obtain ⟨_, T8, L8, X8, ⟨rfl, N8q, K8, G8_0, G8_1, G8_2⟩, st8⟩ := own_callI X0 hx hZ rfl hown (hw _ own_t45) (hw _ own_t46) (hw _ own_t49) (hw _ own_t50) (by decide) (b := r0) (as := []) (rm9_L l Z a0 hw [] r0 h0 n0 Z0 g_r0 E_r0 F_l F_p F_a) e0 own_pd0 rfl (pc := 1) (Ls := #[.val (.ref r0)]) (rest := []) (W := 0) (by rw [hml]; rfl) (Nat.le_of_eq rfl) (by decide) (by decide) (hb hby own_d8_1) (by decide) (by decide)
  have N8 := Fr.app N0 N8q
  refine own_go st8 ?_
  show own_Goes p e below _ (T8.setTop (mkF m 4 #[.val (.ref r0)] []))
  refine own_go (fun t k => XS.aloadN X8.here hx rfl (hb hby own_d8_4) rfl rfl k) ?_
  show own_Goes p e below _ (T8.setTop (mkF m 5 #[.val (.ref r0)] [(.ref r0)]))
  refine own_go (fun t k => XS.iconst X8.here hx rfl (hb hby own_d8_5) k) ?_
  show own_Goes p e below _ (T8.setTop (mkF m 6 #[.val (.ref r0)] [(.int (0 : Int32)), (.ref r0)]))
  obtain ⟨T9, h9, X9, e9, W9, st9⟩ := putF X8 hx hZ hown (host := "") (Or.inl (hw _ own_t61)) Via.refl rfl G8_1 G8_0 (Or.inl (hw _ own_t62)) (hw _ own_t40) (ty := .int) (by decide) rfl rfl (g := (mkF m 6 #[.val (.ref r0)] [(.int (0 : Int32)), (.ref r0)])) rfl rfl (hb hby own_d8_6)
  have N9 := Fr.snoc X9 N8 g_r0
  have Fw9 := G8_1.same W9
  refine own_go st9 ?_
  show own_Goes p e below _ (T9.setTop (mkF m 9 #[.val (.ref r0)] []))
  refine own_go (fun t k => XS.aloadN X9.here hx rfl (hb hby own_d8_9) rfl rfl k) ?_
  show own_Goes p e below _ (T9.setTop (mkF m 10 #[.val (.ref r0)] [(.ref r0)]))
  refine own_go (fun t k => XS.iconst X9.here hx rfl (hb hby own_d8_10) k) ?_
  show own_Goes p e below _ (T9.setTop (mkF m 11 #[.val (.ref r0)] [(.int (0 : Int32)), (.ref r0)]))
  have ff11 : Fld Z h9 r0 "java/util/LinkedHashMap" "accessOrder" "Z" (.int (0 : Int32)) := (G8_2.other W9 (Or.inr (slot_ne (Or.inr (hw _ own_t64)) (Or.inl (hw _ own_t62)) (by decide) (t := .boolean) (t' := .int) (by decide) (by decide))))
  obtain ⟨T10, h10, X10, e10, W10, st10⟩ := putFN X9 hx hZ hown (hw _ own_t63) Via.refl e9 ff11 (G8_0.wr W9) (Or.inr ⟨(hw _ own_t64), rfl, hnm⟩) (hw _ own_t40) (ty := .boolean) (v' := .int (0 : Int32)) (by decide) rfl (by decide) (g := (mkF m 11 #[.val (.ref r0)] [(.int (0 : Int32)), (.ref r0)])) rfl rfl (hb hby own_d8_11)
  have N10 := Fr.snoc X10 N9 g_r0
  have Fw10 := ff11.same W10
  refine own_go st10 ?_
  show own_Goes p e below _ (T10.setTop (mkF m 14 #[.val (.ref r0)] []))
  exact own_ret0 X10 hx hlk hret (hb hby own_d8_14) (by decide) (by decide) (by show own_Q8 Z r0 h0 n0 _ T10.heap _; rw [e10]; exact ⟨rfl, N10, ((((Keep.refl h0 ([r0] : List Addr)).trans K8 (fun x hx => by cases List.mem_singleton.mp hx; exact Or.inl (List.mem_of_getElem? (i := 0) rfl))).wr W9 (Or.inl (List.mem_of_getElem? (i := 0) rfl))).wr W10 (Or.inl (List.mem_of_getElem? (i := 0) rfl))), ((G8_0.wr W9).wr W10)⟩)
theorem own_d7_0 : decode prog_20_method_1_code 0 = .ok (.aload_n 0, 1) := by decide +kernel
theorem own_d7_1 : decode prog_20_method_1_code 1 = .ok (.invokespecial 1, 3) := by decide +kernel
theorem own_t36 : (Jvm.Cond.methodLink "com/example/nunobiki/nunobiki/engine/Profile" (1 : Nat) ({ cls := "java/lang/Object", name := "<init>", desc := "()V" } : Jvm.MethodName)) ∈ tables_1 := List.mem_of_getElem? (i := 36) rfl
theorem own_d7_4 : decode prog_20_method_1_code 4 = .ok (.aload_n 0, 1) := by decide +kernel
theorem own_d7_5 : decode prog_20_method_1_code 5 = .ok (.iconst (-1), 1) := by decide +kernel
theorem own_d7_6 : decode prog_20_method_1_code 6 = .ok (.putfield 7, 3) := by decide +kernel
theorem own_t37 : (Jvm.Cond.fieldLink "com/example/nunobiki/nunobiki/engine/Profile" (7 : Nat) "com/example/nunobiki/nunobiki/engine/Profile" "slot" "I") ∈ tables_1 := List.mem_of_getElem? (i := 37) rfl
theorem own_t38 : (Jvm.Cond.lays "com/example/nunobiki/nunobiki/engine/Profile" "com/example/nunobiki/nunobiki/engine/Profile" "slot" "I") ∈ tables_1 := List.mem_of_getElem? (i := 38) rfl
theorem own_t2 : (Jvm.Cond.instantiable "com/example/nunobiki/nunobiki/engine/Profile" (13 : Nat)) ∈ tables_1 := List.mem_of_getElem? (i := 2) rfl
theorem own_d7_9 : decode prog_20_method_1_code 9 = .ok (.aload_n 0, 1) := by decide +kernel
theorem own_d7_10 : decode prog_20_method_1_code 10 = .ok (.new 13, 3) := by decide +kernel
theorem own_t39 : (Jvm.Cond.classLink "com/example/nunobiki/nunobiki/engine/Profile" (13 : Nat) "java/util/LinkedHashMap") ∈ tables_1 := List.mem_of_getElem? (i := 39) rfl
theorem own_t41 : (Jvm.Cond.initialized "java/util/LinkedHashMap") ∈ tables_1 := List.mem_of_getElem? (i := 41) rfl
theorem own_d7_13 : decode prog_20_method_1_code 13 = .ok (.dup, 1) := by decide +kernel
theorem own_d7_14 : decode prog_20_method_1_code 14 = .ok (.invokespecial 15, 3) := by decide +kernel
theorem own_t42 : (Jvm.Cond.methodLink "com/example/nunobiki/nunobiki/engine/Profile" (15 : Nat) ({ cls := "java/util/LinkedHashMap", name := "<init>", desc := "()V" } : Jvm.MethodName)) ∈ tables_1 := List.mem_of_getElem? (i := 42) rfl
theorem own_t43 : (Jvm.Cond.instanceMethod ({ cls := "java/util/LinkedHashMap", name := "<init>", desc := "()V" } : Jvm.MethodName)) ∈ tables_1 := List.mem_of_getElem? (i := 43) rfl
theorem own_t44 : (Jvm.Cond.code ({ cls := "java/util/LinkedHashMap", name := "<init>", desc := "()V" } : Jvm.MethodName) jdk_94_method_16_code (1 : Nat) (Option.none : Option Jvm.ClassFile.FieldType)) ∈ tables_1 := List.mem_of_getElem? (i := 44) rfl
theorem own_d7_17 : decode prog_20_method_1_code 17 = .ok (.putfield 16, 3) := by decide +kernel
theorem own_t65 : (Jvm.Cond.fieldLink "com/example/nunobiki/nunobiki/engine/Profile" (16 : Nat) "com/example/nunobiki/nunobiki/engine/Profile" "postings" "Ljava/util/Map;") ∈ tables_1 := List.mem_of_getElem? (i := 65) rfl
theorem own_t66 : (Jvm.Cond.laysFinal "com/example/nunobiki/nunobiki/engine/Profile" "com/example/nunobiki/nunobiki/engine/Profile" "postings" "Ljava/util/Map;") ∈ tables_1 := List.mem_of_getElem? (i := 66) rfl
theorem own_d7_20 : decode prog_20_method_1_code 20 = .ok (.aload_n 0, 1) := by decide +kernel
theorem own_d7_21 : decode prog_20_method_1_code 21 = .ok (.ldc2_w 22, 3) := by decide +kernel
theorem own_t67 : (Jvm.Cond.constantDouble "com/example/nunobiki/nunobiki/engine/Profile" (22 : Nat) (9221120237041090560 : UInt64)) ∈ tables_1 := List.mem_of_getElem? (i := 67) rfl
theorem own_d7_24 : decode prog_20_method_1_code 24 = .ok (.putfield 24, 3) := by decide +kernel
theorem own_t68 : (Jvm.Cond.fieldLink "com/example/nunobiki/nunobiki/engine/Profile" (24 : Nat) "com/example/nunobiki/nunobiki/engine/Profile" "threshold" "D") ∈ tables_1 := List.mem_of_getElem? (i := 68) rfl
theorem own_t69 : (Jvm.Cond.lays "com/example/nunobiki/nunobiki/engine/Profile" "com/example/nunobiki/nunobiki/engine/Profile" "threshold" "D") ∈ tables_1 := List.mem_of_getElem? (i := 69) rfl
theorem own_d7_27 : decode prog_20_method_1_code 27 = .ok (.aload_n 0, 1) := by decide +kernel
theorem own_d7_28 : decode prog_20_method_1_code 28 = .ok (.iconst 0, 1) := by decide +kernel
theorem own_d7_29 : decode prog_20_method_1_code 29 = .ok (.newarray .double, 2) := by decide +kernel
theorem own_t70 : (Jvm.Cond.arrayClass Jvm.ClassFile.FieldType.double) ∈ tables_1 := List.mem_of_getElem? (i := 70) rfl
theorem own_d7_31 : decode prog_20_method_1_code 31 = .ok (.putfield 28, 3) := by decide +kernel
theorem own_t71 : (Jvm.Cond.fieldLink "com/example/nunobiki/nunobiki/engine/Profile" (28 : Nat) "com/example/nunobiki/nunobiki/engine/Profile" "observedScores" "[D") ∈ tables_1 := List.mem_of_getElem? (i := 71) rfl
theorem own_t72 : (Jvm.Cond.lays "com/example/nunobiki/nunobiki/engine/Profile" "com/example/nunobiki/nunobiki/engine/Profile" "observedScores" "[D") ∈ tables_1 := List.mem_of_getElem? (i := 72) rfl
theorem own_d7_34 : decode prog_20_method_1_code 34 = .ok (.aload_n 0, 1) := by decide +kernel
theorem own_d7_35 : decode prog_20_method_1_code 35 = .ok (.new 32, 3) := by decide +kernel
theorem own_t73 : (Jvm.Cond.classLink "com/example/nunobiki/nunobiki/engine/Profile" (32 : Nat) "java/util/HashMap") ∈ tables_1 := List.mem_of_getElem? (i := 73) rfl
theorem own_d7_38 : decode prog_20_method_1_code 38 = .ok (.dup, 1) := by decide +kernel
theorem own_d7_39 : decode prog_20_method_1_code 39 = .ok (.invokespecial 34, 3) := by decide +kernel
theorem own_t75 : (Jvm.Cond.methodLink "com/example/nunobiki/nunobiki/engine/Profile" (34 : Nat) ({ cls := "java/util/HashMap", name := "<init>", desc := "()V" } : Jvm.MethodName)) ∈ tables_1 := List.mem_of_getElem? (i := 75) rfl
theorem own_d7_42 : decode prog_20_method_1_code 42 = .ok (.putfield 35, 3) := by decide +kernel
theorem own_t78 : (Jvm.Cond.fieldLink "com/example/nunobiki/nunobiki/engine/Profile" (35 : Nat) "com/example/nunobiki/nunobiki/engine/Profile" "unjudged" "Ljava/util/Map;") ∈ tables_1 := List.mem_of_getElem? (i := 78) rfl
theorem own_t79 : (Jvm.Cond.laysFinal "com/example/nunobiki/nunobiki/engine/Profile" "com/example/nunobiki/nunobiki/engine/Profile" "unjudged" "Ljava/util/Map;") ∈ tables_1 := List.mem_of_getElem? (i := 79) rfl
theorem own_d7_45 : decode prog_20_method_1_code 45 = .ok (.aload_n 0, 1) := by decide +kernel
theorem own_d7_46 : decode prog_20_method_1_code 46 = .ok (.aload_n 1, 1) := by decide +kernel
theorem own_d7_47 : decode prog_20_method_1_code 47 = .ok (.putfield 38, 3) := by decide +kernel
theorem own_t80 : (Jvm.Cond.fieldLink "com/example/nunobiki/nunobiki/engine/Profile" (38 : Nat) "com/example/nunobiki/nunobiki/engine/Profile" "id" "Ljava/lang/String;") ∈ tables_1 := List.mem_of_getElem? (i := 80) rfl
theorem own_t81 : (Jvm.Cond.laysFinal "com/example/nunobiki/nunobiki/engine/Profile" "com/example/nunobiki/nunobiki/engine/Profile" "id" "Ljava/lang/String;") ∈ tables_1 := List.mem_of_getElem? (i := 81) rfl
theorem own_d7_50 : decode prog_20_method_1_code 50 = .ok (.aload_n 0, 1) := by decide +kernel
theorem own_d7_51 : decode prog_20_method_1_code 51 = .ok (.dload_n 2, 1) := by decide +kernel
theorem own_d7_52 : decode prog_20_method_1_code 52 = .ok (.putfield 42, 3) := by decide +kernel
theorem own_t82 : (Jvm.Cond.fieldLink "com/example/nunobiki/nunobiki/engine/Profile" (42 : Nat) "com/example/nunobiki/nunobiki/engine/Profile" "unitThreshold" "D") ∈ tables_1 := List.mem_of_getElem? (i := 82) rfl
theorem own_t83 : (Jvm.Cond.lays "com/example/nunobiki/nunobiki/engine/Profile" "com/example/nunobiki/nunobiki/engine/Profile" "unitThreshold" "D") ∈ tables_1 := List.mem_of_getElem? (i := 83) rfl
theorem own_d7_55 : decode prog_20_method_1_code 55 = .ok (.aload_n 0, 1) := by decide +kernel
theorem own_d7_56 : decode prog_20_method_1_code 56 = .ok (.iload 4, 2) := by decide +kernel
theorem own_d7_58 : decode prog_20_method_1_code 58 = .ok (.putfield 45, 3) := by decide +kernel
theorem own_t84 : (Jvm.Cond.fieldLink "com/example/nunobiki/nunobiki/engine/Profile" (45 : Nat) "com/example/nunobiki/nunobiki/engine/Profile" "anyTerm" "Z") ∈ tables_1 := List.mem_of_getElem? (i := 84) rfl
theorem own_t85 : (Jvm.Cond.laysFinal "com/example/nunobiki/nunobiki/engine/Profile" "com/example/nunobiki/nunobiki/engine/Profile" "anyTerm" "Z") ∈ tables_1 := List.mem_of_getElem? (i := 85) rfl
theorem own_pn3 : plainName "com/example/nunobiki/nunobiki/engine/Profile" = true := by first | (simp [plainName, overriddenIn]; done) | decide +kernel
theorem own_d7_61 : decode prog_20_method_1_code 61 = .ok (.return_, 1) := by decide +kernel
theorem own_t92 : (Jvm.Cond.lays "com/example/nunobiki/nunobiki/engine/Profile" "com/example/nunobiki/nunobiki/engine/Profile" "observed" "I") ∈ tables_1 := List.mem_of_getElem? (i := 92) rfl
def own_Q7 (Z : State) (r0 : Addr) (r1 : Addr) (d2 : UInt64) (x3 : Int32) (h0 : Heap) (n0 : Nat) (v : Option Value) (h : Heap) (L : List Loc) : Prop := ∃ b : Addr, ∃ kb : ClassId, v = none ∧ Fr n0 L ∧ Keep h0 h [r0] ∧ h0.size ≤ b ∧ Exa Z h r0 "com/example/nunobiki/nunobiki/engine/Profile" ∧ Fld Z h r0 "com/example/nunobiki/nunobiki/engine/Profile" "observed" "I" (.int (0 : Int32)) ∧ Fld Z h r0 "com/example/nunobiki/nunobiki/engine/Profile" "observedScores" "[D" (.ref b) ∧ Fld Z h r0 "com/example/nunobiki/nunobiki/engine/Profile" "unitThreshold" "D" (.double d2) ∧ Arv Z h b kb .double (0 : Int32) [] (.double (0 : UInt64)) ∧ Exa Z h b "[D"
abbrev own_R7 : Room := { frames := 4, cells := 3, slots := 20, locals := 50 }
theorem own_ef7 (m : MethodId) (z0 : Addr) (z1 : Addr) (z2 : UInt64) (z3 : Int32) : entryFrame m #[(.ref z0), (.ref z1), (.double z2), (.int z3)] 5 = mkF m 0 #[.val (.ref z0), .val (.ref z1), .val (.double z2), .second, .val (.int z3)] [] := by first | (simp [entryFrame, mkF, argsToLocals, Value.category]; done) | rfl
set_option maxRecDepth 65536 in
set_option maxHeartbeats 40000000 in
theorem rm7 (l : Launch) (Z : State) (a0 : Array Value) (hw : ∀ d ∈ tables_1, d.before a0 Z = true) (ws : List Jvm.Cond) (r0 : Addr) (r1 : Addr) (d2 : UInt64) (x3 : Int32) (h0 : Heap) (n0 : Nat) (Z0 : n0 ≤ h0.size) (g_r0 : n0 ≤ r0) (E_r0 : Exa Z h0 r0 "com/example/nunobiki/nunobiki/engine/Profile") (F_slot : Fld Z h0 r0 "com/example/nunobiki/nunobiki/engine/Profile" "slot" "I" (.int (0 : Int32))) (F_postings : Fld Z h0 r0 "com/example/nunobiki/nunobiki/engine/Profile" "postings" "Ljava/util/Map;" .null) (F_threshold : Fld Z h0 r0 "com/example/nunobiki/nunobiki/engine/Profile" "threshold" "D" (.double (0 : UInt64))) (F_observedScores : Fld Z h0 r0 "com/example/nunobiki/nunobiki/engine/Profile" "observedScores" "[D" .null) (F_unjudged : Fld Z h0 r0 "com/example/nunobiki/nunobiki/engine/Profile" "unjudged" "Ljava/util/Map;" .null) (F_id : Fld Z h0 r0 "com/example/nunobiki/nunobiki/engine/Profile" "id" "Ljava/lang/String;" .null) (F_unitThreshold : Fld Z h0 r0 "com/example/nunobiki/nunobiki/engine/Profile" "unitThreshold" "D" (.double (0 : UInt64))) (F_anyTerm : Fld Z h0 r0 "com/example/nunobiki/nunobiki/engine/Profile" "anyTerm" "Z" (.int (0 : Int32))) (F_observed : Fld Z h0 r0 "com/example/nunobiki/nunobiki/engine/Profile" "observed" "I" (.int (0 : Int32))) : own_Met l Z (⟨"com/example/nunobiki/nunobiki/engine/Profile", "<init>", "(Ljava/lang/String;DZ)V"⟩ : MethodName) prog_20_method_1_code 5 none ws own_R7 #[(.ref r0), (.ref r1), (.double d2), (.int x3)] h0 (own_Q7 Z r0 r1 d2 x3 h0 n0) := by
  refine own_met (plainFor_of_name own_pn3) ?_
  intro p e s m below meth c s₁ hx hby hml hown hnm hret hlk hZ e0 X0
  have N0 := Fr.nil n0
  have hml : c.maxLocals = 5 := hml
  have hown : s.vm.findClass "com/example/nunobiki/nunobiki/engine/Profile" = some m.cls := hown
  have hret : meth.sig.returnType = none := hret
  have hby : c.code = prog_20_method_1_code := hby
  have hnm : meth.name = "<init>" := hnm
  rw [own_ef7]
  show own_Goes p e below _ (s₁.setTop (mkF m 0 #[.val (.ref r0), .val (.ref r1), .val (.double d2), .second, .val (.int x3)] []))
  refine own_go (fun t k => XS.aloadN X0.here hx rfl (hb hby own_d7_0) rfl rfl k) ?_
  show own_Goes p e below _ (s₁.setTop (mkF m 1 #[.val (.ref r0), .val (.ref r1), .val (.double d2), .second, .val (.int x3)] [(.ref r0)]))
  obtain ⟨T12, X12, e12, st12⟩ := initO X0 hx hZ hown (hw _ own_t36) (hw _ own_t15) (hw _ own_t16) e0 (g := (mkF m 1 #[.val (.ref r0), .val (.ref r1), .val (.double d2), .second, .val (.int x3)] [(.ref r0)])) rfl (by rw [hml]; rfl) rfl (hb hby own_d7_1) (by decide) (W := 0) (by show 2 * 0 + _ ≤ _; exact Nat.le_of_eq rfl) (by decide)
  refine own_go st12 ?_
  show own_Goes p e below _ (T12.setTop (mkF m 4 #[.val (.ref r0), .val (.ref r1), .val (.double d2), .second, .val (.int x3)] []))
  refine own_go (fun t k => XS.aloadN X12.here hx rfl (hb hby own_d7_4) rfl rfl k) ?_
  show own_Goes p e below _ (T12.setTop (mkF m 5 #[.val (.ref r0), .val (.ref r1), .val (.double d2), .second, .val (.int x3)] [(.ref r0)]))
  refine own_go (fun t k => XS.iconst X12.here hx rfl (hb hby own_d7_5) k) ?_
  show own_Goes p e below _ (T12.setTop (mkF m 6 #[.val (.ref r0), .val (.ref r1), .val (.double d2), .second, .val (.int x3)] [(.int (-1 : Int32)), (.ref r0)]))
  obtain ⟨T13, h13, X13, e13, W13, st13⟩ := putF X12 hx hZ hown (host := "") (Or.inl (hw _ own_t37)) Via.refl e12 F_slot E_r0 (Or.inl (hw _ own_t38)) (hw _ own_t2) (ty := .int) (by decide) rfl rfl (g := (mkF m 6 #[.val (.ref r0), .val (.ref r1), .val (.double d2), .second, .val (.int x3)] [(.int (-1 : Int32)), (.ref r0)])) rfl rfl (hb hby own_d7_6)
  have N13 := Fr.snoc X13 N0 g_r0
  have Fw13 := F_slot.same W13
  refine own_go st13 ?_
  show own_Goes p e below _ (T13.setTop (mkF m 9 #[.val (.ref r0), .val (.ref r1), .val (.double d2), .second, .val (.int x3)] []))
  refine own_go (fun t k => XS.aloadN X13.here hx rfl (hb hby own_d7_9) rfl rfl k) ?_
  show own_Goes p e below _ (T13.setTop (mkF m 10 #[.val (.ref r0), .val (.ref r1), .val (.double d2), .second, .val (.int x3)] [(.ref r0)]))
  obtain ⟨T14, h14, X14, e14, E14, A14, D14, -, st14⟩ := newO X13 hx hZ hown (hw _ own_t39) (hw _ own_t40) (hw _ own_t41) e13 (g := (mkF m 10 #[.val (.ref r0), .val (.ref r1), .val (.double d2), .second, .val (.int x3)] [(.ref r0)])) rfl (hb hby own_d7_10) (by decide) (by decide)
  obtain ⟨b14, q14⟩ : ∃ z, z = h13.size := ⟨_, rfl⟩
  rw [← q14] at A14 D14 st14
  have lt_b14 : h13.size ≤ b14 := Nat.le_of_eq q14.symm
  have ne_r0_b14 : r0 ≠ b14 := Nat.ne_of_lt (Nat.lt_of_lt_of_le (E_r0.wr W13).lt lt_b14)
  have g_b14 : n0 ≤ b14 := Nat.le_trans (Nat.le_trans Z0 (Keep.of_wr W13).1) lt_b14
  have sz_b14 : h0.size ≤ b14 := Nat.le_trans ((Keep.refl h0 ([r0] : List Addr)).wr W13 (Or.inl (List.mem_of_getElem? (i := 0) rfl))).1 lt_b14
  have F14_loadFactor : Fld Z h14 b14 "java/util/HashMap" "loadFactor" "F" (.float (0 : UInt32)) := D14 (Or.inr (hw _ own_t60)) (ty := .float) (by decide)
  have F14_putMode : Fld Z h14 b14 "java/util/LinkedHashMap" "putMode" "I" (.int (0 : Int32)) := D14 (Or.inl (hw _ own_t62)) (ty := .int) (by decide)
  have F14_accessOrder : Fld Z h14 b14 "java/util/LinkedHashMap" "accessOrder" "Z" (.int (0 : Int32)) := D14 (Or.inr (hw _ own_t64)) (ty := .boolean) (by decide)
  refine own_go st14 ?_
  show own_Goes p e below _ (T14.setTop (mkF m 13 #[.val (.ref r0), .val (.ref r1), .val (.double d2), .second, .val (.int x3)] [(.ref b14), (.ref r0)]))
  refine own_go (fun t k => XS.dup X14.here hx rfl (hb hby own_d7_13) rfl rfl k) ?_
  show own_Goes p e below _ (T14.setTop (mkF m 14 #[.val (.ref r0), .val (.ref r1), .val (.double d2), .second, .val (.int x3)] [(.ref b14), (.ref b14), (.ref r0)]))
  obtain ⟨_, T15, L15, X15, ⟨rfl, N15q, K15, G15_0⟩, st15⟩ := own_callI X14 hx hZ rfl hown (hw _ own_t42) (hw _ own_t43) (hw _ own_t41) (hw _ own_t44) (by decide) (b := b14) (as := []) (rm8 l Z a0 hw [] b14 h14 n0 (Nat.le_trans (Nat.le_trans Z0 (Keep.of_wr W13).1) E14.1) g_b14 A14 F14_loadFactor F14_putMode F14_accessOrder) e14 own_pd0 rfl (pc := 14) (Ls := #[.val (.ref r0), .val (.ref r1), .val (.double d2), .second, .val (.int x3)]) (rest := [(.ref b14), (.ref r0)]) (W := 2) (by rw [hml]; rfl) (Nat.le_of_eq rfl) (by decide) (by decide) (hb hby own_d7_14) (by decide) (by decide)
  have N15 := Fr.app N13 N15q
  refine own_go st15 ?_
  show own_Goes p e below _ (T15.setTop (mkF m 17 #[.val (.ref r0), .val (.ref r1), .val (.double d2), .second, .val (.int x3)] [(.ref b14), (.ref r0)]))
  have ff17 : Fld Z T15.heap r0 "com/example/nunobiki/nunobiki/engine/Profile" "postings" "Ljava/util/Map;" .null := (((F_postings.other W13 (Or.inr (slot_ne (Or.inr (hw _ own_t66)) (Or.inl (hw _ own_t38)) (by decide) (t := (.object "java/util/Map")) (t' := .int) (by decide) (by decide)))).ext E14).keep K15 (fun z => ne_r0_b14 (List.mem_singleton.mp z)))
  have ff18 : Exa Z T15.heap r0 "com/example/nunobiki/nunobiki/engine/Profile" := (((E_r0.wr W13).ext E14).keep K15)
  obtain ⟨T16, h16, X16, e16, W16, st16⟩ := putF X15 hx hZ hown (host := "") (Or.inl (hw _ own_t65)) Via.refl rfl ff17 ff18 (Or.inr ⟨(hw _ own_t66), rfl, hnm⟩) (hw _ own_t2) (ty := (.object "java/util/Map")) (by decide) rfl rfl (g := (mkF m 17 #[.val (.ref r0), .val (.ref r1), .val (.double d2), .second, .val (.int x3)] [(.ref b14), (.ref r0)])) rfl rfl (hb hby own_d7_17)
  have N16 := Fr.snoc X16 N15 g_r0
  have Fw16 := ff17.same W16
  refine own_go st16 ?_
  show own_Goes p e below _ (T16.setTop (mkF m 20 #[.val (.ref r0), .val (.ref r1), .val (.double d2), .second, .val (.int x3)] []))
  refine own_go (fun t k => XS.aloadN X16.here hx rfl (hb hby own_d7_20) rfl rfl k) ?_
  show own_Goes p e below _ (T16.setTop (mkF m 21 #[.val (.ref r0), .val (.ref r1), .val (.double d2), .second, .val (.int x3)] [(.ref r0)]))
  refine own_go (fun t k => X16.ldc2DoubleC hx hown (mvT hZ (hw _ own_t67)) (g := (mkF m 21 #[.val (.ref r0), .val (.ref r1), .val (.double d2), .second, .val (.int x3)] [(.ref r0)])) rfl (hb hby own_d7_21) t k) ?_
  show own_Goes p e below _ (T16.setTop (mkF m 24 #[.val (.ref r0), .val (.ref r1), .val (.double d2), .second, .val (.int x3)] [(.double (9221120237041090560 : UInt64)), (.ref r0)]))
  have ff20 : Fld Z h16 r0 "com/example/nunobiki/nunobiki/engine/Profile" "threshold" "D" (.double (0 : UInt64)) := ((((F_threshold.other W13 (Or.inr (slot_ne (Or.inl (hw _ own_t69)) (Or.inl (hw _ own_t38)) (by decide) (t := .double) (t' := .int) (by decide) (by decide)))).ext E14).keep K15 (fun z => ne_r0_b14 (List.mem_singleton.mp z))).other W16 (Or.inr (slot_ne (Or.inl (hw _ own_t69)) (Or.inr (hw _ own_t66)) (by decide) (t := .double) (t' := (.object "java/util/Map")) (by decide) (by decide))))
  obtain ⟨T19, h19, X19, e19, W19, st19⟩ := putF X16 hx hZ hown (host := "") (Or.inl (hw _ own_t68)) Via.refl e16 ff20 (ff18.wr W16) (Or.inl (hw _ own_t69)) (hw _ own_t2) (ty := .double) (by decide) rfl rfl (g := (mkF m 24 #[.val (.ref r0), .val (.ref r1), .val (.double d2), .second, .val (.int x3)] [(.double (9221120237041090560 : UInt64)), (.ref r0)])) rfl rfl (hb hby own_d7_24)
  have N19 := Fr.snoc X19 N16 g_r0
  have Fw19 := ff20.same W19
  refine own_go st19 ?_
  show own_Goes p e below _ (T19.setTop (mkF m 27 #[.val (.ref r0), .val (.ref r1), .val (.double d2), .second, .val (.int x3)] []))
  refine own_go (fun t k => XS.aloadN X19.here hx rfl (hb hby own_d7_27) rfl rfl k) ?_
  show own_Goes p e below _ (T19.setTop (mkF m 28 #[.val (.ref r0), .val (.ref r1), .val (.double d2), .second, .val (.int x3)] [(.ref r0)]))
  refine own_go (fun t k => XS.iconst X19.here hx rfl (hb hby own_d7_28) k) ?_
  show own_Goes p e below _ (T19.setTop (mkF m 29 #[.val (.ref r0), .val (.ref r1), .val (.double d2), .second, .val (.int x3)] [(.int (0 : Int32)), (.ref r0)]))
  obtain ⟨T21, h21, k21, X21, e21, E21, A21, Y21, st21⟩ := newPE X19 hx hZ (aty := .double) (hw _ own_t70) e19 (g := (mkF m 29 #[.val (.ref r0), .val (.ref r1), .val (.double d2), .second, .val (.int x3)] [(.int (0 : Int32)), (.ref r0)])) rfl (hb hby own_d7_29) rfl (by decide) (cap := 0) (by decide) (by decide) (by decide) (by decide) (ad := "[D") (by decide +kernel)
  obtain ⟨b21, q21⟩ : ∃ z, z = h19.size := ⟨_, rfl⟩
  rw [← q21] at A21 Y21 st21
  have lt_b21 : h19.size ≤ b21 := Nat.le_of_eq q21.symm
  have ne_r0_b21 : r0 ≠ b21 := Nat.ne_of_lt (Nat.lt_of_lt_of_le ((ff18.wr W16).wr W19).lt lt_b21)
  have ne_b14_b21 : b14 ≠ b21 := Nat.ne_of_lt (Nat.lt_of_lt_of_le ((G15_0.wr W16).wr W19).lt lt_b21)
  have g_b21 : n0 ≤ b21 := Nat.le_trans (Nat.le_trans (Nat.le_trans (Nat.le_trans (Nat.le_trans (Nat.le_trans Z0 (Keep.of_wr W13).1) E14.1) K15.1) (Keep.of_wr W16).1) (Keep.of_wr W19).1) lt_b21
  have sz_b21 : h0.size ≤ b21 := Nat.le_trans ((((((Keep.refl h0 ([r0] : List Addr)).wr W13 (Or.inl (List.mem_of_getElem? (i := 0) rfl))).ext E14).trans K15 (fun x hx => by cases List.mem_singleton.mp hx; exact Or.inr sz_b14)).wr W16 (Or.inl (List.mem_of_getElem? (i := 0) rfl))).wr W19 (Or.inl (List.mem_of_getElem? (i := 0) rfl))).1 lt_b21
  have V21 : Arv Z h21 b21 k21 .double (0 : Int32) [] (.double (0 : UInt64)) := Arv.new A21 (by decide)
  refine own_go st21 ?_
  show own_Goes p e below _ (T21.setTop (mkF m 31 #[.val (.ref r0), .val (.ref r1), .val (.double d2), .second, .val (.int x3)] [(.ref b21), (.ref r0)]))
  have ff23 : Fld Z h21 r0 "com/example/nunobiki/nunobiki/engine/Profile" "observedScores" "[D" .null := ((((((F_observedScores.other W13 (Or.inr (slot_ne (Or.inl (hw _ own_t72)) (Or.inl (hw _ own_t38)) (by decide) (t := (.array .double)) (t' := .int) (by decide) (by decide)))).ext E14).keep K15 (fun z => ne_r0_b14 (List.mem_singleton.mp z))).other W16 (Or.inr (slot_ne (Or.inl (hw _ own_t72)) (Or.inr (hw _ own_t66)) (by decide) (t := (.array .double)) (t' := (.object "java/util/Map")) (by decide) (by decide)))).other W19 (Or.inr (slot_ne (Or.inl (hw _ own_t72)) (Or.inl (hw _ own_t69)) (by decide) (t := (.array .double)) (t' := .double) (by decide) (by decide)))).ext E21)
  have ff24 : Exa Z h21 r0 "com/example/nunobiki/nunobiki/engine/Profile" := (((ff18.wr W16).wr W19).ext E21)
  obtain ⟨T22, h22, X22, e22, W22, st22⟩ := putF X21 hx hZ hown (host := "") (Or.inl (hw _ own_t71)) Via.refl e21 ff23 ff24 (Or.inl (hw _ own_t72)) (hw _ own_t2) (ty := (.array .double)) (by decide) rfl rfl (g := (mkF m 31 #[.val (.ref r0), .val (.ref r1), .val (.double d2), .second, .val (.int x3)] [(.ref b21), (.ref r0)])) rfl rfl (hb hby own_d7_31)
  have N22 := Fr.snoc X22 N19 g_r0
  have Fw22 := ff23.same W22
  refine own_go st22 ?_
  show own_Goes p e below _ (T22.setTop (mkF m 34 #[.val (.ref r0), .val (.ref r1), .val (.double d2), .second, .val (.int x3)] []))
  refine own_go (fun t k => XS.aloadN X22.here hx rfl (hb hby own_d7_34) rfl rfl k) ?_
  show own_Goes p e below _ (T22.setTop (mkF m 35 #[.val (.ref r0), .val (.ref r1), .val (.double d2), .second, .val (.int x3)] [(.ref r0)]))
  obtain ⟨T25, h25, X25, e25, E25, A25, D25, -, st25⟩ := newO X22 hx hZ hown (hw _ own_t73) (hw _ own_t74) (hw _ own_t49) e22 (g := (mkF m 35 #[.val (.ref r0), .val (.ref r1), .val (.double d2), .second, .val (.int x3)] [(.ref r0)])) rfl (hb hby own_d7_35) (by decide) (by decide)
  obtain ⟨b25, q25⟩ : ∃ z, z = h22.size := ⟨_, rfl⟩
  rw [← q25] at A25 D25 st25
  have lt_b25 : h22.size ≤ b25 := Nat.le_of_eq q25.symm
  have ne_r0_b25 : r0 ≠ b25 := Nat.ne_of_lt (Nat.lt_of_lt_of_le (ff24.wr W22).lt lt_b25)
  have ne_b14_b25 : b14 ≠ b25 := Nat.ne_of_lt (Nat.lt_of_lt_of_le ((((G15_0.wr W16).wr W19).ext E21).wr W22).lt lt_b25)
  have ne_b21_b25 : b21 ≠ b25 := Nat.ne_of_lt (Nat.lt_of_lt_of_le (V21.other W22 (Ne.symm ne_r0_b21)).lt lt_b25)
  have g_b25 : n0 ≤ b25 := Nat.le_trans (Nat.le_trans (Nat.le_trans (Nat.le_trans (Nat.le_trans (Nat.le_trans (Nat.le_trans (Nat.le_trans Z0 (Keep.of_wr W13).1) E14.1) K15.1) (Keep.of_wr W16).1) (Keep.of_wr W19).1) E21.1) (Keep.of_wr W22).1) lt_b25
  have sz_b25 : h0.size ≤ b25 := Nat.le_trans ((((((((Keep.refl h0 ([r0] : List Addr)).wr W13 (Or.inl (List.mem_of_getElem? (i := 0) rfl))).ext E14).trans K15 (fun x hx => by cases List.mem_singleton.mp hx; exact Or.inr sz_b14)).wr W16 (Or.inl (List.mem_of_getElem? (i := 0) rfl))).wr W19 (Or.inl (List.mem_of_getElem? (i := 0) rfl))).ext E21).wr W22 (Or.inl (List.mem_of_getElem? (i := 0) rfl))).1 lt_b25
  have F25_loadFactor : Fld Z h25 b25 "java/util/HashMap" "loadFactor" "F" (.float (0 : UInt32)) := D25 (Or.inr (hw _ own_t77)) (ty := .float) (by decide)
  refine own_go st25 ?_
  show own_Goes p e below _ (T25.setTop (mkF m 38 #[.val (.ref r0), .val (.ref r1), .val (.double d2), .second, .val (.int x3)] [(.ref b25), (.ref r0)]))
  refine own_go (fun t k => XS.dup X25.here hx rfl (hb hby own_d7_38) rfl rfl k) ?_
  show own_Goes p e below _ (T25.setTop (mkF m 39 #[.val (.ref r0), .val (.ref r1), .val (.double d2), .second, .val (.int x3)] [(.ref b25), (.ref b25), (.ref r0)]))
  obtain ⟨_, T26, L26, X26, ⟨rfl, N26q, K26, G26_0⟩, st26⟩ := own_callI X25 hx hZ rfl hown (hw _ own_t75) (hw _ own_t46) (hw _ own_t49) (hw _ own_t50) (by decide) (b := b25) (as := []) (rm9_H l Z a0 hw [] b25 h25 n0 (Nat.le_trans (Nat.le_trans (Nat.le_trans (Nat.le_trans (Nat.le_trans (Nat.le_trans (Nat.le_trans (Nat.le_trans Z0 (Keep.of_wr W13).1) E14.1) K15.1) (Keep.of_wr W16).1) (Keep.of_wr W19).1) E21.1) (Keep.of_wr W22).1) E25.1) g_b25 A25 F25_loadFactor) e25 own_pd0 rfl (pc := 39) (Ls := #[.val (.ref r0), .val (.ref r1), .val (.double d2), .second, .val (.int x3)]) (rest := [(.ref b25), (.ref r0)]) (W := 2) (by rw [hml]; rfl) (Nat.le_of_eq rfl) (by decide) (by decide) (hb hby own_d7_39) (by decide) (by decide)
  have N26 := Fr.app N22 N26q
  refine own_go st26 ?_
  show own_Goes p e below _ (T26.setTop (mkF m 42 #[.val (.ref r0), .val (.ref r1), .val (.double d2), .second, .val (.int x3)] [(.ref b25), (.ref r0)]))
  have ff28 : Fld Z T26.heap r0 "com/example/nunobiki/nunobiki/engine/Profile" "unjudged" "Ljava/util/Map;" .null := (((((((((F_unjudged.other W13 (Or.inr (slot_ne (Or.inr (hw _ own_t79)) (Or.inl (hw _ own_t38)) (by decide) (t := (.object "java/util/Map")) (t' := .int) (by decide) (by decide)))).ext E14).keep K15 (fun z => ne_r0_b14 (List.mem_singleton.mp z))).other W16 (Or.inr (slot_ne (Or.inr (hw _ own_t79)) (Or.inr (hw _ own_t66)) (by decide) (t := (.object "java/util/Map")) (t' := (.object "java/util/Map")) (by decide) (by decide)))).other W19 (Or.inr (slot_ne (Or.inr (hw _ own_t79)) (Or.inl (hw _ own_t69)) (by decide) (t := (.object "java/util/Map")) (t' := .double) (by decide) (by decide)))).ext E21).other W22 (Or.inr (slot_ne (Or.inr (hw _ own_t79)) (Or.inl (hw _ own_t72)) (by decide) (t := (.object "java/util/Map")) (t' := (.array .double)) (by decide) (by decide)))).ext E25).keep K26 (fun z => ne_r0_b25 (List.mem_singleton.mp z)))
  have ff29 : Exa Z T26.heap r0 "com/example/nunobiki/nunobiki/engine/Profile" := (((ff24.wr W22).ext E25).keep K26)
  obtain ⟨T27, h27, X27, e27, W27, st27⟩ := putF X26 hx hZ hown (host := "") (Or.inl (hw _ own_t78)) Via.refl rfl ff28 ff29 (Or.inr ⟨(hw _ own_t79), rfl, hnm⟩) (hw _ own_t2) (ty := (.object "java/util/Map")) (by decide) rfl rfl (g := (mkF m 42 #[.val (.ref r0), .val (.ref r1), .val (.double d2), .second, .val (.int x3)] [(.ref b25), (.ref r0)])) rfl rfl (hb hby own_d7_42)
  have N27 := Fr.snoc X27 N26 g_r0
  have Fw27 := ff28.same W27
  refine own_go st27 ?_
  show own_Goes p e below _ (T27.setTop (mkF m 45 #[.val (.ref r0), .val (.ref r1), .val (.double d2), .second, .val (.int x3)] []))
  refine own_go (fun t k => XS.aloadN X27.here hx rfl (hb hby own_d7_45) rfl rfl k) ?_
  show own_Goes p e below _ (T27.setTop (mkF m 46 #[.val (.ref r0), .val (.ref r1), .val (.double d2), .second, .val (.int x3)] [(.ref r0)]))
  refine own_go (fun t k => XS.aloadN X27.here hx rfl (hb hby own_d7_46) rfl rfl k) ?_
  show own_Goes p e below _ (T27.setTop (mkF m 47 #[.val (.ref r0), .val (.ref r1), .val (.double d2), .second, .val (.int x3)] [(.ref r1), (.ref r0)]))
  have ff31 : Fld Z h27 r0 "com/example/nunobiki/nunobiki/engine/Profile" "id" "Ljava/lang/String;" .null := ((((((((((F_id.other W13 (Or.inr (slot_ne (Or.inr (hw _ own_t81)) (Or.inl (hw _ own_t38)) (by decide) (t := (.object "java/lang/String")) (t' := .int) (by decide) (by decide)))).ext E14).keep K15 (fun z => ne_r0_b14 (List.mem_singleton.mp z))).other W16 (Or.inr (slot_ne (Or.inr (hw _ own_t81)) (Or.inr (hw _ own_t66)) (by decide) (t := (.object "java/lang/String")) (t' := (.object "java/util/Map")) (by decide) (by decide)))).other W19 (Or.inr (slot_ne (Or.inr (hw _ own_t81)) (Or.inl (hw _ own_t69)) (by decide) (t := (.object "java/lang/String")) (t' := .double) (by decide) (by decide)))).ext E21).other W22 (Or.inr (slot_ne (Or.inr (hw _ own_t81)) (Or.inl (hw _ own_t72)) (by decide) (t := (.object "java/lang/String")) (t' := (.array .double)) (by decide) (by decide)))).ext E25).keep K26 (fun z => ne_r0_b25 (List.mem_singleton.mp z))).other W27 (Or.inr (slot_ne (Or.inr (hw _ own_t81)) (Or.inr (hw _ own_t79)) (by decide) (t := (.object "java/lang/String")) (t' := (.object "java/util/Map")) (by decide) (by decide))))
  obtain ⟨T30, h30, X30, e30, W30, st30⟩ := putF X27 hx hZ hown (host := "") (Or.inl (hw _ own_t80)) Via.refl e27 ff31 (ff29.wr W27) (Or.inr ⟨(hw _ own_t81), rfl, hnm⟩) (hw _ own_t2) (ty := (.object "java/lang/String")) (by decide) rfl rfl (g := (mkF m 47 #[.val (.ref r0), .val (.ref r1), .val (.double d2), .second, .val (.int x3)] [(.ref r1), (.ref r0)])) rfl rfl (hb hby own_d7_47)
  have N30 := Fr.snoc X30 N27 g_r0
  have Fw30 := ff31.same W30
  refine own_go st30 ?_
  show own_Goes p e below _ (T30.setTop (mkF m 50 #[.val (.ref r0), .val (.ref r1), .val (.double d2), .second, .val (.int x3)] []))
  refine own_go (fun t k => XS.aloadN X30.here hx rfl (hb hby own_d7_50) rfl rfl k) ?_
  show own_Goes p e below _ (T30.setTop (mkF m 51 #[.val (.ref r0), .val (.ref r1), .val (.double d2), .second, .val (.int x3)] [(.ref r0)]))
  refine own_go (fun t k => XS.dloadN X30.here hx rfl (hb hby own_d7_51) rfl k) ?_
  show own_Goes p e below _ (T30.setTop (mkF m 52 #[.val (.ref r0), .val (.ref r1), .val (.double d2), .second, .val (.int x3)] [(.double d2), (.ref r0)]))
  have ff33 : Fld Z h30 r0 "com/example/nunobiki/nunobiki/engine/Profile" "unitThreshold" "D" (.double (0 : UInt64)) := (((((((((((F_unitThreshold.other W13 (Or.inr (slot_ne (Or.inl (hw _ own_t83)) (Or.inl (hw _ own_t38)) (by decide) (t := .double) (t' := .int) (by decide) (by decide)))).ext E14).keep K15 (fun z => ne_r0_b14 (List.mem_singleton.mp z))).other W16 (Or.inr (slot_ne (Or.inl (hw _ own_t83)) (Or.inr (hw _ own_t66)) (by decide) (t := .double) (t' := (.object "java/util/Map")) (by decide) (by decide)))).other W19 (Or.inr (slot_ne (Or.inl (hw _ own_t83)) (Or.inl (hw _ own_t69)) (by decide) (t := .double) (t' := .double) (by decide) (by decide)))).ext E21).other W22 (Or.inr (slot_ne (Or.inl (hw _ own_t83)) (Or.inl (hw _ own_t72)) (by decide) (t := .double) (t' := (.array .double)) (by decide) (by decide)))).ext E25).keep K26 (fun z => ne_r0_b25 (List.mem_singleton.mp z))).other W27 (Or.inr (slot_ne (Or.inl (hw _ own_t83)) (Or.inr (hw _ own_t79)) (by decide) (t := .double) (t' := (.object "java/util/Map")) (by decide) (by decide)))).other W30 (Or.inr (slot_ne (Or.inl (hw _ own_t83)) (Or.inr (hw _ own_t81)) (by decide) (t := .double) (t' := (.object "java/lang/String")) (by decide) (by decide))))
  obtain ⟨T32, h32, X32, e32, W32, st32⟩ := putF X30 hx hZ hown (host := "") (Or.inl (hw _ own_t82)) Via.refl e30 ff33 ((ff29.wr W27).wr W30) (Or.inl (hw _ own_t83)) (hw _ own_t2) (ty := .double) (by decide) rfl rfl (g := (mkF m 52 #[.val (.ref r0), .val (.ref r1), .val (.double d2), .second, .val (.int x3)] [(.double d2), (.ref r0)])) rfl rfl (hb hby own_d7_52)
  have N32 := Fr.snoc X32 N30 g_r0
  have Fw32 := ff33.same W32
  refine own_go st32 ?_
  show own_Goes p e below _ (T32.setTop (mkF m 55 #[.val (.ref r0), .val (.ref r1), .val (.double d2), .second, .val (.int x3)] []))
  refine own_go (fun t k => XS.aloadN X32.here hx rfl (hb hby own_d7_55) rfl rfl k) ?_
  show own_Goes p e below _ (T32.setTop (mkF m 56 #[.val (.ref r0), .val (.ref r1), .val (.double d2), .second, .val (.int x3)] [(.ref r0)]))
  refine own_go (fun t k => XS.iload X32.here hx rfl (hb hby own_d7_56) rfl k) ?_
  show own_Goes p e below _ (T32.setTop (mkF m 58 #[.val (.ref r0), .val (.ref r1), .val (.double d2), .second, .val (.int x3)] [(.int x3), (.ref r0)]))
  have ff35 : Fld Z h32 r0 "com/example/nunobiki/nunobiki/engine/Profile" "anyTerm" "Z" (.int (0 : Int32)) := ((((((((((((F_anyTerm.other W13 (Or.inr (slot_ne (Or.inr (hw _ own_t85)) (Or.inl (hw _ own_t38)) (by decide) (t := .boolean) (t' := .int) (by decide) (by decide)))).ext E14).keep K15 (fun z => ne_r0_b14 (List.mem_singleton.mp z))).other W16 (Or.inr (slot_ne (Or.inr (hw _ own_t85)) (Or.inr (hw _ own_t66)) (by decide) (t := .boolean) (t' := (.object "java/util/Map")) (by decide) (by decide)))).other W19 (Or.inr (slot_ne (Or.inr (hw _ own_t85)) (Or.inl (hw _ own_t69)) (by decide) (t := .boolean) (t' := .double) (by decide) (by decide)))).ext E21).other W22 (Or.inr (slot_ne (Or.inr (hw _ own_t85)) (Or.inl (hw _ own_t72)) (by decide) (t := .boolean) (t' := (.array .double)) (by decide) (by decide)))).ext E25).keep K26 (fun z => ne_r0_b25 (List.mem_singleton.mp z))).other W27 (Or.inr (slot_ne (Or.inr (hw _ own_t85)) (Or.inr (hw _ own_t79)) (by decide) (t := .boolean) (t' := (.object "java/util/Map")) (by decide) (by decide)))).other W30 (Or.inr (slot_ne (Or.inr (hw _ own_t85)) (Or.inr (hw _ own_t81)) (by decide) (t := .boolean) (t' := (.object "java/lang/String")) (by decide) (by decide)))).other W32 (Or.inr (slot_ne (Or.inr (hw _ own_t85)) (Or.inl (hw _ own_t83)) (by decide) (t := .boolean) (t' := .double) (by decide) (by decide))))
  have ff36 : Exa Z h32 r0 "com/example/nunobiki/nunobiki/engine/Profile" := (((ff29.wr W27).wr W30).wr W32)
  obtain ⟨T34, h34, X34, e34, W34, st34⟩ := putFN X32 hx hZ hown (hw _ own_t84) Via.refl e32 ff35 ff36 (Or.inr ⟨(hw _ own_t85), rfl, hnm⟩) (hw _ own_t2) (ty := .boolean) (v' := .int (x3 &&& 1)) (by decide) rfl (fits_nar_bool _) (g := (mkF m 58 #[.val (.ref r0), .val (.ref r1), .val (.double d2), .second, .val (.int x3)] [(.int x3), (.ref r0)])) rfl rfl (hb hby own_d7_58)
  have N34 := Fr.snoc X34 N32 g_r0
  have Fw34 := ff35.same W34
  refine own_go st34 ?_
  show own_Goes p e below _ (T34.setTop (mkF m 61 #[.val (.ref r0), .val (.ref r1), .val (.double d2), .second, .val (.int x3)] []))
  have ff37 : Fld Z h34 r0 "com/example/nunobiki/nunobiki/engine/Profile" "observed" "I" (.int (0 : Int32)) := (((((((((((((F_observed.other W13 (Or.inr (slot_ne (Or.inl (hw _ own_t92)) (Or.inl (hw _ own_t38)) (by decide) (t := .int) (t' := .int) (by decide) (by decide)))).ext E14).keep K15 (fun z => ne_r0_b14 (List.mem_singleton.mp z))).other W16 (Or.inr (slot_ne (Or.inl (hw _ own_t92)) (Or.inr (hw _ own_t66)) (by decide) (t := .int) (t' := (.object "java/util/Map")) (by decide) (by decide)))).other W19 (Or.inr (slot_ne (Or.inl (hw _ own_t92)) (Or.inl (hw _ own_t69)) (by decide) (t := .int) (t' := .double) (by decide) (by decide)))).ext E21).other W22 (Or.inr (slot_ne (Or.inl (hw _ own_t92)) (Or.inl (hw _ own_t72)) (by decide) (t := .int) (t' := (.array .double)) (by decide) (by decide)))).ext E25).keep K26 (fun z => ne_r0_b25 (List.mem_singleton.mp z))).other W27 (Or.inr (slot_ne (Or.inl (hw _ own_t92)) (Or.inr (hw _ own_t79)) (by decide) (t := .int) (t' := (.object "java/util/Map")) (by decide) (by decide)))).other W30 (Or.inr (slot_ne (Or.inl (hw _ own_t92)) (Or.inr (hw _ own_t81)) (by decide) (t := .int) (t' := (.object "java/lang/String")) (by decide) (by decide)))).other W32 (Or.inr (slot_ne (Or.inl (hw _ own_t92)) (Or.inl (hw _ own_t83)) (by decide) (t := .int) (t' := .double) (by decide) (by decide)))).other W34 (Or.inr (slot_ne (Or.inl (hw _ own_t92)) (Or.inr (hw _ own_t85)) (by decide) (t := .int) (t' := .boolean) (by decide) (by decide))))
  have ff38 : Fld Z h34 r0 "com/example/nunobiki/nunobiki/engine/Profile" "observedScores" "[D" (.ref b21) := ((((((Fw22.ext E25).keep K26 (fun z => ne_r0_b25 (List.mem_singleton.mp z))).other W27 (Or.inr (slot_ne (Or.inl (hw _ own_t72)) (Or.inr (hw _ own_t79)) (by decide) (t := (.array .double)) (t' := (.object "java/util/Map")) (by decide) (by decide)))).other W30 (Or.inr (slot_ne (Or.inl (hw _ own_t72)) (Or.inr (hw _ own_t81)) (by decide) (t := (.array .double)) (t' := (.object "java/lang/String")) (by decide) (by decide)))).other W32 (Or.inr (slot_ne (Or.inl (hw _ own_t72)) (Or.inl (hw _ own_t83)) (by decide) (t := (.array .double)) (t' := .double) (by decide) (by decide)))).other W34 (Or.inr (slot_ne (Or.inl (hw _ own_t72)) (Or.inr (hw _ own_t85)) (by decide) (t := (.array .double)) (t' := .boolean) (by decide) (by decide))))
  have ff39 : Fld Z h34 r0 "com/example/nunobiki/nunobiki/engine/Profile" "unitThreshold" "D" (.double d2) := (Fw32.other W34 (Or.inr (slot_ne (Or.inl (hw _ own_t83)) (Or.inr (hw _ own_t85)) (by decide) (t := .double) (t' := .boolean) (by decide) (by decide))))
  have ff40 : Arv Z h34 b21 k21 .double (0 : Int32) [] (.double (0 : UInt64)) := (((((((V21.other W22 (Ne.symm ne_r0_b21)).ext E25).keep K26 (fun z => ne_b21_b25 (List.mem_singleton.mp z))).other W27 (Ne.symm ne_r0_b21)).other W30 (Ne.symm ne_r0_b21)).other W32 (Ne.symm ne_r0_b21)).other W34 (Ne.symm ne_r0_b21))
  have ff41 : Exa Z h34 b21 "[D" := (((((((Y21.wr W22).ext E25).keep K26).wr W27).wr W30).wr W32).wr W34)
  exact own_ret0 X34 hx hlk hret (hb hby own_d7_61) (by decide) (by decide) (by show own_Q7 Z r0 r1 d2 x3 h0 n0 _ T34.heap _; rw [e34]; exact ⟨_, _, rfl, N34, ((((((((((((((Keep.refl h0 ([r0] : List Addr)).wr W13 (Or.inl (List.mem_of_getElem? (i := 0) rfl))).ext E14).trans K15 (fun x hx => by cases List.mem_singleton.mp hx; exact Or.inr sz_b14)).wr W16 (Or.inl (List.mem_of_getElem? (i := 0) rfl))).wr W19 (Or.inl (List.mem_of_getElem? (i := 0) rfl))).ext E21).wr W22 (Or.inl (List.mem_of_getElem? (i := 0) rfl))).ext E25).trans K26 (fun x hx => by cases List.mem_singleton.mp hx; exact Or.inr sz_b25)).wr W27 (Or.inl (List.mem_of_getElem? (i := 0) rfl))).wr W30 (Or.inl (List.mem_of_getElem? (i := 0) rfl))).wr W32 (Or.inl (List.mem_of_getElem? (i := 0) rfl))).wr W34 (Or.inl (List.mem_of_getElem? (i := 0) rfl))), sz_b21, (ff36.wr W34), ff37, ff38, ff39, ff40, ff41⟩)
theorem own_d12_0 : decode jdk_29_method_65_code 0 = .ok (.iload_n 0, 1) := by decide +kernel
theorem own_d12_1 : decode jdk_29_method_65_code 1 = .ok (.iload_n 1, 1) := by decide +kernel
theorem own_d12_2 : decode jdk_29_method_65_code 2 = .ok (.if_icmp .lt 7, 3) := by decide +kernel
theorem own_d12_5 : decode jdk_29_method_65_code 5 = .ok (.iload_n 0, 1) := by decide +kernel
theorem own_d12_6 : decode jdk_29_method_65_code 6 = .ok (.goto 4, 3) := by decide +kernel
theorem own_d12_10 : decode jdk_29_method_65_code 10 = .ok (.ireturn, 1) := by decide +kernel
def own_Q12  (h0 : Heap) (n0 : Nat) (v : Option Value) (h : Heap) (L : List Loc) : Prop := v = some (.int (8 : Int32)) ∧ Fr n0 L ∧ h = h0
abbrev own_R12 : Room := { frames := 0, cells := 0, slots := 0, locals := 0 }
theorem own_ef12 (m : MethodId)  : entryFrame m #[(.int (8 : Int32)), (.int (0 : Int32))] 2 = mkF m 0 #[.val (.int (8 : Int32)), .val (.int (0 : Int32))] [] := by first | (simp [entryFrame, mkF, argsToLocals, Value.category]; done) | rfl
set_option maxRecDepth 65536 in
set_option maxHeartbeats 40000000 in
theorem rm12 (l : Launch) (Z : State) (a0 : Array Value) (hw : ∀ d ∈ tables_1, d.before a0 Z = true) (ws : List Jvm.Cond)  (h0 : Heap) (n0 : Nat) : own_Met l Z (⟨"java/lang/Math", "max", "(II)I"⟩ : MethodName) jdk_29_method_65_code 2 (some .int) ws own_R12 #[(.int (8 : Int32)), (.int (0 : Int32))] h0 (own_Q12 h0 n0) := by
  refine own_met (Jvm.Free.JP.mathPlain rfl (by decide +kernel)) ?_
  intro p e s m below meth c s₁ hx hby hml hown hnm hret hlk hZ e0 X0
  have N0 := Fr.nil n0
  have hml : c.maxLocals = 2 := hml
  have hown : s.vm.findClass "java/lang/Math" = some m.cls := hown
  have hret : meth.sig.returnType = (some .int) := hret
  have hby : c.code = jdk_29_method_65_code := hby
  have hnm : meth.name = "max" := hnm
  rw [own_ef12]
  show own_Goes p e below _ (s₁.setTop (mkF m 0 #[.val (.int (8 : Int32)), .val (.int (0 : Int32))] []))
  refine own_go (fun t k => XS.iloadN X0.here hx rfl (hb hby own_d12_0) rfl k) ?_
  show own_Goes p e below _ (s₁.setTop (mkF m 1 #[.val (.int (8 : Int32)), .val (.int (0 : Int32))] [(.int (8 : Int32))]))
  refine own_go (fun t k => XS.iloadN X0.here hx rfl (hb hby own_d12_1) rfl k) ?_
  show own_Goes p e below _ (s₁.setTop (mkF m 2 #[.val (.int (8 : Int32)), .val (.int (0 : Int32))] [(.int (0 : Int32)), (.int (8 : Int32))]))
  have hd42 : ¬ ((8 : Int32) < (0 : Int32)) := (by decide)
  refine own_go (fun t k => XS.icmpNo X0.here hx rfl (hb hby own_d12_2) rfl (flt hd42).1 k) ?_
  show own_Goes p e below _ (s₁.setTop (mkF m 5 #[.val (.int (8 : Int32)), .val (.int (0 : Int32))] []))
  refine own_go (fun t k => XS.iloadN X0.here hx rfl (hb hby own_d12_5) rfl k) ?_
  show own_Goes p e below _ (s₁.setTop (mkF m 6 #[.val (.int (8 : Int32)), .val (.int (0 : Int32))] [(.int (8 : Int32))]))
  refine own_go (fun t k => XS.goto X0.here hx rfl (pc0 := 6) (pc' := 10) rfl (hb hby own_d12_6) (by decide) (by decide) k) ?_
  show own_Goes p e below _ (s₁.setTop (mkF m 10 #[.val (.int (8 : Int32)), .val (.int (0 : Int32))] [(.int (8 : Int32))]))
  exact own_retI X0 hx hlk hret (hb hby own_d12_10) (by decide) (by decide) ⟨rfl, N0, e0⟩
theorem own_d14_0 : decode jdk_29_method_69_code 0 = .ok (.iload_n 0, 1) := by decide +kernel
theorem own_d14_1 : decode jdk_29_method_69_code 1 = .ok (.iload_n 1, 1) := by decide +kernel
theorem own_d14_2 : decode jdk_29_method_69_code 2 = .ok (.if_icmp .gt 7, 3) := by decide +kernel
theorem own_d14_5 : decode jdk_29_method_69_code 5 = .ok (.iload_n 0, 1) := by decide +kernel
theorem own_d14_6 : decode jdk_29_method_69_code 6 = .ok (.goto 4, 3) := by decide +kernel
theorem own_d14_10 : decode jdk_29_method_69_code 10 = .ok (.ireturn, 1) := by decide +kernel
def own_Q14_0_8  (h0 : Heap) (n0 : Nat) (v : Option Value) (h : Heap) (L : List Loc) : Prop := v = some (.int (0 : Int32)) ∧ Fr n0 L ∧ h = h0
abbrev own_R14_0_8 : Room := { frames := 0, cells := 0, slots := 0, locals := 0 }
theorem own_ef14_0_8 (m : MethodId)  : entryFrame m #[(.int (0 : Int32)), (.int (8 : Int32))] 2 = mkF m 0 #[.val (.int (0 : Int32)), .val (.int (8 : Int32))] [] := by first | (simp [entryFrame, mkF, argsToLocals, Value.category]; done) | rfl
set_option maxRecDepth 65536 in
set_option maxHeartbeats 40000000 in
theorem rm14_0_8 (l : Launch) (Z : State) (a0 : Array Value) (hw : ∀ d ∈ tables_1, d.before a0 Z = true) (ws : List Jvm.Cond)  (h0 : Heap) (n0 : Nat) : own_Met l Z (⟨"java/lang/Math", "min", "(II)I"⟩ : MethodName) jdk_29_method_69_code 2 (some .int) ws own_R14_0_8 #[(.int (0 : Int32)), (.int (8 : Int32))] h0 (own_Q14_0_8 h0 n0) := by
  refine own_met (Jvm.Free.JP.mathPlain rfl (by decide +kernel)) ?_
  intro p e s m below meth c s₁ hx hby hml hown hnm hret hlk hZ e0 X0
  have N0 := Fr.nil n0
  have hml : c.maxLocals = 2 := hml
  have hown : s.vm.findClass "java/lang/Math" = some m.cls := hown
  have hret : meth.sig.returnType = (some .int) := hret
  have hby : c.code = jdk_29_method_69_code := hby
  have hnm : meth.name = "min" := hnm
  rw [own_ef14_0_8]
  show own_Goes p e below _ (s₁.setTop (mkF m 0 #[.val (.int (0 : Int32)), .val (.int (8 : Int32))] []))
  refine own_go (fun t k => XS.iloadN X0.here hx rfl (hb hby own_d14_0) rfl k) ?_
  show own_Goes p e below _ (s₁.setTop (mkF m 1 #[.val (.int (0 : Int32)), .val (.int (8 : Int32))] [(.int (0 : Int32))]))
  refine own_go (fun t k => XS.iloadN X0.here hx rfl (hb hby own_d14_1) rfl k) ?_
  show own_Goes p e below _ (s₁.setTop (mkF m 2 #[.val (.int (0 : Int32)), .val (.int (8 : Int32))] [(.int (8 : Int32)), (.int (0 : Int32))]))
  have hd43 : ¬ ((8 : Int32) < (0 : Int32)) := (by decide)
  refine own_go (fun t k => XS.icmpNo X0.here hx rfl (hb hby own_d14_2) rfl (flt hd43).2.2.1 k) ?_
  show own_Goes p e below _ (s₁.setTop (mkF m 5 #[.val (.int (0 : Int32)), .val (.int (8 : Int32))] []))
  refine own_go (fun t k => XS.iloadN X0.here hx rfl (hb hby own_d14_5) rfl k) ?_
  show own_Goes p e below _ (s₁.setTop (mkF m 6 #[.val (.int (0 : Int32)), .val (.int (8 : Int32))] [(.int (0 : Int32))]))
  refine own_go (fun t k => XS.goto X0.here hx rfl (pc0 := 6) (pc' := 10) rfl (hb hby own_d14_6) (by decide) (by decide) k) ?_
  show own_Goes p e below _ (s₁.setTop (mkF m 10 #[.val (.int (0 : Int32)), .val (.int (8 : Int32))] [(.int (0 : Int32))]))
  exact own_retI X0 hx hlk hret (hb hby own_d14_10) (by decide) (by decide) ⟨rfl, N0, e0⟩
theorem own_d14_9 : decode jdk_29_method_69_code 9 = .ok (.iload_n 1, 1) := by decide +kernel
def own_Q14_8_1  (h0 : Heap) (n0 : Nat) (v : Option Value) (h : Heap) (L : List Loc) : Prop := v = some (.int (1 : Int32)) ∧ Fr n0 L ∧ h = h0
abbrev own_R14_8_1 : Room := { frames := 0, cells := 0, slots := 0, locals := 0 }
theorem own_ef14_8_1 (m : MethodId)  : entryFrame m #[(.int (8 : Int32)), (.int (1 : Int32))] 2 = mkF m 0 #[.val (.int (8 : Int32)), .val (.int (1 : Int32))] [] := by first | (simp [entryFrame, mkF, argsToLocals, Value.category]; done) | rfl
set_option maxRecDepth 65536 in
set_option maxHeartbeats 40000000 in
theorem rm14_8_1 (l : Launch) (Z : State) (a0 : Array Value) (hw : ∀ d ∈ tables_1, d.before a0 Z = true) (ws : List Jvm.Cond)  (h0 : Heap) (n0 : Nat) : own_Met l Z (⟨"java/lang/Math", "min", "(II)I"⟩ : MethodName) jdk_29_method_69_code 2 (some .int) ws own_R14_8_1 #[(.int (8 : Int32)), (.int (1 : Int32))] h0 (own_Q14_8_1 h0 n0) := by
  refine own_met (Jvm.Free.JP.mathPlain rfl (by decide +kernel)) ?_
  intro p e s m below meth c s₁ hx hby hml hown hnm hret hlk hZ e0 X0
  have N0 := Fr.nil n0
  have hml : c.maxLocals = 2 := hml
  have hown : s.vm.findClass "java/lang/Math" = some m.cls := hown
  have hret : meth.sig.returnType = (some .int) := hret
  have hby : c.code = jdk_29_method_69_code := hby
  have hnm : meth.name = "min" := hnm
  rw [own_ef14_8_1]
  show own_Goes p e below _ (s₁.setTop (mkF m 0 #[.val (.int (8 : Int32)), .val (.int (1 : Int32))] []))
  refine own_go (fun t k => XS.iloadN X0.here hx rfl (hb hby own_d14_0) rfl k) ?_
  show own_Goes p e below _ (s₁.setTop (mkF m 1 #[.val (.int (8 : Int32)), .val (.int (1 : Int32))] [(.int (8 : Int32))]))
  refine own_go (fun t k => XS.iloadN X0.here hx rfl (hb hby own_d14_1) rfl k) ?_
  show own_Goes p e below _ (s₁.setTop (mkF m 2 #[.val (.int (8 : Int32)), .val (.int (1 : Int32))] [(.int (1 : Int32)), (.int (8 : Int32))]))
  have hd44 : (1 : Int32) < (8 : Int32) := (by decide)
  refine own_go (fun t k => XS.icmpYes X0.here hx rfl (pc0 := 2) (pc' := 9) rfl (hb hby own_d14_2) rfl (tlt hd44).2.2.1 (by decide) (by decide) k) ?_
  show own_Goes p e below _ (s₁.setTop (mkF m 9 #[.val (.int (8 : Int32)), .val (.int (1 : Int32))] []))
  refine own_go (fun t k => XS.iloadN X0.here hx rfl (hb hby own_d14_9) rfl k) ?_
  show own_Goes p e below _ (s₁.setTop (mkF m 10 #[.val (.int (8 : Int32)), .val (.int (1 : Int32))] [(.int (1 : Int32))]))
  exact own_retI X0 hx hlk hret (hb hby own_d14_10) (by decide) (by decide) ⟨rfl, N0, e0⟩
def own_Q14_8_2  (h0 : Heap) (n0 : Nat) (v : Option Value) (h : Heap) (L : List Loc) : Prop := v = some (.int (2 : Int32)) ∧ Fr n0 L ∧ h = h0
abbrev own_R14_8_2 : Room := { frames := 0, cells := 0, slots := 0, locals := 0 }
theorem own_ef14_8_2 (m : MethodId)  : entryFrame m #[(.int (8 : Int32)), (.int (2 : Int32))] 2 = mkF m 0 #[.val (.int (8 : Int32)), .val (.int (2 : Int32))] [] := by first | (simp [entryFrame, mkF, argsToLocals, Value.category]; done) | rfl
set_option maxRecDepth 65536 in
set_option maxHeartbeats 40000000 in
theorem rm14_8_2 (l : Launch) (Z : State) (a0 : Array Value) (hw : ∀ d ∈ tables_1, d.before a0 Z = true) (ws : List Jvm.Cond)  (h0 : Heap) (n0 : Nat) : own_Met l Z (⟨"java/lang/Math", "min", "(II)I"⟩ : MethodName) jdk_29_method_69_code 2 (some .int) ws own_R14_8_2 #[(.int (8 : Int32)), (.int (2 : Int32))] h0 (own_Q14_8_2 h0 n0) := by
  refine own_met (Jvm.Free.JP.mathPlain rfl (by decide +kernel)) ?_
  intro p e s m below meth c s₁ hx hby hml hown hnm hret hlk hZ e0 X0
  have N0 := Fr.nil n0
  have hml : c.maxLocals = 2 := hml
  have hown : s.vm.findClass "java/lang/Math" = some m.cls := hown
  have hret : meth.sig.returnType = (some .int) := hret
  have hby : c.code = jdk_29_method_69_code := hby
  have hnm : meth.name = "min" := hnm
  rw [own_ef14_8_2]
  show own_Goes p e below _ (s₁.setTop (mkF m 0 #[.val (.int (8 : Int32)), .val (.int (2 : Int32))] []))
  refine own_go (fun t k => XS.iloadN X0.here hx rfl (hb hby own_d14_0) rfl k) ?_
  show own_Goes p e below _ (s₁.setTop (mkF m 1 #[.val (.int (8 : Int32)), .val (.int (2 : Int32))] [(.int (8 : Int32))]))
  refine own_go (fun t k => XS.iloadN X0.here hx rfl (hb hby own_d14_1) rfl k) ?_
  show own_Goes p e below _ (s₁.setTop (mkF m 2 #[.val (.int (8 : Int32)), .val (.int (2 : Int32))] [(.int (2 : Int32)), (.int (8 : Int32))]))
  have hd45 : (2 : Int32) < (8 : Int32) := (by decide)
  refine own_go (fun t k => XS.icmpYes X0.here hx rfl (pc0 := 2) (pc' := 9) rfl (hb hby own_d14_2) rfl (tlt hd45).2.2.1 (by decide) (by decide) k) ?_
  show own_Goes p e below _ (s₁.setTop (mkF m 9 #[.val (.int (8 : Int32)), .val (.int (2 : Int32))] []))
  refine own_go (fun t k => XS.iloadN X0.here hx rfl (hb hby own_d14_9) rfl k) ?_
  show own_Goes p e below _ (s₁.setTop (mkF m 10 #[.val (.int (8 : Int32)), .val (.int (2 : Int32))] [(.int (2 : Int32))]))
  exact own_retI X0 hx hlk hret (hb hby own_d14_10) (by decide) (by decide) ⟨rfl, N0, e0⟩
def own_Q14_8_3  (h0 : Heap) (n0 : Nat) (v : Option Value) (h : Heap) (L : List Loc) : Prop := v = some (.int (3 : Int32)) ∧ Fr n0 L ∧ h = h0
abbrev own_R14_8_3 : Room := { frames := 0, cells := 0, slots := 0, locals := 0 }
theorem own_ef14_8_3 (m : MethodId)  : entryFrame m #[(.int (8 : Int32)), (.int (3 : Int32))] 2 = mkF m 0 #[.val (.int (8 : Int32)), .val (.int (3 : Int32))] [] := by first | (simp [entryFrame, mkF, argsToLocals, Value.category]; done) | rfl
set_option maxRecDepth 65536 in
set_option maxHeartbeats 40000000 in
theorem rm14_8_3 (l : Launch) (Z : State) (a0 : Array Value) (hw : ∀ d ∈ tables_1, d.before a0 Z = true) (ws : List Jvm.Cond)  (h0 : Heap) (n0 : Nat) : own_Met l Z (⟨"java/lang/Math", "min", "(II)I"⟩ : MethodName) jdk_29_method_69_code 2 (some .int) ws own_R14_8_3 #[(.int (8 : Int32)), (.int (3 : Int32))] h0 (own_Q14_8_3 h0 n0) := by
  refine own_met (Jvm.Free.JP.mathPlain rfl (by decide +kernel)) ?_
  intro p e s m below meth c s₁ hx hby hml hown hnm hret hlk hZ e0 X0
  have N0 := Fr.nil n0
  have hml : c.maxLocals = 2 := hml
  have hown : s.vm.findClass "java/lang/Math" = some m.cls := hown
  have hret : meth.sig.returnType = (some .int) := hret
  have hby : c.code = jdk_29_method_69_code := hby
  have hnm : meth.name = "min" := hnm
  rw [own_ef14_8_3]
  show own_Goes p e below _ (s₁.setTop (mkF m 0 #[.val (.int (8 : Int32)), .val (.int (3 : Int32))] []))
  refine own_go (fun t k => XS.iloadN X0.here hx rfl (hb hby own_d14_0) rfl k) ?_
  show own_Goes p e below _ (s₁.setTop (mkF m 1 #[.val (.int (8 : Int32)), .val (.int (3 : Int32))] [(.int (8 : Int32))]))
  refine own_go (fun t k => XS.iloadN X0.here hx rfl (hb hby own_d14_1) rfl k) ?_
  show own_Goes p e below _ (s₁.setTop (mkF m 2 #[.val (.int (8 : Int32)), .val (.int (3 : Int32))] [(.int (3 : Int32)), (.int (8 : Int32))]))
  have hd46 : (3 : Int32) < (8 : Int32) := (by decide)
  refine own_go (fun t k => XS.icmpYes X0.here hx rfl (pc0 := 2) (pc' := 9) rfl (hb hby own_d14_2) rfl (tlt hd46).2.2.1 (by decide) (by decide) k) ?_
  show own_Goes p e below _ (s₁.setTop (mkF m 9 #[.val (.int (8 : Int32)), .val (.int (3 : Int32))] []))
  refine own_go (fun t k => XS.iloadN X0.here hx rfl (hb hby own_d14_9) rfl k) ?_
  show own_Goes p e below _ (s₁.setTop (mkF m 10 #[.val (.int (8 : Int32)), .val (.int (3 : Int32))] [(.int (3 : Int32))]))
  exact own_retI X0 hx hlk hret (hb hby own_d14_10) (by decide) (by decide) ⟨rfl, N0, e0⟩
theorem own_d13_0 : decode jdk_65_method_127_code 0 = .ok (.iload_n 1, 1) := by decide +kernel
theorem own_d13_1 : decode jdk_65_method_127_code 1 = .ok (.aload_n 0, 1) := by decide +kernel
theorem own_d13_2 : decode jdk_65_method_127_code 2 = .ok (.arraylength, 1) := by decide +kernel
theorem own_d13_3 : decode jdk_65_method_127_code 3 = .ok (.if_icmp .ne 11, 3) := by decide +kernel
theorem own_d13_14 : decode jdk_65_method_127_code 14 = .ok (.iload_n 1, 1) := by decide +kernel
theorem own_d13_15 : decode jdk_65_method_127_code 15 = .ok (.newarray .double, 2) := by decide +kernel
theorem own_d13_17 : decode jdk_65_method_127_code 17 = .ok (.astore_n 2, 1) := by decide +kernel
theorem own_d13_18 : decode jdk_65_method_127_code 18 = .ok (.aload_n 0, 1) := by decide +kernel
theorem own_d13_19 : decode jdk_65_method_127_code 19 = .ok (.iconst 0, 1) := by decide +kernel
theorem own_d13_20 : decode jdk_65_method_127_code 20 = .ok (.aload_n 2, 1) := by decide +kernel
theorem own_d13_21 : decode jdk_65_method_127_code 21 = .ok (.iconst 0, 1) := by decide +kernel
theorem own_d13_22 : decode jdk_65_method_127_code 22 = .ok (.aload_n 0, 1) := by decide +kernel
theorem own_d13_23 : decode jdk_65_method_127_code 23 = .ok (.arraylength, 1) := by decide +kernel
theorem own_d13_24 : decode jdk_65_method_127_code 24 = .ok (.iload_n 1, 1) := by decide +kernel
theorem own_d13_25 : decode jdk_65_method_127_code 25 = .ok (.invokestatic 304, 3) := by decide +kernel
theorem own_t101 : (Jvm.Cond.methodLink "java/util/Arrays" (304 : Nat) ({ cls := "java/lang/Math", name := "min", desc := "(II)I" } : Jvm.MethodName)) ∈ tables_1 := List.mem_of_getElem? (i := 101) rfl
theorem own_pd1 : parseMethodDescriptor "(II)I" = some ⟨[.int, .int], some .int⟩ := by decide +kernel
theorem own_t102 : (Jvm.Cond.static ({ cls := "java/lang/Math", name := "min", desc := "(II)I" } : Jvm.MethodName)) ∈ tables_1 := List.mem_of_getElem? (i := 102) rfl
theorem own_t95 : (Jvm.Cond.initialized "java/lang/Math") ∈ tables_1 := List.mem_of_getElem? (i := 95) rfl
theorem own_t103 : (Jvm.Cond.code ({ cls := "java/lang/Math", name := "min", desc := "(II)I" } : Jvm.MethodName) jdk_29_method_69_code (2 : Nat) (Option.some Jvm.ClassFile.FieldType.int)) ∈ tables_1 := List.mem_of_getElem? (i := 103) rfl
theorem own_d13_28 : decode jdk_65_method_127_code 28 = .ok (.invokestatic 150, 3) := by decide +kernel
theorem own_t104 : (Jvm.Cond.methodLink "java/util/Arrays" (150 : Nat) ({ cls := "java/lang/System", name := "arraycopy", desc := "(Ljava/lang/Object;ILjava/lang/Object;II)V" } : Jvm.MethodName)) ∈ tables_1 := List.mem_of_getElem? (i := 104) rfl
theorem own_t107 : (Jvm.Cond.native ({ cls := "java/lang/System", name := "arraycopy", desc := "(Ljava/lang/Object;ILjava/lang/Object;II)V" } : Jvm.MethodName)) ∈ tables_1 := List.mem_of_getElem? (i := 107) rfl
theorem own_t105 : (Jvm.Cond.static ({ cls := "java/lang/System", name := "arraycopy", desc := "(Ljava/lang/Object;ILjava/lang/Object;II)V" } : Jvm.MethodName)) ∈ tables_1 := List.mem_of_getElem? (i := 105) rfl
theorem own_t106 : (Jvm.Cond.initialized "java/lang/System") ∈ tables_1 := List.mem_of_getElem? (i := 106) rfl
theorem own_d13_31 : decode jdk_65_method_127_code 31 = .ok (.aload_n 2, 1) := by decide +kernel
theorem own_pn4 : plainName "java/util/Arrays" = true := by first | (simp [plainName, overriddenIn]; done) | decide +kernel
theorem own_d13_32 : decode jdk_65_method_127_code 32 = .ok (.areturn, 1) := by decide +kernel
def own_Q13_8 (Z : State) (r0 : Addr) (k_a : ClassId) (h0 : Heap) (n0 : Nat) (v : Option Value) (h : Heap) (L : List Loc) : Prop := ∃ b : Addr, ∃ kb : ClassId, v = some (.ref b) ∧ Fr n0 L ∧ Keep h0 h [] ∧ h0.size ≤ b ∧ Arv Z h b kb .double (8 : Int32) [(.double (0 : UInt64)), (.double (0 : UInt64)), (.double (0 : UInt64)), (.double (0 : UInt64)), (.double (0 : UInt64)), (.double (0 : UInt64)), (.double (0 : UInt64)), (.double (0 : UInt64))] (.double (0 : UInt64)) ∧ Exa Z h b "[D"
abbrev own_R13_8 : Room := { frames := 1, cells := 1, slots := 8, locals := 18 }
theorem own_ef13_8 (m : MethodId) (z0 : Addr) : entryFrame m #[(.ref z0), (.int (8 : Int32))] 3 = mkF m 0 #[.val (.ref z0), .val (.int (8 : Int32)), .unset] [] := by first | (simp [entryFrame, mkF, argsToLocals, Value.category]; done) | rfl
set_option maxRecDepth 65536 in
set_option maxHeartbeats 40000000 in
theorem rm13_8 (l : Launch) (Z : State) (a0 : Array Value) (hw : ∀ d ∈ tables_1, d.before a0 Z = true) (ws : List Jvm.Cond) (r0 : Addr) (k_a : ClassId) (h0 : Heap) (n0 : Nat) (Z0 : n0 ≤ h0.size) (V_a : Arv Z h0 r0 k_a .double (0 : Int32) [] (.double (0 : UInt64))) (E_a : Exa Z h0 r0 "[D") : own_Met l Z (⟨"java/util/Arrays", "copyOf", "([DI)[D"⟩ : MethodName) jdk_65_method_127_code 3 (some (.array .double)) ws own_R13_8 #[(.ref r0), (.int (8 : Int32))] h0 (own_Q13_8 Z r0 k_a h0 n0) := by
  refine own_met (plainFor_of_name own_pn4) ?_
  intro p e s m below meth c s₁ hx hby hml hown hnm hret hlk hZ e0 X0
  have N0 := Fr.nil n0
  have hml : c.maxLocals = 3 := hml
  have hown : s.vm.findClass "java/util/Arrays" = some m.cls := hown
  have hret : meth.sig.returnType = (some (.array .double)) := hret
  have hby : c.code = jdk_65_method_127_code := hby
  have hnm : meth.name = "copyOf" := hnm
  rw [own_ef13_8]
  show own_Goes p e below _ (s₁.setTop (mkF m 0 #[.val (.ref r0), .val (.int (8 : Int32)), .unset] []))
  refine own_go (fun t k => XS.iloadN X0.here hx rfl (hb hby own_d13_0) rfl k) ?_
  show own_Goes p e below _ (s₁.setTop (mkF m 1 #[.val (.ref r0), .val (.int (8 : Int32)), .unset] [(.int (8 : Int32))]))
  refine own_go (fun t k => XS.aloadN X0.here hx rfl (hb hby own_d13_1) rfl rfl k) ?_
  show own_Goes p e below _ (s₁.setTop (mkF m 2 #[.val (.ref r0), .val (.int (8 : Int32)), .unset] [(.ref r0), (.int (8 : Int32))]))
  obtain ⟨cl47, Ar47, qa47, sa47, na47, ha47, ga47⟩ := id V_a
  refine own_go (fun t k => X0.arraylength hx (by rw [e0]; exact Ar47.1) (State.isArrayOf_alike hZ.alike Ar47.2.1) (g := (mkF m 2 #[.val (.ref r0), .val (.int (8 : Int32)), .unset] [(.ref r0), (.int (8 : Int32))])) rfl rfl (hb hby own_d13_2) t k) ?_
  rw [len_of sa47 (by decide)]
  show own_Goes p e below _ (s₁.setTop (mkF m 3 #[.val (.ref r0), .val (.int (8 : Int32)), .unset] [(.int (0 : Int32)), (.int (8 : Int32))]))
  have hd48 : ¬ ((8 : Int32) = (0 : Int32)) := (by decide)
  refine own_go (fun t k => XS.icmpYes X0.here hx rfl (pc0 := 3) (pc' := 14) rfl (hb hby own_d13_3) rfl (feq hd48).2 (by decide) (by decide) k) ?_
  show own_Goes p e below _ (s₁.setTop (mkF m 14 #[.val (.ref r0), .val (.int (8 : Int32)), .unset] []))
  refine own_go (fun t k => XS.iloadN X0.here hx rfl (hb hby own_d13_14) rfl k) ?_
  show own_Goes p e below _ (s₁.setTop (mkF m 15 #[.val (.ref r0), .val (.int (8 : Int32)), .unset] [(.int (8 : Int32))]))
  obtain ⟨T49, h49, k49, X49, e49, E49, A49, Y49, st49⟩ := newPE X0 hx hZ (aty := .double) (hw _ own_t70) e0 (g := (mkF m 15 #[.val (.ref r0), .val (.int (8 : Int32)), .unset] [(.int (8 : Int32))])) rfl (hb hby own_d13_15) rfl (by decide) (cap := 8) (by decide) (by decide) (by decide) (by decide) (ad := "[D") (by decide +kernel)
  obtain ⟨b49, q49⟩ : ∃ z, z = h0.size := ⟨_, rfl⟩
  rw [← q49] at A49 Y49 st49
  have lt_b49 : h0.size ≤ b49 := Nat.le_of_eq q49.symm
  have ne_r0_b49 : r0 ≠ b49 := Nat.ne_of_lt (Nat.lt_of_lt_of_le V_a.lt lt_b49)
  have g_b49 : n0 ≤ b49 := Nat.le_trans Z0 lt_b49
  have sz_b49 : h0.size ≤ b49 := Nat.le_trans (Keep.refl h0 ([] : List Addr)).1 lt_b49
  have V49 : Arv Z h49 b49 k49 .double (8 : Int32) [(.double (0 : UInt64)), (.double (0 : UInt64)), (.double (0 : UInt64)), (.double (0 : UInt64)), (.double (0 : UInt64)), (.double (0 : UInt64)), (.double (0 : UInt64)), (.double (0 : UInt64))] (.double (0 : UInt64)) := (Arv.new A49 (by decide)).pad (pad_rep [] (.double (0 : UInt64)) 8)
  refine own_go st49 ?_
  show own_Goes p e below _ (T49.setTop (mkF m 17 #[.val (.ref r0), .val (.int (8 : Int32)), .unset] [(.ref b49)]))
  refine own_go (fun t k => XS.astoreN X49.here hx rfl (hb hby own_d13_17) rfl rfl (l' := #[.val (.ref r0), .val (.int (8 : Int32)), .val (.ref b49)]) rfl k) ?_
  show own_Goes p e below _ (T49.setTop (mkF m 18 #[.val (.ref r0), .val (.int (8 : Int32)), .val (.ref b49)] []))
  refine own_go (fun t k => XS.aloadN X49.here hx rfl (hb hby own_d13_18) rfl rfl k) ?_
  show own_Goes p e below _ (T49.setTop (mkF m 19 #[.val (.ref r0), .val (.int (8 : Int32)), .val (.ref b49)] [(.ref r0)]))
  refine own_go (fun t k => XS.iconst X49.here hx rfl (hb hby own_d13_19) k) ?_
  show own_Goes p e below _ (T49.setTop (mkF m 20 #[.val (.ref r0), .val (.int (8 : Int32)), .val (.ref b49)] [(.int (0 : Int32)), (.ref r0)]))
  refine own_go (fun t k => XS.aloadN X49.here hx rfl (hb hby own_d13_20) rfl rfl k) ?_
  show own_Goes p e below _ (T49.setTop (mkF m 21 #[.val (.ref r0), .val (.int (8 : Int32)), .val (.ref b49)] [(.ref b49), (.int (0 : Int32)), (.ref r0)]))
  refine own_go (fun t k => XS.iconst X49.here hx rfl (hb hby own_d13_21) k) ?_
  show own_Goes p e below _ (T49.setTop (mkF m 22 #[.val (.ref r0), .val (.int (8 : Int32)), .val (.ref b49)] [(.int (0 : Int32)), (.ref b49), (.int (0 : Int32)), (.ref r0)]))
  refine own_go (fun t k => XS.aloadN X49.here hx rfl (hb hby own_d13_22) rfl rfl k) ?_
  show own_Goes p e below _ (T49.setTop (mkF m 23 #[.val (.ref r0), .val (.int (8 : Int32)), .val (.ref b49)] [(.ref r0), (.int (0 : Int32)), (.ref b49), (.int (0 : Int32)), (.ref r0)]))
  obtain ⟨cl50, Ar50, qa50, sa50, na50, ha50, ga50⟩ := id (V_a.ext E49)
  refine own_go (fun t k => X49.arraylength hx (by rw [e49]; exact Ar50.1) (State.isArrayOf_alike hZ.alike Ar50.2.1) (g := (mkF m 23 #[.val (.ref r0), .val (.int (8 : Int32)), .val (.ref b49)] [(.ref r0), (.int (0 : Int32)), (.ref b49), (.int (0 : Int32)), (.ref r0)])) rfl rfl (hb hby own_d13_23) t k) ?_
  rw [len_of sa50 (by decide)]
  show own_Goes p e below _ (T49.setTop (mkF m 24 #[.val (.ref r0), .val (.int (8 : Int32)), .val (.ref b49)] [(.int (0 : Int32)), (.int (0 : Int32)), (.ref b49), (.int (0 : Int32)), (.ref r0)]))
  refine own_go (fun t k => XS.iloadN X49.here hx rfl (hb hby own_d13_24) rfl k) ?_
  show own_Goes p e below _ (T49.setTop (mkF m 25 #[.val (.ref r0), .val (.int (8 : Int32)), .val (.ref b49)] [(.int (8 : Int32)), (.int (0 : Int32)), (.int (0 : Int32)), (.ref b49), (.int (0 : Int32)), (.ref r0)]))
  obtain ⟨_, T51, L51, X51, ⟨rfl, N51q, e51⟩, st51⟩ := own_callS X49 hx hZ hown (hw _ own_t101) (hw _ own_t102) (hw _ own_t95) (hw _ own_t103) (by decide) (as := [(.int (0 : Int32)), (.int (8 : Int32))]) (rm14_0_8 l Z a0 hw []  h49 n0) e49 own_pd1 rfl (pc := 25) (Ls := #[.val (.ref r0), .val (.int (8 : Int32)), .val (.ref b49)]) (rest := [(.int (0 : Int32)), (.ref b49), (.int (0 : Int32)), (.ref r0)]) (W := 4) (by rw [hml]; rfl) (Nat.le_of_eq rfl) (by decide) (by decide) (hb hby own_d13_25) (by decide) (by decide)
  have N51 := Fr.app N0 N51q
  refine own_go st51 ?_
  show own_Goes p e below _ (T51.setTop (mkF m 28 #[.val (.ref r0), .val (.int (8 : Int32)), .val (.ref b49)] [(.int (0 : Int32)), (.int (0 : Int32)), (.ref b49), (.int (0 : Int32)), (.ref r0)]))
  obtain ⟨T52, h52, L52, X52, e52, N52, K52, V52q, st52⟩ := cpA X51 hx hZ hown (hw _ own_t104) (hw _ own_t107) (hw _ own_t105) (hw _ own_t106) e51 (V_a.ext E49) V49 (us := []) (Or.inl ⟨rfl, rfl⟩) (by decide) (by decide) (by decide) (by decide) (by decide) rfl (by decide) N51 g_b49 (g := (mkF m 28 #[.val (.ref r0), .val (.int (8 : Int32)), .val (.ref b49)] [(.int (0 : Int32)), (.int (0 : Int32)), (.ref b49), (.int (0 : Int32)), (.ref r0)])) rfl (by rw [hml]; rfl) rfl (hb hby own_d13_28) (by decide) (W := 0) (by show 2 * 0 + _ ≤ _; exact Nat.le_of_eq rfl) (by decide +kernel)
  have V52 : Arv Z h52 b49 k49 .double (8 : Int32) [(.double (0 : UInt64)), (.double (0 : UInt64)), (.double (0 : UInt64)), (.double (0 : UInt64)), (.double (0 : UInt64)), (.double (0 : UInt64)), (.double (0 : UInt64)), (.double (0 : UInt64))] (.double (0 : UInt64)) := V52q
  refine own_go st52 ?_
  show own_Goes p e below _ (T52.setTop (mkF m 31 #[.val (.ref r0), .val (.int (8 : Int32)), .val (.ref b49)] []))
  refine own_go (fun t k => XS.aloadN X52.here hx rfl (hb hby own_d13_31) rfl rfl k) ?_
  show own_Goes p e below _ (T52.setTop (mkF m 32 #[.val (.ref r0), .val (.int (8 : Int32)), .val (.ref b49)] [(.ref b49)]))
  exact own_retR X52 hx hlk hret rfl rfl (hb hby own_d13_32) (by decide) (by decide) (by show own_Q13_8 Z r0 k_a h0 n0 _ T52.heap _; rw [e52]; exact ⟨_, _, rfl, N52, (((Keep.refl h0 ([] : List Addr)).ext E49).trans K52 (fun x hx => by cases List.mem_singleton.mp hx; exact Or.inr sz_b49)), sz_b49, V52, (Y49.keep K52)⟩)
theorem own_d13_6 : decode jdk_65_method_127_code 6 = .ok (.aload_n 0, 1) := by decide +kernel
theorem own_d13_7 : decode jdk_65_method_127_code 7 = .ok (.invokevirtual 328, 3) := by decide +kernel
theorem own_t118 : (Jvm.Cond.methodLink "java/util/Arrays" (328 : Nat) ({ cls := "[D", name := "clone", desc := "()Ljava/lang/Object;" } : Jvm.MethodName)) ∈ tables_1 := List.mem_of_getElem? (i := 118) rfl
theorem own_t119 : (Jvm.Cond.sameMethod "[D" "java/lang/Object" "clone" "()Ljava/lang/Object;") ∈ tables_1 := List.mem_of_getElem? (i := 119) rfl
theorem own_t123 : (Jvm.Cond.native ({ cls := "java/lang/Object", name := "clone", desc := "()Ljava/lang/Object;" } : Jvm.MethodName)) ∈ tables_1 := List.mem_of_getElem? (i := 123) rfl
theorem own_t121 : (Jvm.Cond.instanceMethod ({ cls := "java/lang/Object", name := "clone", desc := "()Ljava/lang/Object;" } : Jvm.MethodName)) ∈ tables_1 := List.mem_of_getElem? (i := 121) rfl
theorem own_t122 : (Jvm.Cond.selects "[D" ({ cls := "[D", name := "clone", desc := "()Ljava/lang/Object;" } : Jvm.MethodName) ({ cls := "java/lang/Object", name := "clone", desc := "()Ljava/lang/Object;" } : Jvm.MethodName)) ∈ tables_1 := List.mem_of_getElem? (i := 122) rfl
theorem own_t124 : (Jvm.Cond.castable "[D" "java/lang/Cloneable") ∈ tables_1 := List.mem_of_getElem? (i := 124) rfl
theorem own_d13_10 : decode jdk_65_method_127_code 10 = .ok (.checkcast 329, 3) := by decide +kernel
theorem own_t125 : (Jvm.Cond.classLink "java/util/Arrays" (329 : Nat) "[D") ∈ tables_1 := List.mem_of_getElem? (i := 125) rfl
theorem own_d13_13 : decode jdk_65_method_127_code 13 = .ok (.areturn, 1) := by decide +kernel
def own_Q13_0 (Z : State) (r0 : Addr) (k_a : ClassId) (h0 : Heap) (n0 : Nat) (v : Option Value) (h : Heap) (L : List Loc) : Prop := ∃ b : Addr, ∃ kb : ClassId, v = some (.ref b) ∧ Fr n0 L ∧ Keep h0 h [] ∧ h0.size ≤ b ∧ Arv Z h b kb .double (0 : Int32) [] (.double (0 : UInt64)) ∧ Exa Z h b "[D"
abbrev own_R13_0 : Room := { frames := 1, cells := 1, slots := 0, locals := 14 }
theorem own_ef13_0 (m : MethodId) (z0 : Addr) : entryFrame m #[(.ref z0), (.int (0 : Int32))] 3 = mkF m 0 #[.val (.ref z0), .val (.int (0 : Int32)), .unset] [] := by first | (simp [entryFrame, mkF, argsToLocals, Value.category]; done) | rfl
set_option maxRecDepth 65536 in
set_option maxHeartbeats 40000000 in
theorem rm13_0 (l : Launch) (Z : State) (a0 : Array Value) (hw : ∀ d ∈ tables_1, d.before a0 Z = true) (ws : List Jvm.Cond) (r0 : Addr) (k_a : ClassId) (h0 : Heap) (n0 : Nat) (Z0 : n0 ≤ h0.size) (V_a : Arv Z h0 r0 k_a .double (0 : Int32) [] (.double (0 : UInt64))) (E_a : Exa Z h0 r0 "[D") : own_Met l Z (⟨"java/util/Arrays", "copyOf", "([DI)[D"⟩ : MethodName) jdk_65_method_127_code 3 (some (.array .double)) ws own_R13_0 #[(.ref r0), (.int (0 : Int32))] h0 (own_Q13_0 Z r0 k_a h0 n0) := by
  refine own_met (plainFor_of_name own_pn4) ?_
  intro p e s m below meth c s₁ hx hby hml hown hnm hret hlk hZ e0 X0
  have N0 := Fr.nil n0
  have hml : c.maxLocals = 3 := hml
  have hown : s.vm.findClass "java/util/Arrays" = some m.cls := hown
  have hret : meth.sig.returnType = (some (.array .double)) := hret
  have hby : c.code = jdk_65_method_127_code := hby
  have hnm : meth.name = "copyOf" := hnm
  rw [own_ef13_0]
  show own_Goes p e below _ (s₁.setTop (mkF m 0 #[.val (.ref r0), .val (.int (0 : Int32)), .unset] []))
  refine own_go (fun t k => XS.iloadN X0.here hx rfl (hb hby own_d13_0) rfl k) ?_
  show own_Goes p e below _ (s₁.setTop (mkF m 1 #[.val (.ref r0), .val (.int (0 : Int32)), .unset] [(.int (0 : Int32))]))
  refine own_go (fun t k => XS.aloadN X0.here hx rfl (hb hby own_d13_1) rfl rfl k) ?_
  show own_Goes p e below _ (s₁.setTop (mkF m 2 #[.val (.ref r0), .val (.int (0 : Int32)), .unset] [(.ref r0), (.int (0 : Int32))]))
  obtain ⟨cl53, Ar53, qa53, sa53, na53, ha53, ga53⟩ := id V_a
  refine own_go (fun t k => X0.arraylength hx (by rw [e0]; exact Ar53.1) (State.isArrayOf_alike hZ.alike Ar53.2.1) (g := (mkF m 2 #[.val (.ref r0), .val (.int (0 : Int32)), .unset] [(.ref r0), (.int (0 : Int32))])) rfl rfl (hb hby own_d13_2) t k) ?_
  rw [len_of sa53 (by decide)]
  show own_Goes p e below _ (s₁.setTop (mkF m 3 #[.val (.ref r0), .val (.int (0 : Int32)), .unset] [(.int (0 : Int32)), (.int (0 : Int32))]))
  have hd54 : (0 : Int32) = (0 : Int32) := (by decide)
  refine own_go (fun t k => XS.icmpNo X0.here hx rfl (hb hby own_d13_3) rfl (teq hd54).2 k) ?_
  show own_Goes p e below _ (s₁.setTop (mkF m 6 #[.val (.ref r0), .val (.int (0 : Int32)), .unset] []))
  refine own_go (fun t k => XS.aloadN X0.here hx rfl (hb hby own_d13_6) rfl rfl k) ?_
  show own_Goes p e below _ (s₁.setTop (mkF m 7 #[.val (.ref r0), .val (.int (0 : Int32)), .unset] [(.ref r0)]))
  obtain ⟨T55, h55, X55, e55, E55, A55, Y55, st55⟩ := cloneH X0 hx hZ hown (hw _ own_t118) (hw _ own_t119) (hw _ own_t123) (hw _ own_t121) (hw _ own_t122) (hw _ own_t124) e0 (Arv.arh V_a) E_a (g := (mkF m 7 #[.val (.ref r0), .val (.int (0 : Int32)), .unset] [(.ref r0)])) rfl (by rw [hml]; rfl) rfl (hb hby own_d13_7) (by decide) (W := 0) (cap := 0) (by show 2 * 0 + _ ≤ _; exact Nat.le_of_eq rfl) (by decide) (by decide) (by decide) (by decide)
  obtain ⟨b55, q55⟩ : ∃ z, z = h0.size := ⟨_, rfl⟩
  rw [← q55] at A55 Y55 st55
  have lt_b55 : h0.size ≤ b55 := Nat.le_of_eq q55.symm
  have ne_r0_b55 : r0 ≠ b55 := Nat.ne_of_lt (Nat.lt_of_lt_of_le V_a.lt lt_b55)
  have g_b55 : n0 ≤ b55 := Nat.le_trans Z0 lt_b55
  have sz_b55 : h0.size ≤ b55 := Nat.le_trans (Keep.refl h0 ([] : List Addr)).1 lt_b55
  have V55 : Arv Z h55 b55 k_a .double (0 : Int32) [] (.double (0 : UInt64)) := A55
  refine own_go st55 ?_
  show own_Goes p e below _ (T55.setTop (mkF m 10 #[.val (.ref r0), .val (.int (0 : Int32)), .unset] [(.ref b55)]))
  obtain ⟨T56, X56, e56, st56⟩ := castY X55 hx hZ hown (hw _ own_t125) e55 (Ins.self Y55) (g := (mkF m 10 #[.val (.ref r0), .val (.int (0 : Int32)), .unset] [(.ref b55)])) rfl rfl (hb hby own_d13_10)
  refine own_go st56 ?_
  show own_Goes p e below _ (T56.setTop (mkF m 13 #[.val (.ref r0), .val (.int (0 : Int32)), .unset] [(.ref b55)]))
  exact own_retR X56 hx hlk hret rfl rfl (hb hby own_d13_13) (by decide) (by decide) (by show own_Q13_0 Z r0 k_a h0 n0 _ T56.heap _; rw [e56]; exact ⟨_, _, rfl, N0, ((Keep.refl h0 ([] : List Addr)).ext E55), sz_b55, V55, Y55⟩)
def own_Q13_1 (Z : State) (r0 : Addr) (k_a : ClassId) (u0 : UInt64) (h0 : Heap) (n0 : Nat) (v : Option Value) (h : Heap) (L : List Loc) : Prop := ∃ b : Addr, ∃ kb : ClassId, v = some (.ref b) ∧ Fr n0 L ∧ Keep h0 h [] ∧ h0.size ≤ b ∧ Arv Z h b kb .double (1 : Int32) [(.double u0)] (.double (0 : UInt64)) ∧ Exa Z h b "[D"
abbrev own_R13_1 : Room := { frames := 1, cells := 1, slots := 1, locals := 18 }
theorem own_ef13_1 (m : MethodId) (z0 : Addr) : entryFrame m #[(.ref z0), (.int (1 : Int32))] 3 = mkF m 0 #[.val (.ref z0), .val (.int (1 : Int32)), .unset] [] := by first | (simp [entryFrame, mkF, argsToLocals, Value.category]; done) | rfl
set_option maxRecDepth 65536 in
set_option maxHeartbeats 40000000 in
theorem rm13_1 (l : Launch) (Z : State) (a0 : Array Value) (hw : ∀ d ∈ tables_1, d.before a0 Z = true) (ws : List Jvm.Cond) (r0 : Addr) (k_a : ClassId) (u0 : UInt64) (h0 : Heap) (n0 : Nat) (Z0 : n0 ≤ h0.size) (V_a : Arv Z h0 r0 k_a .double (8 : Int32) [(.double u0), (.double (0 : UInt64)), (.double (0 : UInt64)), (.double (0 : UInt64)), (.double (0 : UInt64)), (.double (0 : UInt64)), (.double (0 : UInt64)), (.double (0 : UInt64))] (.double (0 : UInt64))) (E_a : Exa Z h0 r0 "[D") : own_Met l Z (⟨"java/util/Arrays", "copyOf", "([DI)[D"⟩ : MethodName) jdk_65_method_127_code 3 (some (.array .double)) ws own_R13_1 #[(.ref r0), (.int (1 : Int32))] h0 (own_Q13_1 Z r0 k_a u0 h0 n0) := by
  refine own_met (plainFor_of_name own_pn4) ?_
  intro p e s m below meth c s₁ hx hby hml hown hnm hret hlk hZ e0 X0
  have N0 := Fr.nil n0
  have hml : c.maxLocals = 3 := hml
  have hown : s.vm.findClass "java/util/Arrays" = some m.cls := hown
  have hret : meth.sig.returnType = (some (.array .double)) := hret
  have hby : c.code = jdk_65_method_127_code := hby
  have hnm : meth.name = "copyOf" := hnm
  rw [own_ef13_1]
  show own_Goes p e below _ (s₁.setTop (mkF m 0 #[.val (.ref r0), .val (.int (1 : Int32)), .unset] []))
  refine own_go (fun t k => XS.iloadN X0.here hx rfl (hb hby own_d13_0) rfl k) ?_
  show own_Goes p e below _ (s₁.setTop (mkF m 1 #[.val (.ref r0), .val (.int (1 : Int32)), .unset] [(.int (1 : Int32))]))
  refine own_go (fun t k => XS.aloadN X0.here hx rfl (hb hby own_d13_1) rfl rfl k) ?_
  show own_Goes p e below _ (s₁.setTop (mkF m 2 #[.val (.ref r0), .val (.int (1 : Int32)), .unset] [(.ref r0), (.int (1 : Int32))]))
  obtain ⟨cl57, Ar57, qa57, sa57, na57, ha57, ga57⟩ := id V_a
  refine own_go (fun t k => X0.arraylength hx (by rw [e0]; exact Ar57.1) (State.isArrayOf_alike hZ.alike Ar57.2.1) (g := (mkF m 2 #[.val (.ref r0), .val (.int (1 : Int32)), .unset] [(.ref r0), (.int (1 : Int32))])) rfl rfl (hb hby own_d13_2) t k) ?_
  rw [len_of sa57 (by decide)]
  show own_Goes p e below _ (s₁.setTop (mkF m 3 #[.val (.ref r0), .val (.int (1 : Int32)), .unset] [(.int (8 : Int32)), (.int (1 : Int32))]))
  have hd58 : ¬ ((1 : Int32) = (8 : Int32)) := (by decide)
  refine own_go (fun t k => XS.icmpYes X0.here hx rfl (pc0 := 3) (pc' := 14) rfl (hb hby own_d13_3) rfl (feq hd58).2 (by decide) (by decide) k) ?_
  show own_Goes p e below _ (s₁.setTop (mkF m 14 #[.val (.ref r0), .val (.int (1 : Int32)), .unset] []))
  refine own_go (fun t k => XS.iloadN X0.here hx rfl (hb hby own_d13_14) rfl k) ?_
  show own_Goes p e below _ (s₁.setTop (mkF m 15 #[.val (.ref r0), .val (.int (1 : Int32)), .unset] [(.int (1 : Int32))]))
  obtain ⟨T59, h59, k59, X59, e59, E59, A59, Y59, st59⟩ := newPE X0 hx hZ (aty := .double) (hw _ own_t70) e0 (g := (mkF m 15 #[.val (.ref r0), .val (.int (1 : Int32)), .unset] [(.int (1 : Int32))])) rfl (hb hby own_d13_15) rfl (by decide) (cap := 1) (by decide) (by decide) (by decide) (by decide) (ad := "[D") (by decide +kernel)
  obtain ⟨b59, q59⟩ : ∃ z, z = h0.size := ⟨_, rfl⟩
  rw [← q59] at A59 Y59 st59
  have lt_b59 : h0.size ≤ b59 := Nat.le_of_eq q59.symm
  have ne_r0_b59 : r0 ≠ b59 := Nat.ne_of_lt (Nat.lt_of_lt_of_le V_a.lt lt_b59)
  have g_b59 : n0 ≤ b59 := Nat.le_trans Z0 lt_b59
  have sz_b59 : h0.size ≤ b59 := Nat.le_trans (Keep.refl h0 ([] : List Addr)).1 lt_b59
  have V59 : Arv Z h59 b59 k59 .double (1 : Int32) [(.double (0 : UInt64))] (.double (0 : UInt64)) := (Arv.new A59 (by decide)).pad (pad_rep [] (.double (0 : UInt64)) 1)
  refine own_go st59 ?_
  show own_Goes p e below _ (T59.setTop (mkF m 17 #[.val (.ref r0), .val (.int (1 : Int32)), .unset] [(.ref b59)]))
  refine own_go (fun t k => XS.astoreN X59.here hx rfl (hb hby own_d13_17) rfl rfl (l' := #[.val (.ref r0), .val (.int (1 : Int32)), .val (.ref b59)]) rfl k) ?_
  show own_Goes p e below _ (T59.setTop (mkF m 18 #[.val (.ref r0), .val (.int (1 : Int32)), .val (.ref b59)] []))
  refine own_go (fun t k => XS.aloadN X59.here hx rfl (hb hby own_d13_18) rfl rfl k) ?_
  show own_Goes p e below _ (T59.setTop (mkF m 19 #[.val (.ref r0), .val (.int (1 : Int32)), .val (.ref b59)] [(.ref r0)]))
  refine own_go (fun t k => XS.iconst X59.here hx rfl (hb hby own_d13_19) k) ?_
  show own_Goes p e below _ (T59.setTop (mkF m 20 #[.val (.ref r0), .val (.int (1 : Int32)), .val (.ref b59)] [(.int (0 : Int32)), (.ref r0)]))
  refine own_go (fun t k => XS.aloadN X59.here hx rfl (hb hby own_d13_20) rfl rfl k) ?_
  show own_Goes p e below _ (T59.setTop (mkF m 21 #[.val (.ref r0), .val (.int (1 : Int32)), .val (.ref b59)] [(.ref b59), (.int (0 : Int32)), (.ref r0)]))
  refine own_go (fun t k => XS.iconst X59.here hx rfl (hb hby own_d13_21) k) ?_
  show own_Goes p e below _ (T59.setTop (mkF m 22 #[.val (.ref r0), .val (.int (1 : Int32)), .val (.ref b59)] [(.int (0 : Int32)), (.ref b59), (.int (0 : Int32)), (.ref r0)]))
  refine own_go (fun t k => XS.aloadN X59.here hx rfl (hb hby own_d13_22) rfl rfl k) ?_
  show own_Goes p e below _ (T59.setTop (mkF m 23 #[.val (.ref r0), .val (.int (1 : Int32)), .val (.ref b59)] [(.ref r0), (.int (0 : Int32)), (.ref b59), (.int (0 : Int32)), (.ref r0)]))
  obtain ⟨cl60, Ar60, qa60, sa60, na60, ha60, ga60⟩ := id (V_a.ext E59)
  refine own_go (fun t k => X59.arraylength hx (by rw [e59]; exact Ar60.1) (State.isArrayOf_alike hZ.alike Ar60.2.1) (g := (mkF m 23 #[.val (.ref r0), .val (.int (1 : Int32)), .val (.ref b59)] [(.ref r0), (.int (0 : Int32)), (.ref b59), (.int (0 : Int32)), (.ref r0)])) rfl rfl (hb hby own_d13_23) t k) ?_
  rw [len_of sa60 (by decide)]
  show own_Goes p e below _ (T59.setTop (mkF m 24 #[.val (.ref r0), .val (.int (1 : Int32)), .val (.ref b59)] [(.int (8 : Int32)), (.int (0 : Int32)), (.ref b59), (.int (0 : Int32)), (.ref r0)]))
  refine own_go (fun t k => XS.iloadN X59.here hx rfl (hb hby own_d13_24) rfl k) ?_
  show own_Goes p e below _ (T59.setTop (mkF m 25 #[.val (.ref r0), .val (.int (1 : Int32)), .val (.ref b59)] [(.int (1 : Int32)), (.int (8 : Int32)), (.int (0 : Int32)), (.ref b59), (.int (0 : Int32)), (.ref r0)]))
  obtain ⟨_, T61, L61, X61, ⟨rfl, N61q, e61⟩, st61⟩ := own_callS X59 hx hZ hown (hw _ own_t101) (hw _ own_t102) (hw _ own_t95) (hw _ own_t103) (by decide) (as := [(.int (8 : Int32)), (.int (1 : Int32))]) (rm14_8_1 l Z a0 hw []  h59 n0) e59 own_pd1 rfl (pc := 25) (Ls := #[.val (.ref r0), .val (.int (1 : Int32)), .val (.ref b59)]) (rest := [(.int (0 : Int32)), (.ref b59), (.int (0 : Int32)), (.ref r0)]) (W := 4) (by rw [hml]; rfl) (Nat.le_of_eq rfl) (by decide) (by decide) (hb hby own_d13_25) (by decide) (by decide)
  have N61 := Fr.app N0 N61q
  refine own_go st61 ?_
  show own_Goes p e below _ (T61.setTop (mkF m 28 #[.val (.ref r0), .val (.int (1 : Int32)), .val (.ref b59)] [(.int (1 : Int32)), (.int (0 : Int32)), (.ref b59), (.int (0 : Int32)), (.ref r0)]))
  obtain ⟨T62, h62, L62, X62, e62, N62, K62, V62q, st62⟩ := cpA X61 hx hZ hown (hw _ own_t104) (hw _ own_t107) (hw _ own_t105) (hw _ own_t106) e61 (V_a.ext E59) V59 (us := [(.double u0)]) (Or.inl ⟨rfl, rfl⟩) (by decide) (by decide) (by decide) (by decide) (by decide) rfl (by decide) N61 g_b59 (g := (mkF m 28 #[.val (.ref r0), .val (.int (1 : Int32)), .val (.ref b59)] [(.int (1 : Int32)), (.int (0 : Int32)), (.ref b59), (.int (0 : Int32)), (.ref r0)])) rfl (by rw [hml]; rfl) rfl (hb hby own_d13_28) (by decide) (W := 0) (by show 2 * 0 + _ ≤ _; exact Nat.le_of_eq rfl) (by decide +kernel)
  have V62 : Arv Z h62 b59 k59 .double (1 : Int32) [(.double u0)] (.double (0 : UInt64)) := V62q
  refine own_go st62 ?_
  show own_Goes p e below _ (T62.setTop (mkF m 31 #[.val (.ref r0), .val (.int (1 : Int32)), .val (.ref b59)] []))
  refine own_go (fun t k => XS.aloadN X62.here hx rfl (hb hby own_d13_31) rfl rfl k) ?_
  show own_Goes p e below _ (T62.setTop (mkF m 32 #[.val (.ref r0), .val (.int (1 : Int32)), .val (.ref b59)] [(.ref b59)]))
  exact own_retR X62 hx hlk hret rfl rfl (hb hby own_d13_32) (by decide) (by decide) (by show own_Q13_1 Z r0 k_a u0 h0 n0 _ T62.heap _; rw [e62]; exact ⟨_, _, rfl, N62, (((Keep.refl h0 ([] : List Addr)).ext E59).trans K62 (fun x hx => by cases List.mem_singleton.mp hx; exact Or.inr sz_b59)), sz_b59, V62, (Y59.keep K62)⟩)
def own_Q13_2 (Z : State) (r0 : Addr) (k_a : ClassId) (u0 : UInt64) (u1 : UInt64) (h0 : Heap) (n0 : Nat) (v : Option Value) (h : Heap) (L : List Loc) : Prop := ∃ b : Addr, ∃ kb : ClassId, v = some (.ref b) ∧ Fr n0 L ∧ Keep h0 h [] ∧ h0.size ≤ b ∧ Arv Z h b kb .double (2 : Int32) [(.double u0), (.double u1)] (.double (0 : UInt64)) ∧ Exa Z h b "[D"
abbrev own_R13_2 : Room := { frames := 1, cells := 1, slots := 2, locals := 18 }
theorem own_ef13_2 (m : MethodId) (z0 : Addr) : entryFrame m #[(.ref z0), (.int (2 : Int32))] 3 = mkF m 0 #[.val (.ref z0), .val (.int (2 : Int32)), .unset] [] := by first | (simp [entryFrame, mkF, argsToLocals, Value.category]; done) | rfl
set_option maxRecDepth 65536 in
set_option maxHeartbeats 40000000 in
theorem rm13_2 (l : Launch) (Z : State) (a0 : Array Value) (hw : ∀ d ∈ tables_1, d.before a0 Z = true) (ws : List Jvm.Cond) (r0 : Addr) (k_a : ClassId) (u0 : UInt64) (u1 : UInt64) (h0 : Heap) (n0 : Nat) (Z0 : n0 ≤ h0.size) (V_a : Arv Z h0 r0 k_a .double (8 : Int32) [(.double u0), (.double u1), (.double (0 : UInt64)), (.double (0 : UInt64)), (.double (0 : UInt64)), (.double (0 : UInt64)), (.double (0 : UInt64)), (.double (0 : UInt64))] (.double (0 : UInt64))) (E_a : Exa Z h0 r0 "[D") : own_Met l Z (⟨"java/util/Arrays", "copyOf", "([DI)[D"⟩ : MethodName) jdk_65_method_127_code 3 (some (.array .double)) ws own_R13_2 #[(.ref r0), (.int (2 : Int32))] h0 (own_Q13_2 Z r0 k_a u0 u1 h0 n0) := by
  refine own_met (plainFor_of_name own_pn4) ?_
  intro p e s m below meth c s₁ hx hby hml hown hnm hret hlk hZ e0 X0
  have N0 := Fr.nil n0
  have hml : c.maxLocals = 3 := hml
  have hown : s.vm.findClass "java/util/Arrays" = some m.cls := hown
  have hret : meth.sig.returnType = (some (.array .double)) := hret
  have hby : c.code = jdk_65_method_127_code := hby
  have hnm : meth.name = "copyOf" := hnm
  rw [own_ef13_2]
  show own_Goes p e below _ (s₁.setTop (mkF m 0 #[.val (.ref r0), .val (.int (2 : Int32)), .unset] []))
  refine own_go (fun t k => XS.iloadN X0.here hx rfl (hb hby own_d13_0) rfl k) ?_
  show own_Goes p e below _ (s₁.setTop (mkF m 1 #[.val (.ref r0), .val (.int (2 : Int32)), .unset] [(.int (2 : Int32))]))
  refine own_go (fun t k => XS.aloadN X0.here hx rfl (hb hby own_d13_1) rfl rfl k) ?_
  show own_Goes p e below _ (s₁.setTop (mkF m 2 #[.val (.ref r0), .val (.int (2 : Int32)), .unset] [(.ref r0), (.int (2 : Int32))]))
  obtain ⟨cl63, Ar63, qa63, sa63, na63, ha63, ga63⟩ := id V_a
  refine own_go (fun t k => X0.arraylength hx (by rw [e0]; exact Ar63.1) (State.isArrayOf_alike hZ.alike Ar63.2.1) (g := (mkF m 2 #[.val (.ref r0), .val (.int (2 : Int32)), .unset] [(.ref r0), (.int (2 : Int32))])) rfl rfl (hb hby own_d13_2) t k) ?_
  rw [len_of sa63 (by decide)]
  show own_Goes p e below _ (s₁.setTop (mkF m 3 #[.val (.ref r0), .val (.int (2 : Int32)), .unset] [(.int (8 : Int32)), (.int (2 : Int32))]))
  have hd64 : ¬ ((2 : Int32) = (8 : Int32)) := (by decide)
  refine own_go (fun t k => XS.icmpYes X0.here hx rfl (pc0 := 3) (pc' := 14) rfl (hb hby own_d13_3) rfl (feq hd64).2 (by decide) (by decide) k) ?_
  show own_Goes p e below _ (s₁.setTop (mkF m 14 #[.val (.ref r0), .val (.int (2 : Int32)), .unset] []))
  refine own_go (fun t k => XS.iloadN X0.here hx rfl (hb hby own_d13_14) rfl k) ?_
  show own_Goes p e below _ (s₁.setTop (mkF m 15 #[.val (.ref r0), .val (.int (2 : Int32)), .unset] [(.int (2 : Int32))]))
  obtain ⟨T65, h65, k65, X65, e65, E65, A65, Y65, st65⟩ := newPE X0 hx hZ (aty := .double) (hw _ own_t70) e0 (g := (mkF m 15 #[.val (.ref r0), .val (.int (2 : Int32)), .unset] [(.int (2 : Int32))])) rfl (hb hby own_d13_15) rfl (by decide) (cap := 2) (by decide) (by decide) (by decide) (by decide) (ad := "[D") (by decide +kernel)
  obtain ⟨b65, q65⟩ : ∃ z, z = h0.size := ⟨_, rfl⟩
  rw [← q65] at A65 Y65 st65
  have lt_b65 : h0.size ≤ b65 := Nat.le_of_eq q65.symm
  have ne_r0_b65 : r0 ≠ b65 := Nat.ne_of_lt (Nat.lt_of_lt_of_le V_a.lt lt_b65)
  have g_b65 : n0 ≤ b65 := Nat.le_trans Z0 lt_b65
  have sz_b65 : h0.size ≤ b65 := Nat.le_trans (Keep.refl h0 ([] : List Addr)).1 lt_b65
  have V65 : Arv Z h65 b65 k65 .double (2 : Int32) [(.double (0 : UInt64)), (.double (0 : UInt64))] (.double (0 : UInt64)) := (Arv.new A65 (by decide)).pad (pad_rep [] (.double (0 : UInt64)) 2)
  refine own_go st65 ?_
  show own_Goes p e below _ (T65.setTop (mkF m 17 #[.val (.ref r0), .val (.int (2 : Int32)), .unset] [(.ref b65)]))
  refine own_go (fun t k => XS.astoreN X65.here hx rfl (hb hby own_d13_17) rfl rfl (l' := #[.val (.ref r0), .val (.int (2 : Int32)), .val (.ref b65)]) rfl k) ?_
  show own_Goes p e below _ (T65.setTop (mkF m 18 #[.val (.ref r0), .val (.int (2 : Int32)), .val (.ref b65)] []))
  refine own_go (fun t k => XS.aloadN X65.here hx rfl (hb hby own_d13_18) rfl rfl k) ?_
  show own_Goes p e below _ (T65.setTop (mkF m 19 #[.val (.ref r0), .val (.int (2 : Int32)), .val (.ref b65)] [(.ref r0)]))
  refine own_go (fun t k => XS.iconst X65.here hx rfl (hb hby own_d13_19) k) ?_
  show own_Goes p e below _ (T65.setTop (mkF m 20 #[.val (.ref r0), .val (.int (2 : Int32)), .val (.ref b65)] [(.int (0 : Int32)), (.ref r0)]))
  refine own_go (fun t k => XS.aloadN X65.here hx rfl (hb hby own_d13_20) rfl rfl k) ?_
  show own_Goes p e below _ (T65.setTop (mkF m 21 #[.val (.ref r0), .val (.int (2 : Int32)), .val (.ref b65)] [(.ref b65), (.int (0 : Int32)), (.ref r0)]))
  refine own_go (fun t k => XS.iconst X65.here hx rfl (hb hby own_d13_21) k) ?_
  show own_Goes p e below _ (T65.setTop (mkF m 22 #[.val (.ref r0), .val (.int (2 : Int32)), .val (.ref b65)] [(.int (0 : Int32)), (.ref b65), (.int (0 : Int32)), (.ref r0)]))
  refine own_go (fun t k => XS.aloadN X65.here hx rfl (hb hby own_d13_22) rfl rfl k) ?_
  show own_Goes p e below _ (T65.setTop (mkF m 23 #[.val (.ref r0), .val (.int (2 : Int32)), .val (.ref b65)] [(.ref r0), (.int (0 : Int32)), (.ref b65), (.int (0 : Int32)), (.ref r0)]))
  obtain ⟨cl66, Ar66, qa66, sa66, na66, ha66, ga66⟩ := id (V_a.ext E65)
  refine own_go (fun t k => X65.arraylength hx (by rw [e65]; exact Ar66.1) (State.isArrayOf_alike hZ.alike Ar66.2.1) (g := (mkF m 23 #[.val (.ref r0), .val (.int (2 : Int32)), .val (.ref b65)] [(.ref r0), (.int (0 : Int32)), (.ref b65), (.int (0 : Int32)), (.ref r0)])) rfl rfl (hb hby own_d13_23) t k) ?_
  rw [len_of sa66 (by decide)]
  show own_Goes p e below _ (T65.setTop (mkF m 24 #[.val (.ref r0), .val (.int (2 : Int32)), .val (.ref b65)] [(.int (8 : Int32)), (.int (0 : Int32)), (.ref b65), (.int (0 : Int32)), (.ref r0)]))
  refine own_go (fun t k => XS.iloadN X65.here hx rfl (hb hby own_d13_24) rfl k) ?_
  show own_Goes p e below _ (T65.setTop (mkF m 25 #[.val (.ref r0), .val (.int (2 : Int32)), .val (.ref b65)] [(.int (2 : Int32)), (.int (8 : Int32)), (.int (0 : Int32)), (.ref b65), (.int (0 : Int32)), (.ref r0)]))
  obtain ⟨_, T67, L67, X67, ⟨rfl, N67q, e67⟩, st67⟩ := own_callS X65 hx hZ hown (hw _ own_t101) (hw _ own_t102) (hw _ own_t95) (hw _ own_t103) (by decide) (as := [(.int (8 : Int32)), (.int (2 : Int32))]) (rm14_8_2 l Z a0 hw []  h65 n0) e65 own_pd1 rfl (pc := 25) (Ls := #[.val (.ref r0), .val (.int (2 : Int32)), .val (.ref b65)]) (rest := [(.int (0 : Int32)), (.ref b65), (.int (0 : Int32)), (.ref r0)]) (W := 4) (by rw [hml]; rfl) (Nat.le_of_eq rfl) (by decide) (by decide) (hb hby own_d13_25) (by decide) (by decide)
  have N67 := Fr.app N0 N67q
  refine own_go st67 ?_
  show own_Goes p e below _ (T67.setTop (mkF m 28 #[.val (.ref r0), .val (.int (2 : Int32)), .val (.ref b65)] [(.int (2 : Int32)), (.int (0 : Int32)), (.ref b65), (.int (0 : Int32)), (.ref r0)]))
  obtain ⟨T68, h68, L68, X68, e68, N68, K68, V68q, st68⟩ := cpA X67 hx hZ hown (hw _ own_t104) (hw _ own_t107) (hw _ own_t105) (hw _ own_t106) e67 (V_a.ext E65) V65 (us := [(.double u0), (.double u1)]) (Or.inl ⟨rfl, rfl⟩) (by decide) (by decide) (by decide) (by decide) (by decide) rfl (by decide) N67 g_b65 (g := (mkF m 28 #[.val (.ref r0), .val (.int (2 : Int32)), .val (.ref b65)] [(.int (2 : Int32)), (.int (0 : Int32)), (.ref b65), (.int (0 : Int32)), (.ref r0)])) rfl (by rw [hml]; rfl) rfl (hb hby own_d13_28) (by decide) (W := 0) (by show 2 * 0 + _ ≤ _; exact Nat.le_of_eq rfl) (by decide +kernel)
  have V68 : Arv Z h68 b65 k65 .double (2 : Int32) [(.double u0), (.double u1)] (.double (0 : UInt64)) := V68q
  refine own_go st68 ?_
  show own_Goes p e below _ (T68.setTop (mkF m 31 #[.val (.ref r0), .val (.int (2 : Int32)), .val (.ref b65)] []))
  refine own_go (fun t k => XS.aloadN X68.here hx rfl (hb hby own_d13_31) rfl rfl k) ?_
  show own_Goes p e below _ (T68.setTop (mkF m 32 #[.val (.ref r0), .val (.int (2 : Int32)), .val (.ref b65)] [(.ref b65)]))
  exact own_retR X68 hx hlk hret rfl rfl (hb hby own_d13_32) (by decide) (by decide) (by show own_Q13_2 Z r0 k_a u0 u1 h0 n0 _ T68.heap _; rw [e68]; exact ⟨_, _, rfl, N68, (((Keep.refl h0 ([] : List Addr)).ext E65).trans K68 (fun x hx => by cases List.mem_singleton.mp hx; exact Or.inr sz_b65)), sz_b65, V68, (Y65.keep K68)⟩)
def own_Q13_3 (Z : State) (r0 : Addr) (k_a : ClassId) (u0 : UInt64) (u1 : UInt64) (u2 : UInt64) (h0 : Heap) (n0 : Nat) (v : Option Value) (h : Heap) (L : List Loc) : Prop := ∃ b : Addr, ∃ kb : ClassId, v = some (.ref b) ∧ Fr n0 L ∧ Keep h0 h [] ∧ h0.size ≤ b ∧ Arv Z h b kb .double (3 : Int32) [(.double u0), (.double u1), (.double u2)] (.double (0 : UInt64)) ∧ Exa Z h b "[D"
abbrev own_R13_3 : Room := { frames := 1, cells := 1, slots := 3, locals := 18 }
theorem own_ef13_3 (m : MethodId) (z0 : Addr) : entryFrame m #[(.ref z0), (.int (3 : Int32))] 3 = mkF m 0 #[.val (.ref z0), .val (.int (3 : Int32)), .unset] [] := by first | (simp [entryFrame, mkF, argsToLocals, Value.category]; done) | rfl
set_option maxRecDepth 65536 in
set_option maxHeartbeats 40000000 in
theorem rm13_3 (l : Launch) (Z : State) (a0 : Array Value) (hw : ∀ d ∈ tables_1, d.before a0 Z = true) (ws : List Jvm.Cond) (r0 : Addr) (k_a : ClassId) (u0 : UInt64) (u1 : UInt64) (u2 : UInt64) (h0 : Heap) (n0 : Nat) (Z0 : n0 ≤ h0.size) (V_a : Arv Z h0 r0 k_a .double (8 : Int32) [(.double u0), (.double u1), (.double u2), (.double (0 : UInt64)), (.double (0 : UInt64)), (.double (0 : UInt64)), (.double (0 : UInt64)), (.double (0 : UInt64))] (.double (0 : UInt64))) (E_a : Exa Z h0 r0 "[D") : own_Met l Z (⟨"java/util/Arrays", "copyOf", "([DI)[D"⟩ : MethodName) jdk_65_method_127_code 3 (some (.array .double)) ws own_R13_3 #[(.ref r0), (.int (3 : Int32))] h0 (own_Q13_3 Z r0 k_a u0 u1 u2 h0 n0) := by
  refine own_met (plainFor_of_name own_pn4) ?_
  intro p e s m below meth c s₁ hx hby hml hown hnm hret hlk hZ e0 X0
  have N0 := Fr.nil n0
  have hml : c.maxLocals = 3 := hml
  have hown : s.vm.findClass "java/util/Arrays" = some m.cls := hown
  have hret : meth.sig.returnType = (some (.array .double)) := hret
  have hby : c.code = jdk_65_method_127_code := hby
  have hnm : meth.name = "copyOf" := hnm
  rw [own_ef13_3]
  show own_Goes p e below _ (s₁.setTop (mkF m 0 #[.val (.ref r0), .val (.int (3 : Int32)), .unset] []))
  refine own_go (fun t k => XS.iloadN X0.here hx rfl (hb hby own_d13_0) rfl k) ?_
  show own_Goes p e below _ (s₁.setTop (mkF m 1 #[.val (.ref r0), .val (.int (3 : Int32)), .unset] [(.int (3 : Int32))]))
  refine own_go (fun t k => XS.aloadN X0.here hx rfl (hb hby own_d13_1) rfl rfl k) ?_
  show own_Goes p e below _ (s₁.setTop (mkF m 2 #[.val (.ref r0), .val (.int (3 : Int32)), .unset] [(.ref r0), (.int (3 : Int32))]))
  obtain ⟨cl69, Ar69, qa69, sa69, na69, ha69, ga69⟩ := id V_a
  refine own_go (fun t k => X0.arraylength hx (by rw [e0]; exact Ar69.1) (State.isArrayOf_alike hZ.alike Ar69.2.1) (g := (mkF m 2 #[.val (.ref r0), .val (.int (3 : Int32)), .unset] [(.ref r0), (.int (3 : Int32))])) rfl rfl (hb hby own_d13_2) t k) ?_
  rw [len_of sa69 (by decide)]
  show own_Goes p e below _ (s₁.setTop (mkF m 3 #[.val (.ref r0), .val (.int (3 : Int32)), .unset] [(.int (8 : Int32)), (.int (3 : Int32))]))
  have hd70 : ¬ ((3 : Int32) = (8 : Int32)) := (by decide)
  refine own_go (fun t k => XS.icmpYes X0.here hx rfl (pc0 := 3) (pc' := 14) rfl (hb hby own_d13_3) rfl (feq hd70).2 (by decide) (by decide) k) ?_
  show own_Goes p e below _ (s₁.setTop (mkF m 14 #[.val (.ref r0), .val (.int (3 : Int32)), .unset] []))
  refine own_go (fun t k => XS.iloadN X0.here hx rfl (hb hby own_d13_14) rfl k) ?_
  show own_Goes p e below _ (s₁.setTop (mkF m 15 #[.val (.ref r0), .val (.int (3 : Int32)), .unset] [(.int (3 : Int32))]))
  obtain ⟨T71, h71, k71, X71, e71, E71, A71, Y71, st71⟩ := newPE X0 hx hZ (aty := .double) (hw _ own_t70) e0 (g := (mkF m 15 #[.val (.ref r0), .val (.int (3 : Int32)), .unset] [(.int (3 : Int32))])) rfl (hb hby own_d13_15) rfl (by decide) (cap := 3) (by decide) (by decide) (by decide) (by decide) (ad := "[D") (by decide +kernel)
  obtain ⟨b71, q71⟩ : ∃ z, z = h0.size := ⟨_, rfl⟩
  rw [← q71] at A71 Y71 st71
  have lt_b71 : h0.size ≤ b71 := Nat.le_of_eq q71.symm
  have ne_r0_b71 : r0 ≠ b71 := Nat.ne_of_lt (Nat.lt_of_lt_of_le V_a.lt lt_b71)
  have g_b71 : n0 ≤ b71 := Nat.le_trans Z0 lt_b71
  have sz_b71 : h0.size ≤ b71 := Nat.le_trans (Keep.refl h0 ([] : List Addr)).1 lt_b71
  have V71 : Arv Z h71 b71 k71 .double (3 : Int32) [(.double (0 : UInt64)), (.double (0 : UInt64)), (.double (0 : UInt64))] (.double (0 : UInt64)) := (Arv.new A71 (by decide)).pad (pad_rep [] (.double (0 : UInt64)) 3)
  refine own_go st71 ?_
  show own_Goes p e below _ (T71.setTop (mkF m 17 #[.val (.ref r0), .val (.int (3 : Int32)), .unset] [(.ref b71)]))
  refine own_go (fun t k => XS.astoreN X71.here hx rfl (hb hby own_d13_17) rfl rfl (l' := #[.val (.ref r0), .val (.int (3 : Int32)), .val (.ref b71)]) rfl k) ?_
  show own_Goes p e below _ (T71.setTop (mkF m 18 #[.val (.ref r0), .val (.int (3 : Int32)), .val (.ref b71)] []))
  refine own_go (fun t k => XS.aloadN X71.here hx rfl (hb hby own_d13_18) rfl rfl k) ?_
  show own_Goes p e below _ (T71.setTop (mkF m 19 #[.val (.ref r0), .val (.int (3 : Int32)), .val (.ref b71)] [(.ref r0)]))
  refine own_go (fun t k => XS.iconst X71.here hx rfl (hb hby own_d13_19) k) ?_
  show own_Goes p e below _ (T71.setTop (mkF m 20 #[.val (.ref r0), .val (.int (3 : Int32)), .val (.ref b71)] [(.int (0 : Int32)), (.ref r0)]))
  refine own_go (fun t k => XS.aloadN X71.here hx rfl (hb hby own_d13_20) rfl rfl k) ?_
  show own_Goes p e below _ (T71.setTop (mkF m 21 #[.val (.ref r0), .val (.int (3 : Int32)), .val (.ref b71)] [(.ref b71), (.int (0 : Int32)), (.ref r0)]))
  refine own_go (fun t k => XS.iconst X71.here hx rfl (hb hby own_d13_21) k) ?_
  show own_Goes p e below _ (T71.setTop (mkF m 22 #[.val (.ref r0), .val (.int (3 : Int32)), .val (.ref b71)] [(.int (0 : Int32)), (.ref b71), (.int (0 : Int32)), (.ref r0)]))
  refine own_go (fun t k => XS.aloadN X71.here hx rfl (hb hby own_d13_22) rfl rfl k) ?_
  show own_Goes p e below _ (T71.setTop (mkF m 23 #[.val (.ref r0), .val (.int (3 : Int32)), .val (.ref b71)] [(.ref r0), (.int (0 : Int32)), (.ref b71), (.int (0 : Int32)), (.ref r0)]))
  obtain ⟨cl72, Ar72, qa72, sa72, na72, ha72, ga72⟩ := id (V_a.ext E71)
  refine own_go (fun t k => X71.arraylength hx (by rw [e71]; exact Ar72.1) (State.isArrayOf_alike hZ.alike Ar72.2.1) (g := (mkF m 23 #[.val (.ref r0), .val (.int (3 : Int32)), .val (.ref b71)] [(.ref r0), (.int (0 : Int32)), (.ref b71), (.int (0 : Int32)), (.ref r0)])) rfl rfl (hb hby own_d13_23) t k) ?_
  rw [len_of sa72 (by decide)]
  show own_Goes p e below _ (T71.setTop (mkF m 24 #[.val (.ref r0), .val (.int (3 : Int32)), .val (.ref b71)] [(.int (8 : Int32)), (.int (0 : Int32)), (.ref b71), (.int (0 : Int32)), (.ref r0)]))
  refine own_go (fun t k => XS.iloadN X71.here hx rfl (hb hby own_d13_24) rfl k) ?_
  show own_Goes p e below _ (T71.setTop (mkF m 25 #[.val (.ref r0), .val (.int (3 : Int32)), .val (.ref b71)] [(.int (3 : Int32)), (.int (8 : Int32)), (.int (0 : Int32)), (.ref b71), (.int (0 : Int32)), (.ref r0)]))
  obtain ⟨_, T73, L73, X73, ⟨rfl, N73q, e73⟩, st73⟩ := own_callS X71 hx hZ hown (hw _ own_t101) (hw _ own_t102) (hw _ own_t95) (hw _ own_t103) (by decide) (as := [(.int (8 : Int32)), (.int (3 : Int32))]) (rm14_8_3 l Z a0 hw []  h71 n0) e71 own_pd1 rfl (pc := 25) (Ls := #[.val (.ref r0), .val (.int (3 : Int32)), .val (.ref b71)]) (rest := [(.int (0 : Int32)), (.ref b71), (.int (0 : Int32)), (.ref r0)]) (W := 4) (by rw [hml]; rfl) (Nat.le_of_eq rfl) (by decide) (by decide) (hb hby own_d13_25) (by decide) (by decide)
  have N73 := Fr.app N0 N73q
  refine own_go st73 ?_
  show own_Goes p e below _ (T73.setTop (mkF m 28 #[.val (.ref r0), .val (.int (3 : Int32)), .val (.ref b71)] [(.int (3 : Int32)), (.int (0 : Int32)), (.ref b71), (.int (0 : Int32)), (.ref r0)]))
  obtain ⟨T74, h74, L74, X74, e74, N74, K74, V74q, st74⟩ := cpA X73 hx hZ hown (hw _ own_t104) (hw _ own_t107) (hw _ own_t105) (hw _ own_t106) e73 (V_a.ext E71) V71 (us := [(.double u0), (.double u1), (.double u2)]) (Or.inl ⟨rfl, rfl⟩) (by decide) (by decide) (by decide) (by decide) (by decide) rfl (by decide) N73 g_b71 (g := (mkF m 28 #[.val (.ref r0), .val (.int (3 : Int32)), .val (.ref b71)] [(.int (3 : Int32)), (.int (0 : Int32)), (.ref b71), (.int (0 : Int32)), (.ref r0)])) rfl (by rw [hml]; rfl) rfl (hb hby own_d13_28) (by decide) (W := 0) (by show 2 * 0 + _ ≤ _; exact Nat.le_of_eq rfl) (by decide +kernel)
  have V74 : Arv Z h74 b71 k71 .double (3 : Int32) [(.double u0), (.double u1), (.double u2)] (.double (0 : UInt64)) := V74q
  refine own_go st74 ?_
  show own_Goes p e below _ (T74.setTop (mkF m 31 #[.val (.ref r0), .val (.int (3 : Int32)), .val (.ref b71)] []))
  refine own_go (fun t k => XS.aloadN X74.here hx rfl (hb hby own_d13_31) rfl rfl k) ?_
  show own_Goes p e below _ (T74.setTop (mkF m 32 #[.val (.ref r0), .val (.int (3 : Int32)), .val (.ref b71)] [(.ref b71)]))
  exact own_retR X74 hx hlk hret rfl rfl (hb hby own_d13_32) (by decide) (by decide) (by show own_Q13_3 Z r0 k_a u0 u1 u2 h0 n0 _ T74.heap _; rw [e74]; exact ⟨_, _, rfl, N74, (((Keep.refl h0 ([] : List Addr)).ext E71).trans K74 (fun x hx => by cases List.mem_singleton.mp hx; exact Or.inr sz_b71)), sz_b71, V74, (Y71.keep K74)⟩)
theorem own_d11_0 : decode prog_20_method_17_code 0 = .ok (.aload_n 0, 1) := by decide +kernel
theorem own_d11_1 : decode prog_20_method_17_code 1 = .ok (.getfield 124, 3) := by decide +kernel
theorem own_t91 : (Jvm.Cond.fieldLink "com/example/nunobiki/nunobiki/engine/Profile" (124 : Nat) "com/example/nunobiki/nunobiki/engine/Profile" "observed" "I") ∈ tables_1 := List.mem_of_getElem? (i := 91) rfl
theorem own_d11_4 : decode prog_20_method_17_code 4 = .ok (.aload_n 0, 1) := by decide +kernel
theorem own_d11_5 : decode prog_20_method_17_code 5 = .ok (.getfield 28, 3) := by decide +kernel
theorem own_d11_8 : decode prog_20_method_17_code 8 = .ok (.arraylength, 1) := by decide +kernel
theorem own_d11_9 : decode prog_20_method_17_code 9 = .ok (.if_icmp .ne 25, 3) := by decide +kernel
theorem own_d11_12 : decode prog_20_method_17_code 12 = .ok (.aload_n 0, 1) := by decide +kernel
theorem own_d11_13 : decode prog_20_method_17_code 13 = .ok (.aload_n 0, 1) := by decide +kernel
theorem own_d11_14 : decode prog_20_method_17_code 14 = .ok (.getfield 28, 3) := by decide +kernel
theorem own_d11_17 : decode prog_20_method_17_code 17 = .ok (.bipush 8, 2) := by decide +kernel
theorem own_d11_19 : decode prog_20_method_17_code 19 = .ok (.iconst 2, 1) := by decide +kernel
theorem own_d11_20 : decode prog_20_method_17_code 20 = .ok (.aload_n 0, 1) := by decide +kernel
theorem own_d11_21 : decode prog_20_method_17_code 21 = .ok (.getfield 124, 3) := by decide +kernel
theorem own_d11_24 : decode prog_20_method_17_code 24 = .ok (.imul, 1) := by decide +kernel
theorem own_d11_25 : decode prog_20_method_17_code 25 = .ok (.invokestatic 127, 3) := by decide +kernel
theorem own_t93 : (Jvm.Cond.methodLink "com/example/nunobiki/nunobiki/engine/Profile" (127 : Nat) ({ cls := "java/lang/Math", name := "max", desc := "(II)I" } : Jvm.MethodName)) ∈ tables_1 := List.mem_of_getElem? (i := 93) rfl
theorem own_t94 : (Jvm.Cond.static ({ cls := "java/lang/Math", name := "max", desc := "(II)I" } : Jvm.MethodName)) ∈ tables_1 := List.mem_of_getElem? (i := 94) rfl
theorem own_t96 : (Jvm.Cond.code ({ cls := "java/lang/Math", name := "max", desc := "(II)I" } : Jvm.MethodName) jdk_29_method_65_code (2 : Nat) (Option.some Jvm.ClassFile.FieldType.int)) ∈ tables_1 := List.mem_of_getElem? (i := 96) rfl
theorem own_d11_28 : decode prog_20_method_17_code 28 = .ok (.invokestatic 133, 3) := by decide +kernel
theorem own_t97 : (Jvm.Cond.methodLink "com/example/nunobiki/nunobiki/engine/Profile" (133 : Nat) ({ cls := "java/util/Arrays", name := "copyOf", desc := "([DI)[D" } : Jvm.MethodName)) ∈ tables_1 := List.mem_of_getElem? (i := 97) rfl
theorem own_pd2 : parseMethodDescriptor "([DI)[D" = some ⟨[(.array .double), .int], some (.array .double)⟩ := by decide +kernel
theorem own_t98 : (Jvm.Cond.static ({ cls := "java/util/Arrays", name := "copyOf", desc := "([DI)[D" } : Jvm.MethodName)) ∈ tables_1 := List.mem_of_getElem? (i := 98) rfl
theorem own_t99 : (Jvm.Cond.initialized "java/util/Arrays") ∈ tables_1 := List.mem_of_getElem? (i := 99) rfl
theorem own_t100 : (Jvm.Cond.code ({ cls := "java/util/Arrays", name := "copyOf", desc := "([DI)[D" } : Jvm.MethodName) jdk_65_method_127_code (3 : Nat) (Option.some (Jvm.ClassFile.FieldType.array Jvm.ClassFile.FieldType.double))) ∈ tables_1 := List.mem_of_getElem? (i := 100) rfl
theorem own_d11_31 : decode prog_20_method_17_code 31 = .ok (.putfield 28, 3) := by decide +kernel
theorem own_d11_34 : decode prog_20_method_17_code 34 = .ok (.aload_n 0, 1) := by decide +kernel
theorem own_d11_35 : decode prog_20_method_17_code 35 = .ok (.getfield 28, 3) := by decide +kernel
theorem own_d11_38 : decode prog_20_method_17_code 38 = .ok (.aload_n 0, 1) := by decide +kernel
theorem own_d11_39 : decode prog_20_method_17_code 39 = .ok (.dup, 1) := by decide +kernel
theorem own_d11_40 : decode prog_20_method_17_code 40 = .ok (.getfield 124, 3) := by decide +kernel
theorem own_d11_43 : decode prog_20_method_17_code 43 = .ok (.dup_x1, 1) := by decide +kernel
theorem own_d11_44 : decode prog_20_method_17_code 44 = .ok (.iconst 1, 1) := by decide +kernel
theorem own_d11_45 : decode prog_20_method_17_code 45 = .ok (.iadd, 1) := by decide +kernel
theorem own_d11_46 : decode prog_20_method_17_code 46 = .ok (.putfield 124, 3) := by decide +kernel
theorem own_d11_49 : decode prog_20_method_17_code 49 = .ok (.dload_n 1, 1) := by decide +kernel
theorem own_d11_50 : decode prog_20_method_17_code 50 = .ok (.dastore, 1) := by decide +kernel
theorem own_d11_51 : decode prog_20_method_17_code 51 = .ok (.return_, 1) := by decide +kernel
def own_Q11_0 (Z : State) (r0 : Addr) (d1 : UInt64) (q_t : UInt64) (q_a : Addr) (k_a : ClassId) (h0 : Heap) (n0 : Nat) (v : Option Value) (h : Heap) (L : List Loc) : Prop := ∃ b : Addr, ∃ kb : ClassId, v = none ∧ Fr n0 L ∧ Keep h0 h [r0] ∧ h0.size ≤ b ∧ Exa Z h r0 "com/example/nunobiki/nunobiki/engine/Profile" ∧ Fld Z h r0 "com/example/nunobiki/nunobiki/engine/Profile" "observed" "I" (.int (1 : Int32)) ∧ Fld Z h r0 "com/example/nunobiki/nunobiki/engine/Profile" "observedScores" "[D" (.ref b) ∧ Fld Z h r0 "com/example/nunobiki/nunobiki/engine/Profile" "unitThreshold" "D" (.double q_t) ∧ Arv Z h b kb .double (8 : Int32) [(.double d1), (.double (0 : UInt64)), (.double (0 : UInt64)), (.double (0 : UInt64)), (.double (0 : UInt64)), (.double (0 : UInt64)), (.double (0 : UInt64)), (.double (0 : UInt64))] (.double (0 : UInt64)) ∧ Exa Z h b "[D"
abbrev own_R11_0 : Room := { frames := 2, cells := 1, slots := 8, locals := 33 }
theorem own_ef11_0 (m : MethodId) (z0 : Addr) (z1 : UInt64) : entryFrame m #[(.ref z0), (.double z1)] 3 = mkF m 0 #[.val (.ref z0), .val (.double z1), .second] [] := by first | (simp [entryFrame, mkF, argsToLocals, Value.category]; done) | rfl
set_option maxRecDepth 65536 in
set_option maxHeartbeats 40000000 in
theorem rm11_0 (l : Launch) (Z : State) (a0 : Array Value) (hw : ∀ d ∈ tables_1, d.before a0 Z = true) (ws : List Jvm.Cond) (r0 : Addr) (d1 : UInt64) (q_t : UInt64) (q_a : Addr) (k_a : ClassId) (h0 : Heap) (n0 : Nat) (Z0 : n0 ≤ h0.size) (g_r0 : n0 ≤ r0) (E_r0 : Exa Z h0 r0 "com/example/nunobiki/nunobiki/engine/Profile") (F_o : Fld Z h0 r0 "com/example/nunobiki/nunobiki/engine/Profile" "observed" "I" (.int (0 : Int32))) (F_s : Fld Z h0 r0 "com/example/nunobiki/nunobiki/engine/Profile" "observedScores" "[D" (.ref q_a)) (F_t : Fld Z h0 r0 "com/example/nunobiki/nunobiki/engine/Profile" "unitThreshold" "D" (.double q_t)) (V_a : Arv Z h0 q_a k_a .double (0 : Int32) [] (.double (0 : UInt64))) (E_a : Exa Z h0 q_a "[D") (ne_r0_q_a : r0 ≠ q_a) : own_Met l Z (⟨"com/example/nunobiki/nunobiki/engine/Profile", "observe", "(D)V"⟩ : MethodName) prog_20_method_17_code 3 none ws own_R11_0 #[(.ref r0), (.double d1)] h0 (own_Q11_0 Z r0 d1 q_t q_a k_a h0 n0) := by
  refine own_met (plainFor_of_name own_pn3) ?_
  intro p e s m below meth c s₁ hx hby hml hown hnm hret hlk hZ e0 X0
  have N0 := Fr.nil n0
  have hml : c.maxLocals = 3 := hml
  have hown : s.vm.findClass "com/example/nunobiki/nunobiki/engine/Profile" = some m.cls := hown
  have hret : meth.sig.returnType = none := hret
  have hby : c.code = prog_20_method_17_code := hby
  have hnm : meth.name = "observe" := hnm
  rw [own_ef11_0]
  show own_Goes p e below _ (s₁.setTop (mkF m 0 #[.val (.ref r0), .val (.double d1), .second] []))
  refine own_go (fun t k => XS.aloadN X0.here hx rfl (hb hby own_d11_0) rfl rfl k) ?_
  show own_Goes p e below _ (s₁.setTop (mkF m 1 #[.val (.ref r0), .val (.double d1), .second] [(.ref r0)]))
  obtain ⟨T75, X75, e75, st75⟩ := getF X0 hx hZ hown (host := "") (Or.inl (hw _ own_t91)) Via.refl e0 F_o (g := (mkF m 1 #[.val (.ref r0), .val (.double d1), .second] [(.ref r0)])) rfl rfl (hb hby own_d11_1)
  refine own_go st75 ?_
  show own_Goes p e below _ (T75.setTop (mkF m 4 #[.val (.ref r0), .val (.double d1), .second] [(.int (0 : Int32))]))
  refine own_go (fun t k => XS.aloadN X75.here hx rfl (hb hby own_d11_4) rfl rfl k) ?_
  show own_Goes p e below _ (T75.setTop (mkF m 5 #[.val (.ref r0), .val (.double d1), .second] [(.ref r0), (.int (0 : Int32))]))
  obtain ⟨T76, X76, e76, st76⟩ := getF X75 hx hZ hown (host := "") (Or.inl (hw _ own_t71)) Via.refl e75 F_s (g := (mkF m 5 #[.val (.ref r0), .val (.double d1), .second] [(.ref r0), (.int (0 : Int32))])) rfl rfl (hb hby own_d11_5)
  refine own_go st76 ?_
  show own_Goes p e below _ (T76.setTop (mkF m 8 #[.val (.ref r0), .val (.double d1), .second] [(.ref q_a), (.int (0 : Int32))]))
  obtain ⟨cl77, Ar77, qa77, sa77, na77, ha77, ga77⟩ := id V_a
  refine own_go (fun t k => X76.arraylength hx (by rw [e76]; exact Ar77.1) (State.isArrayOf_alike hZ.alike Ar77.2.1) (g := (mkF m 8 #[.val (.ref r0), .val (.double d1), .second] [(.ref q_a), (.int (0 : Int32))])) rfl rfl (hb hby own_d11_8) t k) ?_
  rw [len_of sa77 (by decide)]
  show own_Goes p e below _ (T76.setTop (mkF m 9 #[.val (.ref r0), .val (.double d1), .second] [(.int (0 : Int32)), (.int (0 : Int32))]))
  have hd78 : (0 : Int32) = (0 : Int32) := (by decide)
  refine own_go (fun t k => XS.icmpNo X76.here hx rfl (hb hby own_d11_9) rfl (teq hd78).2 k) ?_
  show own_Goes p e below _ (T76.setTop (mkF m 12 #[.val (.ref r0), .val (.double d1), .second] []))
  refine own_go (fun t k => XS.aloadN X76.here hx rfl (hb hby own_d11_12) rfl rfl k) ?_
  show own_Goes p e below _ (T76.setTop (mkF m 13 #[.val (.ref r0), .val (.double d1), .second] [(.ref r0)]))
  refine own_go (fun t k => XS.aloadN X76.here hx rfl (hb hby own_d11_13) rfl rfl k) ?_
  show own_Goes p e below _ (T76.setTop (mkF m 14 #[.val (.ref r0), .val (.double d1), .second] [(.ref r0), (.ref r0)]))
  obtain ⟨T79, X79, e79, st79⟩ := getF X76 hx hZ hown (host := "") (Or.inl (hw _ own_t71)) Via.refl e76 F_s (g := (mkF m 14 #[.val (.ref r0), .val (.double d1), .second] [(.ref r0), (.ref r0)])) rfl rfl (hb hby own_d11_14)
  refine own_go st79 ?_
  show own_Goes p e below _ (T79.setTop (mkF m 17 #[.val (.ref r0), .val (.double d1), .second] [(.ref q_a), (.ref r0)]))
  refine own_go (fun t k => XS.bipush X79.here hx rfl (hb hby own_d11_17) k) ?_
  show own_Goes p e below _ (T79.setTop (mkF m 19 #[.val (.ref r0), .val (.double d1), .second] [(.int (8 : Int32)), (.ref q_a), (.ref r0)]))
  refine own_go (fun t k => XS.iconst X79.here hx rfl (hb hby own_d11_19) k) ?_
  show own_Goes p e below _ (T79.setTop (mkF m 20 #[.val (.ref r0), .val (.double d1), .second] [(.int (2 : Int32)), (.int (8 : Int32)), (.ref q_a), (.ref r0)]))
  refine own_go (fun t k => XS.aloadN X79.here hx rfl (hb hby own_d11_20) rfl rfl k) ?_
  show own_Goes p e below _ (T79.setTop (mkF m 21 #[.val (.ref r0), .val (.double d1), .second] [(.ref r0), (.int (2 : Int32)), (.int (8 : Int32)), (.ref q_a), (.ref r0)]))
  obtain ⟨T80, X80, e80, st80⟩ := getF X79 hx hZ hown (host := "") (Or.inl (hw _ own_t91)) Via.refl e79 F_o (g := (mkF m 21 #[.val (.ref r0), .val (.double d1), .second] [(.ref r0), (.int (2 : Int32)), (.int (8 : Int32)), (.ref q_a), (.ref r0)])) rfl rfl (hb hby own_d11_21)
  refine own_go st80 ?_
  show own_Goes p e below _ (T80.setTop (mkF m 24 #[.val (.ref r0), .val (.double d1), .second] [(.int (0 : Int32)), (.int (2 : Int32)), (.int (8 : Int32)), (.ref q_a), (.ref r0)]))
  refine own_go (fun t k => XS.imul X80.here hx rfl (hb hby own_d11_24) rfl k) ?_
  show own_Goes p e below _ (T80.setTop (mkF m 25 #[.val (.ref r0), .val (.double d1), .second] [(.int ((2 : Int32) * (0 : Int32))), (.int (8 : Int32)), (.ref q_a), (.ref r0)]))
  rw [show ((2 : Int32) * (0 : Int32)) = (0 : Int32) from by decide]
  show own_Goes p e below _ (T80.setTop (mkF m 25 #[.val (.ref r0), .val (.double d1), .second] [(.int (0 : Int32)), (.int (8 : Int32)), (.ref q_a), (.ref r0)]))
  obtain ⟨_, T81, L81, X81, ⟨rfl, N81q, e81⟩, st81⟩ := own_callS X80 hx hZ hown (hw _ own_t93) (hw _ own_t94) (hw _ own_t95) (hw _ own_t96) (by decide) (as := [(.int (8 : Int32)), (.int (0 : Int32))]) (rm12 l Z a0 hw []  h0 n0) e80 own_pd1 rfl (pc := 25) (Ls := #[.val (.ref r0), .val (.double d1), .second]) (rest := [(.ref q_a), (.ref r0)]) (W := 2) (by rw [hml]; rfl) (Nat.le_of_eq rfl) (by decide) (by decide) (hb hby own_d11_25) (by decide) (by decide)
  have N81 := Fr.app N0 N81q
  refine own_go st81 ?_
  show own_Goes p e below _ (T81.setTop (mkF m 28 #[.val (.ref r0), .val (.double d1), .second] [(.int (8 : Int32)), (.ref q_a), (.ref r0)]))
  obtain ⟨_, T82, L82, X82, ⟨b82, kb82, rfl, N82q, K82, lt_b82, G82_0, G82_1⟩, st82⟩ := own_callS X81 hx hZ hown (hw _ own_t97) (hw _ own_t98) (hw _ own_t99) (hw _ own_t100) (by decide) (as := [(.ref q_a), (.int (8 : Int32))]) (rm13_8 l Z a0 hw [] q_a k_a h0 n0 Z0 V_a E_a) e81 own_pd2 rfl (pc := 28) (Ls := #[.val (.ref r0), .val (.double d1), .second]) (rest := [(.ref r0)]) (W := 1) (by rw [hml]; rfl) (Nat.le_of_eq rfl) (by decide) (by decide) (hb hby own_d11_28) (by decide) (by decide)
  have N82 := Fr.app N81 N82q
  have ne_r0_b82 : r0 ≠ b82 := Nat.ne_of_lt (Nat.lt_of_lt_of_le E_r0.lt lt_b82)
  have ne_q_a_b82 : q_a ≠ b82 := Nat.ne_of_lt (Nat.lt_of_lt_of_le V_a.lt lt_b82)
  have g_b82 : n0 ≤ b82 := Nat.le_trans Z0 lt_b82
  have sz_b82 : h0.size ≤ b82 := Nat.le_trans (Keep.refl h0 ([r0] : List Addr)).1 lt_b82
  refine own_go st82 ?_
  show own_Goes p e below _ (T82.setTop (mkF m 31 #[.val (.ref r0), .val (.double d1), .second] [(.ref b82), (.ref r0)]))
  have ff84 : Fld Z T82.heap r0 "com/example/nunobiki/nunobiki/engine/Profile" "observedScores" "[D" (.ref q_a) := (F_s.keep K82 List.not_mem_nil)
  obtain ⟨T83, h83, X83, e83, W83, st83⟩ := putF X82 hx hZ hown (host := "") (Or.inl (hw _ own_t71)) Via.refl rfl ff84 (E_r0.keep K82) (Or.inl (hw _ own_t72)) (hw _ own_t2) (ty := (.array .double)) (by decide) rfl rfl (g := (mkF m 31 #[.val (.ref r0), .val (.double d1), .second] [(.ref b82), (.ref r0)])) rfl rfl (hb hby own_d11_31)
  have N83 := Fr.snoc X83 N82 g_r0
  have Fw83 := ff84.same W83
  refine own_go st83 ?_
  show own_Goes p e below _ (T83.setTop (mkF m 34 #[.val (.ref r0), .val (.double d1), .second] []))
  refine own_go (fun t k => XS.aloadN X83.here hx rfl (hb hby own_d11_34) rfl rfl k) ?_
  show own_Goes p e below _ (T83.setTop (mkF m 35 #[.val (.ref r0), .val (.double d1), .second] [(.ref r0)]))
  obtain ⟨T85, X85, e85, st85⟩ := getF X83 hx hZ hown (host := "") (Or.inl (hw _ own_t71)) Via.refl e83 Fw83 (g := (mkF m 35 #[.val (.ref r0), .val (.double d1), .second] [(.ref r0)])) rfl rfl (hb hby own_d11_35)
  refine own_go st85 ?_
  show own_Goes p e below _ (T85.setTop (mkF m 38 #[.val (.ref r0), .val (.double d1), .second] [(.ref b82)]))
  refine own_go (fun t k => XS.aloadN X85.here hx rfl (hb hby own_d11_38) rfl rfl k) ?_
  show own_Goes p e below _ (T85.setTop (mkF m 39 #[.val (.ref r0), .val (.double d1), .second] [(.ref r0), (.ref b82)]))
  refine own_go (fun t k => XS.dup X85.here hx rfl (hb hby own_d11_39) rfl rfl k) ?_
  show own_Goes p e below _ (T85.setTop (mkF m 40 #[.val (.ref r0), .val (.double d1), .second] [(.ref r0), (.ref r0), (.ref b82)]))
  have ff87 : Fld Z h83 r0 "com/example/nunobiki/nunobiki/engine/Profile" "observed" "I" (.int (0 : Int32)) := ((F_o.keep K82 List.not_mem_nil).other W83 (Or.inr (slot_ne (Or.inl (hw _ own_t92)) (Or.inl (hw _ own_t72)) (by decide) (t := .int) (t' := (.array .double)) (by decide) (by decide))))
  obtain ⟨T86, X86, e86, st86⟩ := getF X85 hx hZ hown (host := "") (Or.inl (hw _ own_t91)) Via.refl e85 ff87 (g := (mkF m 40 #[.val (.ref r0), .val (.double d1), .second] [(.ref r0), (.ref r0), (.ref b82)])) rfl rfl (hb hby own_d11_40)
  refine own_go st86 ?_
  show own_Goes p e below _ (T86.setTop (mkF m 43 #[.val (.ref r0), .val (.double d1), .second] [(.int (0 : Int32)), (.ref r0), (.ref b82)]))
  refine own_go (fun t k => XS.dupX1 X86.here hx rfl (hb hby own_d11_43) rfl rfl rfl k) ?_
  show own_Goes p e below _ (T86.setTop (mkF m 44 #[.val (.ref r0), .val (.double d1), .second] [(.int (0 : Int32)), (.ref r0), (.int (0 : Int32)), (.ref b82)]))
  refine own_go (fun t k => XS.iconst X86.here hx rfl (hb hby own_d11_44) k) ?_
  show own_Goes p e below _ (T86.setTop (mkF m 45 #[.val (.ref r0), .val (.double d1), .second] [(.int (1 : Int32)), (.int (0 : Int32)), (.ref r0), (.int (0 : Int32)), (.ref b82)]))
  refine own_go (fun t k => XS.iadd X86.here hx rfl (hb hby own_d11_45) rfl k) ?_
  show own_Goes p e below _ (T86.setTop (mkF m 46 #[.val (.ref r0), .val (.double d1), .second] [(.int ((0 : Int32) + (1 : Int32))), (.ref r0), (.int (0 : Int32)), (.ref b82)]))
  rw [show ((0 : Int32) + (1 : Int32)) = (1 : Int32) from by decide]
  show own_Goes p e below _ (T86.setTop (mkF m 46 #[.val (.ref r0), .val (.double d1), .second] [(.int (1 : Int32)), (.ref r0), (.int (0 : Int32)), (.ref b82)]))
  obtain ⟨T88, h88, X88, e88, W88, st88⟩ := putF X86 hx hZ hown (host := "") (Or.inl (hw _ own_t91)) Via.refl e86 ff87 ((E_r0.keep K82).wr W83) (Or.inl (hw _ own_t92)) (hw _ own_t2) (ty := .int) (by decide) rfl rfl (g := (mkF m 46 #[.val (.ref r0), .val (.double d1), .second] [(.int (1 : Int32)), (.ref r0), (.int (0 : Int32)), (.ref b82)])) rfl rfl (hb hby own_d11_46)
  have N88 := Fr.snoc X88 N83 g_r0
  have Fw88 := ff87.same W88
  refine own_go st88 ?_
  show own_Goes p e below _ (T88.setTop (mkF m 49 #[.val (.ref r0), .val (.double d1), .second] [(.int (0 : Int32)), (.ref b82)]))
  refine own_go (fun t k => XS.dloadN X88.here hx rfl (hb hby own_d11_49) rfl k) ?_
  show own_Goes p e below _ (T88.setTop (mkF m 50 #[.val (.ref r0), .val (.double d1), .second] [(.double d1), (.int (0 : Int32)), (.ref b82)]))
  have ff90 : Arv Z h88 b82 kb82 .double (8 : Int32) [(.double (0 : UInt64)), (.double (0 : UInt64)), (.double (0 : UInt64)), (.double (0 : UInt64)), (.double (0 : UInt64)), (.double (0 : UInt64)), (.double (0 : UInt64)), (.double (0 : UInt64))] (.double (0 : UInt64)) := ((G82_0.other W83 (Ne.symm ne_r0_b82)).other W88 (Ne.symm ne_r0_b82))
  obtain ⟨cl89, Ar89, qa89, sa89, na89, ha89, ga89⟩ := id ff90
  obtain ⟨T89, h89, X89, e89, W89, st89⟩ := stD X88 hx hZ e88 Ar89 (j := (0 : Int32)) (inb_of sa89 ⟨by decide, by decide⟩) (g := (mkF m 50 #[.val (.ref r0), .val (.double d1), .second] [(.double d1), (.int (0 : Int32)), (.ref b82)])) rfl rfl (hb hby own_d11_50)
  have V89 : Arv Z h89 b82 kb82 .double (8 : Int32) [(.double d1), (.double (0 : UInt64)), (.double (0 : UInt64)), (.double (0 : UInt64)), (.double (0 : UInt64)), (.double (0 : UInt64)), (.double (0 : UInt64)), (.double (0 : UInt64))] (.double (0 : UInt64)) := Arv.set Ar89 qa89 sa89 na89 ha89 ga89 rfl W89 0 rfl (Nat.le_of_ble_eq_true rfl)
  have N89 := Fr.snoc X89 N88 g_b82
  refine own_go st89 ?_
  show own_Goes p e below _ (T89.setTop (mkF m 51 #[.val (.ref r0), .val (.double d1), .second] []))
  have ff91 : Exa Z h89 r0 "com/example/nunobiki/nunobiki/engine/Profile" := ((((E_r0.keep K82).wr W83).wr W88).wr W89)
  have ff92 : Fld Z h89 r0 "com/example/nunobiki/nunobiki/engine/Profile" "observed" "I" (.int (1 : Int32)) := (Fw88.other W89 (Or.inl ne_r0_b82))
  have ff93 : Fld Z h89 r0 "com/example/nunobiki/nunobiki/engine/Profile" "observedScores" "[D" (.ref b82) := ((Fw83.other W88 (Or.inr (slot_ne (Or.inl (hw _ own_t72)) (Or.inl (hw _ own_t92)) (by decide) (t := (.array .double)) (t' := .int) (by decide) (by decide)))).other W89 (Or.inl ne_r0_b82))
  have ff94 : Fld Z h89 r0 "com/example/nunobiki/nunobiki/engine/Profile" "unitThreshold" "D" (.double q_t) := ((((F_t.keep K82 List.not_mem_nil).other W83 (Or.inr (slot_ne (Or.inl (hw _ own_t83)) (Or.inl (hw _ own_t72)) (by decide) (t := .double) (t' := (.array .double)) (by decide) (by decide)))).other W88 (Or.inr (slot_ne (Or.inl (hw _ own_t83)) (Or.inl (hw _ own_t92)) (by decide) (t := .double) (t' := .int) (by decide) (by decide)))).other W89 (Or.inl ne_r0_b82))
  have ff95 : Exa Z h89 b82 "[D" := (((G82_1.wr W83).wr W88).wr W89)
  exact own_ret0 X89 hx hlk hret (hb hby own_d11_51) (by decide) (by decide) (by show own_Q11_0 Z r0 d1 q_t q_a k_a h0 n0 _ T89.heap _; rw [e89]; exact ⟨_, _, rfl, N89, (((((Keep.refl h0 ([r0] : List Addr)).trans K82 (fun x hx => nomatch hx)).wr W83 (Or.inl (List.mem_of_getElem? (i := 0) rfl))).wr W88 (Or.inl (List.mem_of_getElem? (i := 0) rfl))).wr W89 (Or.inr sz_b82)), sz_b82, ff91, ff92, ff93, ff94, V89, ff95⟩)
def own_Q11_1 (Z : State) (r0 : Addr) (d1 : UInt64) (q_t : UInt64) (q_a : Addr) (k_a : ClassId) (u0 : UInt64) (h0 : Heap) (n0 : Nat) (v : Option Value) (h : Heap) (L : List Loc) : Prop := v = none ∧ Fr n0 L ∧ Keep h0 h [r0, q_a] ∧ Exa Z h r0 "com/example/nunobiki/nunobiki/engine/Profile" ∧ Fld Z h r0 "com/example/nunobiki/nunobiki/engine/Profile" "observed" "I" (.int (2 : Int32)) ∧ Fld Z h r0 "com/example/nunobiki/nunobiki/engine/Profile" "observedScores" "[D" (.ref q_a) ∧ Fld Z h r0 "com/example/nunobiki/nunobiki/engine/Profile" "unitThreshold" "D" (.double q_t) ∧ Arv Z h q_a k_a .double (8 : Int32) [(.double u0), (.double d1), (.double (0 : UInt64)), (.double (0 : UInt64)), (.double (0 : UInt64)), (.double (0 : UInt64)), (.double (0 : UInt64)), (.double (0 : UInt64))] (.double (0 : UInt64)) ∧ Exa Z h q_a "[D"
abbrev own_R11_1 : Room := { frames := 0, cells := 0, slots := 0, locals := 0 }
theorem own_ef11_1 (m : MethodId) (z0 : Addr) (z1 : UInt64) : entryFrame m #[(.ref z0), (.double z1)] 3 = mkF m 0 #[.val (.ref z0), .val (.double z1), .second] [] := by first | (simp [entryFrame, mkF, argsToLocals, Value.category]; done) | rfl
set_option maxRecDepth 65536 in
set_option maxHeartbeats 40000000 in
theorem rm11_1 (l : Launch) (Z : State) (a0 : Array Value) (hw : ∀ d ∈ tables_1, d.before a0 Z = true) (ws : List Jvm.Cond) (r0 : Addr) (d1 : UInt64) (q_t : UInt64) (q_a : Addr) (k_a : ClassId) (u0 : UInt64) (h0 : Heap) (n0 : Nat) (Z0 : n0 ≤ h0.size) (g_r0 : n0 ≤ r0) (g_q_a : n0 ≤ q_a) (E_r0 : Exa Z h0 r0 "com/example/nunobiki/nunobiki/engine/Profile") (F_o : Fld Z h0 r0 "com/example/nunobiki/nunobiki/engine/Profile" "observed" "I" (.int (1 : Int32))) (F_s : Fld Z h0 r0 "com/example/nunobiki/nunobiki/engine/Profile" "observedScores" "[D" (.ref q_a)) (F_t : Fld Z h0 r0 "com/example/nunobiki/nunobiki/engine/Profile" "unitThreshold" "D" (.double q_t)) (V_a : Arv Z h0 q_a k_a .double (8 : Int32) [(.double u0), (.double (0 : UInt64)), (.double (0 : UInt64)), (.double (0 : UInt64)), (.double (0 : UInt64)), (.double (0 : UInt64)), (.double (0 : UInt64)), (.double (0 : UInt64))] (.double (0 : UInt64))) (E_a : Exa Z h0 q_a "[D") (ne_r0_q_a : r0 ≠ q_a) : own_Met l Z (⟨"com/example/nunobiki/nunobiki/engine/Profile", "observe", "(D)V"⟩ : MethodName) prog_20_method_17_code 3 none ws own_R11_1 #[(.ref r0), (.double d1)] h0 (own_Q11_1 Z r0 d1 q_t q_a k_a u0 h0 n0) := by
  refine own_met (plainFor_of_name own_pn3) ?_
  intro p e s m below meth c s₁ hx hby hml hown hnm hret hlk hZ e0 X0
  have N0 := Fr.nil n0
  have hml : c.maxLocals = 3 := hml
  have hown : s.vm.findClass "com/example/nunobiki/nunobiki/engine/Profile" = some m.cls := hown
  have hret : meth.sig.returnType = none := hret
  have hby : c.code = prog_20_method_17_code := hby
  have hnm : meth.name = "observe" := hnm
  rw [own_ef11_1]
  show own_Goes p e below _ (s₁.setTop (mkF m 0 #[.val (.ref r0), .val (.double d1), .second] []))
  refine own_go (fun t k => XS.aloadN X0.here hx rfl (hb hby own_d11_0) rfl rfl k) ?_
  show own_Goes p e below _ (s₁.setTop (mkF m 1 #[.val (.ref r0), .val (.double d1), .second] [(.ref r0)]))
  obtain ⟨T96, X96, e96, st96⟩ := getF X0 hx hZ hown (host := "") (Or.inl (hw _ own_t91)) Via.refl e0 F_o (g := (mkF m 1 #[.val (.ref r0), .val (.double d1), .second] [(.ref r0)])) rfl rfl (hb hby own_d11_1)
  refine own_go st96 ?_
  show own_Goes p e below _ (T96.setTop (mkF m 4 #[.val (.ref r0), .val (.double d1), .second] [(.int (1 : Int32))]))
  refine own_go (fun t k => XS.aloadN X96.here hx rfl (hb hby own_d11_4) rfl rfl k) ?_
  show own_Goes p e below _ (T96.setTop (mkF m 5 #[.val (.ref r0), .val (.double d1), .second] [(.ref r0), (.int (1 : Int32))]))
  obtain ⟨T97, X97, e97, st97⟩ := getF X96 hx hZ hown (host := "") (Or.inl (hw _ own_t71)) Via.refl e96 F_s (g := (mkF m 5 #[.val (.ref r0), .val (.double d1), .second] [(.ref r0), (.int (1 : Int32))])) rfl rfl (hb hby own_d11_5)
  refine own_go st97 ?_
  show own_Goes p e below _ (T97.setTop (mkF m 8 #[.val (.ref r0), .val (.double d1), .second] [(.ref q_a), (.int (1 : Int32))]))
  obtain ⟨cl98, Ar98, qa98, sa98, na98, ha98, ga98⟩ := id V_a
  refine own_go (fun t k => X97.arraylength hx (by rw [e97]; exact Ar98.1) (State.isArrayOf_alike hZ.alike Ar98.2.1) (g := (mkF m 8 #[.val (.ref r0), .val (.double d1), .second] [(.ref q_a), (.int (1 : Int32))])) rfl rfl (hb hby own_d11_8) t k) ?_
  rw [len_of sa98 (by decide)]
  show own_Goes p e below _ (T97.setTop (mkF m 9 #[.val (.ref r0), .val (.double d1), .second] [(.int (8 : Int32)), (.int (1 : Int32))]))
  have hd99 : ¬ ((1 : Int32) = (8 : Int32)) := (by decide)
  refine own_go (fun t k => XS.icmpYes X97.here hx rfl (pc0 := 9) (pc' := 34) rfl (hb hby own_d11_9) rfl (feq hd99).2 (by decide) (by decide) k) ?_
  show own_Goes p e below _ (T97.setTop (mkF m 34 #[.val (.ref r0), .val (.double d1), .second] []))
  refine own_go (fun t k => XS.aloadN X97.here hx rfl (hb hby own_d11_34) rfl rfl k) ?_
  show own_Goes p e below _ (T97.setTop (mkF m 35 #[.val (.ref r0), .val (.double d1), .second] [(.ref r0)]))
  obtain ⟨T100, X100, e100, st100⟩ := getF X97 hx hZ hown (host := "") (Or.inl (hw _ own_t71)) Via.refl e97 F_s (g := (mkF m 35 #[.val (.ref r0), .val (.double d1), .second] [(.ref r0)])) rfl rfl (hb hby own_d11_35)
  refine own_go st100 ?_
  show own_Goes p e below _ (T100.setTop (mkF m 38 #[.val (.ref r0), .val (.double d1), .second] [(.ref q_a)]))
  refine own_go (fun t k => XS.aloadN X100.here hx rfl (hb hby own_d11_38) rfl rfl k) ?_
  show own_Goes p e below _ (T100.setTop (mkF m 39 #[.val (.ref r0), .val (.double d1), .second] [(.ref r0), (.ref q_a)]))
  refine own_go (fun t k => XS.dup X100.here hx rfl (hb hby own_d11_39) rfl rfl k) ?_
  show own_Goes p e below _ (T100.setTop (mkF m 40 #[.val (.ref r0), .val (.double d1), .second] [(.ref r0), (.ref r0), (.ref q_a)]))
  obtain ⟨T101, X101, e101, st101⟩ := getF X100 hx hZ hown (host := "") (Or.inl (hw _ own_t91)) Via.refl e100 F_o (g := (mkF m 40 #[.val (.ref r0), .val (.double d1), .second] [(.ref r0), (.ref r0), (.ref q_a)])) rfl rfl (hb hby own_d11_40)
  refine own_go st101 ?_
  show own_Goes p e below _ (T101.setTop (mkF m 43 #[.val (.ref r0), .val (.double d1), .second] [(.int (1 : Int32)), (.ref r0), (.ref q_a)]))
  refine own_go (fun t k => XS.dupX1 X101.here hx rfl (hb hby own_d11_43) rfl rfl rfl k) ?_
  show own_Goes p e below _ (T101.setTop (mkF m 44 #[.val (.ref r0), .val (.double d1), .second] [(.int (1 : Int32)), (.ref r0), (.int (1 : Int32)), (.ref q_a)]))
  refine own_go (fun t k => XS.iconst X101.here hx rfl (hb hby own_d11_44) k) ?_
  show own_Goes p e below _ (T101.setTop (mkF m 45 #[.val (.ref r0), .val (.double d1), .second] [(.int (1 : Int32)), (.int (1 : Int32)), (.ref r0), (.int (1 : Int32)), (.ref q_a)]))
  refine own_go (fun t k => XS.iadd X101.here hx rfl (hb hby own_d11_45) rfl k) ?_
  show own_Goes p e below _ (T101.setTop (mkF m 46 #[.val (.ref r0), .val (.double d1), .second] [(.int ((1 : Int32) + (1 : Int32))), (.ref r0), (.int (1 : Int32)), (.ref q_a)]))
  rw [show ((1 : Int32) + (1 : Int32)) = (2 : Int32) from by decide]
  show own_Goes p e below _ (T101.setTop (mkF m 46 #[.val (.ref r0), .val (.double d1), .second] [(.int (2 : Int32)), (.ref r0), (.int (1 : Int32)), (.ref q_a)]))
  obtain ⟨T102, h102, X102, e102, W102, st102⟩ := putF X101 hx hZ hown (host := "") (Or.inl (hw _ own_t91)) Via.refl e101 F_o E_r0 (Or.inl (hw _ own_t92)) (hw _ own_t2) (ty := .int) (by decide) rfl rfl (g := (mkF m 46 #[.val (.ref r0), .val (.double d1), .second] [(.int (2 : Int32)), (.ref r0), (.int (1 : Int32)), (.ref q_a)])) rfl rfl (hb hby own_d11_46)
  have N102 := Fr.snoc X102 N0 g_r0
  have Fw102 := F_o.same W102
  refine own_go st102 ?_
  show own_Goes p e below _ (T102.setTop (mkF m 49 #[.val (.ref r0), .val (.double d1), .second] [(.int (1 : Int32)), (.ref q_a)]))
  refine own_go (fun t k => XS.dloadN X102.here hx rfl (hb hby own_d11_49) rfl k) ?_
  show own_Goes p e below _ (T102.setTop (mkF m 50 #[.val (.ref r0), .val (.double d1), .second] [(.double d1), (.int (1 : Int32)), (.ref q_a)]))
  have ff104 : Arv Z h102 q_a k_a .double (8 : Int32) [(.double u0), (.double (0 : UInt64)), (.double (0 : UInt64)), (.double (0 : UInt64)), (.double (0 : UInt64)), (.double (0 : UInt64)), (.double (0 : UInt64)), (.double (0 : UInt64))] (.double (0 : UInt64)) := (V_a.other W102 (Ne.symm ne_r0_q_a))
  obtain ⟨cl103, Ar103, qa103, sa103, na103, ha103, ga103⟩ := id ff104
  obtain ⟨T103, h103, X103, e103, W103, st103⟩ := stD X102 hx hZ e102 Ar103 (j := (1 : Int32)) (inb_of sa103 ⟨by decide, by decide⟩) (g := (mkF m 50 #[.val (.ref r0), .val (.double d1), .second] [(.double d1), (.int (1 : Int32)), (.ref q_a)])) rfl rfl (hb hby own_d11_50)
  have V103 : Arv Z h103 q_a k_a .double (8 : Int32) [(.double u0), (.double d1), (.double (0 : UInt64)), (.double (0 : UInt64)), (.double (0 : UInt64)), (.double (0 : UInt64)), (.double (0 : UInt64)), (.double (0 : UInt64))] (.double (0 : UInt64)) := Arv.set Ar103 qa103 sa103 na103 ha103 ga103 rfl W103 1 rfl (Nat.le_of_ble_eq_true rfl)
  have N103 := Fr.snoc X103 N102 g_q_a
  refine own_go st103 ?_
  show own_Goes p e below _ (T103.setTop (mkF m 51 #[.val (.ref r0), .val (.double d1), .second] []))
  have ff105 : Fld Z h103 r0 "com/example/nunobiki/nunobiki/engine/Profile" "observed" "I" (.int (2 : Int32)) := (Fw102.other W103 (Or.inl ne_r0_q_a))
  have ff106 : Fld Z h103 r0 "com/example/nunobiki/nunobiki/engine/Profile" "observedScores" "[D" (.ref q_a) := ((F_s.other W102 (Or.inr (slot_ne (Or.inl (hw _ own_t72)) (Or.inl (hw _ own_t92)) (by decide) (t := (.array .double)) (t' := .int) (by decide) (by decide)))).other W103 (Or.inl ne_r0_q_a))
  have ff107 : Fld Z h103 r0 "com/example/nunobiki/nunobiki/engine/Profile" "unitThreshold" "D" (.double q_t) := ((F_t.other W102 (Or.inr (slot_ne (Or.inl (hw _ own_t83)) (Or.inl (hw _ own_t92)) (by decide) (t := .double) (t' := .int) (by decide) (by decide)))).other W103 (Or.inl ne_r0_q_a))
  exact own_ret0 X103 hx hlk hret (hb hby own_d11_51) (by decide) (by decide) (by show own_Q11_1 Z r0 d1 q_t q_a k_a u0 h0 n0 _ T103.heap _; rw [e103]; exact ⟨rfl, N103, (((Keep.refl h0 ([r0, q_a] : List Addr)).wr W102 (Or.inl (List.mem_of_getElem? (i := 0) rfl))).wr W103 (Or.inl (List.mem_of_getElem? (i := 1) rfl))), ((E_r0.wr W102).wr W103), ff105, ff106, ff107, V103, ((E_a.wr W102).wr W103)⟩)
def own_Q11_2 (Z : State) (r0 : Addr) (d1 : UInt64) (q_t : UInt64) (q_a : Addr) (k_a : ClassId) (u0 : UInt64) (u1 : UInt64) (h0 : Heap) (n0 : Nat) (v : Option Value) (h : Heap) (L : List Loc) : Prop := v = none ∧ Fr n0 L ∧ Keep h0 h [r0, q_a] ∧ Exa Z h r0 "com/example/nunobiki/nunobiki/engine/Profile" ∧ Fld Z h r0 "com/example/nunobiki/nunobiki/engine/Profile" "observed" "I" (.int (3 : Int32)) ∧ Fld Z h r0 "com/example/nunobiki/nunobiki/engine/Profile" "observedScores" "[D" (.ref q_a) ∧ Fld Z h r0 "com/example/nunobiki/nunobiki/engine/Profile" "unitThreshold" "D" (.double q_t) ∧ Arv Z h q_a k_a .double (8 : Int32) [(.double u0), (.double u1), (.double d1), (.double (0 : UInt64)), (.double (0 : UInt64)), (.double (0 : UInt64)), (.double (0 : UInt64)), (.double (0 : UInt64))] (.double (0 : UInt64)) ∧ Exa Z h q_a "[D"
abbrev own_R11_2 : Room := { frames := 0, cells := 0, slots := 0, locals := 0 }
theorem own_ef11_2 (m : MethodId) (z0 : Addr) (z1 : UInt64) : entryFrame m #[(.ref z0), (.double z1)] 3 = mkF m 0 #[.val (.ref z0), .val (.double z1), .second] [] := by first | (simp [entryFrame, mkF, argsToLocals, Value.category]; done) | rfl
set_option maxRecDepth 65536 in
set_option maxHeartbeats 40000000 in
theorem rm11_2 (l : Launch) (Z : State) (a0 : Array Value) (hw : ∀ d ∈ tables_1, d.before a0 Z = true) (ws : List Jvm.Cond) (r0 : Addr) (d1 : UInt64) (q_t : UInt64) (q_a : Addr) (k_a : ClassId) (u0 : UInt64) (u1 : UInt64) (h0 : Heap) (n0 : Nat) (Z0 : n0 ≤ h0.size) (g_r0 : n0 ≤ r0) (g_q_a : n0 ≤ q_a) (E_r0 : Exa Z h0 r0 "com/example/nunobiki/nunobiki/engine/Profile") (F_o : Fld Z h0 r0 "com/example/nunobiki/nunobiki/engine/Profile" "observed" "I" (.int (2 : Int32))) (F_s : Fld Z h0 r0 "com/example/nunobiki/nunobiki/engine/Profile" "observedScores" "[D" (.ref q_a)) (F_t : Fld Z h0 r0 "com/example/nunobiki/nunobiki/engine/Profile" "unitThreshold" "D" (.double q_t)) (V_a : Arv Z h0 q_a k_a .double (8 : Int32) [(.double u0), (.double u1), (.double (0 : UInt64)), (.double (0 : UInt64)), (.double (0 : UInt64)), (.double (0 : UInt64)), (.double (0 : UInt64)), (.double (0 : UInt64))] (.double (0 : UInt64))) (E_a : Exa Z h0 q_a "[D") (ne_r0_q_a : r0 ≠ q_a) : own_Met l Z (⟨"com/example/nunobiki/nunobiki/engine/Profile", "observe", "(D)V"⟩ : MethodName) prog_20_method_17_code 3 none ws own_R11_2 #[(.ref r0), (.double d1)] h0 (own_Q11_2 Z r0 d1 q_t q_a k_a u0 u1 h0 n0) := by
  refine own_met (plainFor_of_name own_pn3) ?_
  intro p e s m below meth c s₁ hx hby hml hown hnm hret hlk hZ e0 X0
  have N0 := Fr.nil n0
  have hml : c.maxLocals = 3 := hml
  have hown : s.vm.findClass "com/example/nunobiki/nunobiki/engine/Profile" = some m.cls := hown
  have hret : meth.sig.returnType = none := hret
  have hby : c.code = prog_20_method_17_code := hby
  have hnm : meth.name = "observe" := hnm
  rw [own_ef11_2]
  show own_Goes p e below _ (s₁.setTop (mkF m 0 #[.val (.ref r0), .val (.double d1), .second] []))
  refine own_go (fun t k => XS.aloadN X0.here hx rfl (hb hby own_d11_0) rfl rfl k) ?_
  show own_Goes p e below _ (s₁.setTop (mkF m 1 #[.val (.ref r0), .val (.double d1), .second] [(.ref r0)]))
  obtain ⟨T108, X108, e108, st108⟩ := getF X0 hx hZ hown (host := "") (Or.inl (hw _ own_t91)) Via.refl e0 F_o (g := (mkF m 1 #[.val (.ref r0), .val (.double d1), .second] [(.ref r0)])) rfl rfl (hb hby own_d11_1)
  refine own_go st108 ?_
  show own_Goes p e below _ (T108.setTop (mkF m 4 #[.val (.ref r0), .val (.double d1), .second] [(.int (2 : Int32))]))
  refine own_go (fun t k => XS.aloadN X108.here hx rfl (hb hby own_d11_4) rfl rfl k) ?_
  show own_Goes p e below _ (T108.setTop (mkF m 5 #[.val (.ref r0), .val (.double d1), .second] [(.ref r0), (.int (2 : Int32))]))
  obtain ⟨T109, X109, e109, st109⟩ := getF X108 hx hZ hown (host := "") (Or.inl (hw _ own_t71)) Via.refl e108 F_s (g := (mkF m 5 #[.val (.ref r0), .val (.double d1), .second] [(.ref r0), (.int (2 : Int32))])) rfl rfl (hb hby own_d11_5)
  refine own_go st109 ?_
  show own_Goes p e below _ (T109.setTop (mkF m 8 #[.val (.ref r0), .val (.double d1), .second] [(.ref q_a), (.int (2 : Int32))]))
  obtain ⟨cl110, Ar110, qa110, sa110, na110, ha110, ga110⟩ := id V_a
  refine own_go (fun t k => X109.arraylength hx (by rw [e109]; exact Ar110.1) (State.isArrayOf_alike hZ.alike Ar110.2.1) (g := (mkF m 8 #[.val (.ref r0), .val (.double d1), .second] [(.ref q_a), (.int (2 : Int32))])) rfl rfl (hb hby own_d11_8) t k) ?_
  rw [len_of sa110 (by decide)]
  show own_Goes p e below _ (T109.setTop (mkF m 9 #[.val (.ref r0), .val (.double d1), .second] [(.int (8 : Int32)), (.int (2 : Int32))]))
  have hd111 : ¬ ((2 : Int32) = (8 : Int32)) := (by decide)
  refine own_go (fun t k => XS.icmpYes X109.here hx rfl (pc0 := 9) (pc' := 34) rfl (hb hby own_d11_9) rfl (feq hd111).2 (by decide) (by decide) k) ?_
  show own_Goes p e below _ (T109.setTop (mkF m 34 #[.val (.ref r0), .val (.double d1), .second] []))
  refine own_go (fun t k => XS.aloadN X109.here hx rfl (hb hby own_d11_34) rfl rfl k) ?_
  show own_Goes p e below _ (T109.setTop (mkF m 35 #[.val (.ref r0), .val (.double d1), .second] [(.ref r0)]))
  obtain ⟨T112, X112, e112, st112⟩ := getF X109 hx hZ hown (host := "") (Or.inl (hw _ own_t71)) Via.refl e109 F_s (g := (mkF m 35 #[.val (.ref r0), .val (.double d1), .second] [(.ref r0)])) rfl rfl (hb hby own_d11_35)
  refine own_go st112 ?_
  show own_Goes p e below _ (T112.setTop (mkF m 38 #[.val (.ref r0), .val (.double d1), .second] [(.ref q_a)]))
  refine own_go (fun t k => XS.aloadN X112.here hx rfl (hb hby own_d11_38) rfl rfl k) ?_
  show own_Goes p e below _ (T112.setTop (mkF m 39 #[.val (.ref r0), .val (.double d1), .second] [(.ref r0), (.ref q_a)]))
  refine own_go (fun t k => XS.dup X112.here hx rfl (hb hby own_d11_39) rfl rfl k) ?_
  show own_Goes p e below _ (T112.setTop (mkF m 40 #[.val (.ref r0), .val (.double d1), .second] [(.ref r0), (.ref r0), (.ref q_a)]))
  obtain ⟨T113, X113, e113, st113⟩ := getF X112 hx hZ hown (host := "") (Or.inl (hw _ own_t91)) Via.refl e112 F_o (g := (mkF m 40 #[.val (.ref r0), .val (.double d1), .second] [(.ref r0), (.ref r0), (.ref q_a)])) rfl rfl (hb hby own_d11_40)
  refine own_go st113 ?_
  show own_Goes p e below _ (T113.setTop (mkF m 43 #[.val (.ref r0), .val (.double d1), .second] [(.int (2 : Int32)), (.ref r0), (.ref q_a)]))
  refine own_go (fun t k => XS.dupX1 X113.here hx rfl (hb hby own_d11_43) rfl rfl rfl k) ?_
  show own_Goes p e below _ (T113.setTop (mkF m 44 #[.val (.ref r0), .val (.double d1), .second] [(.int (2 : Int32)), (.ref r0), (.int (2 : Int32)), (.ref q_a)]))
  refine own_go (fun t k => XS.iconst X113.here hx rfl (hb hby own_d11_44) k) ?_
  show own_Goes p e below _ (T113.setTop (mkF m 45 #[.val (.ref r0), .val (.double d1), .second] [(.int (1 : Int32)), (.int (2 : Int32)), (.ref r0), (.int (2 : Int32)), (.ref q_a)]))
  refine own_go (fun t k => XS.iadd X113.here hx rfl (hb hby own_d11_45) rfl k) ?_
  show own_Goes p e below _ (T113.setTop (mkF m 46 #[.val (.ref r0), .val (.double d1), .second] [(.int ((2 : Int32) + (1 : Int32))), (.ref r0), (.int (2 : Int32)), (.ref q_a)]))
  rw [show ((2 : Int32) + (1 : Int32)) = (3 : Int32) from by decide]
  show own_Goes p e below _ (T113.setTop (mkF m 46 #[.val (.ref r0), .val (.double d1), .second] [(.int (3 : Int32)), (.ref r0), (.int (2 : Int32)), (.ref q_a)]))
  obtain ⟨T114, h114, X114, e114, W114, st114⟩ := putF X113 hx hZ hown (host := "") (Or.inl (hw _ own_t91)) Via.refl e113 F_o E_r0 (Or.inl (hw _ own_t92)) (hw _ own_t2) (ty := .int) (by decide) rfl rfl (g := (mkF m 46 #[.val (.ref r0), .val (.double d1), .second] [(.int (3 : Int32)), (.ref r0), (.int (2 : Int32)), (.ref q_a)])) rfl rfl (hb hby own_d11_46)
  have N114 := Fr.snoc X114 N0 g_r0
  have Fw114 := F_o.same W114
  refine own_go st114 ?_
  show own_Goes p e below _ (T114.setTop (mkF m 49 #[.val (.ref r0), .val (.double d1), .second] [(.int (2 : Int32)), (.ref q_a)]))
  refine own_go (fun t k => XS.dloadN X114.here hx rfl (hb hby own_d11_49) rfl k) ?_
  show own_Goes p e below _ (T114.setTop (mkF m 50 #[.val (.ref r0), .val (.double d1), .second] [(.double d1), (.int (2 : Int32)), (.ref q_a)]))
  have ff116 : Arv Z h114 q_a k_a .double (8 : Int32) [(.double u0), (.double u1), (.double (0 : UInt64)), (.double (0 : UInt64)), (.double (0 : UInt64)), (.double (0 : UInt64)), (.double (0 : UInt64)), (.double (0 : UInt64))] (.double (0 : UInt64)) := (V_a.other W114 (Ne.symm ne_r0_q_a))
  obtain ⟨cl115, Ar115, qa115, sa115, na115, ha115, ga115⟩ := id ff116
  obtain ⟨T115, h115, X115, e115, W115, st115⟩ := stD X114 hx hZ e114 Ar115 (j := (2 : Int32)) (inb_of sa115 ⟨by decide, by decide⟩) (g := (mkF m 50 #[.val (.ref r0), .val (.double d1), .second] [(.double d1), (.int (2 : Int32)), (.ref q_a)])) rfl rfl (hb hby own_d11_50)
  have V115 : Arv Z h115 q_a k_a .double (8 : Int32) [(.double u0), (.double u1), (.double d1), (.double (0 : UInt64)), (.double (0 : UInt64)), (.double (0 : UInt64)), (.double (0 : UInt64)), (.double (0 : UInt64))] (.double (0 : UInt64)) := Arv.set Ar115 qa115 sa115 na115 ha115 ga115 rfl W115 2 rfl (Nat.le_of_ble_eq_true rfl)
  have N115 := Fr.snoc X115 N114 g_q_a
  refine own_go st115 ?_
  show own_Goes p e below _ (T115.setTop (mkF m 51 #[.val (.ref r0), .val (.double d1), .second] []))
  have ff117 : Fld Z h115 r0 "com/example/nunobiki/nunobiki/engine/Profile" "observed" "I" (.int (3 : Int32)) := (Fw114.other W115 (Or.inl ne_r0_q_a))
  have ff118 : Fld Z h115 r0 "com/example/nunobiki/nunobiki/engine/Profile" "observedScores" "[D" (.ref q_a) := ((F_s.other W114 (Or.inr (slot_ne (Or.inl (hw _ own_t72)) (Or.inl (hw _ own_t92)) (by decide) (t := (.array .double)) (t' := .int) (by decide) (by decide)))).other W115 (Or.inl ne_r0_q_a))
  have ff119 : Fld Z h115 r0 "com/example/nunobiki/nunobiki/engine/Profile" "unitThreshold" "D" (.double q_t) := ((F_t.other W114 (Or.inr (slot_ne (Or.inl (hw _ own_t83)) (Or.inl (hw _ own_t92)) (by decide) (t := .double) (t' := .int) (by decide) (by decide)))).other W115 (Or.inl ne_r0_q_a))
  exact own_ret0 X115 hx hlk hret (hb hby own_d11_51) (by decide) (by decide) (by show own_Q11_2 Z r0 d1 q_t q_a k_a u0 u1 h0 n0 _ T115.heap _; rw [e115]; exact ⟨rfl, N115, (((Keep.refl h0 ([r0, q_a] : List Addr)).wr W114 (Or.inl (List.mem_of_getElem? (i := 0) rfl))).wr W115 (Or.inl (List.mem_of_getElem? (i := 1) rfl))), ((E_r0.wr W114).wr W115), ff117, ff118, ff119, V115, ((E_a.wr W114).wr W115)⟩)
theorem own_d15_0 : decode prog_20_method_19_code 0 = .ok (.aload_n 0, 1) := by decide +kernel
theorem own_d15_1 : decode prog_20_method_19_code 1 = .ok (.iconst 0, 1) := by decide +kernel
theorem own_d15_2 : decode prog_20_method_19_code 2 = .ok (.newarray .double, 2) := by decide +kernel
theorem own_d15_4 : decode prog_20_method_19_code 4 = .ok (.putfield 28, 3) := by decide +kernel
theorem own_d15_7 : decode prog_20_method_19_code 7 = .ok (.aload_n 0, 1) := by decide +kernel
theorem own_d15_8 : decode prog_20_method_19_code 8 = .ok (.iconst 0, 1) := by decide +kernel
theorem own_d15_9 : decode prog_20_method_19_code 9 = .ok (.putfield 124, 3) := by decide +kernel
theorem own_d15_12 : decode prog_20_method_19_code 12 = .ok (.return_, 1) := by decide +kernel
def own_Q15 (Z : State) (r0 : Addr) (q_t : UInt64) (q_a : Addr) (q_o : Int32) (h0 : Heap) (n0 : Nat) (v : Option Value) (h : Heap) (L : List Loc) : Prop := ∃ b : Addr, ∃ kb : ClassId, v = none ∧ Fr n0 L ∧ Keep h0 h [r0] ∧ h0.size ≤ b ∧ Exa Z h r0 "com/example/nunobiki/nunobiki/engine/Profile" ∧ Fld Z h r0 "com/example/nunobiki/nunobiki/engine/Profile" "observed" "I" (.int (0 : Int32)) ∧ Fld Z h r0 "com/example/nunobiki/nunobiki/engine/Profile" "observedScores" "[D" (.ref b) ∧ Fld Z h r0 "com/example/nunobiki/nunobiki/engine/Profile" "unitThreshold" "D" (.double q_t) ∧ Arv Z h b kb .double (0 : Int32) [] (.double (0 : UInt64)) ∧ Exa Z h b "[D"
abbrev own_R15 : Room := { frames := 0, cells := 1, slots := 0, locals := 0 }
theorem own_ef15 (m : MethodId) (z0 : Addr) : entryFrame m #[(.ref z0)] 1 = mkF m 0 #[.val (.ref z0)] [] := by first | (simp [entryFrame, mkF, argsToLocals, Value.category]; done) | rfl
set_option maxRecDepth 65536 in
set_option maxHeartbeats 40000000 in
theorem rm15 (l : Launch) (Z : State) (a0 : Array Value) (hw : ∀ d ∈ tables_1, d.before a0 Z = true) (ws : List Jvm.Cond) (r0 : Addr) (q_t : UInt64) (q_a : Addr) (q_o : Int32) (h0 : Heap) (n0 : Nat) (Z0 : n0 ≤ h0.size) (g_r0 : n0 ≤ r0) (E_r0 : Exa Z h0 r0 "com/example/nunobiki/nunobiki/engine/Profile") (F_o : Fld Z h0 r0 "com/example/nunobiki/nunobiki/engine/Profile" "observed" "I" (.int q_o)) (F_s : Fld Z h0 r0 "com/example/nunobiki/nunobiki/engine/Profile" "observedScores" "[D" (.ref q_a)) (F_t : Fld Z h0 r0 "com/example/nunobiki/nunobiki/engine/Profile" "unitThreshold" "D" (.double q_t)) : own_Met l Z (⟨"com/example/nunobiki/nunobiki/engine/Profile", "forgetObservedScores", "()V"⟩ : MethodName) prog_20_method_19_code 1 none ws own_R15 #[(.ref r0)] h0 (own_Q15 Z r0 q_t q_a q_o h0 n0) := by
  refine own_met (plainFor_of_name own_pn3) ?_
  intro p e s m below meth c s₁ hx hby hml hown hnm hret hlk hZ e0 X0
  have N0 := Fr.nil n0
  have hml : c.maxLocals = 1 := hml
  have hown : s.vm.findClass "com/example/nunobiki/nunobiki/engine/Profile" = some m.cls := hown
  have hret : meth.sig.returnType = none := hret
  have hby : c.code = prog_20_method_19_code := hby
  have hnm : meth.name = "forgetObservedScores" := hnm
  rw [own_ef15]
  show own_Goes p e below _ (s₁.setTop (mkF m 0 #[.val (.ref r0)] []))
  refine own_go (fun t k => XS.aloadN X0.here hx rfl (hb hby own_d15_0) rfl rfl k) ?_
  show own_Goes p e below _ (s₁.setTop (mkF m 1 #[.val (.ref r0)] [(.ref r0)]))
  refine own_go (fun t k => XS.iconst X0.here hx rfl (hb hby own_d15_1) k) ?_
  show own_Goes p e below _ (s₁.setTop (mkF m 2 #[.val (.ref r0)] [(.int (0 : Int32)), (.ref r0)]))
  obtain ⟨T120, h120, k120, X120, e120, E120, A120, Y120, st120⟩ := newPE X0 hx hZ (aty := .double) (hw _ own_t70) e0 (g := (mkF m 2 #[.val (.ref r0)] [(.int (0 : Int32)), (.ref r0)])) rfl (hb hby own_d15_2) rfl (by decide) (cap := 0) (by decide) (by decide) (by decide) (by decide) (ad := "[D") (by decide +kernel)
  obtain ⟨b120, q120⟩ : ∃ z, z = h0.size := ⟨_, rfl⟩
  rw [← q120] at A120 Y120 st120
  have lt_b120 : h0.size ≤ b120 := Nat.le_of_eq q120.symm
  have ne_r0_b120 : r0 ≠ b120 := Nat.ne_of_lt (Nat.lt_of_lt_of_le E_r0.lt lt_b120)
  have g_b120 : n0 ≤ b120 := Nat.le_trans Z0 lt_b120
  have sz_b120 : h0.size ≤ b120 := Nat.le_trans (Keep.refl h0 ([r0] : List Addr)).1 lt_b120
  have V120 : Arv Z h120 b120 k120 .double (0 : Int32) [] (.double (0 : UInt64)) := Arv.new A120 (by decide)
  refine own_go st120 ?_
  show own_Goes p e below _ (T120.setTop (mkF m 4 #[.val (.ref r0)] [(.ref b120), (.ref r0)]))
  obtain ⟨T121, h121, X121, e121, W121, st121⟩ := putF X120 hx hZ hown (host := "") (Or.inl (hw _ own_t71)) Via.refl e120 (F_s.ext E120) (E_r0.ext E120) (Or.inl (hw _ own_t72)) (hw _ own_t2) (ty := (.array .double)) (by decide) rfl rfl (g := (mkF m 4 #[.val (.ref r0)] [(.ref b120), (.ref r0)])) rfl rfl (hb hby own_d15_4)
  have N121 := Fr.snoc X121 N0 g_r0
  have Fw121 := (F_s.ext E120).same W121
  refine own_go st121 ?_
  show own_Goes p e below _ (T121.setTop (mkF m 7 #[.val (.ref r0)] []))
  refine own_go (fun t k => XS.aloadN X121.here hx rfl (hb hby own_d15_7) rfl rfl k) ?_
  show own_Goes p e below _ (T121.setTop (mkF m 8 #[.val (.ref r0)] [(.ref r0)]))
  refine own_go (fun t k => XS.iconst X121.here hx rfl (hb hby own_d15_8) k) ?_
  show own_Goes p e below _ (T121.setTop (mkF m 9 #[.val (.ref r0)] [(.int (0 : Int32)), (.ref r0)]))
  have ff123 : Fld Z h121 r0 "com/example/nunobiki/nunobiki/engine/Profile" "observed" "I" (.int q_o) := ((F_o.ext E120).other W121 (Or.inr (slot_ne (Or.inl (hw _ own_t92)) (Or.inl (hw _ own_t72)) (by decide) (t := .int) (t' := (.array .double)) (by decide) (by decide))))
  obtain ⟨T122, h122, X122, e122, W122, st122⟩ := putF X121 hx hZ hown (host := "") (Or.inl (hw _ own_t91)) Via.refl e121 ff123 ((E_r0.ext E120).wr W121) (Or.inl (hw _ own_t92)) (hw _ own_t2) (ty := .int) (by decide) rfl rfl (g := (mkF m 9 #[.val (.ref r0)] [(.int (0 : Int32)), (.ref r0)])) rfl rfl (hb hby own_d15_9)
  have N122 := Fr.snoc X122 N121 g_r0
  have Fw122 := ff123.same W122
  refine own_go st122 ?_
  show own_Goes p e below _ (T122.setTop (mkF m 12 #[.val (.ref r0)] []))
  have ff124 : Exa Z h122 r0 "com/example/nunobiki/nunobiki/engine/Profile" := (((E_r0.ext E120).wr W121).wr W122)
  have ff125 : Fld Z h122 r0 "com/example/nunobiki/nunobiki/engine/Profile" "observedScores" "[D" (.ref b120) := (Fw121.other W122 (Or.inr (slot_ne (Or.inl (hw _ own_t72)) (Or.inl (hw _ own_t92)) (by decide) (t := (.array .double)) (t' := .int) (by decide) (by decide))))
  have ff126 : Fld Z h122 r0 "com/example/nunobiki/nunobiki/engine/Profile" "unitThreshold" "D" (.double q_t) := (((F_t.ext E120).other W121 (Or.inr (slot_ne (Or.inl (hw _ own_t83)) (Or.inl (hw _ own_t72)) (by decide) (t := .double) (t' := (.array .double)) (by decide) (by decide)))).other W122 (Or.inr (slot_ne (Or.inl (hw _ own_t83)) (Or.inl (hw _ own_t92)) (by decide) (t := .double) (t' := .int) (by decide) (by decide))))
  have ff127 : Arv Z h122 b120 k120 .double (0 : Int32) [] (.double (0 : UInt64)) := ((V120.other W121 (Ne.symm ne_r0_b120)).other W122 (Ne.symm ne_r0_b120))
  exact own_ret0 X122 hx hlk hret (hb hby own_d15_12) (by decide) (by decide) (by show own_Q15 Z r0 q_t q_a q_o h0 n0 _ T122.heap _; rw [e122]; exact ⟨_, _, rfl, N122, ((((Keep.refl h0 ([r0] : List Addr)).ext E120).wr W121 (Or.inl (List.mem_of_getElem? (i := 0) rfl))).wr W122 (Or.inl (List.mem_of_getElem? (i := 0) rfl))), sz_b120, ff124, Fw122, ff125, ff126, ff127, ((Y120.wr W121).wr W122)⟩)
theorem own_d16_0 : decode prog_20_method_18_code 0 = .ok (.aload_n 0, 1) := by decide +kernel
theorem own_d16_1 : decode prog_20_method_18_code 1 = .ok (.getfield 28, 3) := by decide +kernel
theorem own_d16_4 : decode prog_20_method_18_code 4 = .ok (.aload_n 0, 1) := by decide +kernel
theorem own_d16_5 : decode prog_20_method_18_code 5 = .ok (.getfield 124, 3) := by decide +kernel
theorem own_d16_8 : decode prog_20_method_18_code 8 = .ok (.invokestatic 133, 3) := by decide +kernel
theorem own_d16_11 : decode prog_20_method_18_code 11 = .ok (.areturn, 1) := by decide +kernel
def own_Q16_0 (Z : State) (r0 : Addr) (q_a : Addr) (k_a : ClassId) (h0 : Heap) (n0 : Nat) (v : Option Value) (h : Heap) (L : List Loc) : Prop := ∃ b : Addr, ∃ kb : ClassId, v = some (.ref b) ∧ Fr n0 L ∧ Keep h0 h [] ∧ h0.size ≤ b ∧ Arv Z h b kb .double (0 : Int32) [] (.double (0 : UInt64)) ∧ Exa Z h b "[D"
abbrev own_R16_0 : Room := { frames := 2, cells := 1, slots := 0, locals := 28 }
theorem own_ef16_0 (m : MethodId) (z0 : Addr) : entryFrame m #[(.ref z0)] 1 = mkF m 0 #[.val (.ref z0)] [] := by first | (simp [entryFrame, mkF, argsToLocals, Value.category]; done) | rfl
set_option maxRecDepth 65536 in
set_option maxHeartbeats 40000000 in
theorem rm16_0 (l : Launch) (Z : State) (a0 : Array Value) (hw : ∀ d ∈ tables_1, d.before a0 Z = true) (ws : List Jvm.Cond) (r0 : Addr) (q_a : Addr) (k_a : ClassId) (h0 : Heap) (n0 : Nat) (Z0 : n0 ≤ h0.size) (F_o : Fld Z h0 r0 "com/example/nunobiki/nunobiki/engine/Profile" "observed" "I" (.int (0 : Int32))) (F_s : Fld Z h0 r0 "com/example/nunobiki/nunobiki/engine/Profile" "observedScores" "[D" (.ref q_a)) (V_a : Arv Z h0 q_a k_a .double (0 : Int32) [] (.double (0 : UInt64))) (E_a : Exa Z h0 q_a "[D") (ne_r0_q_a : r0 ≠ q_a) : own_Met l Z (⟨"com/example/nunobiki/nunobiki/engine/Profile", "observedScores", "()[D"⟩ : MethodName) prog_20_method_18_code 1 (some (.array .double)) ws own_R16_0 #[(.ref r0)] h0 (own_Q16_0 Z r0 q_a k_a h0 n0) := by
  refine own_met (plainFor_of_name own_pn3) ?_
  intro p e s m below meth c s₁ hx hby hml hown hnm hret hlk hZ e0 X0
  have N0 := Fr.nil n0
  have hml : c.maxLocals = 1 := hml
  have hown : s.vm.findClass "com/example/nunobiki/nunobiki/engine/Profile" = some m.cls := hown
  have hret : meth.sig.returnType = (some (.array .double)) := hret
  have hby : c.code = prog_20_method_18_code := hby
  have hnm : meth.name = "observedScores" := hnm
  rw [own_ef16_0]
  show own_Goes p e below _ (s₁.setTop (mkF m 0 #[.val (.ref r0)] []))
  refine own_go (fun t k => XS.aloadN X0.here hx rfl (hb hby own_d16_0) rfl rfl k) ?_
  show own_Goes p e below _ (s₁.setTop (mkF m 1 #[.val (.ref r0)] [(.ref r0)]))
  obtain ⟨T128, X128, e128, st128⟩ := getF X0 hx hZ hown (host := "") (Or.inl (hw _ own_t71)) Via.refl e0 F_s (g := (mkF m 1 #[.val (.ref r0)] [(.ref r0)])) rfl rfl (hb hby own_d16_1)
  refine own_go st128 ?_
  show own_Goes p e below _ (T128.setTop (mkF m 4 #[.val (.ref r0)] [(.ref q_a)]))
  refine own_go (fun t k => XS.aloadN X128.here hx rfl (hb hby own_d16_4) rfl rfl k) ?_
  show own_Goes p e below _ (T128.setTop (mkF m 5 #[.val (.ref r0)] [(.ref r0), (.ref q_a)]))
  obtain ⟨T129, X129, e129, st129⟩ := getF X128 hx hZ hown (host := "") (Or.inl (hw _ own_t91)) Via.refl e128 F_o (g := (mkF m 5 #[.val (.ref r0)] [(.ref r0), (.ref q_a)])) rfl rfl (hb hby own_d16_5)
  refine own_go st129 ?_
  show own_Goes p e below _ (T129.setTop (mkF m 8 #[.val (.ref r0)] [(.int (0 : Int32)), (.ref q_a)]))
  obtain ⟨_, T130, L130, X130, ⟨b130, kb130, rfl, N130q, K130, lt_b130, G130_0, G130_1⟩, st130⟩ := own_callS X129 hx hZ hown (hw _ own_t97) (hw _ own_t98) (hw _ own_t99) (hw _ own_t100) (by decide) (as := [(.ref q_a), (.int (0 : Int32))]) (rm13_0 l Z a0 hw [] q_a k_a h0 n0 Z0 V_a E_a) e129 own_pd2 rfl (pc := 8) (Ls := #[.val (.ref r0)]) (rest := []) (W := 0) (by rw [hml]; rfl) (Nat.le_of_eq rfl) (by decide) (by decide) (hb hby own_d16_8) (by decide) (by decide)
  have N130 := Fr.app N0 N130q
  have ne_r0_b130 : r0 ≠ b130 := Nat.ne_of_lt (Nat.lt_of_lt_of_le F_o.lt lt_b130)
  have ne_q_a_b130 : q_a ≠ b130 := Nat.ne_of_lt (Nat.lt_of_lt_of_le V_a.lt lt_b130)
  have g_b130 : n0 ≤ b130 := Nat.le_trans Z0 lt_b130
  have sz_b130 : h0.size ≤ b130 := Nat.le_trans (Keep.refl h0 ([] : List Addr)).1 lt_b130
  refine own_go st130 ?_
  show own_Goes p e below _ (T130.setTop (mkF m 11 #[.val (.ref r0)] [(.ref b130)]))
  exact own_retR X130 hx hlk hret rfl rfl (hb hby own_d16_11) (by decide) (by decide) (⟨_, _, rfl, N130, ((Keep.refl h0 ([] : List Addr)).trans K130 (fun x hx => nomatch hx)), sz_b130, G130_0, G130_1⟩)
def own_Q16_1 (Z : State) (r0 : Addr) (q_a : Addr) (k_a : ClassId) (u0 : UInt64) (h0 : Heap) (n0 : Nat) (v : Option Value) (h : Heap) (L : List Loc) : Prop := ∃ b : Addr, ∃ kb : ClassId, v = some (.ref b) ∧ Fr n0 L ∧ Keep h0 h [] ∧ h0.size ≤ b ∧ Arv Z h b kb .double (1 : Int32) [(.double u0)] (.double (0 : UInt64)) ∧ Exa Z h b "[D"
abbrev own_R16_1 : Room := { frames := 2, cells := 1, slots := 1, locals := 32 }
theorem own_ef16_1 (m : MethodId) (z0 : Addr) : entryFrame m #[(.ref z0)] 1 = mkF m 0 #[.val (.ref z0)] [] := by first | (simp [entryFrame, mkF, argsToLocals, Value.category]; done) | rfl
set_option maxRecDepth 65536 in
set_option maxHeartbeats 40000000 in
theorem rm16_1 (l : Launch) (Z : State) (a0 : Array Value) (hw : ∀ d ∈ tables_1, d.before a0 Z = true) (ws : List Jvm.Cond) (r0 : Addr) (q_a : Addr) (k_a : ClassId) (u0 : UInt64) (h0 : Heap) (n0 : Nat) (Z0 : n0 ≤ h0.size) (F_o : Fld Z h0 r0 "com/example/nunobiki/nunobiki/engine/Profile" "observed" "I" (.int (1 : Int32))) (F_s : Fld Z h0 r0 "com/example/nunobiki/nunobiki/engine/Profile" "observedScores" "[D" (.ref q_a)) (V_a : Arv Z h0 q_a k_a .double (8 : Int32) [(.double u0), (.double (0 : UInt64)), (.double (0 : UInt64)), (.double (0 : UInt64)), (.double (0 : UInt64)), (.double (0 : UInt64)), (.double (0 : UInt64)), (.double (0 : UInt64))] (.double (0 : UInt64))) (E_a : Exa Z h0 q_a "[D") (ne_r0_q_a : r0 ≠ q_a) : own_Met l Z (⟨"com/example/nunobiki/nunobiki/engine/Profile", "observedScores", "()[D"⟩ : MethodName) prog_20_method_18_code 1 (some (.array .double)) ws own_R16_1 #[(.ref r0)] h0 (own_Q16_1 Z r0 q_a k_a u0 h0 n0) := by
  refine own_met (plainFor_of_name own_pn3) ?_
  intro p e s m below meth c s₁ hx hby hml hown hnm hret hlk hZ e0 X0
  have N0 := Fr.nil n0
  have hml : c.maxLocals = 1 := hml
  have hown : s.vm.findClass "com/example/nunobiki/nunobiki/engine/Profile" = some m.cls := hown
  have hret : meth.sig.returnType = (some (.array .double)) := hret
  have hby : c.code = prog_20_method_18_code := hby
  have hnm : meth.name = "observedScores" := hnm
  rw [own_ef16_1]
  show own_Goes p e below _ (s₁.setTop (mkF m 0 #[.val (.ref r0)] []))
  refine own_go (fun t k => XS.aloadN X0.here hx rfl (hb hby own_d16_0) rfl rfl k) ?_
  show own_Goes p e below _ (s₁.setTop (mkF m 1 #[.val (.ref r0)] [(.ref r0)]))
  obtain ⟨T131, X131, e131, st131⟩ := getF X0 hx hZ hown (host := "") (Or.inl (hw _ own_t71)) Via.refl e0 F_s (g := (mkF m 1 #[.val (.ref r0)] [(.ref r0)])) rfl rfl (hb hby own_d16_1)
  refine own_go st131 ?_
  show own_Goes p e below _ (T131.setTop (mkF m 4 #[.val (.ref r0)] [(.ref q_a)]))
  refine own_go (fun t k => XS.aloadN X131.here hx rfl (hb hby own_d16_4) rfl rfl k) ?_
  show own_Goes p e below _ (T131.setTop (mkF m 5 #[.val (.ref r0)] [(.ref r0), (.ref q_a)]))
  obtain ⟨T132, X132, e132, st132⟩ := getF X131 hx hZ hown (host := "") (Or.inl (hw _ own_t91)) Via.refl e131 F_o (g := (mkF m 5 #[.val (.ref r0)] [(.ref r0), (.ref q_a)])) rfl rfl (hb hby own_d16_5)
  refine own_go st132 ?_
  show own_Goes p e below _ (T132.setTop (mkF m 8 #[.val (.ref r0)] [(.int (1 : Int32)), (.ref q_a)]))
  obtain ⟨_, T133, L133, X133, ⟨b133, kb133, rfl, N133q, K133, lt_b133, G133_0, G133_1⟩, st133⟩ := own_callS X132 hx hZ hown (hw _ own_t97) (hw _ own_t98) (hw _ own_t99) (hw _ own_t100) (by decide) (as := [(.ref q_a), (.int (1 : Int32))]) (rm13_1 l Z a0 hw [] q_a k_a u0 h0 n0 Z0 V_a E_a) e132 own_pd2 rfl (pc := 8) (Ls := #[.val (.ref r0)]) (rest := []) (W := 0) (by rw [hml]; rfl) (Nat.le_of_eq rfl) (by decide) (by decide) (hb hby own_d16_8) (by decide) (by decide)
  have N133 := Fr.app N0 N133q
  have ne_r0_b133 : r0 ≠ b133 := Nat.ne_of_lt (Nat.lt_of_lt_of_le F_o.lt lt_b133)
  have ne_q_a_b133 : q_a ≠ b133 := Nat.ne_of_lt (Nat.lt_of_lt_of_le V_a.lt lt_b133)
  have g_b133 : n0 ≤ b133 := Nat.le_trans Z0 lt_b133
  have sz_b133 : h0.size ≤ b133 := Nat.le_trans (Keep.refl h0 ([] : List Addr)).1 lt_b133
  refine own_go st133 ?_
  show own_Goes p e below _ (T133.setTop (mkF m 11 #[.val (.ref r0)] [(.ref b133)]))
  exact own_retR X133 hx hlk hret rfl rfl (hb hby own_d16_11) (by decide) (by decide) (⟨_, _, rfl, N133, ((Keep.refl h0 ([] : List Addr)).trans K133 (fun x hx => nomatch hx)), sz_b133, G133_0, G133_1⟩)
def own_Q16_2 (Z : State) (r0 : Addr) (q_a : Addr) (k_a : ClassId) (u0 : UInt64) (u1 : UInt64) (h0 : Heap) (n0 : Nat) (v : Option Value) (h : Heap) (L : List Loc) : Prop := ∃ b : Addr, ∃ kb : ClassId, v = some (.ref b) ∧ Fr n0 L ∧ Keep h0 h [] ∧ h0.size ≤ b ∧ Arv Z h b kb .double (2 : Int32) [(.double u0), (.double u1)] (.double (0 : UInt64)) ∧ Exa Z h b "[D"
abbrev own_R16_2 : Room := { frames := 2, cells := 1, slots := 2, locals := 32 }
theorem own_ef16_2 (m : MethodId) (z0 : Addr) : entryFrame m #[(.ref z0)] 1 = mkF m 0 #[.val (.ref z0)] [] := by first | (simp [entryFrame, mkF, argsToLocals, Value.category]; done) | rfl
set_option maxRecDepth 65536 in
set_option maxHeartbeats 40000000 in
theorem rm16_2 (l : Launch) (Z : State) (a0 : Array Value) (hw : ∀ d ∈ tables_1, d.before a0 Z = true) (ws : List Jvm.Cond) (r0 : Addr) (q_a : Addr) (k_a : ClassId) (u0 : UInt64) (u1 : UInt64) (h0 : Heap) (n0 : Nat) (Z0 : n0 ≤ h0.size) (F_o : Fld Z h0 r0 "com/example/nunobiki/nunobiki/engine/Profile" "observed" "I" (.int (2 : Int32))) (F_s : Fld Z h0 r0 "com/example/nunobiki/nunobiki/engine/Profile" "observedScores" "[D" (.ref q_a)) (V_a : Arv Z h0 q_a k_a .double (8 : Int32) [(.double u0), (.double u1), (.double (0 : UInt64)), (.double (0 : UInt64)), (.double (0 : UInt64)), (.double (0 : UInt64)), (.double (0 : UInt64)), (.double (0 : UInt64))] (.double (0 : UInt64))) (E_a : Exa Z h0 q_a "[D") (ne_r0_q_a : r0 ≠ q_a) : own_Met l Z (⟨"com/example/nunobiki/nunobiki/engine/Profile", "observedScores", "()[D"⟩ : MethodName) prog_20_method_18_code 1 (some (.array .double)) ws own_R16_2 #[(.ref r0)] h0 (own_Q16_2 Z r0 q_a k_a u0 u1 h0 n0) := by
  refine own_met (plainFor_of_name own_pn3) ?_
  intro p e s m below meth c s₁ hx hby hml hown hnm hret hlk hZ e0 X0
  have N0 := Fr.nil n0
  have hml : c.maxLocals = 1 := hml
  have hown : s.vm.findClass "com/example/nunobiki/nunobiki/engine/Profile" = some m.cls := hown
  have hret : meth.sig.returnType = (some (.array .double)) := hret
  have hby : c.code = prog_20_method_18_code := hby
  have hnm : meth.name = "observedScores" := hnm
  rw [own_ef16_2]
  show own_Goes p e below _ (s₁.setTop (mkF m 0 #[.val (.ref r0)] []))
  refine own_go (fun t k => XS.aloadN X0.here hx rfl (hb hby own_d16_0) rfl rfl k) ?_
  show own_Goes p e below _ (s₁.setTop (mkF m 1 #[.val (.ref r0)] [(.ref r0)]))
  obtain ⟨T134, X134, e134, st134⟩ := getF X0 hx hZ hown (host := "") (Or.inl (hw _ own_t71)) Via.refl e0 F_s (g := (mkF m 1 #[.val (.ref r0)] [(.ref r0)])) rfl rfl (hb hby own_d16_1)
  refine own_go st134 ?_
  show own_Goes p e below _ (T134.setTop (mkF m 4 #[.val (.ref r0)] [(.ref q_a)]))
  refine own_go (fun t k => XS.aloadN X134.here hx rfl (hb hby own_d16_4) rfl rfl k) ?_
  show own_Goes p e below _ (T134.setTop (mkF m 5 #[.val (.ref r0)] [(.ref r0), (.ref q_a)]))
  obtain ⟨T135, X135, e135, st135⟩ := getF X134 hx hZ hown (host := "") (Or.inl (hw _ own_t91)) Via.refl e134 F_o (g := (mkF m 5 #[.val (.ref r0)] [(.ref r0), (.ref q_a)])) rfl rfl (hb hby own_d16_5)
  refine own_go st135 ?_
  show own_Goes p e below _ (T135.setTop (mkF m 8 #[.val (.ref r0)] [(.int (2 : Int32)), (.ref q_a)]))
  obtain ⟨_, T136, L136, X136, ⟨b136, kb136, rfl, N136q, K136, lt_b136, G136_0, G136_1⟩, st136⟩ := own_callS X135 hx hZ hown (hw _ own_t97) (hw _ own_t98) (hw _ own_t99) (hw _ own_t100) (by decide) (as := [(.ref q_a), (.int (2 : Int32))]) (rm13_2 l Z a0 hw [] q_a k_a u0 u1 h0 n0 Z0 V_a E_a) e135 own_pd2 rfl (pc := 8) (Ls := #[.val (.ref r0)]) (rest := []) (W := 0) (by rw [hml]; rfl) (Nat.le_of_eq rfl) (by decide) (by decide) (hb hby own_d16_8) (by decide) (by decide)
  have N136 := Fr.app N0 N136q
  have ne_r0_b136 : r0 ≠ b136 := Nat.ne_of_lt (Nat.lt_of_lt_of_le F_o.lt lt_b136)
  have ne_q_a_b136 : q_a ≠ b136 := Nat.ne_of_lt (Nat.lt_of_lt_of_le V_a.lt lt_b136)
  have g_b136 : n0 ≤ b136 := Nat.le_trans Z0 lt_b136
  have sz_b136 : h0.size ≤ b136 := Nat.le_trans (Keep.refl h0 ([] : List Addr)).1 lt_b136
  refine own_go st136 ?_
  show own_Goes p e below _ (T136.setTop (mkF m 11 #[.val (.ref r0)] [(.ref b136)]))
  exact own_retR X136 hx hlk hret rfl rfl (hb hby own_d16_11) (by decide) (by decide) (⟨_, _, rfl, N136, ((Keep.refl h0 ([] : List Addr)).trans K136 (fun x hx => nomatch hx)), sz_b136, G136_0, G136_1⟩)
def own_Q16_3 (Z : State) (r0 : Addr) (q_a : Addr) (k_a : ClassId) (u0 : UInt64) (u1 : UInt64) (u2 : UInt64) (h0 : Heap) (n0 : Nat) (v : Option Value) (h : Heap) (L : List Loc) : Prop := ∃ b : Addr, ∃ kb : ClassId, v = some (.ref b) ∧ Fr n0 L ∧ Keep h0 h [] ∧ h0.size ≤ b ∧ Arv Z h b kb .double (3 : Int32) [(.double u0), (.double u1), (.double u2)] (.double (0 : UInt64)) ∧ Exa Z h b "[D"
abbrev own_R16_3 : Room := { frames := 2, cells := 1, slots := 3, locals := 32 }
theorem own_ef16_3 (m : MethodId) (z0 : Addr) : entryFrame m #[(.ref z0)] 1 = mkF m 0 #[.val (.ref z0)] [] := by first | (simp [entryFrame, mkF, argsToLocals, Value.category]; done) | rfl
set_option maxRecDepth 65536 in
set_option maxHeartbeats 40000000 in
theorem rm16_3 (l : Launch) (Z : State) (a0 : Array Value) (hw : ∀ d ∈ tables_1, d.before a0 Z = true) (ws : List Jvm.Cond) (r0 : Addr) (q_a : Addr) (k_a : ClassId) (u0 : UInt64) (u1 : UInt64) (u2 : UInt64) (h0 : Heap) (n0 : Nat) (Z0 : n0 ≤ h0.size) (F_o : Fld Z h0 r0 "com/example/nunobiki/nunobiki/engine/Profile" "observed" "I" (.int (3 : Int32))) (F_s : Fld Z h0 r0 "com/example/nunobiki/nunobiki/engine/Profile" "observedScores" "[D" (.ref q_a)) (V_a : Arv Z h0 q_a k_a .double (8 : Int32) [(.double u0), (.double u1), (.double u2), (.double (0 : UInt64)), (.double (0 : UInt64)), (.double (0 : UInt64)), (.double (0 : UInt64)), (.double (0 : UInt64))] (.double (0 : UInt64))) (E_a : Exa Z h0 q_a "[D") (ne_r0_q_a : r0 ≠ q_a) : own_Met l Z (⟨"com/example/nunobiki/nunobiki/engine/Profile", "observedScores", "()[D"⟩ : MethodName) prog_20_method_18_code 1 (some (.array .double)) ws own_R16_3 #[(.ref r0)] h0 (own_Q16_3 Z r0 q_a k_a u0 u1 u2 h0 n0) := by
  refine own_met (plainFor_of_name own_pn3) ?_
  intro p e s m below meth c s₁ hx hby hml hown hnm hret hlk hZ e0 X0
  have N0 := Fr.nil n0
  have hml : c.maxLocals = 1 := hml
  have hown : s.vm.findClass "com/example/nunobiki/nunobiki/engine/Profile" = some m.cls := hown
  have hret : meth.sig.returnType = (some (.array .double)) := hret
  have hby : c.code = prog_20_method_18_code := hby
  have hnm : meth.name = "observedScores" := hnm
  rw [own_ef16_3]
  show own_Goes p e below _ (s₁.setTop (mkF m 0 #[.val (.ref r0)] []))
  refine own_go (fun t k => XS.aloadN X0.here hx rfl (hb hby own_d16_0) rfl rfl k) ?_
  show own_Goes p e below _ (s₁.setTop (mkF m 1 #[.val (.ref r0)] [(.ref r0)]))
  obtain ⟨T137, X137, e137, st137⟩ := getF X0 hx hZ hown (host := "") (Or.inl (hw _ own_t71)) Via.refl e0 F_s (g := (mkF m 1 #[.val (.ref r0)] [(.ref r0)])) rfl rfl (hb hby own_d16_1)
  refine own_go st137 ?_
  show own_Goes p e below _ (T137.setTop (mkF m 4 #[.val (.ref r0)] [(.ref q_a)]))
  refine own_go (fun t k => XS.aloadN X137.here hx rfl (hb hby own_d16_4) rfl rfl k) ?_
  show own_Goes p e below _ (T137.setTop (mkF m 5 #[.val (.ref r0)] [(.ref r0), (.ref q_a)]))
  obtain ⟨T138, X138, e138, st138⟩ := getF X137 hx hZ hown (host := "") (Or.inl (hw _ own_t91)) Via.refl e137 F_o (g := (mkF m 5 #[.val (.ref r0)] [(.ref r0), (.ref q_a)])) rfl rfl (hb hby own_d16_5)
  refine own_go st138 ?_
  show own_Goes p e below _ (T138.setTop (mkF m 8 #[.val (.ref r0)] [(.int (3 : Int32)), (.ref q_a)]))
  obtain ⟨_, T139, L139, X139, ⟨b139, kb139, rfl, N139q, K139, lt_b139, G139_0, G139_1⟩, st139⟩ := own_callS X138 hx hZ hown (hw _ own_t97) (hw _ own_t98) (hw _ own_t99) (hw _ own_t100) (by decide) (as := [(.ref q_a), (.int (3 : Int32))]) (rm13_3 l Z a0 hw [] q_a k_a u0 u1 u2 h0 n0 Z0 V_a E_a) e138 own_pd2 rfl (pc := 8) (Ls := #[.val (.ref r0)]) (rest := []) (W := 0) (by rw [hml]; rfl) (Nat.le_of_eq rfl) (by decide) (by decide) (hb hby own_d16_8) (by decide) (by decide)
  have N139 := Fr.app N0 N139q
  have ne_r0_b139 : r0 ≠ b139 := Nat.ne_of_lt (Nat.lt_of_lt_of_le F_o.lt lt_b139)
  have ne_q_a_b139 : q_a ≠ b139 := Nat.ne_of_lt (Nat.lt_of_lt_of_le V_a.lt lt_b139)
  have g_b139 : n0 ≤ b139 := Nat.le_trans Z0 lt_b139
  have sz_b139 : h0.size ≤ b139 := Nat.le_trans (Keep.refl h0 ([] : List Addr)).1 lt_b139
  refine own_go st139 ?_
  show own_Goes p e below _ (T139.setTop (mkF m 11 #[.val (.ref r0)] [(.ref b139)]))
  exact own_retR X139 hx hlk hret rfl rfl (hb hby own_d16_11) (by decide) (by decide) (⟨_, _, rfl, N139, ((Keep.refl h0 ([] : List Addr)).trans K139 (fun x hx => nomatch hx)), sz_b139, G139_0, G139_1⟩)
theorem own_d17_0 : decode prog_20_method_13_code 0 = .ok (.aload_n 0, 1) := by decide +kernel
theorem own_d17_1 : decode prog_20_method_13_code 1 = .ok (.getfield 42, 3) := by decide +kernel
theorem own_d17_4 : decode prog_20_method_13_code 4 = .ok (.dreturn, 1) := by decide +kernel
def own_Q17 (r0 : Addr) (q_t : UInt64) (h0 : Heap) (n0 : Nat) (v : Option Value) (h : Heap) (L : List Loc) : Prop := v = some (.double q_t) ∧ Fr n0 L ∧ h = h0
abbrev own_R17 : Room := { frames := 0, cells := 0, slots := 0, locals := 0 }
theorem own_ef17 (m : MethodId) (z0 : Addr) : entryFrame m #[(.ref z0)] 1 = mkF m 0 #[.val (.ref z0)] [] := by first | (simp [entryFrame, mkF, argsToLocals, Value.category]; done) | rfl
set_option maxRecDepth 65536 in
set_option maxHeartbeats 40000000 in
theorem rm17 (l : Launch) (Z : State) (a0 : Array Value) (hw : ∀ d ∈ tables_1, d.before a0 Z = true) (ws : List Jvm.Cond) (r0 : Addr) (q_t : UInt64) (h0 : Heap) (n0 : Nat) (F_t : Fld Z h0 r0 "com/example/nunobiki/nunobiki/engine/Profile" "unitThreshold" "D" (.double q_t)) : own_Met l Z (⟨"com/example/nunobiki/nunobiki/engine/Profile", "unitThreshold", "()D"⟩ : MethodName) prog_20_method_13_code 1 (some .double) ws own_R17 #[(.ref r0)] h0 (own_Q17 r0 q_t h0 n0) := by
  refine own_met (plainFor_of_name own_pn3) ?_
  intro p e s m below meth c s₁ hx hby hml hown hnm hret hlk hZ e0 X0
  have N0 := Fr.nil n0
  have hml : c.maxLocals = 1 := hml
  have hown : s.vm.findClass "com/example/nunobiki/nunobiki/engine/Profile" = some m.cls := hown
  have hret : meth.sig.returnType = (some .double) := hret
  have hby : c.code = prog_20_method_13_code := hby
  have hnm : meth.name = "unitThreshold" := hnm
  rw [own_ef17]
  show own_Goes p e below _ (s₁.setTop (mkF m 0 #[.val (.ref r0)] []))
  refine own_go (fun t k => XS.aloadN X0.here hx rfl (hb hby own_d17_0) rfl rfl k) ?_
  show own_Goes p e below _ (s₁.setTop (mkF m 1 #[.val (.ref r0)] [(.ref r0)]))
  obtain ⟨T140, X140, e140, st140⟩ := getF X0 hx hZ hown (host := "") (Or.inl (hw _ own_t82)) Via.refl e0 F_t (g := (mkF m 1 #[.val (.ref r0)] [(.ref r0)])) rfl rfl (hb hby own_d17_1)
  refine own_go st140 ?_
  show own_Goes p e below _ (T140.setTop (mkF m 4 #[.val (.ref r0)] [(.double q_t)]))
  exact own_retD X140 hx hlk hret (hb hby own_d17_4) (by decide) (by decide) ⟨rfl, N0, e140⟩
theorem own_t108 : (Jvm.Cond.methodLink "com/example/nunobiki/nunobiki/engine/ProfileForgetObservedScoresPinLaw" (21 : Nat) ({ cls := "com/example/nunobiki/nunobiki/engine/Profile", name := "forgetObservedScores", desc := "()V" } : Jvm.MethodName)) ∈ tables_1 := List.mem_of_getElem? (i := 108) rfl
theorem own_t109 : (Jvm.Cond.declares ({ cls := "com/example/nunobiki/nunobiki/engine/Profile", name := "forgetObservedScores", desc := "()V" } : Jvm.MethodName)) ∈ tables_1 := List.mem_of_getElem? (i := 109) rfl
theorem own_t111 : (Jvm.Cond.selects "com/example/nunobiki/nunobiki/engine/Profile" ({ cls := "com/example/nunobiki/nunobiki/engine/Profile", name := "forgetObservedScores", desc := "()V" } : Jvm.MethodName) ({ cls := "com/example/nunobiki/nunobiki/engine/Profile", name := "forgetObservedScores", desc := "()V" } : Jvm.MethodName)) ∈ tables_1 := List.mem_of_getElem? (i := 111) rfl
theorem own_t110 : (Jvm.Cond.instanceMethod ({ cls := "com/example/nunobiki/nunobiki/engine/Profile", name := "forgetObservedScores", desc := "()V" } : Jvm.MethodName)) ∈ tables_1 := List.mem_of_getElem? (i := 110) rfl
theorem own_t3 : (Jvm.Cond.initialized "com/example/nunobiki/nunobiki/engine/Profile") ∈ tables_1 := List.mem_of_getElem? (i := 3) rfl
theorem own_t112 : (Jvm.Cond.code ({ cls := "com/example/nunobiki/nunobiki/engine/Profile", name := "forgetObservedScores", desc := "()V" } : Jvm.MethodName) prog_20_method_19_code (1 : Nat) (Option.none : Option Jvm.ClassFile.FieldType)) ∈ tables_1 := List.mem_of_getElem? (i := 112) rfl
theorem own_t113 : (Jvm.Cond.methodLink "com/example/nunobiki/nunobiki/engine/ProfileForgetObservedScoresPinLaw" (24 : Nat) ({ cls := "com/example/nunobiki/nunobiki/engine/Profile", name := "observedScores", desc := "()[D" } : Jvm.MethodName)) ∈ tables_1 := List.mem_of_getElem? (i := 113) rfl
theorem own_pd3 : parseMethodDescriptor "()[D" = some ⟨[], some (.array .double)⟩ := by decide +kernel
theorem own_t114 : (Jvm.Cond.declares ({ cls := "com/example/nunobiki/nunobiki/engine/Profile", name := "observedScores", desc := "()[D" } : Jvm.MethodName)) ∈ tables_1 := List.mem_of_getElem? (i := 114) rfl
theorem own_t116 : (Jvm.Cond.selects "com/example/nunobiki/nunobiki/engine/Profile" ({ cls := "com/example/nunobiki/nunobiki/engine/Profile", name := "observedScores", desc := "()[D" } : Jvm.MethodName) ({ cls := "com/example/nunobiki/nunobiki/engine/Profile", name := "observedScores", desc := "()[D" } : Jvm.MethodName)) ∈ tables_1 := List.mem_of_getElem? (i := 116) rfl
theorem own_t115 : (Jvm.Cond.instanceMethod ({ cls := "com/example/nunobiki/nunobiki/engine/Profile", name := "observedScores", desc := "()[D" } : Jvm.MethodName)) ∈ tables_1 := List.mem_of_getElem? (i := 115) rfl
theorem own_t117 : (Jvm.Cond.code ({ cls := "com/example/nunobiki/nunobiki/engine/Profile", name := "observedScores", desc := "()[D" } : Jvm.MethodName) prog_20_method_18_code (1 : Nat) (Option.some (Jvm.ClassFile.FieldType.array Jvm.ClassFile.FieldType.double))) ∈ tables_1 := List.mem_of_getElem? (i := 117) rfl
theorem own_t127 : (Jvm.Cond.methodLink "com/example/nunobiki/nunobiki/engine/ProfileForgetObservedScoresPinLaw" (28 : Nat) ({ cls := "com/example/nunobiki/nunobiki/engine/Profile", name := "unitThreshold", desc := "()D" } : Jvm.MethodName)) ∈ tables_1 := List.mem_of_getElem? (i := 127) rfl
theorem own_pd4 : parseMethodDescriptor "()D" = some ⟨[], some .double⟩ := by decide +kernel
theorem own_t128 : (Jvm.Cond.declares ({ cls := "com/example/nunobiki/nunobiki/engine/Profile", name := "unitThreshold", desc := "()D" } : Jvm.MethodName)) ∈ tables_1 := List.mem_of_getElem? (i := 128) rfl
theorem own_t130 : (Jvm.Cond.selects "com/example/nunobiki/nunobiki/engine/Profile" ({ cls := "com/example/nunobiki/nunobiki/engine/Profile", name := "unitThreshold", desc := "()D" } : Jvm.MethodName) ({ cls := "com/example/nunobiki/nunobiki/engine/Profile", name := "unitThreshold", desc := "()D" } : Jvm.MethodName)) ∈ tables_1 := List.mem_of_getElem? (i := 130) rfl
theorem own_t129 : (Jvm.Cond.instanceMethod ({ cls := "com/example/nunobiki/nunobiki/engine/Profile", name := "unitThreshold", desc := "()D" } : Jvm.MethodName)) ∈ tables_1 := List.mem_of_getElem? (i := 129) rfl
theorem own_t131 : (Jvm.Cond.code ({ cls := "com/example/nunobiki/nunobiki/engine/Profile", name := "unitThreshold", desc := "()D" } : Jvm.MethodName) prog_20_method_13_code (1 : Nat) (Option.some Jvm.ClassFile.FieldType.double)) ∈ tables_1 := List.mem_of_getElem? (i := 131) rfl
theorem own_t86 : (Jvm.Cond.methodLink "com/example/nunobiki/nunobiki/engine/ProfileForgetObservedScoresPinLaw" (17 : Nat) ({ cls := "com/example/nunobiki/nunobiki/engine/Profile", name := "observe", desc := "(D)V" } : Jvm.MethodName)) ∈ tables_1 := List.mem_of_getElem? (i := 86) rfl
theorem own_pd5 : parseMethodDescriptor "(D)V" = some ⟨[.double], none⟩ := by decide +kernel
theorem own_t87 : (Jvm.Cond.declares ({ cls := "com/example/nunobiki/nunobiki/engine/Profile", name := "observe", desc := "(D)V" } : Jvm.MethodName)) ∈ tables_1 := List.mem_of_getElem? (i := 87) rfl
theorem own_t89 : (Jvm.Cond.selects "com/example/nunobiki/nunobiki/engine/Profile" ({ cls := "com/example/nunobiki/nunobiki/engine/Profile", name := "observe", desc := "(D)V" } : Jvm.MethodName) ({ cls := "com/example/nunobiki/nunobiki/engine/Profile", name := "observe", desc := "(D)V" } : Jvm.MethodName)) ∈ tables_1 := List.mem_of_getElem? (i := 89) rfl
theorem own_t88 : (Jvm.Cond.instanceMethod ({ cls := "com/example/nunobiki/nunobiki/engine/Profile", name := "observe", desc := "(D)V" } : Jvm.MethodName)) ∈ tables_1 := List.mem_of_getElem? (i := 88) rfl
theorem own_t90 : (Jvm.Cond.code ({ cls := "com/example/nunobiki/nunobiki/engine/Profile", name := "observe", desc := "(D)V" } : Jvm.MethodName) prog_20_method_17_code (3 : Nat) (Option.none : Option Jvm.ClassFile.FieldType)) ∈ tables_1 := List.mem_of_getElem? (i := 90) rfl
def own_f0 : Int32 := 1
def own_Q0 (x0 : Int32) (x1 : Int32) (x2 : Int32) (x3 : Int32) (x4 : Int32) (x5 : Int32) (z_cs : Int32) (h0 : Heap) (n0 : Nat) (v : Option Value) (h : Heap) (L : List Loc) : Prop := v = some (.int own_f0) ∧ Fr n0 L ∧ True
def own_j0_11 (x3 : Int32) : Int32 := (if (x3 &&& (4 : Int32)) = (0 : Int32) then (0 : Int32) else (1 : Int32))
set_option maxRecDepth 65536 in
set_option maxHeartbeats 40000000 in
theorem own_k103 (l : Launch) (Z : State) (a0 : Array Value) (hw : ∀ d ∈ tables_1, d.before a0 Z = true) (x0 : Int32) (x1 : Int32) (x2 : Int32) (x3 : Int32) (x4 : Int32) (x5 : Int32) (z_cs : Int32) (h0 : Heap) (n0 : Nat) (Z0 : n0 ≤ h0.size) (O0 : Old Z n0 h0) (S_CS : Sta Z Z.heap "java/lang/String" "COMPACT_STRINGS" "Z" (.int z_cs)) (z_CS : ¬ z_cs = 0) (p : Program) (e : Env) (s : State) (m : MethodId) (below : List Frame) (meth : Method) (c : Code) (hx : p.tables.exec = Jvm.exec) (hby : c.code = code) (hml : c.maxLocals = 18) (hown : s.vm.findClass "com/example/nunobiki/nunobiki/engine/ProfileForgetObservedScoresPinLaw" = some m.cls) (hret : meth.sig.returnType = (some .boolean)) (hlk : meth.locks = false) (hZ : Z.Warmed39 s.vm) (T0 : State) (L0 : List Loc) (hh : Heap) (X0 : Stand p l e room_1 s m #[(.int x0), (.int x1), (.int x2), (.int x3), (.int x4), (.int x5)] below meth c T0 L0 12 60) (e0 : T0.heap = hh) (N0 : Fr n0 L0) (Z1 : n0 ≤ hh.size) (P a6 q_s : Addr) (q_o : Int32) (g_P : n0 ≤ P) (E_P : Exa Z hh P "com/example/nunobiki/nunobiki/engine/Profile") (F_o : Fld Z hh P "com/example/nunobiki/nunobiki/engine/Profile" "observed" "I" (.int q_o)) (F_s : Fld Z hh P "com/example/nunobiki/nunobiki/engine/Profile" "observedScores" "[D" (.ref q_s)) (F_t : Fld Z hh P "com/example/nunobiki/nunobiki/engine/Profile" "unitThreshold" "D" (.double (FP.i2d x5))) : own_Goes p e below (own_End s room_1 (own_Q0 x0 x1 x2 x3 x4 x5 z_cs h0 n0)) (T0.setTop (mkF m 103 #[.val (.int x0), .val (.int x1), .val (.int x2), .val (.int x3), .val (.int x4), .val (.int x5), .val (.ref a6), .val (.ref P), .val (.double (FP.i2d x0)), .second, .val (.double (FP.i2d x1)), .second, .val (.double (FP.i2d x2)), .second, .val (.int (x3 &&& (3 : Int32))), .unset, .unset, .unset] [])) := by
  show own_Goes p e below _ (T0.setTop (mkF m 103 #[.val (.int x0), .val (.int x1), .val (.int x2), .val (.int x3), .val (.int x4), .val (.int x5), .val (.ref a6), .val (.ref P), .val (.double (FP.i2d x0)), .second, .val (.double (FP.i2d x1)), .second, .val (.double (FP.i2d x2)), .second, .val (.int (x3 &&& (3 : Int32))), .unset, .unset, .unset] []))
  refine own_go (fun t k => XS.aload X0.here hx rfl (hb hby at_103) rfl rfl k) ?_
  show own_Goes p e below _ (T0.setTop (mkF m 105 #[.val (.int x0), .val (.int x1), .val (.int x2), .val (.int x3), .val (.int x4), .val (.int x5), .val (.ref a6), .val (.ref P), .val (.double (FP.i2d x0)), .second, .val (.double (FP.i2d x1)), .second, .val (.double (FP.i2d x2)), .second, .val (.int (x3 &&& (3 : Int32))), .unset, .unset, .unset] [(.ref P)]))
  obtain ⟨_, T141, L141, X141, ⟨b141, kb141, rfl, N141q, K141, lt_b141, G141_0, G141_1, G141_2, G141_3, G141_4, G141_5⟩, st141⟩ := own_callV X0 hx hZ hown (hw _ own_t108) (hw _ own_t109) (hw _ own_t111) (hw _ own_t110) (hw _ own_t3) (hw _ own_t112) (by decide) (b := P) (as := []) (rm15 l Z a0 hw [] P (FP.i2d x5) q_s q_o hh n0 Z1 g_P E_P F_o F_s F_t) e0 E_P own_pd0 rfl (pc := 105) (Ls := #[.val (.int x0), .val (.int x1), .val (.int x2), .val (.int x3), .val (.int x4), .val (.int x5), .val (.ref a6), .val (.ref P), .val (.double (FP.i2d x0)), .second, .val (.double (FP.i2d x1)), .second, .val (.double (FP.i2d x2)), .second, .val (.int (x3 &&& (3 : Int32))), .unset, .unset, .unset]) (rest := []) (W := 0) (by rw [hml]; rfl) (Nat.le_of_eq rfl) (by decide) (by decide) (hb hby at_105) (by decide) (by decide)
  have N141 := Fr.app N0 N141q
  have ne_P_b141 : P ≠ b141 := Nat.ne_of_lt (Nat.lt_of_lt_of_le E_P.lt lt_b141)
  have g_b141 : n0 ≤ b141 := Nat.le_trans Z1 lt_b141
  refine own_go st141 ?_
  show own_Goes p e below _ (T141.setTop (mkF m 108 #[.val (.int x0), .val (.int x1), .val (.int x2), .val (.int x3), .val (.int x4), .val (.int x5), .val (.ref a6), .val (.ref P), .val (.double (FP.i2d x0)), .second, .val (.double (FP.i2d x1)), .second, .val (.double (FP.i2d x2)), .second, .val (.int (x3 &&& (3 : Int32))), .unset, .unset, .unset] []))
  refine own_go (fun t k => XS.aload X141.here hx rfl (hb hby at_108) rfl rfl k) ?_
  show own_Goes p e below _ (T141.setTop (mkF m 110 #[.val (.int x0), .val (.int x1), .val (.int x2), .val (.int x3), .val (.int x4), .val (.int x5), .val (.ref a6), .val (.ref P), .val (.double (FP.i2d x0)), .second, .val (.double (FP.i2d x1)), .second, .val (.double (FP.i2d x2)), .second, .val (.int (x3 &&& (3 : Int32))), .unset, .unset, .unset] [(.ref P)]))
  obtain ⟨_, T142, L142, X142, ⟨b142, kb142, rfl, N142q, K142, lt_b142, G142_0, G142_1⟩, st142⟩ := own_callV X141 hx hZ hown (hw _ own_t113) (hw _ own_t114) (hw _ own_t116) (hw _ own_t115) (hw _ own_t3) (hw _ own_t117) (by decide) (b := P) (as := []) (rm16_0 l Z a0 hw [] P b141 kb141 T141.heap n0 (Nat.le_trans Z1 K141.1) G141_1 G141_2 G141_4 G141_5 ne_P_b141) rfl G141_0 own_pd3 rfl (pc := 110) (Ls := #[.val (.int x0), .val (.int x1), .val (.int x2), .val (.int x3), .val (.int x4), .val (.int x5), .val (.ref a6), .val (.ref P), .val (.double (FP.i2d x0)), .second, .val (.double (FP.i2d x1)), .second, .val (.double (FP.i2d x2)), .second, .val (.int (x3 &&& (3 : Int32))), .unset, .unset, .unset]) (rest := []) (W := 0) (by rw [hml]; rfl) (Nat.le_of_eq rfl) (by decide) (by decide) (hb hby at_110) (by decide) (by decide)
  have N142 := Fr.app N141 N142q
  have ne_P_b142 : P ≠ b142 := Nat.ne_of_lt (Nat.lt_of_lt_of_le G141_0.lt lt_b142)
  have ne_b141_b142 : b141 ≠ b142 := Nat.ne_of_lt (Nat.lt_of_lt_of_le G141_4.lt lt_b142)
  have g_b142 : n0 ≤ b142 := Nat.le_trans (Nat.le_trans Z1 K141.1) lt_b142
  refine own_go st142 ?_
  show own_Goes p e below _ (T142.setTop (mkF m 113 #[.val (.int x0), .val (.int x1), .val (.int x2), .val (.int x3), .val (.int x4), .val (.int x5), .val (.ref a6), .val (.ref P), .val (.double (FP.i2d x0)), .second, .val (.double (FP.i2d x1)), .second, .val (.double (FP.i2d x2)), .second, .val (.int (x3 &&& (3 : Int32))), .unset, .unset, .unset] [(.ref b142)]))
  refine own_go (fun t k => XS.astore X142.here hx rfl (hb hby at_113) rfl rfl (l' := #[.val (.int x0), .val (.int x1), .val (.int x2), .val (.int x3), .val (.int x4), .val (.int x5), .val (.ref a6), .val (.ref P), .val (.double (FP.i2d x0)), .second, .val (.double (FP.i2d x1)), .second, .val (.double (FP.i2d x2)), .second, .val (.int (x3 &&& (3 : Int32))), .val (.ref b142), .unset, .unset]) rfl k) ?_
  show own_Goes p e below _ (T142.setTop (mkF m 115 #[.val (.int x0), .val (.int x1), .val (.int x2), .val (.int x3), .val (.int x4), .val (.int x5), .val (.ref a6), .val (.ref P), .val (.double (FP.i2d x0)), .second, .val (.double (FP.i2d x1)), .second, .val (.double (FP.i2d x2)), .second, .val (.int (x3 &&& (3 : Int32))), .val (.ref b142), .unset, .unset] []))
  refine own_go (fun t k => XS.aload X142.here hx rfl (hb hby at_115) rfl rfl k) ?_
  show own_Goes p e below _ (T142.setTop (mkF m 117 #[.val (.int x0), .val (.int x1), .val (.int x2), .val (.int x3), .val (.int x4), .val (.int x5), .val (.ref a6), .val (.ref P), .val (.double (FP.i2d x0)), .second, .val (.double (FP.i2d x1)), .second, .val (.double (FP.i2d x2)), .second, .val (.int (x3 &&& (3 : Int32))), .val (.ref b142), .unset, .unset] [(.ref b142)]))
  obtain ⟨cl143, Ar143, qa143, sa143, na143, ha143, ga143⟩ := id G142_0
  refine own_go (fun t k => X142.arraylength hx Ar143.1 (State.isArrayOf_alike hZ.alike Ar143.2.1) (g := (mkF m 117 #[.val (.int x0), .val (.int x1), .val (.int x2), .val (.int x3), .val (.int x4), .val (.int x5), .val (.ref a6), .val (.ref P), .val (.double (FP.i2d x0)), .second, .val (.double (FP.i2d x1)), .second, .val (.double (FP.i2d x2)), .second, .val (.int (x3 &&& (3 : Int32))), .val (.ref b142), .unset, .unset] [(.ref b142)])) rfl rfl (hb hby at_117) t k) ?_
  rw [len_of sa143 (by decide)]
  show own_Goes p e below _ (T142.setTop (mkF m 118 #[.val (.int x0), .val (.int x1), .val (.int x2), .val (.int x3), .val (.int x4), .val (.int x5), .val (.ref a6), .val (.ref P), .val (.double (FP.i2d x0)), .second, .val (.double (FP.i2d x1)), .second, .val (.double (FP.i2d x2)), .second, .val (.int (x3 &&& (3 : Int32))), .val (.ref b142), .unset, .unset] [(.int (0 : Int32))]))
  have hd144 : (0 : Int32) = (0 : Int32) := (by decide)
  refine own_go (fun t k => XS.ifYes X142.here hx rfl (pc0 := 118) (pc' := 123) rfl (hb hby at_118) rfl ((if0 _ _).trans (teq hd144).1) (by decide) (by decide) k) ?_
  show own_Goes p e below _ (T142.setTop (mkF m 123 #[.val (.int x0), .val (.int x1), .val (.int x2), .val (.int x3), .val (.int x4), .val (.int x5), .val (.ref a6), .val (.ref P), .val (.double (FP.i2d x0)), .second, .val (.double (FP.i2d x1)), .second, .val (.double (FP.i2d x2)), .second, .val (.int (x3 &&& (3 : Int32))), .val (.ref b142), .unset, .unset] []))
  refine own_go (fun t k => XS.iload X142.here hx rfl (hb hby at_123) rfl k) ?_
  show own_Goes p e below _ (T142.setTop (mkF m 125 #[.val (.int x0), .val (.int x1), .val (.int x2), .val (.int x3), .val (.int x4), .val (.int x5), .val (.ref a6), .val (.ref P), .val (.double (FP.i2d x0)), .second, .val (.double (FP.i2d x1)), .second, .val (.double (FP.i2d x2)), .second, .val (.int (x3 &&& (3 : Int32))), .val (.ref b142), .unset, .unset] [(.int x4)]))
  refine own_go (fun t k => XS.iconst X142.here hx rfl (hb hby at_125) k) ?_
  show own_Goes p e below _ (T142.setTop (mkF m 126 #[.val (.int x0), .val (.int x1), .val (.int x2), .val (.int x3), .val (.int x4), .val (.int x5), .val (.ref a6), .val (.ref P), .val (.double (FP.i2d x0)), .second, .val (.double (FP.i2d x1)), .second, .val (.double (FP.i2d x2)), .second, .val (.int (x3 &&& (3 : Int32))), .val (.ref b142), .unset, .unset] [(.int (3 : Int32)), (.int x4)]))
  refine own_go (fun t k => XS.iand X142.here hx rfl (hb hby at_126) rfl k) ?_
  show own_Goes p e below _ (T142.setTop (mkF m 127 #[.val (.int x0), .val (.int x1), .val (.int x2), .val (.int x3), .val (.int x4), .val (.int x5), .val (.ref a6), .val (.ref P), .val (.double (FP.i2d x0)), .second, .val (.double (FP.i2d x1)), .second, .val (.double (FP.i2d x2)), .second, .val (.int (x3 &&& (3 : Int32))), .val (.ref b142), .unset, .unset] [(.int (x4 &&& (3 : Int32)))]))
  refine own_go (fun t k => XS.istore X142.here hx rfl (hb hby at_127) rfl (l' := #[.val (.int x0), .val (.int x1), .val (.int x2), .val (.int x3), .val (.int x4), .val (.int x5), .val (.ref a6), .val (.ref P), .val (.double (FP.i2d x0)), .second, .val (.double (FP.i2d x1)), .second, .val (.double (FP.i2d x2)), .second, .val (.int (x3 &&& (3 : Int32))), .val (.ref b142), .val (.int (x4 &&& (3 : Int32))), .unset]) rfl k) ?_
  show own_Goes p e below _ (T142.setTop (mkF m 129 #[.val (.int x0), .val (.int x1), .val (.int x2), .val (.int x3), .val (.int x4), .val (.int x5), .val (.ref a6), .val (.ref P), .val (.double (FP.i2d x0)), .second, .val (.double (FP.i2d x1)), .second, .val (.double (FP.i2d x2)), .second, .val (.int (x3 &&& (3 : Int32))), .val (.ref b142), .val (.int (x4 &&& (3 : Int32))), .unset] []))
  refine own_go (fun t k => XS.iload X142.here hx rfl (hb hby at_129) rfl k) ?_
  show own_Goes p e below _ (T142.setTop (mkF m 131 #[.val (.int x0), .val (.int x1), .val (.int x2), .val (.int x3), .val (.int x4), .val (.int x5), .val (.ref a6), .val (.ref P), .val (.double (FP.i2d x0)), .second, .val (.double (FP.i2d x1)), .second, .val (.double (FP.i2d x2)), .second, .val (.int (x3 &&& (3 : Int32))), .val (.ref b142), .val (.int (x4 &&& (3 : Int32))), .unset] [(.int (x4 &&& (3 : Int32)))]))
  refine own_go (fun t k => XS.iconst X142.here hx rfl (hb hby at_131) k) ?_
  show own_Goes p e below _ (T142.setTop (mkF m 132 #[.val (.int x0), .val (.int x1), .val (.int x2), .val (.int x3), .val (.int x4), .val (.int x5), .val (.ref a6), .val (.ref P), .val (.double (FP.i2d x0)), .second, .val (.double (FP.i2d x1)), .second, .val (.double (FP.i2d x2)), .second, .val (.int (x3 &&& (3 : Int32))), .val (.ref b142), .val (.int (x4 &&& (3 : Int32))), .unset] [(.int (1 : Int32)), (.int (x4 &&& (3 : Int32)))]))
  by_cases hc145 : (x4 &&& (3 : Int32)) < (1 : Int32)
  · refine own_go (fun t k => XS.icmpYes X142.here hx rfl (pc0 := 132) (pc' := 142) rfl (hb hby at_132) rfl (tlt hc145).1 (by decide) (by decide) k) ?_
    show own_Goes p e below _ (T142.setTop (mkF m 142 #[.val (.int x0), .val (.int x1), .val (.int x2), .val (.int x3), .val (.int x4), .val (.int x5), .val (.ref a6), .val (.ref P), .val (.double (FP.i2d x0)), .second, .val (.double (FP.i2d x1)), .second, .val (.double (FP.i2d x2)), .second, .val (.int (x3 &&& (3 : Int32))), .val (.ref b142), .val (.int (x4 &&& (3 : Int32))), .unset] []))
    refine own_go (fun t k => XS.iload X142.here hx rfl (hb hby at_142) rfl k) ?_
    show own_Goes p e below _ (T142.setTop (mkF m 144 #[.val (.int x0), .val (.int x1), .val (.int x2), .val (.int x3), .val (.int x4), .val (.int x5), .val (.ref a6), .val (.ref P), .val (.double (FP.i2d x0)), .second, .val (.double (FP.i2d x1)), .second, .val (.double (FP.i2d x2)), .second, .val (.int (x3 &&& (3 : Int32))), .val (.ref b142), .val (.int (x4 &&& (3 : Int32))), .unset] [(.int (x4 &&& (3 : Int32)))]))
    refine own_go (fun t k => XS.iconst X142.here hx rfl (hb hby at_144) k) ?_
    show own_Goes p e below _ (T142.setTop (mkF m 145 #[.val (.int x0), .val (.int x1), .val (.int x2), .val (.int x3), .val (.int x4), .val (.int x5), .val (.ref a6), .val (.ref P), .val (.double (FP.i2d x0)), .second, .val (.double (FP.i2d x1)), .second, .val (.double (FP.i2d x2)), .second, .val (.int (x3 &&& (3 : Int32))), .val (.ref b142), .val (.int (x4 &&& (3 : Int32))), .unset] [(.int (2 : Int32)), (.int (x4 &&& (3 : Int32)))]))
    have hd146 : (x4 &&& (3 : Int32)) < (2 : Int32) := (own_lt12 hc145)
    refine own_go (fun t k => XS.icmpYes X142.here hx rfl (pc0 := 145) (pc' := 155) rfl (hb hby at_145) rfl (tlt hd146).1 (by decide) (by decide) k) ?_
    show own_Goes p e below _ (T142.setTop (mkF m 155 #[.val (.int x0), .val (.int x1), .val (.int x2), .val (.int x3), .val (.int x4), .val (.int x5), .val (.ref a6), .val (.ref P), .val (.double (FP.i2d x0)), .second, .val (.double (FP.i2d x1)), .second, .val (.double (FP.i2d x2)), .second, .val (.int (x3 &&& (3 : Int32))), .val (.ref b142), .val (.int (x4 &&& (3 : Int32))), .unset] []))
    refine own_go (fun t k => XS.iload X142.here hx rfl (hb hby at_155) rfl k) ?_
    show own_Goes p e below _ (T142.setTop (mkF m 157 #[.val (.int x0), .val (.int x1), .val (.int x2), .val (.int x3), .val (.int x4), .val (.int x5), .val (.ref a6), .val (.ref P), .val (.double (FP.i2d x0)), .second, .val (.double (FP.i2d x1)), .second, .val (.double (FP.i2d x2)), .second, .val (.int (x3 &&& (3 : Int32))), .val (.ref b142), .val (.int (x4 &&& (3 : Int32))), .unset] [(.int (x4 &&& (3 : Int32)))]))
    refine own_go (fun t k => XS.iconst X142.here hx rfl (hb hby at_157) k) ?_
    show own_Goes p e below _ (T142.setTop (mkF m 158 #[.val (.int x0), .val (.int x1), .val (.int x2), .val (.int x3), .val (.int x4), .val (.int x5), .val (.ref a6), .val (.ref P), .val (.double (FP.i2d x0)), .second, .val (.double (FP.i2d x1)), .second, .val (.double (FP.i2d x2)), .second, .val (.int (x3 &&& (3 : Int32))), .val (.ref b142), .val (.int (x4 &&& (3 : Int32))), .unset] [(.int (3 : Int32)), (.int (x4 &&& (3 : Int32)))]))
    have hd147 : (x4 &&& (3 : Int32)) < (3 : Int32) := (own_lt23 (own_lt12 hc145))
    refine own_go (fun t k => XS.icmpYes X142.here hx rfl (pc0 := 158) (pc' := 168) rfl (hb hby at_158) rfl (tlt hd147).1 (by decide) (by decide) k) ?_
    show own_Goes p e below _ (T142.setTop (mkF m 168 #[.val (.int x0), .val (.int x1), .val (.int x2), .val (.int x3), .val (.int x4), .val (.int x5), .val (.ref a6), .val (.ref P), .val (.double (FP.i2d x0)), .second, .val (.double (FP.i2d x1)), .second, .val (.double (FP.i2d x2)), .second, .val (.int (x3 &&& (3 : Int32))), .val (.ref b142), .val (.int (x4 &&& (3 : Int32))), .unset] []))
    refine own_go (fun t k => XS.aload X142.here hx rfl (hb hby at_168) rfl rfl k) ?_
    show own_Goes p e below _ (T142.setTop (mkF m 170 #[.val (.int x0), .val (.int x1), .val (.int x2), .val (.int x3), .val (.int x4), .val (.int x5), .val (.ref a6), .val (.ref P), .val (.double (FP.i2d x0)), .second, .val (.double (FP.i2d x1)), .second, .val (.double (FP.i2d x2)), .second, .val (.int (x3 &&& (3 : Int32))), .val (.ref b142), .val (.int (x4 &&& (3 : Int32))), .unset] [(.ref P)]))
    have ff149 : Fld Z T142.heap P "com/example/nunobiki/nunobiki/engine/Profile" "observed" "I" (.int (0 : Int32)) := (G141_1.keep K142 List.not_mem_nil)
    have ff150 : Fld Z T142.heap P "com/example/nunobiki/nunobiki/engine/Profile" "observedScores" "[D" (.ref b141) := (G141_2.keep K142 List.not_mem_nil)
    have ff151 : Arv Z T142.heap b141 kb141 .double (0 : Int32) [] (.double (0 : UInt64)) := (G141_4.keep K142 List.not_mem_nil)
    obtain ⟨_, T148, L148, X148, ⟨b148, kb148, rfl, N148q, K148, lt_b148, G148_0, G148_1⟩, st148⟩ := own_callV X142 hx hZ hown (hw _ own_t113) (hw _ own_t114) (hw _ own_t116) (hw _ own_t115) (hw _ own_t3) (hw _ own_t117) (by decide) (b := P) (as := []) (rm16_0 l Z a0 hw [] P b141 kb141 T142.heap n0 (Nat.le_trans (Nat.le_trans Z1 K141.1) K142.1) ff149 ff150 ff151 (G141_5.keep K142) ne_P_b141) rfl (G141_0.keep K142) own_pd3 rfl (pc := 170) (Ls := #[.val (.int x0), .val (.int x1), .val (.int x2), .val (.int x3), .val (.int x4), .val (.int x5), .val (.ref a6), .val (.ref P), .val (.double (FP.i2d x0)), .second, .val (.double (FP.i2d x1)), .second, .val (.double (FP.i2d x2)), .second, .val (.int (x3 &&& (3 : Int32))), .val (.ref b142), .val (.int (x4 &&& (3 : Int32))), .unset]) (rest := []) (W := 0) (by rw [hml]; rfl) (Nat.le_of_eq rfl) (by decide) (by decide) (hb hby at_170) (by decide) (by decide)
    have N148 := Fr.app N142 N148q
    have ne_P_b148 : P ≠ b148 := Nat.ne_of_lt (Nat.lt_of_lt_of_le (G141_0.keep K142).lt lt_b148)
    have ne_b141_b148 : b141 ≠ b148 := Nat.ne_of_lt (Nat.lt_of_lt_of_le ff151.lt lt_b148)
    have ne_b142_b148 : b142 ≠ b148 := Nat.ne_of_lt (Nat.lt_of_lt_of_le G142_0.lt lt_b148)
    have g_b148 : n0 ≤ b148 := Nat.le_trans (Nat.le_trans (Nat.le_trans Z1 K141.1) K142.1) lt_b148
    refine own_go st148 ?_
    show own_Goes p e below _ (T148.setTop (mkF m 173 #[.val (.int x0), .val (.int x1), .val (.int x2), .val (.int x3), .val (.int x4), .val (.int x5), .val (.ref a6), .val (.ref P), .val (.double (FP.i2d x0)), .second, .val (.double (FP.i2d x1)), .second, .val (.double (FP.i2d x2)), .second, .val (.int (x3 &&& (3 : Int32))), .val (.ref b142), .val (.int (x4 &&& (3 : Int32))), .unset] [(.ref b148)]))
    refine own_go (fun t k => XS.astore X148.here hx rfl (hb hby at_173) rfl rfl (l' := #[.val (.int x0), .val (.int x1), .val (.int x2), .val (.int x3), .val (.int x4), .val (.int x5), .val (.ref a6), .val (.ref P), .val (.double (FP.i2d x0)), .second, .val (.double (FP.i2d x1)), .second, .val (.double (FP.i2d x2)), .second, .val (.int (x3 &&& (3 : Int32))), .val (.ref b142), .val (.int (x4 &&& (3 : Int32))), .val (.ref b148)]) rfl k) ?_
    show own_Goes p e below _ (T148.setTop (mkF m 175 #[.val (.int x0), .val (.int x1), .val (.int x2), .val (.int x3), .val (.int x4), .val (.int x5), .val (.ref a6), .val (.ref P), .val (.double (FP.i2d x0)), .second, .val (.double (FP.i2d x1)), .second, .val (.double (FP.i2d x2)), .second, .val (.int (x3 &&& (3 : Int32))), .val (.ref b142), .val (.int (x4 &&& (3 : Int32))), .val (.ref b148)] []))
    refine own_go (fun t k => XS.aload X148.here hx rfl (hb hby at_175) rfl rfl k) ?_
    show own_Goes p e below _ (T148.setTop (mkF m 177 #[.val (.int x0), .val (.int x1), .val (.int x2), .val (.int x3), .val (.int x4), .val (.int x5), .val (.ref a6), .val (.ref P), .val (.double (FP.i2d x0)), .second, .val (.double (FP.i2d x1)), .second, .val (.double (FP.i2d x2)), .second, .val (.int (x3 &&& (3 : Int32))), .val (.ref b142), .val (.int (x4 &&& (3 : Int32))), .val (.ref b148)] [(.ref b148)]))
    obtain ⟨cl152, Ar152, qa152, sa152, na152, ha152, ga152⟩ := id G148_0
    refine own_go (fun t k => X148.arraylength hx Ar152.1 (State.isArrayOf_alike hZ.alike Ar152.2.1) (g := (mkF m 177 #[.val (.int x0), .val (.int x1), .val (.int x2), .val (.int x3), .val (.int x4), .val (.int x5), .val (.ref a6), .val (.ref P), .val (.double (FP.i2d x0)), .second, .val (.double (FP.i2d x1)), .second, .val (.double (FP.i2d x2)), .second, .val (.int (x3 &&& (3 : Int32))), .val (.ref b142), .val (.int (x4 &&& (3 : Int32))), .val (.ref b148)] [(.ref b148)])) rfl rfl (hb hby at_177) t k) ?_
    rw [len_of sa152 (by decide)]
    show own_Goes p e below _ (T148.setTop (mkF m 178 #[.val (.int x0), .val (.int x1), .val (.int x2), .val (.int x3), .val (.int x4), .val (.int x5), .val (.ref a6), .val (.ref P), .val (.double (FP.i2d x0)), .second, .val (.double (FP.i2d x1)), .second, .val (.double (FP.i2d x2)), .second, .val (.int (x3 &&& (3 : Int32))), .val (.ref b142), .val (.int (x4 &&& (3 : Int32))), .val (.ref b148)] [(.int (0 : Int32))]))
    refine own_go (fun t k => XS.iload X148.here hx rfl (hb hby at_178) rfl k) ?_
    show own_Goes p e below _ (T148.setTop (mkF m 180 #[.val (.int x0), .val (.int x1), .val (.int x2), .val (.int x3), .val (.int x4), .val (.int x5), .val (.ref a6), .val (.ref P), .val (.double (FP.i2d x0)), .second, .val (.double (FP.i2d x1)), .second, .val (.double (FP.i2d x2)), .second, .val (.int (x3 &&& (3 : Int32))), .val (.ref b142), .val (.int (x4 &&& (3 : Int32))), .val (.ref b148)] [(.int (x4 &&& (3 : Int32))), (.int (0 : Int32))]))
    have hd153 : (0 : Int32) = (x4 &&& (3 : Int32)) := (own_q0 x4 hc145)
    refine own_go (fun t k => XS.icmpYes X148.here hx rfl (pc0 := 180) (pc' := 185) rfl (hb hby at_180) rfl (teq hd153).1 (by decide) (by decide) k) ?_
    show own_Goes p e below _ (T148.setTop (mkF m 185 #[.val (.int x0), .val (.int x1), .val (.int x2), .val (.int x3), .val (.int x4), .val (.int x5), .val (.ref a6), .val (.ref P), .val (.double (FP.i2d x0)), .second, .val (.double (FP.i2d x1)), .second, .val (.double (FP.i2d x2)), .second, .val (.int (x3 &&& (3 : Int32))), .val (.ref b142), .val (.int (x4 &&& (3 : Int32))), .val (.ref b148)] []))
    refine own_go (fun t k => XS.iload X148.here hx rfl (hb hby at_185) rfl k) ?_
    show own_Goes p e below _ (T148.setTop (mkF m 187 #[.val (.int x0), .val (.int x1), .val (.int x2), .val (.int x3), .val (.int x4), .val (.int x5), .val (.ref a6), .val (.ref P), .val (.double (FP.i2d x0)), .second, .val (.double (FP.i2d x1)), .second, .val (.double (FP.i2d x2)), .second, .val (.int (x3 &&& (3 : Int32))), .val (.ref b142), .val (.int (x4 &&& (3 : Int32))), .val (.ref b148)] [(.int (x4 &&& (3 : Int32)))]))
    refine own_go (fun t k => XS.iconst X148.here hx rfl (hb hby at_187) k) ?_
    show own_Goes p e below _ (T148.setTop (mkF m 188 #[.val (.int x0), .val (.int x1), .val (.int x2), .val (.int x3), .val (.int x4), .val (.int x5), .val (.ref a6), .val (.ref P), .val (.double (FP.i2d x0)), .second, .val (.double (FP.i2d x1)), .second, .val (.double (FP.i2d x2)), .second, .val (.int (x3 &&& (3 : Int32))), .val (.ref b142), .val (.int (x4 &&& (3 : Int32))), .val (.ref b148)] [(.int (1 : Int32)), (.int (x4 &&& (3 : Int32)))]))
    have hd154 : (x4 &&& (3 : Int32)) < (1 : Int32) := hc145
    refine own_go (fun t k => XS.icmpYes X148.here hx rfl (pc0 := 188) (pc' := 203) rfl (hb hby at_188) rfl (tlt hd154).1 (by decide) (by decide) k) ?_
    show own_Goes p e below _ (T148.setTop (mkF m 203 #[.val (.int x0), .val (.int x1), .val (.int x2), .val (.int x3), .val (.int x4), .val (.int x5), .val (.ref a6), .val (.ref P), .val (.double (FP.i2d x0)), .second, .val (.double (FP.i2d x1)), .second, .val (.double (FP.i2d x2)), .second, .val (.int (x3 &&& (3 : Int32))), .val (.ref b142), .val (.int (x4 &&& (3 : Int32))), .val (.ref b148)] []))
    refine own_go (fun t k => XS.iload X148.here hx rfl (hb hby at_203) rfl k) ?_
    show own_Goes p e below _ (T148.setTop (mkF m 205 #[.val (.int x0), .val (.int x1), .val (.int x2), .val (.int x3), .val (.int x4), .val (.int x5), .val (.ref a6), .val (.ref P), .val (.double (FP.i2d x0)), .second, .val (.double (FP.i2d x1)), .second, .val (.double (FP.i2d x2)), .second, .val (.int (x3 &&& (3 : Int32))), .val (.ref b142), .val (.int (x4 &&& (3 : Int32))), .val (.ref b148)] [(.int (x4 &&& (3 : Int32)))]))
    refine own_go (fun t k => XS.iconst X148.here hx rfl (hb hby at_205) k) ?_
    show own_Goes p e below _ (T148.setTop (mkF m 206 #[.val (.int x0), .val (.int x1), .val (.int x2), .val (.int x3), .val (.int x4), .val (.int x5), .val (.ref a6), .val (.ref P), .val (.double (FP.i2d x0)), .second, .val (.double (FP.i2d x1)), .second, .val (.double (FP.i2d x2)), .second, .val (.int (x3 &&& (3 : Int32))), .val (.ref b142), .val (.int (x4 &&& (3 : Int32))), .val (.ref b148)] [(.int (2 : Int32)), (.int (x4 &&& (3 : Int32)))]))
    have hd155 : (x4 &&& (3 : Int32)) < (2 : Int32) := (own_lt12 hc145)
    refine own_go (fun t k => XS.icmpYes X148.here hx rfl (pc0 := 206) (pc' := 221) rfl (hb hby at_206) rfl (tlt hd155).1 (by decide) (by decide) k) ?_
    show own_Goes p e below _ (T148.setTop (mkF m 221 #[.val (.int x0), .val (.int x1), .val (.int x2), .val (.int x3), .val (.int x4), .val (.int x5), .val (.ref a6), .val (.ref P), .val (.double (FP.i2d x0)), .second, .val (.double (FP.i2d x1)), .second, .val (.double (FP.i2d x2)), .second, .val (.int (x3 &&& (3 : Int32))), .val (.ref b142), .val (.int (x4 &&& (3 : Int32))), .val (.ref b148)] []))
    refine own_go (fun t k => XS.iload X148.here hx rfl (hb hby at_221) rfl k) ?_
    show own_Goes p e below _ (T148.setTop (mkF m 223 #[.val (.int x0), .val (.int x1), .val (.int x2), .val (.int x3), .val (.int x4), .val (.int x5), .val (.ref a6), .val (.ref P), .val (.double (FP.i2d x0)), .second, .val (.double (FP.i2d x1)), .second, .val (.double (FP.i2d x2)), .second, .val (.int (x3 &&& (3 : Int32))), .val (.ref b142), .val (.int (x4 &&& (3 : Int32))), .val (.ref b148)] [(.int (x4 &&& (3 : Int32)))]))
    refine own_go (fun t k => XS.iconst X148.here hx rfl (hb hby at_223) k) ?_
    show own_Goes p e below _ (T148.setTop (mkF m 224 #[.val (.int x0), .val (.int x1), .val (.int x2), .val (.int x3), .val (.int x4), .val (.int x5), .val (.ref a6), .val (.ref P), .val (.double (FP.i2d x0)), .second, .val (.double (FP.i2d x1)), .second, .val (.double (FP.i2d x2)), .second, .val (.int (x3 &&& (3 : Int32))), .val (.ref b142), .val (.int (x4 &&& (3 : Int32))), .val (.ref b148)] [(.int (3 : Int32)), (.int (x4 &&& (3 : Int32)))]))
    have hd156 : (x4 &&& (3 : Int32)) < (3 : Int32) := (own_lt23 (own_lt12 hc145))
    refine own_go (fun t k => XS.icmpYes X148.here hx rfl (pc0 := 224) (pc' := 239) rfl (hb hby at_224) rfl (tlt hd156).1 (by decide) (by decide) k) ?_
    show own_Goes p e below _ (T148.setTop (mkF m 239 #[.val (.int x0), .val (.int x1), .val (.int x2), .val (.int x3), .val (.int x4), .val (.int x5), .val (.ref a6), .val (.ref P), .val (.double (FP.i2d x0)), .second, .val (.double (FP.i2d x1)), .second, .val (.double (FP.i2d x2)), .second, .val (.int (x3 &&& (3 : Int32))), .val (.ref b142), .val (.int (x4 &&& (3 : Int32))), .val (.ref b148)] []))
    refine own_go (fun t k => XS.aload X148.here hx rfl (hb hby at_239) rfl rfl k) ?_
    show own_Goes p e below _ (T148.setTop (mkF m 241 #[.val (.int x0), .val (.int x1), .val (.int x2), .val (.int x3), .val (.int x4), .val (.int x5), .val (.ref a6), .val (.ref P), .val (.double (FP.i2d x0)), .second, .val (.double (FP.i2d x1)), .second, .val (.double (FP.i2d x2)), .second, .val (.int (x3 &&& (3 : Int32))), .val (.ref b142), .val (.int (x4 &&& (3 : Int32))), .val (.ref b148)] [(.ref P)]))
    have ff158 : Fld Z T148.heap P "com/example/nunobiki/nunobiki/engine/Profile" "unitThreshold" "D" (.double (FP.i2d x5)) := ((G141_3.keep K142 List.not_mem_nil).keep K148 List.not_mem_nil)
    obtain ⟨_, T157, L157, X157, ⟨rfl, N157q, e157⟩, st157⟩ := own_callV X148 hx hZ hown (hw _ own_t127) (hw _ own_t128) (hw _ own_t130) (hw _ own_t129) (hw _ own_t3) (hw _ own_t131) (by decide) (b := P) (as := []) (rm17 l Z a0 hw [] P (FP.i2d x5) T148.heap n0 ff158) rfl ((G141_0.keep K142).keep K148) own_pd4 rfl (pc := 241) (Ls := #[.val (.int x0), .val (.int x1), .val (.int x2), .val (.int x3), .val (.int x4), .val (.int x5), .val (.ref a6), .val (.ref P), .val (.double (FP.i2d x0)), .second, .val (.double (FP.i2d x1)), .second, .val (.double (FP.i2d x2)), .second, .val (.int (x3 &&& (3 : Int32))), .val (.ref b142), .val (.int (x4 &&& (3 : Int32))), .val (.ref b148)]) (rest := []) (W := 0) (by rw [hml]; rfl) (Nat.le_of_eq rfl) (by decide) (by decide) (hb hby at_241) (by decide) (by decide)
    have N157 := Fr.app N148 N157q
    refine own_go st157 ?_
    show own_Goes p e below _ (T157.setTop (mkF m 244 #[.val (.int x0), .val (.int x1), .val (.int x2), .val (.int x3), .val (.int x4), .val (.int x5), .val (.ref a6), .val (.ref P), .val (.double (FP.i2d x0)), .second, .val (.double (FP.i2d x1)), .second, .val (.double (FP.i2d x2)), .second, .val (.int (x3 &&& (3 : Int32))), .val (.ref b142), .val (.int (x4 &&& (3 : Int32))), .val (.ref b148)] [(.double (FP.i2d x5))]))
    refine own_go (fun t k => XS.iload X157.here hx rfl (hb hby at_244) rfl k) ?_
    show own_Goes p e below _ (T157.setTop (mkF m 246 #[.val (.int x0), .val (.int x1), .val (.int x2), .val (.int x3), .val (.int x4), .val (.int x5), .val (.ref a6), .val (.ref P), .val (.double (FP.i2d x0)), .second, .val (.double (FP.i2d x1)), .second, .val (.double (FP.i2d x2)), .second, .val (.int (x3 &&& (3 : Int32))), .val (.ref b142), .val (.int (x4 &&& (3 : Int32))), .val (.ref b148)] [(.int x5), (.double (FP.i2d x5))]))
    refine own_go (fun t k => XS.i2dS X157.here hx rfl (hb hby at_246) rfl rfl k) ?_
    show own_Goes p e below _ (T157.setTop (mkF m 247 #[.val (.int x0), .val (.int x1), .val (.int x2), .val (.int x3), .val (.int x4), .val (.int x5), .val (.ref a6), .val (.ref P), .val (.double (FP.i2d x0)), .second, .val (.double (FP.i2d x1)), .second, .val (.double (FP.i2d x2)), .second, .val (.int (x3 &&& (3 : Int32))), .val (.ref b142), .val (.int (x4 &&& (3 : Int32))), .val (.ref b148)] [(.double (FP.i2d x5)), (.double (FP.i2d x5))]))
    refine own_go (fun t k => XS.dcmpS X157.here hx rfl (hb hby at_247) rfl rfl k) ?_
    show own_Goes p e below _ (T157.setTop (mkF m 248 #[.val (.int x0), .val (.int x1), .val (.int x2), .val (.int x3), .val (.int x4), .val (.int x5), .val (.ref a6), .val (.ref P), .val (.double (FP.i2d x0)), .second, .val (.double (FP.i2d x1)), .second, .val (.double (FP.i2d x2)), .second, .val (.int (x3 &&& (3 : Int32))), .val (.ref b142), .val (.int (x4 &&& (3 : Int32))), .val (.ref b148)] [(.int (cmpValue (FP.dcmp (FP.i2d x5) (FP.i2d x5)) .l))]))
    have hd159 : (cmpValue (FP.dcmp (FP.i2d x5) (FP.i2d x5)) .l) = (0 : Int32) := (own_dc x5)
    refine own_go (fun t k => XS.ifNo X157.here hx rfl (hb hby at_248) rfl ((if0 _ _).trans (teq hd159).2) k) ?_
    show own_Goes p e below _ (T157.setTop (mkF m 251 #[.val (.int x0), .val (.int x1), .val (.int x2), .val (.int x3), .val (.int x4), .val (.int x5), .val (.ref a6), .val (.ref P), .val (.double (FP.i2d x0)), .second, .val (.double (FP.i2d x1)), .second, .val (.double (FP.i2d x2)), .second, .val (.int (x3 &&& (3 : Int32))), .val (.ref b142), .val (.int (x4 &&& (3 : Int32))), .val (.ref b148)] []))
    refine own_go (fun t k => XS.iconst X157.here hx rfl (hb hby at_251) k) ?_
    show own_Goes p e below _ (T157.setTop (mkF m 252 #[.val (.int x0), .val (.int x1), .val (.int x2), .val (.int x3), .val (.int x4), .val (.int x5), .val (.ref a6), .val (.ref P), .val (.double (FP.i2d x0)), .second, .val (.double (FP.i2d x1)), .second, .val (.double (FP.i2d x2)), .second, .val (.int (x3 &&& (3 : Int32))), .val (.ref b142), .val (.int (x4 &&& (3 : Int32))), .val (.ref b148)] [(.int (1 : Int32))]))
    refine own_go (fun t k => XS.goto X157.here hx rfl (pc0 := 252) (pc' := 256) rfl (hb hby at_252) (by decide) (by decide) k) ?_
    show own_Goes p e below _ (T157.setTop (mkF m 256 #[.val (.int x0), .val (.int x1), .val (.int x2), .val (.int x3), .val (.int x4), .val (.int x5), .val (.ref a6), .val (.ref P), .val (.double (FP.i2d x0)), .second, .val (.double (FP.i2d x1)), .second, .val (.double (FP.i2d x2)), .second, .val (.int (x3 &&& (3 : Int32))), .val (.ref b142), .val (.int (x4 &&& (3 : Int32))), .val (.ref b148)] [(.int (1 : Int32))]))
    exact own_retN X157 hx hlk hret (by simp) (z' := (1 : Int32)) rfl (hb hby at_256) (by decide) (by decide) ⟨rfl, N157, trivial⟩
  · refine own_go (fun t k => XS.icmpNo X142.here hx rfl (hb hby at_132) rfl (flt hc145).1 k) ?_
    show own_Goes p e below _ (T142.setTop (mkF m 135 #[.val (.int x0), .val (.int x1), .val (.int x2), .val (.int x3), .val (.int x4), .val (.int x5), .val (.ref a6), .val (.ref P), .val (.double (FP.i2d x0)), .second, .val (.double (FP.i2d x1)), .second, .val (.double (FP.i2d x2)), .second, .val (.int (x3 &&& (3 : Int32))), .val (.ref b142), .val (.int (x4 &&& (3 : Int32))), .unset] []))
    refine own_go (fun t k => XS.aload X142.here hx rfl (hb hby at_135) rfl rfl k) ?_
    show own_Goes p e below _ (T142.setTop (mkF m 137 #[.val (.int x0), .val (.int x1), .val (.int x2), .val (.int x3), .val (.int x4), .val (.int x5), .val (.ref a6), .val (.ref P), .val (.double (FP.i2d x0)), .second, .val (.double (FP.i2d x1)), .second, .val (.double (FP.i2d x2)), .second, .val (.int (x3 &&& (3 : Int32))), .val (.ref b142), .val (.int (x4 &&& (3 : Int32))), .unset] [(.ref P)]))
    refine own_go (fun t k => XS.dload X142.here hx rfl (hb hby at_137) rfl k) ?_
    show own_Goes p e below _ (T142.setTop (mkF m 139 #[.val (.int x0), .val (.int x1), .val (.int x2), .val (.int x3), .val (.int x4), .val (.int x5), .val (.ref a6), .val (.ref P), .val (.double (FP.i2d x0)), .second, .val (.double (FP.i2d x1)), .second, .val (.double (FP.i2d x2)), .second, .val (.int (x3 &&& (3 : Int32))), .val (.ref b142), .val (.int (x4 &&& (3 : Int32))), .unset] [(.double (FP.i2d x2)), (.ref P)]))
    have ff161 : Fld Z T142.heap P "com/example/nunobiki/nunobiki/engine/Profile" "observed" "I" (.int (0 : Int32)) := (G141_1.keep K142 List.not_mem_nil)
    have ff162 : Fld Z T142.heap P "com/example/nunobiki/nunobiki/engine/Profile" "observedScores" "[D" (.ref b141) := (G141_2.keep K142 List.not_mem_nil)
    have ff163 : Fld Z T142.heap P "com/example/nunobiki/nunobiki/engine/Profile" "unitThreshold" "D" (.double (FP.i2d x5)) := (G141_3.keep K142 List.not_mem_nil)
    have ff164 : Arv Z T142.heap b141 kb141 .double (0 : Int32) [] (.double (0 : UInt64)) := (G141_4.keep K142 List.not_mem_nil)
    obtain ⟨_, T160, L160, X160, ⟨b160, kb160, rfl, N160q, K160, lt_b160, G160_0, G160_1, G160_2, G160_3, G160_4, G160_5⟩, st160⟩ := own_callV X142 hx hZ hown (hw _ own_t86) (hw _ own_t87) (hw _ own_t89) (hw _ own_t88) (hw _ own_t3) (hw _ own_t90) (by decide) (b := P) (as := [(.double (FP.i2d x2))]) (rm11_0 l Z a0 hw [] P (FP.i2d x2) (FP.i2d x5) b141 kb141 T142.heap n0 (Nat.le_trans (Nat.le_trans Z1 K141.1) K142.1) g_P (G141_0.keep K142) ff161 ff162 ff163 ff164 (G141_5.keep K142) ne_P_b141) rfl (G141_0.keep K142) own_pd5 rfl (pc := 139) (Ls := #[.val (.int x0), .val (.int x1), .val (.int x2), .val (.int x3), .val (.int x4), .val (.int x5), .val (.ref a6), .val (.ref P), .val (.double (FP.i2d x0)), .second, .val (.double (FP.i2d x1)), .second, .val (.double (FP.i2d x2)), .second, .val (.int (x3 &&& (3 : Int32))), .val (.ref b142), .val (.int (x4 &&& (3 : Int32))), .unset]) (rest := []) (W := 0) (by rw [hml]; rfl) (Nat.le_of_eq rfl) (by decide) (by decide) (hb hby at_139) (by decide) (by decide)
    have N160 := Fr.app N142 N160q
    have ne_P_b160 : P ≠ b160 := Nat.ne_of_lt (Nat.lt_of_lt_of_le (G141_0.keep K142).lt lt_b160)
    have ne_b141_b160 : b141 ≠ b160 := Nat.ne_of_lt (Nat.lt_of_lt_of_le ff164.lt lt_b160)
    have ne_b142_b160 : b142 ≠ b160 := Nat.ne_of_lt (Nat.lt_of_lt_of_le G142_0.lt lt_b160)
    have g_b160 : n0 ≤ b160 := Nat.le_trans (Nat.le_trans (Nat.le_trans Z1 K141.1) K142.1) lt_b160
    refine own_go st160 ?_
    show own_Goes p e below _ (T160.setTop (mkF m 142 #[.val (.int x0), .val (.int x1), .val (.int x2), .val (.int x3), .val (.int x4), .val (.int x5), .val (.ref a6), .val (.ref P), .val (.double (FP.i2d x0)), .second, .val (.double (FP.i2d x1)), .second, .val (.double (FP.i2d x2)), .second, .val (.int (x3 &&& (3 : Int32))), .val (.ref b142), .val (.int (x4 &&& (3 : Int32))), .unset] []))
    refine own_go (fun t k => XS.iload X160.here hx rfl (hb hby at_142) rfl k) ?_
    show own_Goes p e below _ (T160.setTop (mkF m 144 #[.val (.int x0), .val (.int x1), .val (.int x2), .val (.int x3), .val (.int x4), .val (.int x5), .val (.ref a6), .val (.ref P), .val (.double (FP.i2d x0)), .second, .val (.double (FP.i2d x1)), .second, .val (.double (FP.i2d x2)), .second, .val (.int (x3 &&& (3 : Int32))), .val (.ref b142), .val (.int (x4 &&& (3 : Int32))), .unset] [(.int (x4 &&& (3 : Int32)))]))
    refine own_go (fun t k => XS.iconst X160.here hx rfl (hb hby at_144) k) ?_
    show own_Goes p e below _ (T160.setTop (mkF m 145 #[.val (.int x0), .val (.int x1), .val (.int x2), .val (.int x3), .val (.int x4), .val (.int x5), .val (.ref a6), .val (.ref P), .val (.double (FP.i2d x0)), .second, .val (.double (FP.i2d x1)), .second, .val (.double (FP.i2d x2)), .second, .val (.int (x3 &&& (3 : Int32))), .val (.ref b142), .val (.int (x4 &&& (3 : Int32))), .unset] [(.int (2 : Int32)), (.int (x4 &&& (3 : Int32)))]))
    by_cases hc165 : (x4 &&& (3 : Int32)) < (2 : Int32)
    · refine own_go (fun t k => XS.icmpYes X160.here hx rfl (pc0 := 145) (pc' := 155) rfl (hb hby at_145) rfl (tlt hc165).1 (by decide) (by decide) k) ?_
      show own_Goes p e below _ (T160.setTop (mkF m 155 #[.val (.int x0), .val (.int x1), .val (.int x2), .val (.int x3), .val (.int x4), .val (.int x5), .val (.ref a6), .val (.ref P), .val (.double (FP.i2d x0)), .second, .val (.double (FP.i2d x1)), .second, .val (.double (FP.i2d x2)), .second, .val (.int (x3 &&& (3 : Int32))), .val (.ref b142), .val (.int (x4 &&& (3 : Int32))), .unset] []))
      refine own_go (fun t k => XS.iload X160.here hx rfl (hb hby at_155) rfl k) ?_
      show own_Goes p e below _ (T160.setTop (mkF m 157 #[.val (.int x0), .val (.int x1), .val (.int x2), .val (.int x3), .val (.int x4), .val (.int x5), .val (.ref a6), .val (.ref P), .val (.double (FP.i2d x0)), .second, .val (.double (FP.i2d x1)), .second, .val (.double (FP.i2d x2)), .second, .val (.int (x3 &&& (3 : Int32))), .val (.ref b142), .val (.int (x4 &&& (3 : Int32))), .unset] [(.int (x4 &&& (3 : Int32)))]))
      refine own_go (fun t k => XS.iconst X160.here hx rfl (hb hby at_157) k) ?_
      show own_Goes p e below _ (T160.setTop (mkF m 158 #[.val (.int x0), .val (.int x1), .val (.int x2), .val (.int x3), .val (.int x4), .val (.int x5), .val (.ref a6), .val (.ref P), .val (.double (FP.i2d x0)), .second, .val (.double (FP.i2d x1)), .second, .val (.double (FP.i2d x2)), .second, .val (.int (x3 &&& (3 : Int32))), .val (.ref b142), .val (.int (x4 &&& (3 : Int32))), .unset] [(.int (3 : Int32)), (.int (x4 &&& (3 : Int32)))]))
      have hd166 : (x4 &&& (3 : Int32)) < (3 : Int32) := (own_lt23 hc165)
      refine own_go (fun t k => XS.icmpYes X160.here hx rfl (pc0 := 158) (pc' := 168) rfl (hb hby at_158) rfl (tlt hd166).1 (by decide) (by decide) k) ?_
      show own_Goes p e below _ (T160.setTop (mkF m 168 #[.val (.int x0), .val (.int x1), .val (.int x2), .val (.int x3), .val (.int x4), .val (.int x5), .val (.ref a6), .val (.ref P), .val (.double (FP.i2d x0)), .second, .val (.double (FP.i2d x1)), .second, .val (.double (FP.i2d x2)), .second, .val (.int (x3 &&& (3 : Int32))), .val (.ref b142), .val (.int (x4 &&& (3 : Int32))), .unset] []))
      refine own_go (fun t k => XS.aload X160.here hx rfl (hb hby at_168) rfl rfl k) ?_
      show own_Goes p e below _ (T160.setTop (mkF m 170 #[.val (.int x0), .val (.int x1), .val (.int x2), .val (.int x3), .val (.int x4), .val (.int x5), .val (.ref a6), .val (.ref P), .val (.double (FP.i2d x0)), .second, .val (.double (FP.i2d x1)), .second, .val (.double (FP.i2d x2)), .second, .val (.int (x3 &&& (3 : Int32))), .val (.ref b142), .val (.int (x4 &&& (3 : Int32))), .unset] [(.ref P)]))
      obtain ⟨_, T167, L167, X167, ⟨b167, kb167, rfl, N167q, K167, lt_b167, G167_0, G167_1⟩, st167⟩ := own_callV X160 hx hZ hown (hw _ own_t113) (hw _ own_t114) (hw _ own_t116) (hw _ own_t115) (hw _ own_t3) (hw _ own_t117) (by decide) (b := P) (as := []) (rm16_1 l Z a0 hw [] P b160 kb160 (FP.i2d x2) T160.heap n0 (Nat.le_trans (Nat.le_trans (Nat.le_trans Z1 K141.1) K142.1) K160.1) G160_1 G160_2 G160_4 G160_5 ne_P_b160) rfl G160_0 own_pd3 rfl (pc := 170) (Ls := #[.val (.int x0), .val (.int x1), .val (.int x2), .val (.int x3), .val (.int x4), .val (.int x5), .val (.ref a6), .val (.ref P), .val (.double (FP.i2d x0)), .second, .val (.double (FP.i2d x1)), .second, .val (.double (FP.i2d x2)), .second, .val (.int (x3 &&& (3 : Int32))), .val (.ref b142), .val (.int (x4 &&& (3 : Int32))), .unset]) (rest := []) (W := 0) (by rw [hml]; rfl) (Nat.le_of_eq rfl) (by decide) (by decide) (hb hby at_170) (by decide) (by decide)
      have N167 := Fr.app N160 N167q
      have ne_P_b167 : P ≠ b167 := Nat.ne_of_lt (Nat.lt_of_lt_of_le G160_0.lt lt_b167)
      have ne_b141_b167 : b141 ≠ b167 := Nat.ne_of_lt (Nat.lt_of_lt_of_le (ff164.keep K160 (fun z => (Ne.symm ne_P_b141) (List.mem_singleton.mp z))).lt lt_b167)
      have ne_b142_b167 : b142 ≠ b167 := Nat.ne_of_lt (Nat.lt_of_lt_of_le (G142_0.keep K160 (fun z => (Ne.symm ne_P_b142) (List.mem_singleton.mp z))).lt lt_b167)
      have ne_b160_b167 : b160 ≠ b167 := Nat.ne_of_lt (Nat.lt_of_lt_of_le G160_4.lt lt_b167)
      have g_b167 : n0 ≤ b167 := Nat.le_trans (Nat.le_trans (Nat.le_trans (Nat.le_trans Z1 K141.1) K142.1) K160.1) lt_b167
      refine own_go st167 ?_
      show own_Goes p e below _ (T167.setTop (mkF m 173 #[.val (.int x0), .val (.int x1), .val (.int x2), .val (.int x3), .val (.int x4), .val (.int x5), .val (.ref a6), .val (.ref P), .val (.double (FP.i2d x0)), .second, .val (.double (FP.i2d x1)), .second, .val (.double (FP.i2d x2)), .second, .val (.int (x3 &&& (3 : Int32))), .val (.ref b142), .val (.int (x4 &&& (3 : Int32))), .unset] [(.ref b167)]))
      refine own_go (fun t k => XS.astore X167.here hx rfl (hb hby at_173) rfl rfl (l' := #[.val (.int x0), .val (.int x1), .val (.int x2), .val (.int x3), .val (.int x4), .val (.int x5), .val (.ref a6), .val (.ref P), .val (.double (FP.i2d x0)), .second, .val (.double (FP.i2d x1)), .second, .val (.double (FP.i2d x2)), .second, .val (.int (x3 &&& (3 : Int32))), .val (.ref b142), .val (.int (x4 &&& (3 : Int32))), .val (.ref b167)]) rfl k) ?_
      show own_Goes p e below _ (T167.setTop (mkF m 175 #[.val (.int x0), .val (.int x1), .val (.int x2), .val (.int x3), .val (.int x4), .val (.int x5), .val (.ref a6), .val (.ref P), .val (.double (FP.i2d x0)), .second, .val (.double (FP.i2d x1)), .second, .val (.double (FP.i2d x2)), .second, .val (.int (x3 &&& (3 : Int32))), .val (.ref b142), .val (.int (x4 &&& (3 : Int32))), .val (.ref b167)] []))
      refine own_go (fun t k => XS.aload X167.here hx rfl (hb hby at_175) rfl rfl k) ?_
      show own_Goes p e below _ (T167.setTop (mkF m 177 #[.val (.int x0), .val (.int x1), .val (.int x2), .val (.int x3), .val (.int x4), .val (.int x5), .val (.ref a6), .val (.ref P), .val (.double (FP.i2d x0)), .second, .val (.double (FP.i2d x1)), .second, .val (.double (FP.i2d x2)), .second, .val (.int (x3 &&& (3 : Int32))), .val (.ref b142), .val (.int (x4 &&& (3 : Int32))), .val (.ref b167)] [(.ref b167)]))
      obtain ⟨cl168, Ar168, qa168, sa168, na168, ha168, ga168⟩ := id G167_0
      refine own_go (fun t k => X167.arraylength hx Ar168.1 (State.isArrayOf_alike hZ.alike Ar168.2.1) (g := (mkF m 177 #[.val (.int x0), .val (.int x1), .val (.int x2), .val (.int x3), .val (.int x4), .val (.int x5), .val (.ref a6), .val (.ref P), .val (.double (FP.i2d x0)), .second, .val (.double (FP.i2d x1)), .second, .val (.double (FP.i2d x2)), .second, .val (.int (x3 &&& (3 : Int32))), .val (.ref b142), .val (.int (x4 &&& (3 : Int32))), .val (.ref b167)] [(.ref b167)])) rfl rfl (hb hby at_177) t k) ?_
      rw [len_of sa168 (by decide)]
      show own_Goes p e below _ (T167.setTop (mkF m 178 #[.val (.int x0), .val (.int x1), .val (.int x2), .val (.int x3), .val (.int x4), .val (.int x5), .val (.ref a6), .val (.ref P), .val (.double (FP.i2d x0)), .second, .val (.double (FP.i2d x1)), .second, .val (.double (FP.i2d x2)), .second, .val (.int (x3 &&& (3 : Int32))), .val (.ref b142), .val (.int (x4 &&& (3 : Int32))), .val (.ref b167)] [(.int (1 : Int32))]))
      refine own_go (fun t k => XS.iload X167.here hx rfl (hb hby at_178) rfl k) ?_
      show own_Goes p e below _ (T167.setTop (mkF m 180 #[.val (.int x0), .val (.int x1), .val (.int x2), .val (.int x3), .val (.int x4), .val (.int x5), .val (.ref a6), .val (.ref P), .val (.double (FP.i2d x0)), .second, .val (.double (FP.i2d x1)), .second, .val (.double (FP.i2d x2)), .second, .val (.int (x3 &&& (3 : Int32))), .val (.ref b142), .val (.int (x4 &&& (3 : Int32))), .val (.ref b167)] [(.int (x4 &&& (3 : Int32))), (.int (1 : Int32))]))
      have hd169 : (1 : Int32) = (x4 &&& (3 : Int32)) := (own_q1 x4 hc145 hc165)
      refine own_go (fun t k => XS.icmpYes X167.here hx rfl (pc0 := 180) (pc' := 185) rfl (hb hby at_180) rfl (teq hd169).1 (by decide) (by decide) k) ?_
      show own_Goes p e below _ (T167.setTop (mkF m 185 #[.val (.int x0), .val (.int x1), .val (.int x2), .val (.int x3), .val (.int x4), .val (.int x5), .val (.ref a6), .val (.ref P), .val (.double (FP.i2d x0)), .second, .val (.double (FP.i2d x1)), .second, .val (.double (FP.i2d x2)), .second, .val (.int (x3 &&& (3 : Int32))), .val (.ref b142), .val (.int (x4 &&& (3 : Int32))), .val (.ref b167)] []))
      refine own_go (fun t k => XS.iload X167.here hx rfl (hb hby at_185) rfl k) ?_
      show own_Goes p e below _ (T167.setTop (mkF m 187 #[.val (.int x0), .val (.int x1), .val (.int x2), .val (.int x3), .val (.int x4), .val (.int x5), .val (.ref a6), .val (.ref P), .val (.double (FP.i2d x0)), .second, .val (.double (FP.i2d x1)), .second, .val (.double (FP.i2d x2)), .second, .val (.int (x3 &&& (3 : Int32))), .val (.ref b142), .val (.int (x4 &&& (3 : Int32))), .val (.ref b167)] [(.int (x4 &&& (3 : Int32)))]))
      refine own_go (fun t k => XS.iconst X167.here hx rfl (hb hby at_187) k) ?_
      show own_Goes p e below _ (T167.setTop (mkF m 188 #[.val (.int x0), .val (.int x1), .val (.int x2), .val (.int x3), .val (.int x4), .val (.int x5), .val (.ref a6), .val (.ref P), .val (.double (FP.i2d x0)), .second, .val (.double (FP.i2d x1)), .second, .val (.double (FP.i2d x2)), .second, .val (.int (x3 &&& (3 : Int32))), .val (.ref b142), .val (.int (x4 &&& (3 : Int32))), .val (.ref b167)] [(.int (1 : Int32)), (.int (x4 &&& (3 : Int32)))]))
      have hd170 : ¬ ((x4 &&& (3 : Int32)) < (1 : Int32)) := hc145
      refine own_go (fun t k => XS.icmpNo X167.here hx rfl (hb hby at_188) rfl (flt hd170).1 k) ?_
      show own_Goes p e below _ (T167.setTop (mkF m 191 #[.val (.int x0), .val (.int x1), .val (.int x2), .val (.int x3), .val (.int x4), .val (.int x5), .val (.ref a6), .val (.ref P), .val (.double (FP.i2d x0)), .second, .val (.double (FP.i2d x1)), .second, .val (.double (FP.i2d x2)), .second, .val (.int (x3 &&& (3 : Int32))), .val (.ref b142), .val (.int (x4 &&& (3 : Int32))), .val (.ref b167)] []))
      refine own_go (fun t k => XS.aload X167.here hx rfl (hb hby at_191) rfl rfl k) ?_
      show own_Goes p e below _ (T167.setTop (mkF m 193 #[.val (.int x0), .val (.int x1), .val (.int x2), .val (.int x3), .val (.int x4), .val (.int x5), .val (.ref a6), .val (.ref P), .val (.double (FP.i2d x0)), .second, .val (.double (FP.i2d x1)), .second, .val (.double (FP.i2d x2)), .second, .val (.int (x3 &&& (3 : Int32))), .val (.ref b142), .val (.int (x4 &&& (3 : Int32))), .val (.ref b167)] [(.ref b167)]))
      refine own_go (fun t k => XS.iconst X167.here hx rfl (hb hby at_193) k) ?_
      show own_Goes p e below _ (T167.setTop (mkF m 194 #[.val (.int x0), .val (.int x1), .val (.int x2), .val (.int x3), .val (.int x4), .val (.int x5), .val (.ref a6), .val (.ref P), .val (.double (FP.i2d x0)), .second, .val (.double (FP.i2d x1)), .second, .val (.double (FP.i2d x2)), .second, .val (.int (x3 &&& (3 : Int32))), .val (.ref b142), .val (.int (x4 &&& (3 : Int32))), .val (.ref b167)] [(.int (0 : Int32)), (.ref b167)]))
      obtain ⟨cl171, Ar171, qa171, sa171, na171, ha171, ga171⟩ := id G167_0
      refine own_go (fun t k => X167.daload hx (j := (0 : Int32)) (v := (.double (FP.i2d x2))) Ar171.1 (State.isArrayOf_alike hZ.alike Ar171.2.1) Ar171.2.2 (inb_of sa171 ⟨by decide, by decide⟩) (ha171 _ (by rw [sa171]; decide)) (g := (mkF m 194 #[.val (.int x0), .val (.int x1), .val (.int x2), .val (.int x3), .val (.int x4), .val (.int x5), .val (.ref a6), .val (.ref P), .val (.double (FP.i2d x0)), .second, .val (.double (FP.i2d x1)), .second, .val (.double (FP.i2d x2)), .second, .val (.int (x3 &&& (3 : Int32))), .val (.ref b142), .val (.int (x4 &&& (3 : Int32))), .val (.ref b167)] [(.int (0 : Int32)), (.ref b167)])) rfl rfl (hb hby at_194) t k) ?_
      show own_Goes p e below _ (T167.setTop (mkF m 195 #[.val (.int x0), .val (.int x1), .val (.int x2), .val (.int x3), .val (.int x4), .val (.int x5), .val (.ref a6), .val (.ref P), .val (.double (FP.i2d x0)), .second, .val (.double (FP.i2d x1)), .second, .val (.double (FP.i2d x2)), .second, .val (.int (x3 &&& (3 : Int32))), .val (.ref b142), .val (.int (x4 &&& (3 : Int32))), .val (.ref b167)] [(.double (FP.i2d x2))]))
      refine own_go (fun t k => XS.dload X167.here hx rfl (hb hby at_195) rfl k) ?_
      show own_Goes p e below _ (T167.setTop (mkF m 197 #[.val (.int x0), .val (.int x1), .val (.int x2), .val (.int x3), .val (.int x4), .val (.int x5), .val (.ref a6), .val (.ref P), .val (.double (FP.i2d x0)), .second, .val (.double (FP.i2d x1)), .second, .val (.double (FP.i2d x2)), .second, .val (.int (x3 &&& (3 : Int32))), .val (.ref b142), .val (.int (x4 &&& (3 : Int32))), .val (.ref b167)] [(.double (FP.i2d x2)), (.double (FP.i2d x2))]))
      refine own_go (fun t k => XS.dcmpS X167.here hx rfl (hb hby at_197) rfl rfl k) ?_
      show own_Goes p e below _ (T167.setTop (mkF m 198 #[.val (.int x0), .val (.int x1), .val (.int x2), .val (.int x3), .val (.int x4), .val (.int x5), .val (.ref a6), .val (.ref P), .val (.double (FP.i2d x0)), .second, .val (.double (FP.i2d x1)), .second, .val (.double (FP.i2d x2)), .second, .val (.int (x3 &&& (3 : Int32))), .val (.ref b142), .val (.int (x4 &&& (3 : Int32))), .val (.ref b167)] [(.int (cmpValue (FP.dcmp (FP.i2d x2) (FP.i2d x2)) .l))]))
      have hd172 : (cmpValue (FP.dcmp (FP.i2d x2) (FP.i2d x2)) .l) = (0 : Int32) := (own_dc x2)
      refine own_go (fun t k => XS.ifYes X167.here hx rfl (pc0 := 198) (pc' := 203) rfl (hb hby at_198) rfl ((if0 _ _).trans (teq hd172).1) (by decide) (by decide) k) ?_
      show own_Goes p e below _ (T167.setTop (mkF m 203 #[.val (.int x0), .val (.int x1), .val (.int x2), .val (.int x3), .val (.int x4), .val (.int x5), .val (.ref a6), .val (.ref P), .val (.double (FP.i2d x0)), .second, .val (.double (FP.i2d x1)), .second, .val (.double (FP.i2d x2)), .second, .val (.int (x3 &&& (3 : Int32))), .val (.ref b142), .val (.int (x4 &&& (3 : Int32))), .val (.ref b167)] []))
      refine own_go (fun t k => XS.iload X167.here hx rfl (hb hby at_203) rfl k) ?_
      show own_Goes p e below _ (T167.setTop (mkF m 205 #[.val (.int x0), .val (.int x1), .val (.int x2), .val (.int x3), .val (.int x4), .val (.int x5), .val (.ref a6), .val (.ref P), .val (.double (FP.i2d x0)), .second, .val (.double (FP.i2d x1)), .second, .val (.double (FP.i2d x2)), .second, .val (.int (x3 &&& (3 : Int32))), .val (.ref b142), .val (.int (x4 &&& (3 : Int32))), .val (.ref b167)] [(.int (x4 &&& (3 : Int32)))]))
      refine own_go (fun t k => XS.iconst X167.here hx rfl (hb hby at_205) k) ?_
      show own_Goes p e below _ (T167.setTop (mkF m 206 #[.val (.int x0), .val (.int x1), .val (.int x2), .val (.int x3), .val (.int x4), .val (.int x5), .val (.ref a6), .val (.ref P), .val (.double (FP.i2d x0)), .second, .val (.double (FP.i2d x1)), .second, .val (.double (FP.i2d x2)), .second, .val (.int (x3 &&& (3 : Int32))), .val (.ref b142), .val (.int (x4 &&& (3 : Int32))), .val (.ref b167)] [(.int (2 : Int32)), (.int (x4 &&& (3 : Int32)))]))
      have hd173 : (x4 &&& (3 : Int32)) < (2 : Int32) := hc165
      refine own_go (fun t k => XS.icmpYes X167.here hx rfl (pc0 := 206) (pc' := 221) rfl (hb hby at_206) rfl (tlt hd173).1 (by decide) (by decide) k) ?_
      show own_Goes p e below _ (T167.setTop (mkF m 221 #[.val (.int x0), .val (.int x1), .val (.int x2), .val (.int x3), .val (.int x4), .val (.int x5), .val (.ref a6), .val (.ref P), .val (.double (FP.i2d x0)), .second, .val (.double (FP.i2d x1)), .second, .val (.double (FP.i2d x2)), .second, .val (.int (x3 &&& (3 : Int32))), .val (.ref b142), .val (.int (x4 &&& (3 : Int32))), .val (.ref b167)] []))
      refine own_go (fun t k => XS.iload X167.here hx rfl (hb hby at_221) rfl k) ?_
      show own_Goes p e below _ (T167.setTop (mkF m 223 #[.val (.int x0), .val (.int x1), .val (.int x2), .val (.int x3), .val (.int x4), .val (.int x5), .val (.ref a6), .val (.ref P), .val (.double (FP.i2d x0)), .second, .val (.double (FP.i2d x1)), .second, .val (.double (FP.i2d x2)), .second, .val (.int (x3 &&& (3 : Int32))), .val (.ref b142), .val (.int (x4 &&& (3 : Int32))), .val (.ref b167)] [(.int (x4 &&& (3 : Int32)))]))
      refine own_go (fun t k => XS.iconst X167.here hx rfl (hb hby at_223) k) ?_
      show own_Goes p e below _ (T167.setTop (mkF m 224 #[.val (.int x0), .val (.int x1), .val (.int x2), .val (.int x3), .val (.int x4), .val (.int x5), .val (.ref a6), .val (.ref P), .val (.double (FP.i2d x0)), .second, .val (.double (FP.i2d x1)), .second, .val (.double (FP.i2d x2)), .second, .val (.int (x3 &&& (3 : Int32))), .val (.ref b142), .val (.int (x4 &&& (3 : Int32))), .val (.ref b167)] [(.int (3 : Int32)), (.int (x4 &&& (3 : Int32)))]))
      have hd174 : (x4 &&& (3 : Int32)) < (3 : Int32) := (own_lt23 hc165)
      refine own_go (fun t k => XS.icmpYes X167.here hx rfl (pc0 := 224) (pc' := 239) rfl (hb hby at_224) rfl (tlt hd174).1 (by decide) (by decide) k) ?_
      show own_Goes p e below _ (T167.setTop (mkF m 239 #[.val (.int x0), .val (.int x1), .val (.int x2), .val (.int x3), .val (.int x4), .val (.int x5), .val (.ref a6), .val (.ref P), .val (.double (FP.i2d x0)), .second, .val (.double (FP.i2d x1)), .second, .val (.double (FP.i2d x2)), .second, .val (.int (x3 &&& (3 : Int32))), .val (.ref b142), .val (.int (x4 &&& (3 : Int32))), .val (.ref b167)] []))
      refine own_go (fun t k => XS.aload X167.here hx rfl (hb hby at_239) rfl rfl k) ?_
      show own_Goes p e below _ (T167.setTop (mkF m 241 #[.val (.int x0), .val (.int x1), .val (.int x2), .val (.int x3), .val (.int x4), .val (.int x5), .val (.ref a6), .val (.ref P), .val (.double (FP.i2d x0)), .second, .val (.double (FP.i2d x1)), .second, .val (.double (FP.i2d x2)), .second, .val (.int (x3 &&& (3 : Int32))), .val (.ref b142), .val (.int (x4 &&& (3 : Int32))), .val (.ref b167)] [(.ref P)]))
      have ff176 : Fld Z T167.heap P "com/example/nunobiki/nunobiki/engine/Profile" "unitThreshold" "D" (.double (FP.i2d x5)) := (G160_3.keep K167 List.not_mem_nil)
      obtain ⟨_, T175, L175, X175, ⟨rfl, N175q, e175⟩, st175⟩ := own_callV X167 hx hZ hown (hw _ own_t127) (hw _ own_t128) (hw _ own_t130) (hw _ own_t129) (hw _ own_t3) (hw _ own_t131) (by decide) (b := P) (as := []) (rm17 l Z a0 hw [] P (FP.i2d x5) T167.heap n0 ff176) rfl (G160_0.keep K167) own_pd4 rfl (pc := 241) (Ls := #[.val (.int x0), .val (.int x1), .val (.int x2), .val (.int x3), .val (.int x4), .val (.int x5), .val (.ref a6), .val (.ref P), .val (.double (FP.i2d x0)), .second, .val (.double (FP.i2d x1)), .second, .val (.double (FP.i2d x2)), .second, .val (.int (x3 &&& (3 : Int32))), .val (.ref b142), .val (.int (x4 &&& (3 : Int32))), .val (.ref b167)]) (rest := []) (W := 0) (by rw [hml]; rfl) (Nat.le_of_eq rfl) (by decide) (by decide) (hb hby at_241) (by decide) (by decide)
      have N175 := Fr.app N167 N175q
      refine own_go st175 ?_
      show own_Goes p e below _ (T175.setTop (mkF m 244 #[.val (.int x0), .val (.int x1), .val (.int x2), .val (.int x3), .val (.int x4), .val (.int x5), .val (.ref a6), .val (.ref P), .val (.double (FP.i2d x0)), .second, .val (.double (FP.i2d x1)), .second, .val (.double (FP.i2d x2)), .second, .val (.int (x3 &&& (3 : Int32))), .val (.ref b142), .val (.int (x4 &&& (3 : Int32))), .val (.ref b167)] [(.double (FP.i2d x5))]))
      refine own_go (fun t k => XS.iload X175.here hx rfl (hb hby at_244) rfl k) ?_
      show own_Goes p e below _ (T175.setTop (mkF m 246 #[.val (.int x0), .val (.int x1), .val (.int x2), .val (.int x3), .val (.int x4), .val (.int x5), .val (.ref a6), .val (.ref P), .val (.double (FP.i2d x0)), .second, .val (.double (FP.i2d x1)), .second, .val (.double (FP.i2d x2)), .second, .val (.int (x3 &&& (3 : Int32))), .val (.ref b142), .val (.int (x4 &&& (3 : Int32))), .val (.ref b167)] [(.int x5), (.double (FP.i2d x5))]))
      refine own_go (fun t k => XS.i2dS X175.here hx rfl (hb hby at_246) rfl rfl k) ?_
      show own_Goes p e below _ (T175.setTop (mkF m 247 #[.val (.int x0), .val (.int x1), .val (.int x2), .val (.int x3), .val (.int x4), .val (.int x5), .val (.ref a6), .val (.ref P), .val (.double (FP.i2d x0)), .second, .val (.double (FP.i2d x1)), .second, .val (.double (FP.i2d x2)), .second, .val (.int (x3 &&& (3 : Int32))), .val (.ref b142), .val (.int (x4 &&& (3 : Int32))), .val (.ref b167)] [(.double (FP.i2d x5)), (.double (FP.i2d x5))]))
      refine own_go (fun t k => XS.dcmpS X175.here hx rfl (hb hby at_247) rfl rfl k) ?_
      show own_Goes p e below _ (T175.setTop (mkF m 248 #[.val (.int x0), .val (.int x1), .val (.int x2), .val (.int x3), .val (.int x4), .val (.int x5), .val (.ref a6), .val (.ref P), .val (.double (FP.i2d x0)), .second, .val (.double (FP.i2d x1)), .second, .val (.double (FP.i2d x2)), .second, .val (.int (x3 &&& (3 : Int32))), .val (.ref b142), .val (.int (x4 &&& (3 : Int32))), .val (.ref b167)] [(.int (cmpValue (FP.dcmp (FP.i2d x5) (FP.i2d x5)) .l))]))
      have hd177 : (cmpValue (FP.dcmp (FP.i2d x5) (FP.i2d x5)) .l) = (0 : Int32) := (own_dc x5)
      refine own_go (fun t k => XS.ifNo X175.here hx rfl (hb hby at_248) rfl ((if0 _ _).trans (teq hd177).2) k) ?_
      show own_Goes p e below _ (T175.setTop (mkF m 251 #[.val (.int x0), .val (.int x1), .val (.int x2), .val (.int x3), .val (.int x4), .val (.int x5), .val (.ref a6), .val (.ref P), .val (.double (FP.i2d x0)), .second, .val (.double (FP.i2d x1)), .second, .val (.double (FP.i2d x2)), .second, .val (.int (x3 &&& (3 : Int32))), .val (.ref b142), .val (.int (x4 &&& (3 : Int32))), .val (.ref b167)] []))
      refine own_go (fun t k => XS.iconst X175.here hx rfl (hb hby at_251) k) ?_
      show own_Goes p e below _ (T175.setTop (mkF m 252 #[.val (.int x0), .val (.int x1), .val (.int x2), .val (.int x3), .val (.int x4), .val (.int x5), .val (.ref a6), .val (.ref P), .val (.double (FP.i2d x0)), .second, .val (.double (FP.i2d x1)), .second, .val (.double (FP.i2d x2)), .second, .val (.int (x3 &&& (3 : Int32))), .val (.ref b142), .val (.int (x4 &&& (3 : Int32))), .val (.ref b167)] [(.int (1 : Int32))]))
      refine own_go (fun t k => XS.goto X175.here hx rfl (pc0 := 252) (pc' := 256) rfl (hb hby at_252) (by decide) (by decide) k) ?_
      show own_Goes p e below _ (T175.setTop (mkF m 256 #[.val (.int x0), .val (.int x1), .val (.int x2), .val (.int x3), .val (.int x4), .val (.int x5), .val (.ref a6), .val (.ref P), .val (.double (FP.i2d x0)), .second, .val (.double (FP.i2d x1)), .second, .val (.double (FP.i2d x2)), .second, .val (.int (x3 &&& (3 : Int32))), .val (.ref b142), .val (.int (x4 &&& (3 : Int32))), .val (.ref b167)] [(.int (1 : Int32))]))
      exact own_retN X175 hx hlk hret (by simp) (z' := (1 : Int32)) rfl (hb hby at_256) (by decide) (by decide) ⟨rfl, N175, trivial⟩
    · refine own_go (fun t k => XS.icmpNo X160.here hx rfl (hb hby at_145) rfl (flt hc165).1 k) ?_
      show own_Goes p e below _ (T160.setTop (mkF m 148 #[.val (.int x0), .val (.int x1), .val (.int x2), .val (.int x3), .val (.int x4), .val (.int x5), .val (.ref a6), .val (.ref P), .val (.double (FP.i2d x0)), .second, .val (.double (FP.i2d x1)), .second, .val (.double (FP.i2d x2)), .second, .val (.int (x3 &&& (3 : Int32))), .val (.ref b142), .val (.int (x4 &&& (3 : Int32))), .unset] []))
      refine own_go (fun t k => XS.aload X160.here hx rfl (hb hby at_148) rfl rfl k) ?_
      show own_Goes p e below _ (T160.setTop (mkF m 150 #[.val (.int x0), .val (.int x1), .val (.int x2), .val (.int x3), .val (.int x4), .val (.int x5), .val (.ref a6), .val (.ref P), .val (.double (FP.i2d x0)), .second, .val (.double (FP.i2d x1)), .second, .val (.double (FP.i2d x2)), .second, .val (.int (x3 &&& (3 : Int32))), .val (.ref b142), .val (.int (x4 &&& (3 : Int32))), .unset] [(.ref P)]))
      refine own_go (fun t k => XS.dload X160.here hx rfl (hb hby at_150) rfl k) ?_
      show own_Goes p e below _ (T160.setTop (mkF m 152 #[.val (.int x0), .val (.int x1), .val (.int x2), .val (.int x3), .val (.int x4), .val (.int x5), .val (.ref a6), .val (.ref P), .val (.double (FP.i2d x0)), .second, .val (.double (FP.i2d x1)), .second, .val (.double (FP.i2d x2)), .second, .val (.int (x3 &&& (3 : Int32))), .val (.ref b142), .val (.int (x4 &&& (3 : Int32))), .unset] [(.double (FP.i2d x0)), (.ref P)]))
      obtain ⟨_, T178, L178, X178, ⟨rfl, N178q, K178, G178_0, G178_1, G178_2, G178_3, G178_4, G178_5⟩, st178⟩ := own_callV X160 hx hZ hown (hw _ own_t86) (hw _ own_t87) (hw _ own_t89) (hw _ own_t88) (hw _ own_t3) (hw _ own_t90) (by decide) (b := P) (as := [(.double (FP.i2d x0))]) (rm11_1 l Z a0 hw [] P (FP.i2d x0) (FP.i2d x5) b160 kb160 (FP.i2d x2) T160.heap n0 (Nat.le_trans (Nat.le_trans (Nat.le_trans Z1 K141.1) K142.1) K160.1) g_P g_b160 G160_0 G160_1 G160_2 G160_3 G160_4 G160_5 ne_P_b160) rfl G160_0 own_pd5 rfl (pc := 152) (Ls := #[.val (.int x0), .val (.int x1), .val (.int x2), .val (.int x3), .val (.int x4), .val (.int x5), .val (.ref a6), .val (.ref P), .val (.double (FP.i2d x0)), .second, .val (.double (FP.i2d x1)), .second, .val (.double (FP.i2d x2)), .second, .val (.int (x3 &&& (3 : Int32))), .val (.ref b142), .val (.int (x4 &&& (3 : Int32))), .unset]) (rest := []) (W := 0) (by rw [hml]; rfl) (Nat.le_of_eq rfl) (by decide) (by decide) (hb hby at_152) (by decide) (by decide)
      have N178 := Fr.app N160 N178q
      refine own_go st178 ?_
      show own_Goes p e below _ (T178.setTop (mkF m 155 #[.val (.int x0), .val (.int x1), .val (.int x2), .val (.int x3), .val (.int x4), .val (.int x5), .val (.ref a6), .val (.ref P), .val (.double (FP.i2d x0)), .second, .val (.double (FP.i2d x1)), .second, .val (.double (FP.i2d x2)), .second, .val (.int (x3 &&& (3 : Int32))), .val (.ref b142), .val (.int (x4 &&& (3 : Int32))), .unset] []))
      refine own_go (fun t k => XS.iload X178.here hx rfl (hb hby at_155) rfl k) ?_
      show own_Goes p e below _ (T178.setTop (mkF m 157 #[.val (.int x0), .val (.int x1), .val (.int x2), .val (.int x3), .val (.int x4), .val (.int x5), .val (.ref a6), .val (.ref P), .val (.double (FP.i2d x0)), .second, .val (.double (FP.i2d x1)), .second, .val (.double (FP.i2d x2)), .second, .val (.int (x3 &&& (3 : Int32))), .val (.ref b142), .val (.int (x4 &&& (3 : Int32))), .unset] [(.int (x4 &&& (3 : Int32)))]))
      refine own_go (fun t k => XS.iconst X178.here hx rfl (hb hby at_157) k) ?_
      show own_Goes p e below _ (T178.setTop (mkF m 158 #[.val (.int x0), .val (.int x1), .val (.int x2), .val (.int x3), .val (.int x4), .val (.int x5), .val (.ref a6), .val (.ref P), .val (.double (FP.i2d x0)), .second, .val (.double (FP.i2d x1)), .second, .val (.double (FP.i2d x2)), .second, .val (.int (x3 &&& (3 : Int32))), .val (.ref b142), .val (.int (x4 &&& (3 : Int32))), .unset] [(.int (3 : Int32)), (.int (x4 &&& (3 : Int32)))]))
      by_cases hc179 : (x4 &&& (3 : Int32)) < (3 : Int32)
      · refine own_go (fun t k => XS.icmpYes X178.here hx rfl (pc0 := 158) (pc' := 168) rfl (hb hby at_158) rfl (tlt hc179).1 (by decide) (by decide) k) ?_
        show own_Goes p e below _ (T178.setTop (mkF m 168 #[.val (.int x0), .val (.int x1), .val (.int x2), .val (.int x3), .val (.int x4), .val (.int x5), .val (.ref a6), .val (.ref P), .val (.double (FP.i2d x0)), .second, .val (.double (FP.i2d x1)), .second, .val (.double (FP.i2d x2)), .second, .val (.int (x3 &&& (3 : Int32))), .val (.ref b142), .val (.int (x4 &&& (3 : Int32))), .unset] []))
        refine own_go (fun t k => XS.aload X178.here hx rfl (hb hby at_168) rfl rfl k) ?_
        show own_Goes p e below _ (T178.setTop (mkF m 170 #[.val (.int x0), .val (.int x1), .val (.int x2), .val (.int x3), .val (.int x4), .val (.int x5), .val (.ref a6), .val (.ref P), .val (.double (FP.i2d x0)), .second, .val (.double (FP.i2d x1)), .second, .val (.double (FP.i2d x2)), .second, .val (.int (x3 &&& (3 : Int32))), .val (.ref b142), .val (.int (x4 &&& (3 : Int32))), .unset] [(.ref P)]))
        obtain ⟨_, T180, L180, X180, ⟨b180, kb180, rfl, N180q, K180, lt_b180, G180_0, G180_1⟩, st180⟩ := own_callV X178 hx hZ hown (hw _ own_t113) (hw _ own_t114) (hw _ own_t116) (hw _ own_t115) (hw _ own_t3) (hw _ own_t117) (by decide) (b := P) (as := []) (rm16_2 l Z a0 hw [] P b160 kb160 (FP.i2d x2) (FP.i2d x0) T178.heap n0 (Nat.le_trans (Nat.le_trans (Nat.le_trans (Nat.le_trans Z1 K141.1) K142.1) K160.1) K178.1) G178_1 G178_2 G178_4 G178_5 ne_P_b160) rfl G178_0 own_pd3 rfl (pc := 170) (Ls := #[.val (.int x0), .val (.int x1), .val (.int x2), .val (.int x3), .val (.int x4), .val (.int x5), .val (.ref a6), .val (.ref P), .val (.double (FP.i2d x0)), .second, .val (.double (FP.i2d x1)), .second, .val (.double (FP.i2d x2)), .second, .val (.int (x3 &&& (3 : Int32))), .val (.ref b142), .val (.int (x4 &&& (3 : Int32))), .unset]) (rest := []) (W := 0) (by rw [hml]; rfl) (Nat.le_of_eq rfl) (by decide) (by decide) (hb hby at_170) (by decide) (by decide)
        have N180 := Fr.app N178 N180q
        have ne_P_b180 : P ≠ b180 := Nat.ne_of_lt (Nat.lt_of_lt_of_le G178_0.lt lt_b180)
        have ne_b141_b180 : b141 ≠ b180 := Nat.ne_of_lt (Nat.lt_of_lt_of_le ((ff164.keep K160 (fun z => (Ne.symm ne_P_b141) (List.mem_singleton.mp z))).keep K178 (ninS (Ne.symm ne_P_b141) (ninS ne_b141_b160 nin0))).lt lt_b180)
        have ne_b142_b180 : b142 ≠ b180 := Nat.ne_of_lt (Nat.lt_of_lt_of_le ((G142_0.keep K160 (fun z => (Ne.symm ne_P_b142) (List.mem_singleton.mp z))).keep K178 (ninS (Ne.symm ne_P_b142) (ninS ne_b142_b160 nin0))).lt lt_b180)
        have ne_b160_b180 : b160 ≠ b180 := Nat.ne_of_lt (Nat.lt_of_lt_of_le G178_4.lt lt_b180)
        have g_b180 : n0 ≤ b180 := Nat.le_trans (Nat.le_trans (Nat.le_trans (Nat.le_trans (Nat.le_trans Z1 K141.1) K142.1) K160.1) K178.1) lt_b180
        refine own_go st180 ?_
        show own_Goes p e below _ (T180.setTop (mkF m 173 #[.val (.int x0), .val (.int x1), .val (.int x2), .val (.int x3), .val (.int x4), .val (.int x5), .val (.ref a6), .val (.ref P), .val (.double (FP.i2d x0)), .second, .val (.double (FP.i2d x1)), .second, .val (.double (FP.i2d x2)), .second, .val (.int (x3 &&& (3 : Int32))), .val (.ref b142), .val (.int (x4 &&& (3 : Int32))), .unset] [(.ref b180)]))
        refine own_go (fun t k => XS.astore X180.here hx rfl (hb hby at_173) rfl rfl (l' := #[.val (.int x0), .val (.int x1), .val (.int x2), .val (.int x3), .val (.int x4), .val (.int x5), .val (.ref a6), .val (.ref P), .val (.double (FP.i2d x0)), .second, .val (.double (FP.i2d x1)), .second, .val (.double (FP.i2d x2)), .second, .val (.int (x3 &&& (3 : Int32))), .val (.ref b142), .val (.int (x4 &&& (3 : Int32))), .val (.ref b180)]) rfl k) ?_
        show own_Goes p e below _ (T180.setTop (mkF m 175 #[.val (.int x0), .val (.int x1), .val (.int x2), .val (.int x3), .val (.int x4), .val (.int x5), .val (.ref a6), .val (.ref P), .val (.double (FP.i2d x0)), .second, .val (.double (FP.i2d x1)), .second, .val (.double (FP.i2d x2)), .second, .val (.int (x3 &&& (3 : Int32))), .val (.ref b142), .val (.int (x4 &&& (3 : Int32))), .val (.ref b180)] []))
        refine own_go (fun t k => XS.aload X180.here hx rfl (hb hby at_175) rfl rfl k) ?_
        show own_Goes p e below _ (T180.setTop (mkF m 177 #[.val (.int x0), .val (.int x1), .val (.int x2), .val (.int x3), .val (.int x4), .val (.int x5), .val (.ref a6), .val (.ref P), .val (.double (FP.i2d x0)), .second, .val (.double (FP.i2d x1)), .second, .val (.double (FP.i2d x2)), .second, .val (.int (x3 &&& (3 : Int32))), .val (.ref b142), .val (.int (x4 &&& (3 : Int32))), .val (.ref b180)] [(.ref b180)]))
        obtain ⟨cl181, Ar181, qa181, sa181, na181, ha181, ga181⟩ := id G180_0
        refine own_go (fun t k => X180.arraylength hx Ar181.1 (State.isArrayOf_alike hZ.alike Ar181.2.1) (g := (mkF m 177 #[.val (.int x0), .val (.int x1), .val (.int x2), .val (.int x3), .val (.int x4), .val (.int x5), .val (.ref a6), .val (.ref P), .val (.double (FP.i2d x0)), .second, .val (.double (FP.i2d x1)), .second, .val (.double (FP.i2d x2)), .second, .val (.int (x3 &&& (3 : Int32))), .val (.ref b142), .val (.int (x4 &&& (3 : Int32))), .val (.ref b180)] [(.ref b180)])) rfl rfl (hb hby at_177) t k) ?_
        rw [len_of sa181 (by decide)]
        show own_Goes p e below _ (T180.setTop (mkF m 178 #[.val (.int x0), .val (.int x1), .val (.int x2), .val (.int x3), .val (.int x4), .val (.int x5), .val (.ref a6), .val (.ref P), .val (.double (FP.i2d x0)), .second, .val (.double (FP.i2d x1)), .second, .val (.double (FP.i2d x2)), .second, .val (.int (x3 &&& (3 : Int32))), .val (.ref b142), .val (.int (x4 &&& (3 : Int32))), .val (.ref b180)] [(.int (2 : Int32))]))
        refine own_go (fun t k => XS.iload X180.here hx rfl (hb hby at_178) rfl k) ?_
        show own_Goes p e below _ (T180.setTop (mkF m 180 #[.val (.int x0), .val (.int x1), .val (.int x2), .val (.int x3), .val (.int x4), .val (.int x5), .val (.ref a6), .val (.ref P), .val (.double (FP.i2d x0)), .second, .val (.double (FP.i2d x1)), .second, .val (.double (FP.i2d x2)), .second, .val (.int (x3 &&& (3 : Int32))), .val (.ref b142), .val (.int (x4 &&& (3 : Int32))), .val (.ref b180)] [(.int (x4 &&& (3 : Int32))), (.int (2 : Int32))]))
        have hd182 : (2 : Int32) = (x4 &&& (3 : Int32)) := (own_q2 x4 hc165 hc179)
        refine own_go (fun t k => XS.icmpYes X180.here hx rfl (pc0 := 180) (pc' := 185) rfl (hb hby at_180) rfl (teq hd182).1 (by decide) (by decide) k) ?_
        show own_Goes p e below _ (T180.setTop (mkF m 185 #[.val (.int x0), .val (.int x1), .val (.int x2), .val (.int x3), .val (.int x4), .val (.int x5), .val (.ref a6), .val (.ref P), .val (.double (FP.i2d x0)), .second, .val (.double (FP.i2d x1)), .second, .val (.double (FP.i2d x2)), .second, .val (.int (x3 &&& (3 : Int32))), .val (.ref b142), .val (.int (x4 &&& (3 : Int32))), .val (.ref b180)] []))
        refine own_go (fun t k => XS.iload X180.here hx rfl (hb hby at_185) rfl k) ?_
        show own_Goes p e below _ (T180.setTop (mkF m 187 #[.val (.int x0), .val (.int x1), .val (.int x2), .val (.int x3), .val (.int x4), .val (.int x5), .val (.ref a6), .val (.ref P), .val (.double (FP.i2d x0)), .second, .val (.double (FP.i2d x1)), .second, .val (.double (FP.i2d x2)), .second, .val (.int (x3 &&& (3 : Int32))), .val (.ref b142), .val (.int (x4 &&& (3 : Int32))), .val (.ref b180)] [(.int (x4 &&& (3 : Int32)))]))
        refine own_go (fun t k => XS.iconst X180.here hx rfl (hb hby at_187) k) ?_
        show own_Goes p e below _ (T180.setTop (mkF m 188 #[.val (.int x0), .val (.int x1), .val (.int x2), .val (.int x3), .val (.int x4), .val (.int x5), .val (.ref a6), .val (.ref P), .val (.double (FP.i2d x0)), .second, .val (.double (FP.i2d x1)), .second, .val (.double (FP.i2d x2)), .second, .val (.int (x3 &&& (3 : Int32))), .val (.ref b142), .val (.int (x4 &&& (3 : Int32))), .val (.ref b180)] [(.int (1 : Int32)), (.int (x4 &&& (3 : Int32)))]))
        have hd183 : ¬ ((x4 &&& (3 : Int32)) < (1 : Int32)) := hc145
        refine own_go (fun t k => XS.icmpNo X180.here hx rfl (hb hby at_188) rfl (flt hd183).1 k) ?_
        show own_Goes p e below _ (T180.setTop (mkF m 191 #[.val (.int x0), .val (.int x1), .val (.int x2), .val (.int x3), .val (.int x4), .val (.int x5), .val (.ref a6), .val (.ref P), .val (.double (FP.i2d x0)), .second, .val (.double (FP.i2d x1)), .second, .val (.double (FP.i2d x2)), .second, .val (.int (x3 &&& (3 : Int32))), .val (.ref b142), .val (.int (x4 &&& (3 : Int32))), .val (.ref b180)] []))
        refine own_go (fun t k => XS.aload X180.here hx rfl (hb hby at_191) rfl rfl k) ?_
        show own_Goes p e below _ (T180.setTop (mkF m 193 #[.val (.int x0), .val (.int x1), .val (.int x2), .val (.int x3), .val (.int x4), .val (.int x5), .val (.ref a6), .val (.ref P), .val (.double (FP.i2d x0)), .second, .val (.double (FP.i2d x1)), .second, .val (.double (FP.i2d x2)), .second, .val (.int (x3 &&& (3 : Int32))), .val (.ref b142), .val (.int (x4 &&& (3 : Int32))), .val (.ref b180)] [(.ref b180)]))
        refine own_go (fun t k => XS.iconst X180.here hx rfl (hb hby at_193) k) ?_
        show own_Goes p e below _ (T180.setTop (mkF m 194 #[.val (.int x0), .val (.int x1), .val (.int x2), .val (.int x3), .val (.int x4), .val (.int x5), .val (.ref a6), .val (.ref P), .val (.double (FP.i2d x0)), .second, .val (.double (FP.i2d x1)), .second, .val (.double (FP.i2d x2)), .second, .val (.int (x3 &&& (3 : Int32))), .val (.ref b142), .val (.int (x4 &&& (3 : Int32))), .val (.ref b180)] [(.int (0 : Int32)), (.ref b180)]))
        obtain ⟨cl184, Ar184, qa184, sa184, na184, ha184, ga184⟩ := id G180_0
        refine own_go (fun t k => X180.daload hx (j := (0 : Int32)) (v := (.double (FP.i2d x2))) Ar184.1 (State.isArrayOf_alike hZ.alike Ar184.2.1) Ar184.2.2 (inb_of sa184 ⟨by decide, by decide⟩) (ha184 _ (by rw [sa184]; decide)) (g := (mkF m 194 #[.val (.int x0), .val (.int x1), .val (.int x2), .val (.int x3), .val (.int x4), .val (.int x5), .val (.ref a6), .val (.ref P), .val (.double (FP.i2d x0)), .second, .val (.double (FP.i2d x1)), .second, .val (.double (FP.i2d x2)), .second, .val (.int (x3 &&& (3 : Int32))), .val (.ref b142), .val (.int (x4 &&& (3 : Int32))), .val (.ref b180)] [(.int (0 : Int32)), (.ref b180)])) rfl rfl (hb hby at_194) t k) ?_
        show own_Goes p e below _ (T180.setTop (mkF m 195 #[.val (.int x0), .val (.int x1), .val (.int x2), .val (.int x3), .val (.int x4), .val (.int x5), .val (.ref a6), .val (.ref P), .val (.double (FP.i2d x0)), .second, .val (.double (FP.i2d x1)), .second, .val (.double (FP.i2d x2)), .second, .val (.int (x3 &&& (3 : Int32))), .val (.ref b142), .val (.int (x4 &&& (3 : Int32))), .val (.ref b180)] [(.double (FP.i2d x2))]))
        refine own_go (fun t k => XS.dload X180.here hx rfl (hb hby at_195) rfl k) ?_
        show own_Goes p e below _ (T180.setTop (mkF m 197 #[.val (.int x0), .val (.int x1), .val (.int x2), .val (.int x3), .val (.int x4), .val (.int x5), .val (.ref a6), .val (.ref P), .val (.double (FP.i2d x0)), .second, .val (.double (FP.i2d x1)), .second, .val (.double (FP.i2d x2)), .second, .val (.int (x3 &&& (3 : Int32))), .val (.ref b142), .val (.int (x4 &&& (3 : Int32))), .val (.ref b180)] [(.double (FP.i2d x2)), (.double (FP.i2d x2))]))
        refine own_go (fun t k => XS.dcmpS X180.here hx rfl (hb hby at_197) rfl rfl k) ?_
        show own_Goes p e below _ (T180.setTop (mkF m 198 #[.val (.int x0), .val (.int x1), .val (.int x2), .val (.int x3), .val (.int x4), .val (.int x5), .val (.ref a6), .val (.ref P), .val (.double (FP.i2d x0)), .second, .val (.double (FP.i2d x1)), .second, .val (.double (FP.i2d x2)), .second, .val (.int (x3 &&& (3 : Int32))), .val (.ref b142), .val (.int (x4 &&& (3 : Int32))), .val (.ref b180)] [(.int (cmpValue (FP.dcmp (FP.i2d x2) (FP.i2d x2)) .l))]))
        have hd185 : (cmpValue (FP.dcmp (FP.i2d x2) (FP.i2d x2)) .l) = (0 : Int32) := (own_dc x2)
        refine own_go (fun t k => XS.ifYes X180.here hx rfl (pc0 := 198) (pc' := 203) rfl (hb hby at_198) rfl ((if0 _ _).trans (teq hd185).1) (by decide) (by decide) k) ?_
        show own_Goes p e below _ (T180.setTop (mkF m 203 #[.val (.int x0), .val (.int x1), .val (.int x2), .val (.int x3), .val (.int x4), .val (.int x5), .val (.ref a6), .val (.ref P), .val (.double (FP.i2d x0)), .second, .val (.double (FP.i2d x1)), .second, .val (.double (FP.i2d x2)), .second, .val (.int (x3 &&& (3 : Int32))), .val (.ref b142), .val (.int (x4 &&& (3 : Int32))), .val (.ref b180)] []))
        refine own_go (fun t k => XS.iload X180.here hx rfl (hb hby at_203) rfl k) ?_
        show own_Goes p e below _ (T180.setTop (mkF m 205 #[.val (.int x0), .val (.int x1), .val (.int x2), .val (.int x3), .val (.int x4), .val (.int x5), .val (.ref a6), .val (.ref P), .val (.double (FP.i2d x0)), .second, .val (.double (FP.i2d x1)), .second, .val (.double (FP.i2d x2)), .second, .val (.int (x3 &&& (3 : Int32))), .val (.ref b142), .val (.int (x4 &&& (3 : Int32))), .val (.ref b180)] [(.int (x4 &&& (3 : Int32)))]))
        refine own_go (fun t k => XS.iconst X180.here hx rfl (hb hby at_205) k) ?_
        show own_Goes p e below _ (T180.setTop (mkF m 206 #[.val (.int x0), .val (.int x1), .val (.int x2), .val (.int x3), .val (.int x4), .val (.int x5), .val (.ref a6), .val (.ref P), .val (.double (FP.i2d x0)), .second, .val (.double (FP.i2d x1)), .second, .val (.double (FP.i2d x2)), .second, .val (.int (x3 &&& (3 : Int32))), .val (.ref b142), .val (.int (x4 &&& (3 : Int32))), .val (.ref b180)] [(.int (2 : Int32)), (.int (x4 &&& (3 : Int32)))]))
        have hd186 : ¬ ((x4 &&& (3 : Int32)) < (2 : Int32)) := hc165
        refine own_go (fun t k => XS.icmpNo X180.here hx rfl (hb hby at_206) rfl (flt hd186).1 k) ?_
        show own_Goes p e below _ (T180.setTop (mkF m 209 #[.val (.int x0), .val (.int x1), .val (.int x2), .val (.int x3), .val (.int x4), .val (.int x5), .val (.ref a6), .val (.ref P), .val (.double (FP.i2d x0)), .second, .val (.double (FP.i2d x1)), .second, .val (.double (FP.i2d x2)), .second, .val (.int (x3 &&& (3 : Int32))), .val (.ref b142), .val (.int (x4 &&& (3 : Int32))), .val (.ref b180)] []))
        refine own_go (fun t k => XS.aload X180.here hx rfl (hb hby at_209) rfl rfl k) ?_
        show own_Goes p e below _ (T180.setTop (mkF m 211 #[.val (.int x0), .val (.int x1), .val (.int x2), .val (.int x3), .val (.int x4), .val (.int x5), .val (.ref a6), .val (.ref P), .val (.double (FP.i2d x0)), .second, .val (.double (FP.i2d x1)), .second, .val (.double (FP.i2d x2)), .second, .val (.int (x3 &&& (3 : Int32))), .val (.ref b142), .val (.int (x4 &&& (3 : Int32))), .val (.ref b180)] [(.ref b180)]))
        refine own_go (fun t k => XS.iconst X180.here hx rfl (hb hby at_211) k) ?_
        show own_Goes p e below _ (T180.setTop (mkF m 212 #[.val (.int x0), .val (.int x1), .val (.int x2), .val (.int x3), .val (.int x4), .val (.int x5), .val (.ref a6), .val (.ref P), .val (.double (FP.i2d x0)), .second, .val (.double (FP.i2d x1)), .second, .val (.double (FP.i2d x2)), .second, .val (.int (x3 &&& (3 : Int32))), .val (.ref b142), .val (.int (x4 &&& (3 : Int32))), .val (.ref b180)] [(.int (1 : Int32)), (.ref b180)]))
        obtain ⟨cl187, Ar187, qa187, sa187, na187, ha187, ga187⟩ := id G180_0
        refine own_go (fun t k => X180.daload hx (j := (1 : Int32)) (v := (.double (FP.i2d x0))) Ar187.1 (State.isArrayOf_alike hZ.alike Ar187.2.1) Ar187.2.2 (inb_of sa187 ⟨by decide, by decide⟩) (ha187 _ (by rw [sa187]; decide)) (g := (mkF m 212 #[.val (.int x0), .val (.int x1), .val (.int x2), .val (.int x3), .val (.int x4), .val (.int x5), .val (.ref a6), .val (.ref P), .val (.double (FP.i2d x0)), .second, .val (.double (FP.i2d x1)), .second, .val (.double (FP.i2d x2)), .second, .val (.int (x3 &&& (3 : Int32))), .val (.ref b142), .val (.int (x4 &&& (3 : Int32))), .val (.ref b180)] [(.int (1 : Int32)), (.ref b180)])) rfl rfl (hb hby at_212) t k) ?_
        show own_Goes p e below _ (T180.setTop (mkF m 213 #[.val (.int x0), .val (.int x1), .val (.int x2), .val (.int x3), .val (.int x4), .val (.int x5), .val (.ref a6), .val (.ref P), .val (.double (FP.i2d x0)), .second, .val (.double (FP.i2d x1)), .second, .val (.double (FP.i2d x2)), .second, .val (.int (x3 &&& (3 : Int32))), .val (.ref b142), .val (.int (x4 &&& (3 : Int32))), .val (.ref b180)] [(.double (FP.i2d x0))]))
        refine own_go (fun t k => XS.dload X180.here hx rfl (hb hby at_213) rfl k) ?_
        show own_Goes p e below _ (T180.setTop (mkF m 215 #[.val (.int x0), .val (.int x1), .val (.int x2), .val (.int x3), .val (.int x4), .val (.int x5), .val (.ref a6), .val (.ref P), .val (.double (FP.i2d x0)), .second, .val (.double (FP.i2d x1)), .second, .val (.double (FP.i2d x2)), .second, .val (.int (x3 &&& (3 : Int32))), .val (.ref b142), .val (.int (x4 &&& (3 : Int32))), .val (.ref b180)] [(.double (FP.i2d x0)), (.double (FP.i2d x0))]))
        refine own_go (fun t k => XS.dcmpS X180.here hx rfl (hb hby at_215) rfl rfl k) ?_
        show own_Goes p e below _ (T180.setTop (mkF m 216 #[.val (.int x0), .val (.int x1), .val (.int x2), .val (.int x3), .val (.int x4), .val (.int x5), .val (.ref a6), .val (.ref P), .val (.double (FP.i2d x0)), .second, .val (.double (FP.i2d x1)), .second, .val (.double (FP.i2d x2)), .second, .val (.int (x3 &&& (3 : Int32))), .val (.ref b142), .val (.int (x4 &&& (3 : Int32))), .val (.ref b180)] [(.int (cmpValue (FP.dcmp (FP.i2d x0) (FP.i2d x0)) .l))]))
        have hd188 : (cmpValue (FP.dcmp (FP.i2d x0) (FP.i2d x0)) .l) = (0 : Int32) := (own_dc x0)
        refine own_go (fun t k => XS.ifYes X180.here hx rfl (pc0 := 216) (pc' := 221) rfl (hb hby at_216) rfl ((if0 _ _).trans (teq hd188).1) (by decide) (by decide) k) ?_
        show own_Goes p e below _ (T180.setTop (mkF m 221 #[.val (.int x0), .val (.int x1), .val (.int x2), .val (.int x3), .val (.int x4), .val (.int x5), .val (.ref a6), .val (.ref P), .val (.double (FP.i2d x0)), .second, .val (.double (FP.i2d x1)), .second, .val (.double (FP.i2d x2)), .second, .val (.int (x3 &&& (3 : Int32))), .val (.ref b142), .val (.int (x4 &&& (3 : Int32))), .val (.ref b180)] []))
        refine own_go (fun t k => XS.iload X180.here hx rfl (hb hby at_221) rfl k) ?_
        show own_Goes p e below _ (T180.setTop (mkF m 223 #[.val (.int x0), .val (.int x1), .val (.int x2), .val (.int x3), .val (.int x4), .val (.int x5), .val (.ref a6), .val (.ref P), .val (.double (FP.i2d x0)), .second, .val (.double (FP.i2d x1)), .second, .val (.double (FP.i2d x2)), .second, .val (.int (x3 &&& (3 : Int32))), .val (.ref b142), .val (.int (x4 &&& (3 : Int32))), .val (.ref b180)] [(.int (x4 &&& (3 : Int32)))]))
        refine own_go (fun t k => XS.iconst X180.here hx rfl (hb hby at_223) k) ?_
        show own_Goes p e below _ (T180.setTop (mkF m 224 #[.val (.int x0), .val (.int x1), .val (.int x2), .val (.int x3), .val (.int x4), .val (.int x5), .val (.ref a6), .val (.ref P), .val (.double (FP.i2d x0)), .second, .val (.double (FP.i2d x1)), .second, .val (.double (FP.i2d x2)), .second, .val (.int (x3 &&& (3 : Int32))), .val (.ref b142), .val (.int (x4 &&& (3 : Int32))), .val (.ref b180)] [(.int (3 : Int32)), (.int (x4 &&& (3 : Int32)))]))
        have hd189 : (x4 &&& (3 : Int32)) < (3 : Int32) := hc179
        refine own_go (fun t k => XS.icmpYes X180.here hx rfl (pc0 := 224) (pc' := 239) rfl (hb hby at_224) rfl (tlt hd189).1 (by decide) (by decide) k) ?_
        show own_Goes p e below _ (T180.setTop (mkF m 239 #[.val (.int x0), .val (.int x1), .val (.int x2), .val (.int x3), .val (.int x4), .val (.int x5), .val (.ref a6), .val (.ref P), .val (.double (FP.i2d x0)), .second, .val (.double (FP.i2d x1)), .second, .val (.double (FP.i2d x2)), .second, .val (.int (x3 &&& (3 : Int32))), .val (.ref b142), .val (.int (x4 &&& (3 : Int32))), .val (.ref b180)] []))
        refine own_go (fun t k => XS.aload X180.here hx rfl (hb hby at_239) rfl rfl k) ?_
        show own_Goes p e below _ (T180.setTop (mkF m 241 #[.val (.int x0), .val (.int x1), .val (.int x2), .val (.int x3), .val (.int x4), .val (.int x5), .val (.ref a6), .val (.ref P), .val (.double (FP.i2d x0)), .second, .val (.double (FP.i2d x1)), .second, .val (.double (FP.i2d x2)), .second, .val (.int (x3 &&& (3 : Int32))), .val (.ref b142), .val (.int (x4 &&& (3 : Int32))), .val (.ref b180)] [(.ref P)]))
        have ff191 : Fld Z T180.heap P "com/example/nunobiki/nunobiki/engine/Profile" "unitThreshold" "D" (.double (FP.i2d x5)) := (G178_3.keep K180 List.not_mem_nil)
        obtain ⟨_, T190, L190, X190, ⟨rfl, N190q, e190⟩, st190⟩ := own_callV X180 hx hZ hown (hw _ own_t127) (hw _ own_t128) (hw _ own_t130) (hw _ own_t129) (hw _ own_t3) (hw _ own_t131) (by decide) (b := P) (as := []) (rm17 l Z a0 hw [] P (FP.i2d x5) T180.heap n0 ff191) rfl (G178_0.keep K180) own_pd4 rfl (pc := 241) (Ls := #[.val (.int x0), .val (.int x1), .val (.int x2), .val (.int x3), .val (.int x4), .val (.int x5), .val (.ref a6), .val (.ref P), .val (.double (FP.i2d x0)), .second, .val (.double (FP.i2d x1)), .second, .val (.double (FP.i2d x2)), .second, .val (.int (x3 &&& (3 : Int32))), .val (.ref b142), .val (.int (x4 &&& (3 : Int32))), .val (.ref b180)]) (rest := []) (W := 0) (by rw [hml]; rfl) (Nat.le_of_eq rfl) (by decide) (by decide) (hb hby at_241) (by decide) (by decide)
        have N190 := Fr.app N180 N190q
        refine own_go st190 ?_
        show own_Goes p e below _ (T190.setTop (mkF m 244 #[.val (.int x0), .val (.int x1), .val (.int x2), .val (.int x3), .val (.int x4), .val (.int x5), .val (.ref a6), .val (.ref P), .val (.double (FP.i2d x0)), .second, .val (.double (FP.i2d x1)), .second, .val (.double (FP.i2d x2)), .second, .val (.int (x3 &&& (3 : Int32))), .val (.ref b142), .val (.int (x4 &&& (3 : Int32))), .val (.ref b180)] [(.double (FP.i2d x5))]))
        refine own_go (fun t k => XS.iload X190.here hx rfl (hb hby at_244) rfl k) ?_
        show own_Goes p e below _ (T190.setTop (mkF m 246 #[.val (.int x0), .val (.int x1), .val (.int x2), .val (.int x3), .val (.int x4), .val (.int x5), .val (.ref a6), .val (.ref P), .val (.double (FP.i2d x0)), .second, .val (.double (FP.i2d x1)), .second, .val (.double (FP.i2d x2)), .second, .val (.int (x3 &&& (3 : Int32))), .val (.ref b142), .val (.int (x4 &&& (3 : Int32))), .val (.ref b180)] [(.int x5), (.double (FP.i2d x5))]))
        refine own_go (fun t k => XS.i2dS X190.here hx rfl (hb hby at_246) rfl rfl k) ?_
        show own_Goes p e below _ (T190.setTop (mkF m 247 #[.val (.int x0), .val (.int x1), .val (.int x2), .val (.int x3), .val (.int x4), .val (.int x5), .val (.ref a6), .val (.ref P), .val (.double (FP.i2d x0)), .second, .val (.double (FP.i2d x1)), .second, .val (.double (FP.i2d x2)), .second, .val (.int (x3 &&& (3 : Int32))), .val (.ref b142), .val (.int (x4 &&& (3 : Int32))), .val (.ref b180)] [(.double (FP.i2d x5)), (.double (FP.i2d x5))]))
        refine own_go (fun t k => XS.dcmpS X190.here hx rfl (hb hby at_247) rfl rfl k) ?_
        show own_Goes p e below _ (T190.setTop (mkF m 248 #[.val (.int x0), .val (.int x1), .val (.int x2), .val (.int x3), .val (.int x4), .val (.int x5), .val (.ref a6), .val (.ref P), .val (.double (FP.i2d x0)), .second, .val (.double (FP.i2d x1)), .second, .val (.double (FP.i2d x2)), .second, .val (.int (x3 &&& (3 : Int32))), .val (.ref b142), .val (.int (x4 &&& (3 : Int32))), .val (.ref b180)] [(.int (cmpValue (FP.dcmp (FP.i2d x5) (FP.i2d x5)) .l))]))
        have hd192 : (cmpValue (FP.dcmp (FP.i2d x5) (FP.i2d x5)) .l) = (0 : Int32) := (own_dc x5)
        refine own_go (fun t k => XS.ifNo X190.here hx rfl (hb hby at_248) rfl ((if0 _ _).trans (teq hd192).2) k) ?_
        show own_Goes p e below _ (T190.setTop (mkF m 251 #[.val (.int x0), .val (.int x1), .val (.int x2), .val (.int x3), .val (.int x4), .val (.int x5), .val (.ref a6), .val (.ref P), .val (.double (FP.i2d x0)), .second, .val (.double (FP.i2d x1)), .second, .val (.double (FP.i2d x2)), .second, .val (.int (x3 &&& (3 : Int32))), .val (.ref b142), .val (.int (x4 &&& (3 : Int32))), .val (.ref b180)] []))
        refine own_go (fun t k => XS.iconst X190.here hx rfl (hb hby at_251) k) ?_
        show own_Goes p e below _ (T190.setTop (mkF m 252 #[.val (.int x0), .val (.int x1), .val (.int x2), .val (.int x3), .val (.int x4), .val (.int x5), .val (.ref a6), .val (.ref P), .val (.double (FP.i2d x0)), .second, .val (.double (FP.i2d x1)), .second, .val (.double (FP.i2d x2)), .second, .val (.int (x3 &&& (3 : Int32))), .val (.ref b142), .val (.int (x4 &&& (3 : Int32))), .val (.ref b180)] [(.int (1 : Int32))]))
        refine own_go (fun t k => XS.goto X190.here hx rfl (pc0 := 252) (pc' := 256) rfl (hb hby at_252) (by decide) (by decide) k) ?_
        show own_Goes p e below _ (T190.setTop (mkF m 256 #[.val (.int x0), .val (.int x1), .val (.int x2), .val (.int x3), .val (.int x4), .val (.int x5), .val (.ref a6), .val (.ref P), .val (.double (FP.i2d x0)), .second, .val (.double (FP.i2d x1)), .second, .val (.double (FP.i2d x2)), .second, .val (.int (x3 &&& (3 : Int32))), .val (.ref b142), .val (.int (x4 &&& (3 : Int32))), .val (.ref b180)] [(.int (1 : Int32))]))
        exact own_retN X190 hx hlk hret (by simp) (z' := (1 : Int32)) rfl (hb hby at_256) (by decide) (by decide) ⟨rfl, N190, trivial⟩
      · refine own_go (fun t k => XS.icmpNo X178.here hx rfl (hb hby at_158) rfl (flt hc179).1 k) ?_
        show own_Goes p e below _ (T178.setTop (mkF m 161 #[.val (.int x0), .val (.int x1), .val (.int x2), .val (.int x3), .val (.int x4), .val (.int x5), .val (.ref a6), .val (.ref P), .val (.double (FP.i2d x0)), .second, .val (.double (FP.i2d x1)), .second, .val (.double (FP.i2d x2)), .second, .val (.int (x3 &&& (3 : Int32))), .val (.ref b142), .val (.int (x4 &&& (3 : Int32))), .unset] []))
        refine own_go (fun t k => XS.aload X178.here hx rfl (hb hby at_161) rfl rfl k) ?_
        show own_Goes p e below _ (T178.setTop (mkF m 163 #[.val (.int x0), .val (.int x1), .val (.int x2), .val (.int x3), .val (.int x4), .val (.int x5), .val (.ref a6), .val (.ref P), .val (.double (FP.i2d x0)), .second, .val (.double (FP.i2d x1)), .second, .val (.double (FP.i2d x2)), .second, .val (.int (x3 &&& (3 : Int32))), .val (.ref b142), .val (.int (x4 &&& (3 : Int32))), .unset] [(.ref P)]))
        refine own_go (fun t k => XS.dload X178.here hx rfl (hb hby at_163) rfl k) ?_
        show own_Goes p e below _ (T178.setTop (mkF m 165 #[.val (.int x0), .val (.int x1), .val (.int x2), .val (.int x3), .val (.int x4), .val (.int x5), .val (.ref a6), .val (.ref P), .val (.double (FP.i2d x0)), .second, .val (.double (FP.i2d x1)), .second, .val (.double (FP.i2d x2)), .second, .val (.int (x3 &&& (3 : Int32))), .val (.ref b142), .val (.int (x4 &&& (3 : Int32))), .unset] [(.double (FP.i2d x1)), (.ref P)]))
        obtain ⟨_, T193, L193, X193, ⟨rfl, N193q, K193, G193_0, G193_1, G193_2, G193_3, G193_4, G193_5⟩, st193⟩ := own_callV X178 hx hZ hown (hw _ own_t86) (hw _ own_t87) (hw _ own_t89) (hw _ own_t88) (hw _ own_t3) (hw _ own_t90) (by decide) (b := P) (as := [(.double (FP.i2d x1))]) (rm11_2 l Z a0 hw [] P (FP.i2d x1) (FP.i2d x5) b160 kb160 (FP.i2d x2) (FP.i2d x0) T178.heap n0 (Nat.le_trans (Nat.le_trans (Nat.le_trans (Nat.le_trans Z1 K141.1) K142.1) K160.1) K178.1) g_P g_b160 G178_0 G178_1 G178_2 G178_3 G178_4 G178_5 ne_P_b160) rfl G178_0 own_pd5 rfl (pc := 165) (Ls := #[.val (.int x0), .val (.int x1), .val (.int x2), .val (.int x3), .val (.int x4), .val (.int x5), .val (.ref a6), .val (.ref P), .val (.double (FP.i2d x0)), .second, .val (.double (FP.i2d x1)), .second, .val (.double (FP.i2d x2)), .second, .val (.int (x3 &&& (3 : Int32))), .val (.ref b142), .val (.int (x4 &&& (3 : Int32))), .unset]) (rest := []) (W := 0) (by rw [hml]; rfl) (Nat.le_of_eq rfl) (by decide) (by decide) (hb hby at_165) (by decide) (by decide)
        have N193 := Fr.app N178 N193q
        refine own_go st193 ?_
        show own_Goes p e below _ (T193.setTop (mkF m 168 #[.val (.int x0), .val (.int x1), .val (.int x2), .val (.int x3), .val (.int x4), .val (.int x5), .val (.ref a6), .val (.ref P), .val (.double (FP.i2d x0)), .second, .val (.double (FP.i2d x1)), .second, .val (.double (FP.i2d x2)), .second, .val (.int (x3 &&& (3 : Int32))), .val (.ref b142), .val (.int (x4 &&& (3 : Int32))), .unset] []))
        refine own_go (fun t k => XS.aload X193.here hx rfl (hb hby at_168) rfl rfl k) ?_
        show own_Goes p e below _ (T193.setTop (mkF m 170 #[.val (.int x0), .val (.int x1), .val (.int x2), .val (.int x3), .val (.int x4), .val (.int x5), .val (.ref a6), .val (.ref P), .val (.double (FP.i2d x0)), .second, .val (.double (FP.i2d x1)), .second, .val (.double (FP.i2d x2)), .second, .val (.int (x3 &&& (3 : Int32))), .val (.ref b142), .val (.int (x4 &&& (3 : Int32))), .unset] [(.ref P)]))
        obtain ⟨_, T194, L194, X194, ⟨b194, kb194, rfl, N194q, K194, lt_b194, G194_0, G194_1⟩, st194⟩ := own_callV X193 hx hZ hown (hw _ own_t113) (hw _ own_t114) (hw _ own_t116) (hw _ own_t115) (hw _ own_t3) (hw _ own_t117) (by decide) (b := P) (as := []) (rm16_3 l Z a0 hw [] P b160 kb160 (FP.i2d x2) (FP.i2d x0) (FP.i2d x1) T193.heap n0 (Nat.le_trans (Nat.le_trans (Nat.le_trans (Nat.le_trans (Nat.le_trans Z1 K141.1) K142.1) K160.1) K178.1) K193.1) G193_1 G193_2 G193_4 G193_5 ne_P_b160) rfl G193_0 own_pd3 rfl (pc := 170) (Ls := #[.val (.int x0), .val (.int x1), .val (.int x2), .val (.int x3), .val (.int x4), .val (.int x5), .val (.ref a6), .val (.ref P), .val (.double (FP.i2d x0)), .second, .val (.double (FP.i2d x1)), .second, .val (.double (FP.i2d x2)), .second, .val (.int (x3 &&& (3 : Int32))), .val (.ref b142), .val (.int (x4 &&& (3 : Int32))), .unset]) (rest := []) (W := 0) (by rw [hml]; rfl) (Nat.le_of_eq rfl) (by decide) (by decide) (hb hby at_170) (by decide) (by decide)
        have N194 := Fr.app N193 N194q
        have ne_P_b194 : P ≠ b194 := Nat.ne_of_lt (Nat.lt_of_lt_of_le G193_0.lt lt_b194)
        have ne_b141_b194 : b141 ≠ b194 := Nat.ne_of_lt (Nat.lt_of_lt_of_le (((ff164.keep K160 (fun z => (Ne.symm ne_P_b141) (List.mem_singleton.mp z))).keep K178 (ninS (Ne.symm ne_P_b141) (ninS ne_b141_b160 nin0))).keep K193 (ninS (Ne.symm ne_P_b141) (ninS ne_b141_b160 nin0))).lt lt_b194)
        have ne_b142_b194 : b142 ≠ b194 := Nat.ne_of_lt (Nat.lt_of_lt_of_le (((G142_0.keep K160 (fun z => (Ne.symm ne_P_b142) (List.mem_singleton.mp z))).keep K178 (ninS (Ne.symm ne_P_b142) (ninS ne_b142_b160 nin0))).keep K193 (ninS (Ne.symm ne_P_b142) (ninS ne_b142_b160 nin0))).lt lt_b194)
        have ne_b160_b194 : b160 ≠ b194 := Nat.ne_of_lt (Nat.lt_of_lt_of_le G193_4.lt lt_b194)
        have g_b194 : n0 ≤ b194 := Nat.le_trans (Nat.le_trans (Nat.le_trans (Nat.le_trans (Nat.le_trans (Nat.le_trans Z1 K141.1) K142.1) K160.1) K178.1) K193.1) lt_b194
        refine own_go st194 ?_
        show own_Goes p e below _ (T194.setTop (mkF m 173 #[.val (.int x0), .val (.int x1), .val (.int x2), .val (.int x3), .val (.int x4), .val (.int x5), .val (.ref a6), .val (.ref P), .val (.double (FP.i2d x0)), .second, .val (.double (FP.i2d x1)), .second, .val (.double (FP.i2d x2)), .second, .val (.int (x3 &&& (3 : Int32))), .val (.ref b142), .val (.int (x4 &&& (3 : Int32))), .unset] [(.ref b194)]))
        refine own_go (fun t k => XS.astore X194.here hx rfl (hb hby at_173) rfl rfl (l' := #[.val (.int x0), .val (.int x1), .val (.int x2), .val (.int x3), .val (.int x4), .val (.int x5), .val (.ref a6), .val (.ref P), .val (.double (FP.i2d x0)), .second, .val (.double (FP.i2d x1)), .second, .val (.double (FP.i2d x2)), .second, .val (.int (x3 &&& (3 : Int32))), .val (.ref b142), .val (.int (x4 &&& (3 : Int32))), .val (.ref b194)]) rfl k) ?_
        show own_Goes p e below _ (T194.setTop (mkF m 175 #[.val (.int x0), .val (.int x1), .val (.int x2), .val (.int x3), .val (.int x4), .val (.int x5), .val (.ref a6), .val (.ref P), .val (.double (FP.i2d x0)), .second, .val (.double (FP.i2d x1)), .second, .val (.double (FP.i2d x2)), .second, .val (.int (x3 &&& (3 : Int32))), .val (.ref b142), .val (.int (x4 &&& (3 : Int32))), .val (.ref b194)] []))
        refine own_go (fun t k => XS.aload X194.here hx rfl (hb hby at_175) rfl rfl k) ?_
        show own_Goes p e below _ (T194.setTop (mkF m 177 #[.val (.int x0), .val (.int x1), .val (.int x2), .val (.int x3), .val (.int x4), .val (.int x5), .val (.ref a6), .val (.ref P), .val (.double (FP.i2d x0)), .second, .val (.double (FP.i2d x1)), .second, .val (.double (FP.i2d x2)), .second, .val (.int (x3 &&& (3 : Int32))), .val (.ref b142), .val (.int (x4 &&& (3 : Int32))), .val (.ref b194)] [(.ref b194)]))
        obtain ⟨cl195, Ar195, qa195, sa195, na195, ha195, ga195⟩ := id G194_0
        refine own_go (fun t k => X194.arraylength hx Ar195.1 (State.isArrayOf_alike hZ.alike Ar195.2.1) (g := (mkF m 177 #[.val (.int x0), .val (.int x1), .val (.int x2), .val (.int x3), .val (.int x4), .val (.int x5), .val (.ref a6), .val (.ref P), .val (.double (FP.i2d x0)), .second, .val (.double (FP.i2d x1)), .second, .val (.double (FP.i2d x2)), .second, .val (.int (x3 &&& (3 : Int32))), .val (.ref b142), .val (.int (x4 &&& (3 : Int32))), .val (.ref b194)] [(.ref b194)])) rfl rfl (hb hby at_177) t k) ?_
        rw [len_of sa195 (by decide)]
        show own_Goes p e below _ (T194.setTop (mkF m 178 #[.val (.int x0), .val (.int x1), .val (.int x2), .val (.int x3), .val (.int x4), .val (.int x5), .val (.ref a6), .val (.ref P), .val (.double (FP.i2d x0)), .second, .val (.double (FP.i2d x1)), .second, .val (.double (FP.i2d x2)), .second, .val (.int (x3 &&& (3 : Int32))), .val (.ref b142), .val (.int (x4 &&& (3 : Int32))), .val (.ref b194)] [(.int (3 : Int32))]))
        refine own_go (fun t k => XS.iload X194.here hx rfl (hb hby at_178) rfl k) ?_
        show own_Goes p e below _ (T194.setTop (mkF m 180 #[.val (.int x0), .val (.int x1), .val (.int x2), .val (.int x3), .val (.int x4), .val (.int x5), .val (.ref a6), .val (.ref P), .val (.double (FP.i2d x0)), .second, .val (.double (FP.i2d x1)), .second, .val (.double (FP.i2d x2)), .second, .val (.int (x3 &&& (3 : Int32))), .val (.ref b142), .val (.int (x4 &&& (3 : Int32))), .val (.ref b194)] [(.int (x4 &&& (3 : Int32))), (.int (3 : Int32))]))
        have hd196 : (3 : Int32) = (x4 &&& (3 : Int32)) := (own_q3 x4 hc179)
        refine own_go (fun t k => XS.icmpYes X194.here hx rfl (pc0 := 180) (pc' := 185) rfl (hb hby at_180) rfl (teq hd196).1 (by decide) (by decide) k) ?_
        show own_Goes p e below _ (T194.setTop (mkF m 185 #[.val (.int x0), .val (.int x1), .val (.int x2), .val (.int x3), .val (.int x4), .val (.int x5), .val (.ref a6), .val (.ref P), .val (.double (FP.i2d x0)), .second, .val (.double (FP.i2d x1)), .second, .val (.double (FP.i2d x2)), .second, .val (.int (x3 &&& (3 : Int32))), .val (.ref b142), .val (.int (x4 &&& (3 : Int32))), .val (.ref b194)] []))
        refine own_go (fun t k => XS.iload X194.here hx rfl (hb hby at_185) rfl k) ?_
        show own_Goes p e below _ (T194.setTop (mkF m 187 #[.val (.int x0), .val (.int x1), .val (.int x2), .val (.int x3), .val (.int x4), .val (.int x5), .val (.ref a6), .val (.ref P), .val (.double (FP.i2d x0)), .second, .val (.double (FP.i2d x1)), .second, .val (.double (FP.i2d x2)), .second, .val (.int (x3 &&& (3 : Int32))), .val (.ref b142), .val (.int (x4 &&& (3 : Int32))), .val (.ref b194)] [(.int (x4 &&& (3 : Int32)))]))
        refine own_go (fun t k => XS.iconst X194.here hx rfl (hb hby at_187) k) ?_
        show own_Goes p e below _ (T194.setTop (mkF m 188 #[.val (.int x0), .val (.int x1), .val (.int x2), .val (.int x3), .val (.int x4), .val (.int x5), .val (.ref a6), .val (.ref P), .val (.double (FP.i2d x0)), .second, .val (.double (FP.i2d x1)), .second, .val (.double (FP.i2d x2)), .second, .val (.int (x3 &&& (3 : Int32))), .val (.ref b142), .val (.int (x4 &&& (3 : Int32))), .val (.ref b194)] [(.int (1 : Int32)), (.int (x4 &&& (3 : Int32)))]))
        have hd197 : ¬ ((x4 &&& (3 : Int32)) < (1 : Int32)) := hc145
        refine own_go (fun t k => XS.icmpNo X194.here hx rfl (hb hby at_188) rfl (flt hd197).1 k) ?_
        show own_Goes p e below _ (T194.setTop (mkF m 191 #[.val (.int x0), .val (.int x1), .val (.int x2), .val (.int x3), .val (.int x4), .val (.int x5), .val (.ref a6), .val (.ref P), .val (.double (FP.i2d x0)), .second, .val (.double (FP.i2d x1)), .second, .val (.double (FP.i2d x2)), .second, .val (.int (x3 &&& (3 : Int32))), .val (.ref b142), .val (.int (x4 &&& (3 : Int32))), .val (.ref b194)] []))
        refine own_go (fun t k => XS.aload X194.here hx rfl (hb hby at_191) rfl rfl k) ?_
        show own_Goes p e below _ (T194.setTop (mkF m 193 #[.val (.int x0), .val (.int x1), .val (.int x2), .val (.int x3), .val (.int x4), .val (.int x5), .val (.ref a6), .val (.ref P), .val (.double (FP.i2d x0)), .second, .val (.double (FP.i2d x1)), .second, .val (.double (FP.i2d x2)), .second, .val (.int (x3 &&& (3 : Int32))), .val (.ref b142), .val (.int (x4 &&& (3 : Int32))), .val (.ref b194)] [(.ref b194)]))
        refine own_go (fun t k => XS.iconst X194.here hx rfl (hb hby at_193) k) ?_
        show own_Goes p e below _ (T194.setTop (mkF m 194 #[.val (.int x0), .val (.int x1), .val (.int x2), .val (.int x3), .val (.int x4), .val (.int x5), .val (.ref a6), .val (.ref P), .val (.double (FP.i2d x0)), .second, .val (.double (FP.i2d x1)), .second, .val (.double (FP.i2d x2)), .second, .val (.int (x3 &&& (3 : Int32))), .val (.ref b142), .val (.int (x4 &&& (3 : Int32))), .val (.ref b194)] [(.int (0 : Int32)), (.ref b194)]))
        obtain ⟨cl198, Ar198, qa198, sa198, na198, ha198, ga198⟩ := id G194_0
        refine own_go (fun t k => X194.daload hx (j := (0 : Int32)) (v := (.double (FP.i2d x2))) Ar198.1 (State.isArrayOf_alike hZ.alike Ar198.2.1) Ar198.2.2 (inb_of sa198 ⟨by decide, by decide⟩) (ha198 _ (by rw [sa198]; decide)) (g := (mkF m 194 #[.val (.int x0), .val (.int x1), .val (.int x2), .val (.int x3), .val (.int x4), .val (.int x5), .val (.ref a6), .val (.ref P), .val (.double (FP.i2d x0)), .second, .val (.double (FP.i2d x1)), .second, .val (.double (FP.i2d x2)), .second, .val (.int (x3 &&& (3 : Int32))), .val (.ref b142), .val (.int (x4 &&& (3 : Int32))), .val (.ref b194)] [(.int (0 : Int32)), (.ref b194)])) rfl rfl (hb hby at_194) t k) ?_
        show own_Goes p e below _ (T194.setTop (mkF m 195 #[.val (.int x0), .val (.int x1), .val (.int x2), .val (.int x3), .val (.int x4), .val (.int x5), .val (.ref a6), .val (.ref P), .val (.double (FP.i2d x0)), .second, .val (.double (FP.i2d x1)), .second, .val (.double (FP.i2d x2)), .second, .val (.int (x3 &&& (3 : Int32))), .val (.ref b142), .val (.int (x4 &&& (3 : Int32))), .val (.ref b194)] [(.double (FP.i2d x2))]))
        refine own_go (fun t k => XS.dload X194.here hx rfl (hb hby at_195) rfl k) ?_
        show own_Goes p e below _ (T194.setTop (mkF m 197 #[.val (.int x0), .val (.int x1), .val (.int x2), .val (.int x3), .val (.int x4), .val (.int x5), .val (.ref a6), .val (.ref P), .val (.double (FP.i2d x0)), .second, .val (.double (FP.i2d x1)), .second, .val (.double (FP.i2d x2)), .second, .val (.int (x3 &&& (3 : Int32))), .val (.ref b142), .val (.int (x4 &&& (3 : Int32))), .val (.ref b194)] [(.double (FP.i2d x2)), (.double (FP.i2d x2))]))
        refine own_go (fun t k => XS.dcmpS X194.here hx rfl (hb hby at_197) rfl rfl k) ?_
        show own_Goes p e below _ (T194.setTop (mkF m 198 #[.val (.int x0), .val (.int x1), .val (.int x2), .val (.int x3), .val (.int x4), .val (.int x5), .val (.ref a6), .val (.ref P), .val (.double (FP.i2d x0)), .second, .val (.double (FP.i2d x1)), .second, .val (.double (FP.i2d x2)), .second, .val (.int (x3 &&& (3 : Int32))), .val (.ref b142), .val (.int (x4 &&& (3 : Int32))), .val (.ref b194)] [(.int (cmpValue (FP.dcmp (FP.i2d x2) (FP.i2d x2)) .l))]))
        have hd199 : (cmpValue (FP.dcmp (FP.i2d x2) (FP.i2d x2)) .l) = (0 : Int32) := (own_dc x2)
        refine own_go (fun t k => XS.ifYes X194.here hx rfl (pc0 := 198) (pc' := 203) rfl (hb hby at_198) rfl ((if0 _ _).trans (teq hd199).1) (by decide) (by decide) k) ?_
        show own_Goes p e below _ (T194.setTop (mkF m 203 #[.val (.int x0), .val (.int x1), .val (.int x2), .val (.int x3), .val (.int x4), .val (.int x5), .val (.ref a6), .val (.ref P), .val (.double (FP.i2d x0)), .second, .val (.double (FP.i2d x1)), .second, .val (.double (FP.i2d x2)), .second, .val (.int (x3 &&& (3 : Int32))), .val (.ref b142), .val (.int (x4 &&& (3 : Int32))), .val (.ref b194)] []))
        refine own_go (fun t k => XS.iload X194.here hx rfl (hb hby at_203) rfl k) ?_
        show own_Goes p e below _ (T194.setTop (mkF m 205 #[.val (.int x0), .val (.int x1), .val (.int x2), .val (.int x3), .val (.int x4), .val (.int x5), .val (.ref a6), .val (.ref P), .val (.double (FP.i2d x0)), .second, .val (.double (FP.i2d x1)), .second, .val (.double (FP.i2d x2)), .second, .val (.int (x3 &&& (3 : Int32))), .val (.ref b142), .val (.int (x4 &&& (3 : Int32))), .val (.ref b194)] [(.int (x4 &&& (3 : Int32)))]))
        refine own_go (fun t k => XS.iconst X194.here hx rfl (hb hby at_205) k) ?_
        show own_Goes p e below _ (T194.setTop (mkF m 206 #[.val (.int x0), .val (.int x1), .val (.int x2), .val (.int x3), .val (.int x4), .val (.int x5), .val (.ref a6), .val (.ref P), .val (.double (FP.i2d x0)), .second, .val (.double (FP.i2d x1)), .second, .val (.double (FP.i2d x2)), .second, .val (.int (x3 &&& (3 : Int32))), .val (.ref b142), .val (.int (x4 &&& (3 : Int32))), .val (.ref b194)] [(.int (2 : Int32)), (.int (x4 &&& (3 : Int32)))]))
        have hd200 : ¬ ((x4 &&& (3 : Int32)) < (2 : Int32)) := hc165
        refine own_go (fun t k => XS.icmpNo X194.here hx rfl (hb hby at_206) rfl (flt hd200).1 k) ?_
        show own_Goes p e below _ (T194.setTop (mkF m 209 #[.val (.int x0), .val (.int x1), .val (.int x2), .val (.int x3), .val (.int x4), .val (.int x5), .val (.ref a6), .val (.ref P), .val (.double (FP.i2d x0)), .second, .val (.double (FP.i2d x1)), .second, .val (.double (FP.i2d x2)), .second, .val (.int (x3 &&& (3 : Int32))), .val (.ref b142), .val (.int (x4 &&& (3 : Int32))), .val (.ref b194)] []))
        refine own_go (fun t k => XS.aload X194.here hx rfl (hb hby at_209) rfl rfl k) ?_
        show own_Goes p e below _ (T194.setTop (mkF m 211 #[.val (.int x0), .val (.int x1), .val (.int x2), .val (.int x3), .val (.int x4), .val (.int x5), .val (.ref a6), .val (.ref P), .val (.double (FP.i2d x0)), .second, .val (.double (FP.i2d x1)), .second, .val (.double (FP.i2d x2)), .second, .val (.int (x3 &&& (3 : Int32))), .val (.ref b142), .val (.int (x4 &&& (3 : Int32))), .val (.ref b194)] [(.ref b194)]))
        refine own_go (fun t k => XS.iconst X194.here hx rfl (hb hby at_211) k) ?_
        show own_Goes p e below _ (T194.setTop (mkF m 212 #[.val (.int x0), .val (.int x1), .val (.int x2), .val (.int x3), .val (.int x4), .val (.int x5), .val (.ref a6), .val (.ref P), .val (.double (FP.i2d x0)), .second, .val (.double (FP.i2d x1)), .second, .val (.double (FP.i2d x2)), .second, .val (.int (x3 &&& (3 : Int32))), .val (.ref b142), .val (.int (x4 &&& (3 : Int32))), .val (.ref b194)] [(.int (1 : Int32)), (.ref b194)]))
        obtain ⟨cl201, Ar201, qa201, sa201, na201, ha201, ga201⟩ := id G194_0
        refine own_go (fun t k => X194.daload hx (j := (1 : Int32)) (v := (.double (FP.i2d x0))) Ar201.1 (State.isArrayOf_alike hZ.alike Ar201.2.1) Ar201.2.2 (inb_of sa201 ⟨by decide, by decide⟩) (ha201 _ (by rw [sa201]; decide)) (g := (mkF m 212 #[.val (.int x0), .val (.int x1), .val (.int x2), .val (.int x3), .val (.int x4), .val (.int x5), .val (.ref a6), .val (.ref P), .val (.double (FP.i2d x0)), .second, .val (.double (FP.i2d x1)), .second, .val (.double (FP.i2d x2)), .second, .val (.int (x3 &&& (3 : Int32))), .val (.ref b142), .val (.int (x4 &&& (3 : Int32))), .val (.ref b194)] [(.int (1 : Int32)), (.ref b194)])) rfl rfl (hb hby at_212) t k) ?_
        show own_Goes p e below _ (T194.setTop (mkF m 213 #[.val (.int x0), .val (.int x1), .val (.int x2), .val (.int x3), .val (.int x4), .val (.int x5), .val (.ref a6), .val (.ref P), .val (.double (FP.i2d x0)), .second, .val (.double (FP.i2d x1)), .second, .val (.double (FP.i2d x2)), .second, .val (.int (x3 &&& (3 : Int32))), .val (.ref b142), .val (.int (x4 &&& (3 : Int32))), .val (.ref b194)] [(.double (FP.i2d x0))]))
        refine own_go (fun t k => XS.dload X194.here hx rfl (hb hby at_213) rfl k) ?_
        show own_Goes p e below _ (T194.setTop (mkF m 215 #[.val (.int x0), .val (.int x1), .val (.int x2), .val (.int x3), .val (.int x4), .val (.int x5), .val (.ref a6), .val (.ref P), .val (.double (FP.i2d x0)), .second, .val (.double (FP.i2d x1)), .second, .val (.double (FP.i2d x2)), .second, .val (.int (x3 &&& (3 : Int32))), .val (.ref b142), .val (.int (x4 &&& (3 : Int32))), .val (.ref b194)] [(.double (FP.i2d x0)), (.double (FP.i2d x0))]))
        refine own_go (fun t k => XS.dcmpS X194.here hx rfl (hb hby at_215) rfl rfl k) ?_
        show own_Goes p e below _ (T194.setTop (mkF m 216 #[.val (.int x0), .val (.int x1), .val (.int x2), .val (.int x3), .val (.int x4), .val (.int x5), .val (.ref a6), .val (.ref P), .val (.double (FP.i2d x0)), .second, .val (.double (FP.i2d x1)), .second, .val (.double (FP.i2d x2)), .second, .val (.int (x3 &&& (3 : Int32))), .val (.ref b142), .val (.int (x4 &&& (3 : Int32))), .val (.ref b194)] [(.int (cmpValue (FP.dcmp (FP.i2d x0) (FP.i2d x0)) .l))]))
        have hd202 : (cmpValue (FP.dcmp (FP.i2d x0) (FP.i2d x0)) .l) = (0 : Int32) := (own_dc x0)
        refine own_go (fun t k => XS.ifYes X194.here hx rfl (pc0 := 216) (pc' := 221) rfl (hb hby at_216) rfl ((if0 _ _).trans (teq hd202).1) (by decide) (by decide) k) ?_
        show own_Goes p e below _ (T194.setTop (mkF m 221 #[.val (.int x0), .val (.int x1), .val (.int x2), .val (.int x3), .val (.int x4), .val (.int x5), .val (.ref a6), .val (.ref P), .val (.double (FP.i2d x0)), .second, .val (.double (FP.i2d x1)), .second, .val (.double (FP.i2d x2)), .second, .val (.int (x3 &&& (3 : Int32))), .val (.ref b142), .val (.int (x4 &&& (3 : Int32))), .val (.ref b194)] []))
        refine own_go (fun t k => XS.iload X194.here hx rfl (hb hby at_221) rfl k) ?_
        show own_Goes p e below _ (T194.setTop (mkF m 223 #[.val (.int x0), .val (.int x1), .val (.int x2), .val (.int x3), .val (.int x4), .val (.int x5), .val (.ref a6), .val (.ref P), .val (.double (FP.i2d x0)), .second, .val (.double (FP.i2d x1)), .second, .val (.double (FP.i2d x2)), .second, .val (.int (x3 &&& (3 : Int32))), .val (.ref b142), .val (.int (x4 &&& (3 : Int32))), .val (.ref b194)] [(.int (x4 &&& (3 : Int32)))]))
        refine own_go (fun t k => XS.iconst X194.here hx rfl (hb hby at_223) k) ?_
        show own_Goes p e below _ (T194.setTop (mkF m 224 #[.val (.int x0), .val (.int x1), .val (.int x2), .val (.int x3), .val (.int x4), .val (.int x5), .val (.ref a6), .val (.ref P), .val (.double (FP.i2d x0)), .second, .val (.double (FP.i2d x1)), .second, .val (.double (FP.i2d x2)), .second, .val (.int (x3 &&& (3 : Int32))), .val (.ref b142), .val (.int (x4 &&& (3 : Int32))), .val (.ref b194)] [(.int (3 : Int32)), (.int (x4 &&& (3 : Int32)))]))
        have hd203 : ¬ ((x4 &&& (3 : Int32)) < (3 : Int32)) := hc179
        refine own_go (fun t k => XS.icmpNo X194.here hx rfl (hb hby at_224) rfl (flt hd203).1 k) ?_
        show own_Goes p e below _ (T194.setTop (mkF m 227 #[.val (.int x0), .val (.int x1), .val (.int x2), .val (.int x3), .val (.int x4), .val (.int x5), .val (.ref a6), .val (.ref P), .val (.double (FP.i2d x0)), .second, .val (.double (FP.i2d x1)), .second, .val (.double (FP.i2d x2)), .second, .val (.int (x3 &&& (3 : Int32))), .val (.ref b142), .val (.int (x4 &&& (3 : Int32))), .val (.ref b194)] []))
        refine own_go (fun t k => XS.aload X194.here hx rfl (hb hby at_227) rfl rfl k) ?_
        show own_Goes p e below _ (T194.setTop (mkF m 229 #[.val (.int x0), .val (.int x1), .val (.int x2), .val (.int x3), .val (.int x4), .val (.int x5), .val (.ref a6), .val (.ref P), .val (.double (FP.i2d x0)), .second, .val (.double (FP.i2d x1)), .second, .val (.double (FP.i2d x2)), .second, .val (.int (x3 &&& (3 : Int32))), .val (.ref b142), .val (.int (x4 &&& (3 : Int32))), .val (.ref b194)] [(.ref b194)]))
        refine own_go (fun t k => XS.iconst X194.here hx rfl (hb hby at_229) k) ?_
        show own_Goes p e below _ (T194.setTop (mkF m 230 #[.val (.int x0), .val (.int x1), .val (.int x2), .val (.int x3), .val (.int x4), .val (.int x5), .val (.ref a6), .val (.ref P), .val (.double (FP.i2d x0)), .second, .val (.double (FP.i2d x1)), .second, .val (.double (FP.i2d x2)), .second, .val (.int (x3 &&& (3 : Int32))), .val (.ref b142), .val (.int (x4 &&& (3 : Int32))), .val (.ref b194)] [(.int (2 : Int32)), (.ref b194)]))
        obtain ⟨cl204, Ar204, qa204, sa204, na204, ha204, ga204⟩ := id G194_0
        refine own_go (fun t k => X194.daload hx (j := (2 : Int32)) (v := (.double (FP.i2d x1))) Ar204.1 (State.isArrayOf_alike hZ.alike Ar204.2.1) Ar204.2.2 (inb_of sa204 ⟨by decide, by decide⟩) (ha204 _ (by rw [sa204]; decide)) (g := (mkF m 230 #[.val (.int x0), .val (.int x1), .val (.int x2), .val (.int x3), .val (.int x4), .val (.int x5), .val (.ref a6), .val (.ref P), .val (.double (FP.i2d x0)), .second, .val (.double (FP.i2d x1)), .second, .val (.double (FP.i2d x2)), .second, .val (.int (x3 &&& (3 : Int32))), .val (.ref b142), .val (.int (x4 &&& (3 : Int32))), .val (.ref b194)] [(.int (2 : Int32)), (.ref b194)])) rfl rfl (hb hby at_230) t k) ?_
        show own_Goes p e below _ (T194.setTop (mkF m 231 #[.val (.int x0), .val (.int x1), .val (.int x2), .val (.int x3), .val (.int x4), .val (.int x5), .val (.ref a6), .val (.ref P), .val (.double (FP.i2d x0)), .second, .val (.double (FP.i2d x1)), .second, .val (.double (FP.i2d x2)), .second, .val (.int (x3 &&& (3 : Int32))), .val (.ref b142), .val (.int (x4 &&& (3 : Int32))), .val (.ref b194)] [(.double (FP.i2d x1))]))
        refine own_go (fun t k => XS.dload X194.here hx rfl (hb hby at_231) rfl k) ?_
        show own_Goes p e below _ (T194.setTop (mkF m 233 #[.val (.int x0), .val (.int x1), .val (.int x2), .val (.int x3), .val (.int x4), .val (.int x5), .val (.ref a6), .val (.ref P), .val (.double (FP.i2d x0)), .second, .val (.double (FP.i2d x1)), .second, .val (.double (FP.i2d x2)), .second, .val (.int (x3 &&& (3 : Int32))), .val (.ref b142), .val (.int (x4 &&& (3 : Int32))), .val (.ref b194)] [(.double (FP.i2d x1)), (.double (FP.i2d x1))]))
        refine own_go (fun t k => XS.dcmpS X194.here hx rfl (hb hby at_233) rfl rfl k) ?_
        show own_Goes p e below _ (T194.setTop (mkF m 234 #[.val (.int x0), .val (.int x1), .val (.int x2), .val (.int x3), .val (.int x4), .val (.int x5), .val (.ref a6), .val (.ref P), .val (.double (FP.i2d x0)), .second, .val (.double (FP.i2d x1)), .second, .val (.double (FP.i2d x2)), .second, .val (.int (x3 &&& (3 : Int32))), .val (.ref b142), .val (.int (x4 &&& (3 : Int32))), .val (.ref b194)] [(.int (cmpValue (FP.dcmp (FP.i2d x1) (FP.i2d x1)) .l))]))
        have hd205 : (cmpValue (FP.dcmp (FP.i2d x1) (FP.i2d x1)) .l) = (0 : Int32) := (own_dc x1)
        refine own_go (fun t k => XS.ifYes X194.here hx rfl (pc0 := 234) (pc' := 239) rfl (hb hby at_234) rfl ((if0 _ _).trans (teq hd205).1) (by decide) (by decide) k) ?_
        show own_Goes p e below _ (T194.setTop (mkF m 239 #[.val (.int x0), .val (.int x1), .val (.int x2), .val (.int x3), .val (.int x4), .val (.int x5), .val (.ref a6), .val (.ref P), .val (.double (FP.i2d x0)), .second, .val (.double (FP.i2d x1)), .second, .val (.double (FP.i2d x2)), .second, .val (.int (x3 &&& (3 : Int32))), .val (.ref b142), .val (.int (x4 &&& (3 : Int32))), .val (.ref b194)] []))
        refine own_go (fun t k => XS.aload X194.here hx rfl (hb hby at_239) rfl rfl k) ?_
        show own_Goes p e below _ (T194.setTop (mkF m 241 #[.val (.int x0), .val (.int x1), .val (.int x2), .val (.int x3), .val (.int x4), .val (.int x5), .val (.ref a6), .val (.ref P), .val (.double (FP.i2d x0)), .second, .val (.double (FP.i2d x1)), .second, .val (.double (FP.i2d x2)), .second, .val (.int (x3 &&& (3 : Int32))), .val (.ref b142), .val (.int (x4 &&& (3 : Int32))), .val (.ref b194)] [(.ref P)]))
        have ff207 : Fld Z T194.heap P "com/example/nunobiki/nunobiki/engine/Profile" "unitThreshold" "D" (.double (FP.i2d x5)) := (G193_3.keep K194 List.not_mem_nil)
        obtain ⟨_, T206, L206, X206, ⟨rfl, N206q, e206⟩, st206⟩ := own_callV X194 hx hZ hown (hw _ own_t127) (hw _ own_t128) (hw _ own_t130) (hw _ own_t129) (hw _ own_t3) (hw _ own_t131) (by decide) (b := P) (as := []) (rm17 l Z a0 hw [] P (FP.i2d x5) T194.heap n0 ff207) rfl (G193_0.keep K194) own_pd4 rfl (pc := 241) (Ls := #[.val (.int x0), .val (.int x1), .val (.int x2), .val (.int x3), .val (.int x4), .val (.int x5), .val (.ref a6), .val (.ref P), .val (.double (FP.i2d x0)), .second, .val (.double (FP.i2d x1)), .second, .val (.double (FP.i2d x2)), .second, .val (.int (x3 &&& (3 : Int32))), .val (.ref b142), .val (.int (x4 &&& (3 : Int32))), .val (.ref b194)]) (rest := []) (W := 0) (by rw [hml]; rfl) (Nat.le_of_eq rfl) (by decide) (by decide) (hb hby at_241) (by decide) (by decide)
        have N206 := Fr.app N194 N206q
        refine own_go st206 ?_
        show own_Goes p e below _ (T206.setTop (mkF m 244 #[.val (.int x0), .val (.int x1), .val (.int x2), .val (.int x3), .val (.int x4), .val (.int x5), .val (.ref a6), .val (.ref P), .val (.double (FP.i2d x0)), .second, .val (.double (FP.i2d x1)), .second, .val (.double (FP.i2d x2)), .second, .val (.int (x3 &&& (3 : Int32))), .val (.ref b142), .val (.int (x4 &&& (3 : Int32))), .val (.ref b194)] [(.double (FP.i2d x5))]))
        refine own_go (fun t k => XS.iload X206.here hx rfl (hb hby at_244) rfl k) ?_
        show own_Goes p e below _ (T206.setTop (mkF m 246 #[.val (.int x0), .val (.int x1), .val (.int x2), .val (.int x3), .val (.int x4), .val (.int x5), .val (.ref a6), .val (.ref P), .val (.double (FP.i2d x0)), .second, .val (.double (FP.i2d x1)), .second, .val (.double (FP.i2d x2)), .second, .val (.int (x3 &&& (3 : Int32))), .val (.ref b142), .val (.int (x4 &&& (3 : Int32))), .val (.ref b194)] [(.int x5), (.double (FP.i2d x5))]))
        refine own_go (fun t k => XS.i2dS X206.here hx rfl (hb hby at_246) rfl rfl k) ?_
        show own_Goes p e below _ (T206.setTop (mkF m 247 #[.val (.int x0), .val (.int x1), .val (.int x2), .val (.int x3), .val (.int x4), .val (.int x5), .val (.ref a6), .val (.ref P), .val (.double (FP.i2d x0)), .second, .val (.double (FP.i2d x1)), .second, .val (.double (FP.i2d x2)), .second, .val (.int (x3 &&& (3 : Int32))), .val (.ref b142), .val (.int (x4 &&& (3 : Int32))), .val (.ref b194)] [(.double (FP.i2d x5)), (.double (FP.i2d x5))]))
        refine own_go (fun t k => XS.dcmpS X206.here hx rfl (hb hby at_247) rfl rfl k) ?_
        show own_Goes p e below _ (T206.setTop (mkF m 248 #[.val (.int x0), .val (.int x1), .val (.int x2), .val (.int x3), .val (.int x4), .val (.int x5), .val (.ref a6), .val (.ref P), .val (.double (FP.i2d x0)), .second, .val (.double (FP.i2d x1)), .second, .val (.double (FP.i2d x2)), .second, .val (.int (x3 &&& (3 : Int32))), .val (.ref b142), .val (.int (x4 &&& (3 : Int32))), .val (.ref b194)] [(.int (cmpValue (FP.dcmp (FP.i2d x5) (FP.i2d x5)) .l))]))
        have hd208 : (cmpValue (FP.dcmp (FP.i2d x5) (FP.i2d x5)) .l) = (0 : Int32) := (own_dc x5)
        refine own_go (fun t k => XS.ifNo X206.here hx rfl (hb hby at_248) rfl ((if0 _ _).trans (teq hd208).2) k) ?_
        show own_Goes p e below _ (T206.setTop (mkF m 251 #[.val (.int x0), .val (.int x1), .val (.int x2), .val (.int x3), .val (.int x4), .val (.int x5), .val (.ref a6), .val (.ref P), .val (.double (FP.i2d x0)), .second, .val (.double (FP.i2d x1)), .second, .val (.double (FP.i2d x2)), .second, .val (.int (x3 &&& (3 : Int32))), .val (.ref b142), .val (.int (x4 &&& (3 : Int32))), .val (.ref b194)] []))
        refine own_go (fun t k => XS.iconst X206.here hx rfl (hb hby at_251) k) ?_
        show own_Goes p e below _ (T206.setTop (mkF m 252 #[.val (.int x0), .val (.int x1), .val (.int x2), .val (.int x3), .val (.int x4), .val (.int x5), .val (.ref a6), .val (.ref P), .val (.double (FP.i2d x0)), .second, .val (.double (FP.i2d x1)), .second, .val (.double (FP.i2d x2)), .second, .val (.int (x3 &&& (3 : Int32))), .val (.ref b142), .val (.int (x4 &&& (3 : Int32))), .val (.ref b194)] [(.int (1 : Int32))]))
        refine own_go (fun t k => XS.goto X206.here hx rfl (pc0 := 252) (pc' := 256) rfl (hb hby at_252) (by decide) (by decide) k) ?_
        show own_Goes p e below _ (T206.setTop (mkF m 256 #[.val (.int x0), .val (.int x1), .val (.int x2), .val (.int x3), .val (.int x4), .val (.int x5), .val (.ref a6), .val (.ref P), .val (.double (FP.i2d x0)), .second, .val (.double (FP.i2d x1)), .second, .val (.double (FP.i2d x2)), .second, .val (.int (x3 &&& (3 : Int32))), .val (.ref b142), .val (.int (x4 &&& (3 : Int32))), .val (.ref b194)] [(.int (1 : Int32))]))
        exact own_retN X206 hx hlk hret (by simp) (z' := (1 : Int32)) rfl (hb hby at_256) (by decide) (by decide) ⟨rfl, N206, trivial⟩
theorem own_t0 : (Jvm.Cond.arrayClass Jvm.ClassFile.FieldType.char) ∈ tables_1 := List.mem_of_getElem? (i := 0) rfl
theorem own_t1 : (Jvm.Cond.classLink "com/example/nunobiki/nunobiki/engine/ProfileForgetObservedScoresPinLaw" (7 : Nat) "com/example/nunobiki/nunobiki/engine/Profile") ∈ tables_1 := List.mem_of_getElem? (i := 1) rfl
theorem own_t4 : (Jvm.Cond.classLink "com/example/nunobiki/nunobiki/engine/ProfileForgetObservedScoresPinLaw" (9 : Nat) "java/lang/String") ∈ tables_1 := List.mem_of_getElem? (i := 4) rfl
theorem own_t5 : (Jvm.Cond.instantiable "java/lang/String" (4 : Nat)) ∈ tables_1 := List.mem_of_getElem? (i := 5) rfl
theorem own_t6 : (Jvm.Cond.initialized "java/lang/String") ∈ tables_1 := List.mem_of_getElem? (i := 6) rfl
theorem own_t30 : (Jvm.Cond.laysFinal "java/lang/String" "java/lang/String" "coder" "B") ∈ tables_1 := List.mem_of_getElem? (i := 30) rfl
theorem own_t32 : (Jvm.Cond.laysFinal "java/lang/String" "java/lang/String" "value" "[B") ∈ tables_1 := List.mem_of_getElem? (i := 32) rfl
theorem own_t7 : (Jvm.Cond.methodLink "com/example/nunobiki/nunobiki/engine/ProfileForgetObservedScoresPinLaw" (11 : Nat) ({ cls := "java/lang/String", name := "<init>", desc := "([C)V" } : Jvm.MethodName)) ∈ tables_1 := List.mem_of_getElem? (i := 7) rfl
theorem own_t8 : (Jvm.Cond.instanceMethod ({ cls := "java/lang/String", name := "<init>", desc := "([C)V" } : Jvm.MethodName)) ∈ tables_1 := List.mem_of_getElem? (i := 8) rfl
theorem own_t9 : (Jvm.Cond.code ({ cls := "java/lang/String", name := "<init>", desc := "([C)V" } : Jvm.MethodName) jdk_42_method_3_code (2 : Nat) (Option.none : Option Jvm.ClassFile.FieldType)) ∈ tables_1 := List.mem_of_getElem? (i := 9) rfl
theorem own_t33 : (Jvm.Cond.methodLink "com/example/nunobiki/nunobiki/engine/ProfileForgetObservedScoresPinLaw" (14 : Nat) ({ cls := "com/example/nunobiki/nunobiki/engine/Profile", name := "<init>", desc := "(Ljava/lang/String;DZ)V" } : Jvm.MethodName)) ∈ tables_1 := List.mem_of_getElem? (i := 33) rfl
theorem own_pd6 : parseMethodDescriptor "(Ljava/lang/String;DZ)V" = some ⟨[(.object "java/lang/String"), .double, .boolean], none⟩ := by decide +kernel
theorem own_t34 : (Jvm.Cond.instanceMethod ({ cls := "com/example/nunobiki/nunobiki/engine/Profile", name := "<init>", desc := "(Ljava/lang/String;DZ)V" } : Jvm.MethodName)) ∈ tables_1 := List.mem_of_getElem? (i := 34) rfl
theorem own_t35 : (Jvm.Cond.code ({ cls := "com/example/nunobiki/nunobiki/engine/Profile", name := "<init>", desc := "(Ljava/lang/String;DZ)V" } : Jvm.MethodName) prog_20_method_1_code (5 : Nat) (Option.none : Option Jvm.ClassFile.FieldType)) ∈ tables_1 := List.mem_of_getElem? (i := 35) rfl
theorem own_pn5 : plainName "com/example/nunobiki/nunobiki/engine/ProfileForgetObservedScoresPinLaw" = true := by first | (simp [plainName, overriddenIn]; done) | decide +kernel
theorem own_ef0 (m : MethodId) (z0 : Int32) (z1 : Int32) (z2 : Int32) (z3 : Int32) (z4 : Int32) (z5 : Int32) : entryFrame m #[(.int z0), (.int z1), (.int z2), (.int z3), (.int z4), (.int z5)] maxLocals = mkF m 0 #[.val (.int z0), .val (.int z1), .val (.int z2), .val (.int z3), .val (.int z4), .val (.int z5), .unset, .unset, .unset, .unset, .unset, .unset, .unset, .unset, .unset, .unset, .unset, .unset] [] := by first | (simp [entryFrame, mkF, argsToLocals, Value.category, maxLocals]; done) | rfl
set_option maxRecDepth 65536 in
set_option maxHeartbeats 40000000 in
theorem rm0 (l : Launch) (Z : State) (a0 : Array Value) (hw : ∀ d ∈ tables_1, d.before a0 Z = true) (ws : List Jvm.Cond) (x0 : Int32) (x1 : Int32) (x2 : Int32) (x3 : Int32) (x4 : Int32) (x5 : Int32) (z_cs : Int32) (h0 : Heap) (n0 : Nat) (Z0 : n0 ≤ h0.size) (O0 : Old Z n0 h0) (S_CS : Sta Z Z.heap "java/lang/String" "COMPACT_STRINGS" "Z" (.int z_cs)) (z_CS : ¬ z_cs = 0) : own_Met l Z x code maxLocals ret ws room_1 #[(.int x0), (.int x1), (.int x2), (.int x3), (.int x4), (.int x5)] h0 (own_Q0 x0 x1 x2 x3 x4 x5 z_cs h0 n0) := by
  refine own_met (plainFor_of_name own_pn5) ?_
  intro p e s m below meth c s₁ hx hby hml hown hnm hret hlk hZ e0 X0
  have N0 := Fr.nil n0
  have hml : c.maxLocals = 18 := hml
  have hown : s.vm.findClass "com/example/nunobiki/nunobiki/engine/ProfileForgetObservedScoresPinLaw" = some m.cls := hown
  have hret : meth.sig.returnType = (some .boolean) := hret
  have hby : c.code = code := hby
  have hnm : meth.name = "law" := hnm
  rw [own_ef0]
  have hws : ∀ d ∈ StrChars.Road.words, d.before a0 Z = true := fun d hd => hw d ((by decide +kernel : ∀ d ∈ StrChars.Road.words, d ∈ tables_1) d hd)
  show own_Goes p e below _ (s₁.setTop (mkF m 0 #[.val (.int x0), .val (.int x1), .val (.int x2), .val (.int x3), .val (.int x4), .val (.int x5), .unset, .unset, .unset, .unset, .unset, .unset, .unset, .unset, .unset, .unset, .unset, .unset] []))
  refine own_go (fun t k => XS.iconst X0.here hx rfl (hb hby at_0) k) ?_
  show own_Goes p e below _ (s₁.setTop (mkF m 1 #[.val (.int x0), .val (.int x1), .val (.int x2), .val (.int x3), .val (.int x4), .val (.int x5), .unset, .unset, .unset, .unset, .unset, .unset, .unset, .unset, .unset, .unset, .unset, .unset] [(.int (1 : Int32))]))
  obtain ⟨T209, h209, k209, X209, e209, E209, A209, st209⟩ := newP X0 hx hZ (aty := .char) (hw _ own_t0) e0 (g := (mkF m 1 #[.val (.int x0), .val (.int x1), .val (.int x2), .val (.int x3), .val (.int x4), .val (.int x5), .unset, .unset, .unset, .unset, .unset, .unset, .unset, .unset, .unset, .unset, .unset, .unset] [(.int (1 : Int32))])) rfl (hb hby at_1) rfl (by decide) (cap := 1) (by decide) (by decide) (by decide) (by decide)
  obtain ⟨b209, q209⟩ : ∃ z, z = h0.size := ⟨_, rfl⟩
  rw [← q209] at A209 st209
  have lt_b209 : h0.size ≤ b209 := Nat.le_of_eq q209.symm
  have g_b209 : n0 ≤ b209 := Nat.le_trans Z0 lt_b209
  have V209 : Arv Z h209 b209 k209 .char (1 : Int32) [(.int (0 : Int32))] (.int (0 : Int32)) := (Arv.new A209 (by decide)).pad (pad_rep [] (.int (0 : Int32)) 1)
  refine own_go st209 ?_
  show own_Goes p e below _ (T209.setTop (mkF m 3 #[.val (.int x0), .val (.int x1), .val (.int x2), .val (.int x3), .val (.int x4), .val (.int x5), .unset, .unset, .unset, .unset, .unset, .unset, .unset, .unset, .unset, .unset, .unset, .unset] [(.ref b209)]))
  refine own_go (fun t k => XS.dup X209.here hx rfl (hb hby at_3) rfl rfl k) ?_
  show own_Goes p e below _ (T209.setTop (mkF m 4 #[.val (.int x0), .val (.int x1), .val (.int x2), .val (.int x3), .val (.int x4), .val (.int x5), .unset, .unset, .unset, .unset, .unset, .unset, .unset, .unset, .unset, .unset, .unset, .unset] [(.ref b209), (.ref b209)]))
  refine own_go (fun t k => XS.iconst X209.here hx rfl (hb hby at_4) k) ?_
  show own_Goes p e below _ (T209.setTop (mkF m 5 #[.val (.int x0), .val (.int x1), .val (.int x2), .val (.int x3), .val (.int x4), .val (.int x5), .unset, .unset, .unset, .unset, .unset, .unset, .unset, .unset, .unset, .unset, .unset, .unset] [(.int (0 : Int32)), (.ref b209), (.ref b209)]))
  refine own_go (fun t k => XS.iload X209.here hx rfl (hb hby at_5) rfl k) ?_
  show own_Goes p e below _ (T209.setTop (mkF m 7 #[.val (.int x0), .val (.int x1), .val (.int x2), .val (.int x3), .val (.int x4), .val (.int x5), .unset, .unset, .unset, .unset, .unset, .unset, .unset, .unset, .unset, .unset, .unset, .unset] [(.int x5), (.int (0 : Int32)), (.ref b209), (.ref b209)]))
  refine own_go (fun t k => XS.sipush X209.here hx rfl (hb hby at_7) k) ?_
  show own_Goes p e below _ (T209.setTop (mkF m 10 #[.val (.int x0), .val (.int x1), .val (.int x2), .val (.int x3), .val (.int x4), .val (.int x5), .unset, .unset, .unset, .unset, .unset, .unset, .unset, .unset, .unset, .unset, .unset, .unset] [(.int (255 : Int32)), (.int x5), (.int (0 : Int32)), (.ref b209), (.ref b209)]))
  refine own_go (fun t k => XS.iand X209.here hx rfl (hb hby at_10) rfl k) ?_
  show own_Goes p e below _ (T209.setTop (mkF m 11 #[.val (.int x0), .val (.int x1), .val (.int x2), .val (.int x3), .val (.int x4), .val (.int x5), .unset, .unset, .unset, .unset, .unset, .unset, .unset, .unset, .unset, .unset, .unset, .unset] [(.int (x5 &&& (255 : Int32))), (.int (0 : Int32)), (.ref b209), (.ref b209)]))
  refine own_go (fun t k => XS.i2c X209.here hx rfl (hb hby at_11) rfl k) ?_
  show own_Goes p e below _ (T209.setTop (mkF m 12 #[.val (.int x0), .val (.int x1), .val (.int x2), .val (.int x3), .val (.int x4), .val (.int x5), .unset, .unset, .unset, .unset, .unset, .unset, .unset, .unset, .unset, .unset, .unset, .unset] [(.int ((x5 &&& (255 : Int32)).toUInt32.toUInt16.toUInt32.toInt32)), (.int (0 : Int32)), (.ref b209), (.ref b209)]))
  obtain ⟨cl210, Ar210, qa210, sa210, na210, ha210, ga210⟩ := id V209
  obtain ⟨T210, h210, X210, e210, W210, st210⟩ := stC X209 hx hZ e209 Ar210 (j := (0 : Int32)) (inb_of sa210 ⟨by decide, by decide⟩) (g := (mkF m 12 #[.val (.int x0), .val (.int x1), .val (.int x2), .val (.int x3), .val (.int x4), .val (.int x5), .unset, .unset, .unset, .unset, .unset, .unset, .unset, .unset, .unset, .unset, .unset, .unset] [(.int ((x5 &&& (255 : Int32)).toUInt32.toUInt16.toUInt32.toInt32)), (.int (0 : Int32)), (.ref b209), (.ref b209)])) rfl rfl (hb hby at_12)
  have V210 : Arv Z h210 b209 k209 .char (1 : Int32) [(.int (nar .char ((x5 &&& (255 : Int32)).toUInt32.toUInt16.toUInt32.toInt32)))] (.int (0 : Int32)) := Arv.set Ar210 qa210 sa210 na210 ha210 ga210 (fits_nar_char _) W210 0 rfl (Nat.le_of_ble_eq_true rfl)
  have N210 := Fr.snoc X210 N0 g_b209
  refine own_go st210 ?_
  show own_Goes p e below _ (T210.setTop (mkF m 13 #[.val (.int x0), .val (.int x1), .val (.int x2), .val (.int x3), .val (.int x4), .val (.int x5), .unset, .unset, .unset, .unset, .unset, .unset, .unset, .unset, .unset, .unset, .unset, .unset] [(.ref b209)]))
  refine own_go (fun t k => XS.astore X210.here hx rfl (hb hby at_13) rfl rfl (l' := #[.val (.int x0), .val (.int x1), .val (.int x2), .val (.int x3), .val (.int x4), .val (.int x5), .val (.ref b209), .unset, .unset, .unset, .unset, .unset, .unset, .unset, .unset, .unset, .unset, .unset]) rfl k) ?_
  show own_Goes p e below _ (T210.setTop (mkF m 15 #[.val (.int x0), .val (.int x1), .val (.int x2), .val (.int x3), .val (.int x4), .val (.int x5), .val (.ref b209), .unset, .unset, .unset, .unset, .unset, .unset, .unset, .unset, .unset, .unset, .unset] []))
  obtain ⟨T211, h211, X211, e211, E211, A211, D211, -, st211⟩ := newO X210 hx hZ hown (hw _ own_t1) (hw _ own_t2) (hw _ own_t3) e210 (g := (mkF m 15 #[.val (.int x0), .val (.int x1), .val (.int x2), .val (.int x3), .val (.int x4), .val (.int x5), .val (.ref b209), .unset, .unset, .unset, .unset, .unset, .unset, .unset, .unset, .unset, .unset, .unset] [])) rfl (hb hby at_15) (by decide) (by decide)
  obtain ⟨b211, q211⟩ : ∃ z, z = h210.size := ⟨_, rfl⟩
  rw [← q211] at A211 D211 st211
  have lt_b211 : h210.size ≤ b211 := Nat.le_of_eq q211.symm
  have ne_b209_b211 : b209 ≠ b211 := Nat.ne_of_lt (Nat.lt_of_lt_of_le V210.lt lt_b211)
  have g_b211 : n0 ≤ b211 := Nat.le_trans (Nat.le_trans (Nat.le_trans Z0 E209.1) (Keep.of_wr W210).1) lt_b211
  have F211_slot : Fld Z h211 b211 "com/example/nunobiki/nunobiki/engine/Profile" "slot" "I" (.int (0 : Int32)) := D211 (Or.inl (hw _ own_t38)) (ty := .int) (by decide)
  have F211_postings : Fld Z h211 b211 "com/example/nunobiki/nunobiki/engine/Profile" "postings" "Ljava/util/Map;" .null := D211 (Or.inr (hw _ own_t66)) (ty := (.object "java/util/Map")) (by decide)
  have F211_threshold : Fld Z h211 b211 "com/example/nunobiki/nunobiki/engine/Profile" "threshold" "D" (.double (0 : UInt64)) := D211 (Or.inl (hw _ own_t69)) (ty := .double) (by decide)
  have F211_observedScores : Fld Z h211 b211 "com/example/nunobiki/nunobiki/engine/Profile" "observedScores" "[D" .null := D211 (Or.inl (hw _ own_t72)) (ty := (.array .double)) (by decide)
  have F211_unjudged : Fld Z h211 b211 "com/example/nunobiki/nunobiki/engine/Profile" "unjudged" "Ljava/util/Map;" .null := D211 (Or.inr (hw _ own_t79)) (ty := (.object "java/util/Map")) (by decide)
  have F211_id : Fld Z h211 b211 "com/example/nunobiki/nunobiki/engine/Profile" "id" "Ljava/lang/String;" .null := D211 (Or.inr (hw _ own_t81)) (ty := (.object "java/lang/String")) (by decide)
  have F211_unitThreshold : Fld Z h211 b211 "com/example/nunobiki/nunobiki/engine/Profile" "unitThreshold" "D" (.double (0 : UInt64)) := D211 (Or.inl (hw _ own_t83)) (ty := .double) (by decide)
  have F211_anyTerm : Fld Z h211 b211 "com/example/nunobiki/nunobiki/engine/Profile" "anyTerm" "Z" (.int (0 : Int32)) := D211 (Or.inr (hw _ own_t85)) (ty := .boolean) (by decide)
  have F211_observed : Fld Z h211 b211 "com/example/nunobiki/nunobiki/engine/Profile" "observed" "I" (.int (0 : Int32)) := D211 (Or.inl (hw _ own_t92)) (ty := .int) (by decide)
  refine own_go st211 ?_
  show own_Goes p e below _ (T211.setTop (mkF m 18 #[.val (.int x0), .val (.int x1), .val (.int x2), .val (.int x3), .val (.int x4), .val (.int x5), .val (.ref b209), .unset, .unset, .unset, .unset, .unset, .unset, .unset, .unset, .unset, .unset, .unset] [(.ref b211)]))
  refine own_go (fun t k => XS.dup X211.here hx rfl (hb hby at_18) rfl rfl k) ?_
  show own_Goes p e below _ (T211.setTop (mkF m 19 #[.val (.int x0), .val (.int x1), .val (.int x2), .val (.int x3), .val (.int x4), .val (.int x5), .val (.ref b209), .unset, .unset, .unset, .unset, .unset, .unset, .unset, .unset, .unset, .unset, .unset] [(.ref b211), (.ref b211)]))
  obtain ⟨T212, h212, X212, e212, E212, A212, D212, -, st212⟩ := newO X211 hx hZ hown (hw _ own_t4) (hw _ own_t5) (hw _ own_t6) e211 (g := (mkF m 19 #[.val (.int x0), .val (.int x1), .val (.int x2), .val (.int x3), .val (.int x4), .val (.int x5), .val (.ref b209), .unset, .unset, .unset, .unset, .unset, .unset, .unset, .unset, .unset, .unset, .unset] [(.ref b211), (.ref b211)])) rfl (hb hby at_19) (by decide) (by decide)
  obtain ⟨b212, q212⟩ : ∃ z, z = h211.size := ⟨_, rfl⟩
  rw [← q212] at A212 D212 st212
  have lt_b212 : h211.size ≤ b212 := Nat.le_of_eq q212.symm
  have ne_b209_b212 : b209 ≠ b212 := Nat.ne_of_lt (Nat.lt_of_lt_of_le (V210.ext E211).lt lt_b212)
  have ne_b211_b212 : b211 ≠ b212 := Nat.ne_of_lt (Nat.lt_of_lt_of_le A211.lt lt_b212)
  have g_b212 : n0 ≤ b212 := Nat.le_trans (Nat.le_trans (Nat.le_trans (Nat.le_trans Z0 E209.1) (Keep.of_wr W210).1) E211.1) lt_b212
  have F212_coder : Fld Z h212 b212 "java/lang/String" "coder" "B" (.int (0 : Int32)) := D212 (Or.inr (hw _ own_t30)) (ty := .byte) (by decide)
  have F212_value : Fld Z h212 b212 "java/lang/String" "value" "[B" .null := D212 (Or.inr (hw _ own_t32)) (ty := (.array .byte)) (by decide)
  refine own_go st212 ?_
  show own_Goes p e below _ (T212.setTop (mkF m 22 #[.val (.int x0), .val (.int x1), .val (.int x2), .val (.int x3), .val (.int x4), .val (.int x5), .val (.ref b209), .unset, .unset, .unset, .unset, .unset, .unset, .unset, .unset, .unset, .unset, .unset] [(.ref b212), (.ref b211), (.ref b211)]))
  refine own_go (fun t k => XS.dup X212.here hx rfl (hb hby at_22) rfl rfl k) ?_
  show own_Goes p e below _ (T212.setTop (mkF m 23 #[.val (.int x0), .val (.int x1), .val (.int x2), .val (.int x3), .val (.int x4), .val (.int x5), .val (.ref b209), .unset, .unset, .unset, .unset, .unset, .unset, .unset, .unset, .unset, .unset, .unset] [(.ref b212), (.ref b212), (.ref b211), (.ref b211)]))
  refine own_go (fun t k => XS.aload X212.here hx rfl (hb hby at_23) rfl rfl k) ?_
  show own_Goes p e below _ (T212.setTop (mkF m 25 #[.val (.int x0), .val (.int x1), .val (.int x2), .val (.int x3), .val (.int x4), .val (.int x5), .val (.ref b209), .unset, .unset, .unset, .unset, .unset, .unset, .unset, .unset, .unset, .unset, .unset] [(.ref b209), (.ref b212), (.ref b212), (.ref b211), (.ref b211)]))
  have oo214 : Old Z n0 h212 := ((((O0.ext E209).wr W210 g_b209).ext E211).ext E212)
  obtain ⟨T213, L213, X213, ⟨-, N213q, K213, G213_0, G213_1, t213, k213, -, lt_t213, -, G213_2, G213_3⟩, st213⟩ := own_newStr X212 hx hZ hown (hw _ own_t7) (hw _ own_t8) (hw _ own_t9) (hw _ own_t5) hws (cs := ([(nar .char ((x5 &&& (255 : Int32)).toUInt32.toUInt16.toUInt32.toInt32))] : List Int32)) (n := 1) g_b212 (Nat.le_trans (Nat.le_trans (Nat.le_trans (Nat.le_trans Z0 E209.1) (Keep.of_wr W210).1) E211.1) E212.1) A212 F212_value F212_coder ((V210.ext E211).ext E212) (S_CS.ext oo214.2) z_CS rfl rfl (by decide) (by decide) (own_hp x5) e212 (pc := 25) (Ls := #[.val (.int x0), .val (.int x1), .val (.int x2), .val (.int x3), .val (.int x4), .val (.int x5), .val (.ref b209), .unset, .unset, .unset, .unset, .unset, .unset, .unset, .unset, .unset, .unset, .unset]) (rest := [(.ref b212), (.ref b211), (.ref b211)]) (W := 3) (by rw [hml]; rfl) (Nat.le_of_eq rfl) (by decide) (by decide) (hb hby at_25) (by decide) (by decide)
  have ne_b209_t213 : b209 ≠ t213 := Nat.ne_of_lt (Nat.lt_of_lt_of_le ((V210.ext E211).ext E212).lt lt_t213)
  have ne_b211_t213 : b211 ≠ t213 := Nat.ne_of_lt (Nat.lt_of_lt_of_le (A211.ext E212).lt lt_t213)
  have ne_b212_t213 : b212 ≠ t213 := Nat.ne_of_lt (Nat.lt_of_lt_of_le A212.lt lt_t213)
  have g_t213 : n0 ≤ t213 := Nat.le_trans (Nat.le_trans (Nat.le_trans (Nat.le_trans (Nat.le_trans Z0 E209.1) (Keep.of_wr W210).1) E211.1) E212.1) lt_t213
  have N213 := Fr.app N210 N213q
  refine own_go st213 ?_
  show own_Goes p e below _ (T213.setTop (mkF m 28 #[.val (.int x0), .val (.int x1), .val (.int x2), .val (.int x3), .val (.int x4), .val (.int x5), .val (.ref b209), .unset, .unset, .unset, .unset, .unset, .unset, .unset, .unset, .unset, .unset, .unset] [(.ref b212), (.ref b211), (.ref b211)]))
  refine own_go (fun t k => XS.iload X213.here hx rfl (hb hby at_28) rfl k) ?_
  show own_Goes p e below _ (T213.setTop (mkF m 30 #[.val (.int x0), .val (.int x1), .val (.int x2), .val (.int x3), .val (.int x4), .val (.int x5), .val (.ref b209), .unset, .unset, .unset, .unset, .unset, .unset, .unset, .unset, .unset, .unset, .unset] [(.int x5), (.ref b212), (.ref b211), (.ref b211)]))
  refine own_go (fun t k => XS.i2dS X213.here hx rfl (hb hby at_30) rfl rfl k) ?_
  show own_Goes p e below _ (T213.setTop (mkF m 31 #[.val (.int x0), .val (.int x1), .val (.int x2), .val (.int x3), .val (.int x4), .val (.int x5), .val (.ref b209), .unset, .unset, .unset, .unset, .unset, .unset, .unset, .unset, .unset, .unset, .unset] [(.double (FP.i2d x5)), (.ref b212), (.ref b211), (.ref b211)]))
  refine own_go (fun t k => XS.iloadN X213.here hx rfl (hb hby at_31) rfl k) ?_
  show own_Goes p e below _ (T213.setTop (mkF m 32 #[.val (.int x0), .val (.int x1), .val (.int x2), .val (.int x3), .val (.int x4), .val (.int x5), .val (.ref b209), .unset, .unset, .unset, .unset, .unset, .unset, .unset, .unset, .unset, .unset, .unset] [(.int x3), (.double (FP.i2d x5)), (.ref b212), (.ref b211), (.ref b211)]))
  refine own_go (fun t k => XS.iconst X213.here hx rfl (hb hby at_32) k) ?_
  show own_Goes p e below _ (T213.setTop (mkF m 33 #[.val (.int x0), .val (.int x1), .val (.int x2), .val (.int x3), .val (.int x4), .val (.int x5), .val (.ref b209), .unset, .unset, .unset, .unset, .unset, .unset, .unset, .unset, .unset, .unset, .unset] [(.int (4 : Int32)), (.int x3), (.double (FP.i2d x5)), (.ref b212), (.ref b211), (.ref b211)]))
  refine own_go (fun t k => XS.iand X213.here hx rfl (hb hby at_33) rfl k) ?_
  show own_Goes p e below _ (T213.setTop (mkF m 34 #[.val (.int x0), .val (.int x1), .val (.int x2), .val (.int x3), .val (.int x4), .val (.int x5), .val (.ref b209), .unset, .unset, .unset, .unset, .unset, .unset, .unset, .unset, .unset, .unset, .unset] [(.int (x3 &&& (4 : Int32))), (.double (FP.i2d x5)), (.ref b212), (.ref b211), (.ref b211)]))
  suffices HH216 : own_Goes p e below (own_End s room_1 (own_Q0 x0 x1 x2 x3 x4 x5 z_cs h0 n0)) (T213.setTop (mkF m 42 #[.val (.int x0), .val (.int x1), .val (.int x2), .val (.int x3), .val (.int x4), .val (.int x5), .val (.ref b209), .unset, .unset, .unset, .unset, .unset, .unset, .unset, .unset, .unset, .unset, .unset] [(.int (own_j0_11 x3)), (.double (FP.i2d x5)), (.ref b212), (.ref b211), (.ref b211)])) by
    by_cases hc215 : (x3 &&& (4 : Int32)) = (0 : Int32)
    · refine own_go (fun t k => XS.ifYes X213.here hx rfl (pc0 := 34) (pc' := 41) rfl (hb hby at_34) rfl ((if0 _ _).trans (teq hc215).1) (by decide) (by decide) k) ?_
      show own_Goes p e below _ (T213.setTop (mkF m 41 #[.val (.int x0), .val (.int x1), .val (.int x2), .val (.int x3), .val (.int x4), .val (.int x5), .val (.ref b209), .unset, .unset, .unset, .unset, .unset, .unset, .unset, .unset, .unset, .unset, .unset] [(.double (FP.i2d x5)), (.ref b212), (.ref b211), (.ref b211)]))
      refine own_go (fun t k => XS.iconst X213.here hx rfl (hb hby at_41) k) ?_
      rw [show (own_j0_11 x3) = (0 : Int32) from by rw [own_j0_11, if_pos hc215]] at HH216
      exact HH216
    · refine own_go (fun t k => XS.ifNo X213.here hx rfl (hb hby at_34) rfl ((if0 _ _).trans (feq hc215).1) k) ?_
      show own_Goes p e below _ (T213.setTop (mkF m 37 #[.val (.int x0), .val (.int x1), .val (.int x2), .val (.int x3), .val (.int x4), .val (.int x5), .val (.ref b209), .unset, .unset, .unset, .unset, .unset, .unset, .unset, .unset, .unset, .unset, .unset] [(.double (FP.i2d x5)), (.ref b212), (.ref b211), (.ref b211)]))
      refine own_go (fun t k => XS.iconst X213.here hx rfl (hb hby at_37) k) ?_
      show own_Goes p e below _ (T213.setTop (mkF m 38 #[.val (.int x0), .val (.int x1), .val (.int x2), .val (.int x3), .val (.int x4), .val (.int x5), .val (.ref b209), .unset, .unset, .unset, .unset, .unset, .unset, .unset, .unset, .unset, .unset, .unset] [(.int (1 : Int32)), (.double (FP.i2d x5)), (.ref b212), (.ref b211), (.ref b211)]))
      refine own_go (fun t k => XS.goto X213.here hx rfl (pc0 := 38) (pc' := 42) rfl (hb hby at_38) (by decide) (by decide) k) ?_
      rw [show (own_j0_11 x3) = (1 : Int32) from by rw [own_j0_11, if_neg hc215]] at HH216
      exact HH216
  show own_Goes p e below _ (T213.setTop (mkF m 42 #[.val (.int x0), .val (.int x1), .val (.int x2), .val (.int x3), .val (.int x4), .val (.int x5), .val (.ref b209), .unset, .unset, .unset, .unset, .unset, .unset, .unset, .unset, .unset, .unset, .unset] [(.int (own_j0_11 x3)), (.double (FP.i2d x5)), (.ref b212), (.ref b211), (.ref b211)]))
  have ff218 : Fld Z T213.heap b211 "com/example/nunobiki/nunobiki/engine/Profile" "slot" "I" (.int (0 : Int32)) := ((F211_slot.ext E212).keep K213 (fun z => ne_b211_b212 (List.mem_singleton.mp z)))
  have ff219 : Fld Z T213.heap b211 "com/example/nunobiki/nunobiki/engine/Profile" "postings" "Ljava/util/Map;" .null := ((F211_postings.ext E212).keep K213 (fun z => ne_b211_b212 (List.mem_singleton.mp z)))
  have ff220 : Fld Z T213.heap b211 "com/example/nunobiki/nunobiki/engine/Profile" "threshold" "D" (.double (0 : UInt64)) := ((F211_threshold.ext E212).keep K213 (fun z => ne_b211_b212 (List.mem_singleton.mp z)))
  have ff221 : Fld Z T213.heap b211 "com/example/nunobiki/nunobiki/engine/Profile" "observedScores" "[D" .null := ((F211_observedScores.ext E212).keep K213 (fun z => ne_b211_b212 (List.mem_singleton.mp z)))
  have ff222 : Fld Z T213.heap b211 "com/example/nunobiki/nunobiki/engine/Profile" "unjudged" "Ljava/util/Map;" .null := ((F211_unjudged.ext E212).keep K213 (fun z => ne_b211_b212 (List.mem_singleton.mp z)))
  have ff223 : Fld Z T213.heap b211 "com/example/nunobiki/nunobiki/engine/Profile" "id" "Ljava/lang/String;" .null := ((F211_id.ext E212).keep K213 (fun z => ne_b211_b212 (List.mem_singleton.mp z)))
  have ff224 : Fld Z T213.heap b211 "com/example/nunobiki/nunobiki/engine/Profile" "unitThreshold" "D" (.double (0 : UInt64)) := ((F211_unitThreshold.ext E212).keep K213 (fun z => ne_b211_b212 (List.mem_singleton.mp z)))
  have ff225 : Fld Z T213.heap b211 "com/example/nunobiki/nunobiki/engine/Profile" "anyTerm" "Z" (.int (0 : Int32)) := ((F211_anyTerm.ext E212).keep K213 (fun z => ne_b211_b212 (List.mem_singleton.mp z)))
  have ff226 : Fld Z T213.heap b211 "com/example/nunobiki/nunobiki/engine/Profile" "observed" "I" (.int (0 : Int32)) := ((F211_observed.ext E212).keep K213 (fun z => ne_b211_b212 (List.mem_singleton.mp z)))
  obtain ⟨_, T217, L217, X217, ⟨b217, kb217, rfl, N217q, K217, lt_b217, G217_0, G217_1, G217_2, G217_3, G217_4, G217_5⟩, st217⟩ := own_callI X213 hx hZ rfl hown (hw _ own_t33) (hw _ own_t34) (hw _ own_t3) (hw _ own_t35) (by decide) (b := b211) (as := [(.ref b212), (.double (FP.i2d x5)), (.int (own_j0_11 x3))]) (rm7 l Z a0 hw [] b211 b212 (FP.i2d x5) (own_j0_11 x3) T213.heap n0 (Nat.le_trans (Nat.le_trans (Nat.le_trans (Nat.le_trans (Nat.le_trans Z0 E209.1) (Keep.of_wr W210).1) E211.1) E212.1) K213.1) g_b211 ((A211.ext E212).keep K213) ff218 ff219 ff220 ff221 ff222 ff223 ff224 ff225 ff226) rfl own_pd6 rfl (pc := 42) (Ls := #[.val (.int x0), .val (.int x1), .val (.int x2), .val (.int x3), .val (.int x4), .val (.int x5), .val (.ref b209), .unset, .unset, .unset, .unset, .unset, .unset, .unset, .unset, .unset, .unset, .unset]) (rest := [(.ref b211)]) (W := 1) (by rw [hml]; rfl) (Nat.le_of_eq rfl) (by decide) (by decide) (hb hby at_42) (by decide) (by decide)
  have N217 := Fr.app N213 N217q
  have ne_b209_b217 : b209 ≠ b217 := Nat.ne_of_lt (Nat.lt_of_lt_of_le (((V210.ext E211).ext E212).keep K213 (fun z => ne_b209_b212 (List.mem_singleton.mp z))).lt lt_b217)
  have ne_b211_b217 : b211 ≠ b217 := Nat.ne_of_lt (Nat.lt_of_lt_of_le ((A211.ext E212).keep K213).lt lt_b217)
  have ne_b212_b217 : b212 ≠ b217 := Nat.ne_of_lt (Nat.lt_of_lt_of_le G213_0.lt lt_b217)
  have ne_t213_b217 : t213 ≠ b217 := Nat.ne_of_lt (Nat.lt_of_lt_of_le G213_3.lt lt_b217)
  have g_b217 : n0 ≤ b217 := Nat.le_trans (Nat.le_trans (Nat.le_trans (Nat.le_trans (Nat.le_trans (Nat.le_trans Z0 E209.1) (Keep.of_wr W210).1) E211.1) E212.1) K213.1) lt_b217
  refine own_go st217 ?_
  show own_Goes p e below _ (T217.setTop (mkF m 45 #[.val (.int x0), .val (.int x1), .val (.int x2), .val (.int x3), .val (.int x4), .val (.int x5), .val (.ref b209), .unset, .unset, .unset, .unset, .unset, .unset, .unset, .unset, .unset, .unset, .unset] [(.ref b211)]))
  refine own_go (fun t k => XS.astore X217.here hx rfl (hb hby at_45) rfl rfl (l' := #[.val (.int x0), .val (.int x1), .val (.int x2), .val (.int x3), .val (.int x4), .val (.int x5), .val (.ref b209), .val (.ref b211), .unset, .unset, .unset, .unset, .unset, .unset, .unset, .unset, .unset, .unset]) rfl k) ?_
  show own_Goes p e below _ (T217.setTop (mkF m 47 #[.val (.int x0), .val (.int x1), .val (.int x2), .val (.int x3), .val (.int x4), .val (.int x5), .val (.ref b209), .val (.ref b211), .unset, .unset, .unset, .unset, .unset, .unset, .unset, .unset, .unset, .unset] []))
  refine own_go (fun t k => XS.iloadN X217.here hx rfl (hb hby at_47) rfl k) ?_
  show own_Goes p e below _ (T217.setTop (mkF m 48 #[.val (.int x0), .val (.int x1), .val (.int x2), .val (.int x3), .val (.int x4), .val (.int x5), .val (.ref b209), .val (.ref b211), .unset, .unset, .unset, .unset, .unset, .unset, .unset, .unset, .unset, .unset] [(.int x0)]))
  refine own_go (fun t k => XS.i2dS X217.here hx rfl (hb hby at_48) rfl rfl k) ?_
  show own_Goes p e below _ (T217.setTop (mkF m 49 #[.val (.int x0), .val (.int x1), .val (.int x2), .val (.int x3), .val (.int x4), .val (.int x5), .val (.ref b209), .val (.ref b211), .unset, .unset, .unset, .unset, .unset, .unset, .unset, .unset, .unset, .unset] [(.double (FP.i2d x0))]))
  refine own_go (fun t k => XS.dstore X217.here hx rfl (hb hby at_49) rfl (l' := #[.val (.int x0), .val (.int x1), .val (.int x2), .val (.int x3), .val (.int x4), .val (.int x5), .val (.ref b209), .val (.ref b211), .val (.double (FP.i2d x0)), .second, .unset, .unset, .unset, .unset, .unset, .unset, .unset, .unset]) rfl k) ?_
  show own_Goes p e below _ (T217.setTop (mkF m 51 #[.val (.int x0), .val (.int x1), .val (.int x2), .val (.int x3), .val (.int x4), .val (.int x5), .val (.ref b209), .val (.ref b211), .val (.double (FP.i2d x0)), .second, .unset, .unset, .unset, .unset, .unset, .unset, .unset, .unset] []))
  refine own_go (fun t k => XS.iloadN X217.here hx rfl (hb hby at_51) rfl k) ?_
  show own_Goes p e below _ (T217.setTop (mkF m 52 #[.val (.int x0), .val (.int x1), .val (.int x2), .val (.int x3), .val (.int x4), .val (.int x5), .val (.ref b209), .val (.ref b211), .val (.double (FP.i2d x0)), .second, .unset, .unset, .unset, .unset, .unset, .unset, .unset, .unset] [(.int x1)]))
  refine own_go (fun t k => XS.i2dS X217.here hx rfl (hb hby at_52) rfl rfl k) ?_
  show own_Goes p e below _ (T217.setTop (mkF m 53 #[.val (.int x0), .val (.int x1), .val (.int x2), .val (.int x3), .val (.int x4), .val (.int x5), .val (.ref b209), .val (.ref b211), .val (.double (FP.i2d x0)), .second, .unset, .unset, .unset, .unset, .unset, .unset, .unset, .unset] [(.double (FP.i2d x1))]))
  refine own_go (fun t k => XS.dstore X217.here hx rfl (hb hby at_53) rfl (l' := #[.val (.int x0), .val (.int x1), .val (.int x2), .val (.int x3), .val (.int x4), .val (.int x5), .val (.ref b209), .val (.ref b211), .val (.double (FP.i2d x0)), .second, .val (.double (FP.i2d x1)), .second, .unset, .unset, .unset, .unset, .unset, .unset]) rfl k) ?_
  show own_Goes p e below _ (T217.setTop (mkF m 55 #[.val (.int x0), .val (.int x1), .val (.int x2), .val (.int x3), .val (.int x4), .val (.int x5), .val (.ref b209), .val (.ref b211), .val (.double (FP.i2d x0)), .second, .val (.double (FP.i2d x1)), .second, .unset, .unset, .unset, .unset, .unset, .unset] []))
  refine own_go (fun t k => XS.iloadN X217.here hx rfl (hb hby at_55) rfl k) ?_
  show own_Goes p e below _ (T217.setTop (mkF m 56 #[.val (.int x0), .val (.int x1), .val (.int x2), .val (.int x3), .val (.int x4), .val (.int x5), .val (.ref b209), .val (.ref b211), .val (.double (FP.i2d x0)), .second, .val (.double (FP.i2d x1)), .second, .unset, .unset, .unset, .unset, .unset, .unset] [(.int x2)]))
  refine own_go (fun t k => XS.i2dS X217.here hx rfl (hb hby at_56) rfl rfl k) ?_
  show own_Goes p e below _ (T217.setTop (mkF m 57 #[.val (.int x0), .val (.int x1), .val (.int x2), .val (.int x3), .val (.int x4), .val (.int x5), .val (.ref b209), .val (.ref b211), .val (.double (FP.i2d x0)), .second, .val (.double (FP.i2d x1)), .second, .unset, .unset, .unset, .unset, .unset, .unset] [(.double (FP.i2d x2))]))
  refine own_go (fun t k => XS.dstore X217.here hx rfl (hb hby at_57) rfl (l' := #[.val (.int x0), .val (.int x1), .val (.int x2), .val (.int x3), .val (.int x4), .val (.int x5), .val (.ref b209), .val (.ref b211), .val (.double (FP.i2d x0)), .second, .val (.double (FP.i2d x1)), .second, .val (.double (FP.i2d x2)), .second, .unset, .unset, .unset, .unset]) rfl k) ?_
  show own_Goes p e below _ (T217.setTop (mkF m 59 #[.val (.int x0), .val (.int x1), .val (.int x2), .val (.int x3), .val (.int x4), .val (.int x5), .val (.ref b209), .val (.ref b211), .val (.double (FP.i2d x0)), .second, .val (.double (FP.i2d x1)), .second, .val (.double (FP.i2d x2)), .second, .unset, .unset, .unset, .unset] []))
  refine own_go (fun t k => XS.iloadN X217.here hx rfl (hb hby at_59) rfl k) ?_
  show own_Goes p e below _ (T217.setTop (mkF m 60 #[.val (.int x0), .val (.int x1), .val (.int x2), .val (.int x3), .val (.int x4), .val (.int x5), .val (.ref b209), .val (.ref b211), .val (.double (FP.i2d x0)), .second, .val (.double (FP.i2d x1)), .second, .val (.double (FP.i2d x2)), .second, .unset, .unset, .unset, .unset] [(.int x3)]))
  refine own_go (fun t k => XS.iconst X217.here hx rfl (hb hby at_60) k) ?_
  show own_Goes p e below _ (T217.setTop (mkF m 61 #[.val (.int x0), .val (.int x1), .val (.int x2), .val (.int x3), .val (.int x4), .val (.int x5), .val (.ref b209), .val (.ref b211), .val (.double (FP.i2d x0)), .second, .val (.double (FP.i2d x1)), .second, .val (.double (FP.i2d x2)), .second, .unset, .unset, .unset, .unset] [(.int (3 : Int32)), (.int x3)]))
  refine own_go (fun t k => XS.iand X217.here hx rfl (hb hby at_61) rfl k) ?_
  show own_Goes p e below _ (T217.setTop (mkF m 62 #[.val (.int x0), .val (.int x1), .val (.int x2), .val (.int x3), .val (.int x4), .val (.int x5), .val (.ref b209), .val (.ref b211), .val (.double (FP.i2d x0)), .second, .val (.double (FP.i2d x1)), .second, .val (.double (FP.i2d x2)), .second, .unset, .unset, .unset, .unset] [(.int (x3 &&& (3 : Int32)))]))
  refine own_go (fun t k => XS.istore X217.here hx rfl (hb hby at_62) rfl (l' := #[.val (.int x0), .val (.int x1), .val (.int x2), .val (.int x3), .val (.int x4), .val (.int x5), .val (.ref b209), .val (.ref b211), .val (.double (FP.i2d x0)), .second, .val (.double (FP.i2d x1)), .second, .val (.double (FP.i2d x2)), .second, .val (.int (x3 &&& (3 : Int32))), .unset, .unset, .unset]) rfl k) ?_
  show own_Goes p e below _ (T217.setTop (mkF m 64 #[.val (.int x0), .val (.int x1), .val (.int x2), .val (.int x3), .val (.int x4), .val (.int x5), .val (.ref b209), .val (.ref b211), .val (.double (FP.i2d x0)), .second, .val (.double (FP.i2d x1)), .second, .val (.double (FP.i2d x2)), .second, .val (.int (x3 &&& (3 : Int32))), .unset, .unset, .unset] []))
  refine own_go (fun t k => XS.iload X217.here hx rfl (hb hby at_64) rfl k) ?_
  show own_Goes p e below _ (T217.setTop (mkF m 66 #[.val (.int x0), .val (.int x1), .val (.int x2), .val (.int x3), .val (.int x4), .val (.int x5), .val (.ref b209), .val (.ref b211), .val (.double (FP.i2d x0)), .second, .val (.double (FP.i2d x1)), .second, .val (.double (FP.i2d x2)), .second, .val (.int (x3 &&& (3 : Int32))), .unset, .unset, .unset] [(.int (x3 &&& (3 : Int32)))]))
  refine own_go (fun t k => XS.iconst X217.here hx rfl (hb hby at_66) k) ?_
  show own_Goes p e below _ (T217.setTop (mkF m 67 #[.val (.int x0), .val (.int x1), .val (.int x2), .val (.int x3), .val (.int x4), .val (.int x5), .val (.ref b209), .val (.ref b211), .val (.double (FP.i2d x0)), .second, .val (.double (FP.i2d x1)), .second, .val (.double (FP.i2d x2)), .second, .val (.int (x3 &&& (3 : Int32))), .unset, .unset, .unset] [(.int (1 : Int32)), (.int (x3 &&& (3 : Int32)))]))
  by_cases hc227 : (x3 &&& (3 : Int32)) < (1 : Int32)
  · refine own_go (fun t k => XS.icmpYes X217.here hx rfl (pc0 := 67) (pc' := 77) rfl (hb hby at_67) rfl (tlt hc227).1 (by decide) (by decide) k) ?_
    show own_Goes p e below _ (T217.setTop (mkF m 77 #[.val (.int x0), .val (.int x1), .val (.int x2), .val (.int x3), .val (.int x4), .val (.int x5), .val (.ref b209), .val (.ref b211), .val (.double (FP.i2d x0)), .second, .val (.double (FP.i2d x1)), .second, .val (.double (FP.i2d x2)), .second, .val (.int (x3 &&& (3 : Int32))), .unset, .unset, .unset] []))
    refine own_go (fun t k => XS.iload X217.here hx rfl (hb hby at_77) rfl k) ?_
    show own_Goes p e below _ (T217.setTop (mkF m 79 #[.val (.int x0), .val (.int x1), .val (.int x2), .val (.int x3), .val (.int x4), .val (.int x5), .val (.ref b209), .val (.ref b211), .val (.double (FP.i2d x0)), .second, .val (.double (FP.i2d x1)), .second, .val (.double (FP.i2d x2)), .second, .val (.int (x3 &&& (3 : Int32))), .unset, .unset, .unset] [(.int (x3 &&& (3 : Int32)))]))
    refine own_go (fun t k => XS.iconst X217.here hx rfl (hb hby at_79) k) ?_
    show own_Goes p e below _ (T217.setTop (mkF m 80 #[.val (.int x0), .val (.int x1), .val (.int x2), .val (.int x3), .val (.int x4), .val (.int x5), .val (.ref b209), .val (.ref b211), .val (.double (FP.i2d x0)), .second, .val (.double (FP.i2d x1)), .second, .val (.double (FP.i2d x2)), .second, .val (.int (x3 &&& (3 : Int32))), .unset, .unset, .unset] [(.int (2 : Int32)), (.int (x3 &&& (3 : Int32)))]))
    have hd228 : (x3 &&& (3 : Int32)) < (2 : Int32) := (own_lt12 hc227)
    refine own_go (fun t k => XS.icmpYes X217.here hx rfl (pc0 := 80) (pc' := 90) rfl (hb hby at_80) rfl (tlt hd228).1 (by decide) (by decide) k) ?_
    show own_Goes p e below _ (T217.setTop (mkF m 90 #[.val (.int x0), .val (.int x1), .val (.int x2), .val (.int x3), .val (.int x4), .val (.int x5), .val (.ref b209), .val (.ref b211), .val (.double (FP.i2d x0)), .second, .val (.double (FP.i2d x1)), .second, .val (.double (FP.i2d x2)), .second, .val (.int (x3 &&& (3 : Int32))), .unset, .unset, .unset] []))
    refine own_go (fun t k => XS.iload X217.here hx rfl (hb hby at_90) rfl k) ?_
    show own_Goes p e below _ (T217.setTop (mkF m 92 #[.val (.int x0), .val (.int x1), .val (.int x2), .val (.int x3), .val (.int x4), .val (.int x5), .val (.ref b209), .val (.ref b211), .val (.double (FP.i2d x0)), .second, .val (.double (FP.i2d x1)), .second, .val (.double (FP.i2d x2)), .second, .val (.int (x3 &&& (3 : Int32))), .unset, .unset, .unset] [(.int (x3 &&& (3 : Int32)))]))
    refine own_go (fun t k => XS.iconst X217.here hx rfl (hb hby at_92) k) ?_
    show own_Goes p e below _ (T217.setTop (mkF m 93 #[.val (.int x0), .val (.int x1), .val (.int x2), .val (.int x3), .val (.int x4), .val (.int x5), .val (.ref b209), .val (.ref b211), .val (.double (FP.i2d x0)), .second, .val (.double (FP.i2d x1)), .second, .val (.double (FP.i2d x2)), .second, .val (.int (x3 &&& (3 : Int32))), .unset, .unset, .unset] [(.int (3 : Int32)), (.int (x3 &&& (3 : Int32)))]))
    have hd229 : (x3 &&& (3 : Int32)) < (3 : Int32) := (own_lt23 (own_lt12 hc227))
    refine own_go (fun t k => XS.icmpYes X217.here hx rfl (pc0 := 93) (pc' := 103) rfl (hb hby at_93) rfl (tlt hd229).1 (by decide) (by decide) k) ?_
    exact own_k103 l Z a0 hw x0 x1 x2 x3 x4 x5 z_cs h0 n0 Z0 O0 S_CS z_CS p e s m below meth c hx hby hml hown hret hlk hZ _ _ _ (X217.more (by decide) (by decide)) rfl N217 (Nat.le_trans (Nat.le_trans (Nat.le_trans (Nat.le_trans (Nat.le_trans (Nat.le_trans Z0 E209.1) (Keep.of_wr W210).1) E211.1) E212.1) K213.1) K217.1) b211 b209 _ _ g_b211 G217_0 G217_1 G217_2 G217_3
  · refine own_go (fun t k => XS.icmpNo X217.here hx rfl (hb hby at_67) rfl (flt hc227).1 k) ?_
    show own_Goes p e below _ (T217.setTop (mkF m 70 #[.val (.int x0), .val (.int x1), .val (.int x2), .val (.int x3), .val (.int x4), .val (.int x5), .val (.ref b209), .val (.ref b211), .val (.double (FP.i2d x0)), .second, .val (.double (FP.i2d x1)), .second, .val (.double (FP.i2d x2)), .second, .val (.int (x3 &&& (3 : Int32))), .unset, .unset, .unset] []))
    refine own_go (fun t k => XS.aload X217.here hx rfl (hb hby at_70) rfl rfl k) ?_
    show own_Goes p e below _ (T217.setTop (mkF m 72 #[.val (.int x0), .val (.int x1), .val (.int x2), .val (.int x3), .val (.int x4), .val (.int x5), .val (.ref b209), .val (.ref b211), .val (.double (FP.i2d x0)), .second, .val (.double (FP.i2d x1)), .second, .val (.double (FP.i2d x2)), .second, .val (.int (x3 &&& (3 : Int32))), .unset, .unset, .unset] [(.ref b211)]))
    refine own_go (fun t k => XS.dload X217.here hx rfl (hb hby at_72) rfl k) ?_
    show own_Goes p e below _ (T217.setTop (mkF m 74 #[.val (.int x0), .val (.int x1), .val (.int x2), .val (.int x3), .val (.int x4), .val (.int x5), .val (.ref b209), .val (.ref b211), .val (.double (FP.i2d x0)), .second, .val (.double (FP.i2d x1)), .second, .val (.double (FP.i2d x2)), .second, .val (.int (x3 &&& (3 : Int32))), .unset, .unset, .unset] [(.double (FP.i2d x0)), (.ref b211)]))
    obtain ⟨_, T230, L230, X230, ⟨b230, kb230, rfl, N230q, K230, lt_b230, G230_0, G230_1, G230_2, G230_3, G230_4, G230_5⟩, st230⟩ := own_callV X217 hx hZ hown (hw _ own_t86) (hw _ own_t87) (hw _ own_t89) (hw _ own_t88) (hw _ own_t3) (hw _ own_t90) (by decide) (b := b211) (as := [(.double (FP.i2d x0))]) (rm11_0 l Z a0 hw [] b211 (FP.i2d x0) (FP.i2d x5) b217 kb217 T217.heap n0 (Nat.le_trans (Nat.le_trans (Nat.le_trans (Nat.le_trans (Nat.le_trans (Nat.le_trans Z0 E209.1) (Keep.of_wr W210).1) E211.1) E212.1) K213.1) K217.1) g_b211 G217_0 G217_1 G217_2 G217_3 G217_4 G217_5 ne_b211_b217) rfl G217_0 own_pd5 rfl (pc := 74) (Ls := #[.val (.int x0), .val (.int x1), .val (.int x2), .val (.int x3), .val (.int x4), .val (.int x5), .val (.ref b209), .val (.ref b211), .val (.double (FP.i2d x0)), .second, .val (.double (FP.i2d x1)), .second, .val (.double (FP.i2d x2)), .second, .val (.int (x3 &&& (3 : Int32))), .unset, .unset, .unset]) (rest := []) (W := 0) (by rw [hml]; rfl) (Nat.le_of_eq rfl) (by decide) (by decide) (hb hby at_74) (by decide) (by decide)
    have N230 := Fr.app N217 N230q
    have ne_b209_b230 : b209 ≠ b230 := Nat.ne_of_lt (Nat.lt_of_lt_of_le ((((V210.ext E211).ext E212).keep K213 (fun z => ne_b209_b212 (List.mem_singleton.mp z))).keep K217 (fun z => ne_b209_b211 (List.mem_singleton.mp z))).lt lt_b230)
    have ne_b211_b230 : b211 ≠ b230 := Nat.ne_of_lt (Nat.lt_of_lt_of_le G217_0.lt lt_b230)
    have ne_b212_b230 : b212 ≠ b230 := Nat.ne_of_lt (Nat.lt_of_lt_of_le (G213_0.keep K217).lt lt_b230)
    have ne_t213_b230 : t213 ≠ b230 := Nat.ne_of_lt (Nat.lt_of_lt_of_le (G213_3.keep K217 (fun z => (Ne.symm ne_b211_t213) (List.mem_singleton.mp z))).lt lt_b230)
    have ne_b217_b230 : b217 ≠ b230 := Nat.ne_of_lt (Nat.lt_of_lt_of_le G217_4.lt lt_b230)
    have g_b230 : n0 ≤ b230 := Nat.le_trans (Nat.le_trans (Nat.le_trans (Nat.le_trans (Nat.le_trans (Nat.le_trans (Nat.le_trans Z0 E209.1) (Keep.of_wr W210).1) E211.1) E212.1) K213.1) K217.1) lt_b230
    refine own_go st230 ?_
    show own_Goes p e below _ (T230.setTop (mkF m 77 #[.val (.int x0), .val (.int x1), .val (.int x2), .val (.int x3), .val (.int x4), .val (.int x5), .val (.ref b209), .val (.ref b211), .val (.double (FP.i2d x0)), .second, .val (.double (FP.i2d x1)), .second, .val (.double (FP.i2d x2)), .second, .val (.int (x3 &&& (3 : Int32))), .unset, .unset, .unset] []))
    refine own_go (fun t k => XS.iload X230.here hx rfl (hb hby at_77) rfl k) ?_
    show own_Goes p e below _ (T230.setTop (mkF m 79 #[.val (.int x0), .val (.int x1), .val (.int x2), .val (.int x3), .val (.int x4), .val (.int x5), .val (.ref b209), .val (.ref b211), .val (.double (FP.i2d x0)), .second, .val (.double (FP.i2d x1)), .second, .val (.double (FP.i2d x2)), .second, .val (.int (x3 &&& (3 : Int32))), .unset, .unset, .unset] [(.int (x3 &&& (3 : Int32)))]))
    refine own_go (fun t k => XS.iconst X230.here hx rfl (hb hby at_79) k) ?_
    show own_Goes p e below _ (T230.setTop (mkF m 80 #[.val (.int x0), .val (.int x1), .val (.int x2), .val (.int x3), .val (.int x4), .val (.int x5), .val (.ref b209), .val (.ref b211), .val (.double (FP.i2d x0)), .second, .val (.double (FP.i2d x1)), .second, .val (.double (FP.i2d x2)), .second, .val (.int (x3 &&& (3 : Int32))), .unset, .unset, .unset] [(.int (2 : Int32)), (.int (x3 &&& (3 : Int32)))]))
    by_cases hc231 : (x3 &&& (3 : Int32)) < (2 : Int32)
    · refine own_go (fun t k => XS.icmpYes X230.here hx rfl (pc0 := 80) (pc' := 90) rfl (hb hby at_80) rfl (tlt hc231).1 (by decide) (by decide) k) ?_
      show own_Goes p e below _ (T230.setTop (mkF m 90 #[.val (.int x0), .val (.int x1), .val (.int x2), .val (.int x3), .val (.int x4), .val (.int x5), .val (.ref b209), .val (.ref b211), .val (.double (FP.i2d x0)), .second, .val (.double (FP.i2d x1)), .second, .val (.double (FP.i2d x2)), .second, .val (.int (x3 &&& (3 : Int32))), .unset, .unset, .unset] []))
      refine own_go (fun t k => XS.iload X230.here hx rfl (hb hby at_90) rfl k) ?_
      show own_Goes p e below _ (T230.setTop (mkF m 92 #[.val (.int x0), .val (.int x1), .val (.int x2), .val (.int x3), .val (.int x4), .val (.int x5), .val (.ref b209), .val (.ref b211), .val (.double (FP.i2d x0)), .second, .val (.double (FP.i2d x1)), .second, .val (.double (FP.i2d x2)), .second, .val (.int (x3 &&& (3 : Int32))), .unset, .unset, .unset] [(.int (x3 &&& (3 : Int32)))]))
      refine own_go (fun t k => XS.iconst X230.here hx rfl (hb hby at_92) k) ?_
      show own_Goes p e below _ (T230.setTop (mkF m 93 #[.val (.int x0), .val (.int x1), .val (.int x2), .val (.int x3), .val (.int x4), .val (.int x5), .val (.ref b209), .val (.ref b211), .val (.double (FP.i2d x0)), .second, .val (.double (FP.i2d x1)), .second, .val (.double (FP.i2d x2)), .second, .val (.int (x3 &&& (3 : Int32))), .unset, .unset, .unset] [(.int (3 : Int32)), (.int (x3 &&& (3 : Int32)))]))
      have hd232 : (x3 &&& (3 : Int32)) < (3 : Int32) := (own_lt23 hc231)
      refine own_go (fun t k => XS.icmpYes X230.here hx rfl (pc0 := 93) (pc' := 103) rfl (hb hby at_93) rfl (tlt hd232).1 (by decide) (by decide) k) ?_
      exact own_k103 l Z a0 hw x0 x1 x2 x3 x4 x5 z_cs h0 n0 Z0 O0 S_CS z_CS p e s m below meth c hx hby hml hown hret hlk hZ _ _ _ (X230.more (by decide) (by decide)) rfl N230 (Nat.le_trans (Nat.le_trans (Nat.le_trans (Nat.le_trans (Nat.le_trans (Nat.le_trans (Nat.le_trans Z0 E209.1) (Keep.of_wr W210).1) E211.1) E212.1) K213.1) K217.1) K230.1) b211 b209 _ _ g_b211 G230_0 G230_1 G230_2 G230_3
    · refine own_go (fun t k => XS.icmpNo X230.here hx rfl (hb hby at_80) rfl (flt hc231).1 k) ?_
      show own_Goes p e below _ (T230.setTop (mkF m 83 #[.val (.int x0), .val (.int x1), .val (.int x2), .val (.int x3), .val (.int x4), .val (.int x5), .val (.ref b209), .val (.ref b211), .val (.double (FP.i2d x0)), .second, .val (.double (FP.i2d x1)), .second, .val (.double (FP.i2d x2)), .second, .val (.int (x3 &&& (3 : Int32))), .unset, .unset, .unset] []))
      refine own_go (fun t k => XS.aload X230.here hx rfl (hb hby at_83) rfl rfl k) ?_
      show own_Goes p e below _ (T230.setTop (mkF m 85 #[.val (.int x0), .val (.int x1), .val (.int x2), .val (.int x3), .val (.int x4), .val (.int x5), .val (.ref b209), .val (.ref b211), .val (.double (FP.i2d x0)), .second, .val (.double (FP.i2d x1)), .second, .val (.double (FP.i2d x2)), .second, .val (.int (x3 &&& (3 : Int32))), .unset, .unset, .unset] [(.ref b211)]))
      refine own_go (fun t k => XS.dload X230.here hx rfl (hb hby at_85) rfl k) ?_
      show own_Goes p e below _ (T230.setTop (mkF m 87 #[.val (.int x0), .val (.int x1), .val (.int x2), .val (.int x3), .val (.int x4), .val (.int x5), .val (.ref b209), .val (.ref b211), .val (.double (FP.i2d x0)), .second, .val (.double (FP.i2d x1)), .second, .val (.double (FP.i2d x2)), .second, .val (.int (x3 &&& (3 : Int32))), .unset, .unset, .unset] [(.double (FP.i2d x1)), (.ref b211)]))
      obtain ⟨_, T233, L233, X233, ⟨rfl, N233q, K233, G233_0, G233_1, G233_2, G233_3, G233_4, G233_5⟩, st233⟩ := own_callV X230 hx hZ hown (hw _ own_t86) (hw _ own_t87) (hw _ own_t89) (hw _ own_t88) (hw _ own_t3) (hw _ own_t90) (by decide) (b := b211) (as := [(.double (FP.i2d x1))]) (rm11_1 l Z a0 hw [] b211 (FP.i2d x1) (FP.i2d x5) b230 kb230 (FP.i2d x0) T230.heap n0 (Nat.le_trans (Nat.le_trans (Nat.le_trans (Nat.le_trans (Nat.le_trans (Nat.le_trans (Nat.le_trans Z0 E209.1) (Keep.of_wr W210).1) E211.1) E212.1) K213.1) K217.1) K230.1) g_b211 g_b230 G230_0 G230_1 G230_2 G230_3 G230_4 G230_5 ne_b211_b230) rfl G230_0 own_pd5 rfl (pc := 87) (Ls := #[.val (.int x0), .val (.int x1), .val (.int x2), .val (.int x3), .val (.int x4), .val (.int x5), .val (.ref b209), .val (.ref b211), .val (.double (FP.i2d x0)), .second, .val (.double (FP.i2d x1)), .second, .val (.double (FP.i2d x2)), .second, .val (.int (x3 &&& (3 : Int32))), .unset, .unset, .unset]) (rest := []) (W := 0) (by rw [hml]; rfl) (Nat.le_of_eq rfl) (by decide) (by decide) (hb hby at_87) (by decide) (by decide)
      have N233 := Fr.app N230 N233q
      refine own_go st233 ?_
      show own_Goes p e below _ (T233.setTop (mkF m 90 #[.val (.int x0), .val (.int x1), .val (.int x2), .val (.int x3), .val (.int x4), .val (.int x5), .val (.ref b209), .val (.ref b211), .val (.double (FP.i2d x0)), .second, .val (.double (FP.i2d x1)), .second, .val (.double (FP.i2d x2)), .second, .val (.int (x3 &&& (3 : Int32))), .unset, .unset, .unset] []))
      refine own_go (fun t k => XS.iload X233.here hx rfl (hb hby at_90) rfl k) ?_
      show own_Goes p e below _ (T233.setTop (mkF m 92 #[.val (.int x0), .val (.int x1), .val (.int x2), .val (.int x3), .val (.int x4), .val (.int x5), .val (.ref b209), .val (.ref b211), .val (.double (FP.i2d x0)), .second, .val (.double (FP.i2d x1)), .second, .val (.double (FP.i2d x2)), .second, .val (.int (x3 &&& (3 : Int32))), .unset, .unset, .unset] [(.int (x3 &&& (3 : Int32)))]))
      refine own_go (fun t k => XS.iconst X233.here hx rfl (hb hby at_92) k) ?_
      show own_Goes p e below _ (T233.setTop (mkF m 93 #[.val (.int x0), .val (.int x1), .val (.int x2), .val (.int x3), .val (.int x4), .val (.int x5), .val (.ref b209), .val (.ref b211), .val (.double (FP.i2d x0)), .second, .val (.double (FP.i2d x1)), .second, .val (.double (FP.i2d x2)), .second, .val (.int (x3 &&& (3 : Int32))), .unset, .unset, .unset] [(.int (3 : Int32)), (.int (x3 &&& (3 : Int32)))]))
      by_cases hc234 : (x3 &&& (3 : Int32)) < (3 : Int32)
      · refine own_go (fun t k => XS.icmpYes X233.here hx rfl (pc0 := 93) (pc' := 103) rfl (hb hby at_93) rfl (tlt hc234).1 (by decide) (by decide) k) ?_
        exact own_k103 l Z a0 hw x0 x1 x2 x3 x4 x5 z_cs h0 n0 Z0 O0 S_CS z_CS p e s m below meth c hx hby hml hown hret hlk hZ _ _ _ (X233.more (by decide) (by decide)) rfl N233 (Nat.le_trans (Nat.le_trans (Nat.le_trans (Nat.le_trans (Nat.le_trans (Nat.le_trans (Nat.le_trans (Nat.le_trans Z0 E209.1) (Keep.of_wr W210).1) E211.1) E212.1) K213.1) K217.1) K230.1) K233.1) b211 b209 _ _ g_b211 G233_0 G233_1 G233_2 G233_3
      · refine own_go (fun t k => XS.icmpNo X233.here hx rfl (hb hby at_93) rfl (flt hc234).1 k) ?_
        show own_Goes p e below _ (T233.setTop (mkF m 96 #[.val (.int x0), .val (.int x1), .val (.int x2), .val (.int x3), .val (.int x4), .val (.int x5), .val (.ref b209), .val (.ref b211), .val (.double (FP.i2d x0)), .second, .val (.double (FP.i2d x1)), .second, .val (.double (FP.i2d x2)), .second, .val (.int (x3 &&& (3 : Int32))), .unset, .unset, .unset] []))
        refine own_go (fun t k => XS.aload X233.here hx rfl (hb hby at_96) rfl rfl k) ?_
        show own_Goes p e below _ (T233.setTop (mkF m 98 #[.val (.int x0), .val (.int x1), .val (.int x2), .val (.int x3), .val (.int x4), .val (.int x5), .val (.ref b209), .val (.ref b211), .val (.double (FP.i2d x0)), .second, .val (.double (FP.i2d x1)), .second, .val (.double (FP.i2d x2)), .second, .val (.int (x3 &&& (3 : Int32))), .unset, .unset, .unset] [(.ref b211)]))
        refine own_go (fun t k => XS.dload X233.here hx rfl (hb hby at_98) rfl k) ?_
        show own_Goes p e below _ (T233.setTop (mkF m 100 #[.val (.int x0), .val (.int x1), .val (.int x2), .val (.int x3), .val (.int x4), .val (.int x5), .val (.ref b209), .val (.ref b211), .val (.double (FP.i2d x0)), .second, .val (.double (FP.i2d x1)), .second, .val (.double (FP.i2d x2)), .second, .val (.int (x3 &&& (3 : Int32))), .unset, .unset, .unset] [(.double (FP.i2d x2)), (.ref b211)]))
        obtain ⟨_, T235, L235, X235, ⟨rfl, N235q, K235, G235_0, G235_1, G235_2, G235_3, G235_4, G235_5⟩, st235⟩ := own_callV X233 hx hZ hown (hw _ own_t86) (hw _ own_t87) (hw _ own_t89) (hw _ own_t88) (hw _ own_t3) (hw _ own_t90) (by decide) (b := b211) (as := [(.double (FP.i2d x2))]) (rm11_2 l Z a0 hw [] b211 (FP.i2d x2) (FP.i2d x5) b230 kb230 (FP.i2d x0) (FP.i2d x1) T233.heap n0 (Nat.le_trans (Nat.le_trans (Nat.le_trans (Nat.le_trans (Nat.le_trans (Nat.le_trans (Nat.le_trans (Nat.le_trans Z0 E209.1) (Keep.of_wr W210).1) E211.1) E212.1) K213.1) K217.1) K230.1) K233.1) g_b211 g_b230 G233_0 G233_1 G233_2 G233_3 G233_4 G233_5 ne_b211_b230) rfl G233_0 own_pd5 rfl (pc := 100) (Ls := #[.val (.int x0), .val (.int x1), .val (.int x2), .val (.int x3), .val (.int x4), .val (.int x5), .val (.ref b209), .val (.ref b211), .val (.double (FP.i2d x0)), .second, .val (.double (FP.i2d x1)), .second, .val (.double (FP.i2d x2)), .second, .val (.int (x3 &&& (3 : Int32))), .unset, .unset, .unset]) (rest := []) (W := 0) (by rw [hml]; rfl) (Nat.le_of_eq rfl) (by decide) (by decide) (hb hby at_100) (by decide) (by decide)
        have N235 := Fr.app N233 N235q
        refine own_go st235 ?_
        exact own_k103 l Z a0 hw x0 x1 x2 x3 x4 x5 z_cs h0 n0 Z0 O0 S_CS z_CS p e s m below meth c hx hby hml hown hret hlk hZ _ _ _ (X235.more (by decide) (by decide)) rfl N235 (Nat.le_trans (Nat.le_trans (Nat.le_trans (Nat.le_trans (Nat.le_trans (Nat.le_trans (Nat.le_trans (Nat.le_trans (Nat.le_trans Z0 E209.1) (Keep.of_wr W210).1) E211.1) E212.1) K213.1) K217.1) K230.1) K233.1) K235.1) b211 b209 _ _ g_b211 G235_0 G235_1 G235_2 G235_3
set_option maxRecDepth 65536 in
set_option maxHeartbeats 40000000 in
theorem comes_1 {Post : Tables → Env → Array Value → State → Outcome → State → Prop} (hpost : ∀ tb e args s v u, (limb_1_1.after args s (.returned v) u = true ∧ limb_1_2.after args s (.returned v) u = true) → FrameEnd s (.returned v) u (Jvm.fieldLocs frame_1_writes args s ++ Jvm.arrayLocs frame_1_arrays args s ++ Jvm.staticLocs frame_1_statics s) 32 192 → Post tb e args s (.returned v) u) :
    ArmFor flags0 classFile x code maxLocals ret World_1 tables_1 room_1 Calls_1 rest_1 Pre_1 Post := by
  intro l hfl _ _ p e ha hc hk s m args below hf hA hF happ hP
  obtain ⟨hcalls, hrest, hpre⟩ := hP
  obtain ⟨-, -, -, hnamed, -, -, -, hat⟩ := (Spec.applies_iff hf).mp happ
  obtain ⟨hg, hn⟩ := and_e (Cond.before_iff.mp (show (Jvm.Cond.and given_1 narrow_1).before args s = true from hpre))
  obtain ⟨gg1, gg2⟩ := and_e hg
  obtain ⟨gg3, gg4⟩ := and_e gg2
  obtain ⟨gg5, gg6⟩ := and_e gg4
  obtain ⟨gg7, gg8⟩ := and_e gg6
  obtain ⟨gg9, gg10⟩ := and_e gg8
  obtain ⟨gg11, gg12⟩ := and_e gg10
  obtain ⟨w0, w1, w2, w3, w4, w5, rfl⟩ : ∃ w0 w1 w2 w3 w4 w5 : Value, args = #[w0, w1, w2, w3, w4, w5] := by
    have hs : args.size = 6 := by simpa [Cond.value, given_1] using gg1
    obtain ⟨L⟩ := args
    match L, hs with
    | [w0, w1, w2, w3, w4, w5], _ => exact ⟨w0, w1, w2, w3, w4, w5, rfl⟩
  have hw := fun d (hd : d ∈ tables_1) => atoms_spec (ws := Jvm.Cond.code x code maxLocals ret :: tables_1) hat d (List.mem_cons_of_mem _ hd)
  have hfit : Fit s := fun {y c} hc i hi => by
    obtain ⟨ha, rfl⟩ := Array.getElem?_eq_some_iff.mp hc
    have q := List.all_eq_true.mp ((Array.all_eq_true_iff_forall_mem.mp hF) _ (Array.getElem_mem ha)) i (List.mem_range.mpr hi)
    simpa [Array.getElem?_eq_getElem hi] using q
  obtain ⟨hsets, hown0⟩ := atoms_of _ (rest_1_c_eq ▸ (show rest_1_c.before _ s = true from hrest))
  have hr0 := Cond.before_iff.mp hown0
  obtain ⟨i0, ei0⟩ := is_v gg3
  obtain rfl : w0 = (.int i0) := Option.some.inj ei0
  obtain ⟨i1, ei1⟩ := is_v gg5
  obtain rfl : w1 = (.int i1) := Option.some.inj ei1
  obtain ⟨i2, ei2⟩ := is_v gg7
  obtain rfl : w2 = (.int i2) := Option.some.inj ei2
  obtain ⟨i3, ei3⟩ := is_v gg9
  obtain rfl : w3 = (.int i3) := Option.some.inj ei3
  obtain ⟨i4, ei4⟩ := is_v gg11
  obtain rfl : w4 = (.int i4) := Option.some.inj ei4
  obtain ⟨i5, ei5⟩ := is_v gg12
  obtain rfl : w5 = (.int i5) := Option.some.inj ei5
  obtain ⟨z_cs, v_cs⟩ := is_v (Cond.before_iff.mp (hsets _ (List.mem_of_getElem? (i := 1) rfl)))
  have S_CS := Sta.start v_cs (Or.inl (hsets _ (List.mem_of_getElem? (i := 0) rfl)))
  have z_CS : ¬ z_cs = 0 := own_nz v_cs (Cond.before_iff.mp (hsets _ (List.mem_of_getElem? (i := 2) rfl)))
  obtain ⟨n, o, h1, h2, h3, v, L, rfl, hQ, hq⟩ := rm0 l s _ hw tables_1 i0 i1 i2 i3 i4 i5 z_cs s.heap s.heap.size (Nat.le_refl _) (Old.start s) S_CS z_CS p e ha hc hk s m _ below hf ((Spec.applies_iff_loose hf).mp happ).1 ⟨rfl, State.Warmed39.refl s, rfl⟩ trivial
  obtain ⟨hv, N, -⟩ := hQ
  rw [show (own_f0  : Int32) = 1 from rfl] at hv
  subst hv
  refine ⟨n, _, h1, h2, h3, hpost _ _ _ _ _ _ ⟨Cond.after_iff.mpr rfl, Cond.after_iff.mpr (eq_i res_at (Term.int_eval (1)) rfl)⟩ ⟨hq.1, hq.2.1, (hq.2.2.sift fun y hy => Or.inr (N y hy)).mono (by decide) (by decide)⟩⟩
theorem main_1_1 : Claimed_1_1 := comes_1 fun _ _ _ _ _ _ h hF => ⟨h.1, hF⟩
theorem main_1_2 : Claimed_1_2 := comes_1 fun _ _ _ _ _ _ h hF => ⟨h.2, hF⟩
end Jvm.Pilot.@@N@@
namespace Jvm.Pilot.@@N@@
open Jvm Jvm.ClassFile Sem Op Lib Jvm.Free Jvm.Stand Jvm.Pilot.@@N@@.Jvm.D
/-! MADE BY PROGRAM (witnessworld.py) out of the Statement's table words and the real class files: 30 classes; the members and pool entries that the words name. The judged class is class 1, her method 1. -/
namespace start1
open Jvm.ClassFile
def u (s : String) : CpInfo := .utf8 (stringToUtf16 s)
/-- a pool by its gaps: so many unusable entries, then the entry; so many at the end -/
def gap : Nat → List CpInfo → List CpInfo
  | 0, r => r
  | n + 1, r => .unusable :: gap n r
def poolList (es : List (Nat × CpInfo)) (last : Nat) : List CpInfo := es.foldr (fun e r => gap e.1 (e.2 :: r)) (gap last [])
def pool (es : List (Nat × CpInfo)) (last : Nat) : Array CpInfo := ⟨poolList es last⟩
def fileOf (pool : Array CpInfo) (this : Nat) (attrs : Array Attribute := #[]) (ms : Array MethodInfo := #[]) (fl : Nat := 33) (sup : Nat := 0) (ifs : Array Nat := #[]) (fds : Array FieldInfo := #[]) : ClassFile where
  minorVersion := 0
  majorVersion := 65
  constantPool := pool
  accessFlags := fl
  thisClass := this
  superClass := sup
  interfaces := ifs
  fields := fds
  methods := ms
  attributes := attrs
def plain (name : String) (sup : Option ClassId) : Class where
  name := name
  kind := .ordinary
  loader := none
  accessFlags := 33
  super := sup
  interfaces := #[]
  cf := none
  fields := #[]
  methods := #[]
  instanceTypes := #[]
  staticTypes := #[]
  resolved := #[]
  callSites := []
  init := .initialized
  statics := none
  mirror := none

def pool0 : Array CpInfo := pool [(5, u "<init>"), (0, u "()V"), (1, .class_ 10), (1, u "java/lang/Object"), (85, u "clone"), (0, u "()Ljava/lang/Object;")] 26

def k0c0 : Code := { maxStack := 0, maxLocals := 1, code := object_method_1_code, exceptionTable := #[], attributes := #[] }
def k0m0 : Method := { name := "<init>", desc := "()V", sig := { parameters := [], returnType := none }, accessFlags := 1, code := some k0c0 }
def k0m1 : Method := { name := "clone", desc := "()Ljava/lang/Object;", sig := { parameters := [], returnType := some (.object "java/lang/Object") }, accessFlags := 260, code := none }
/-- java/lang/Object -/
def k0 : Class := { plain "java/lang/Object" none with
  accessFlags := 33
  interfaces := #[]
  cf := some (fileOf pool0 8 #[] #[{ accessFlags := 1, nameIndex := 5, descriptorIndex := 6, attributes := #[] }, { accessFlags := 260, nameIndex := 96, descriptorIndex := 97, attributes := #[] }] 33 0 #[] #[])
  fields := #[]
  methods := #[k0m0, k0m1]
  instanceTypes := #[]
  staticTypes := #[]
  resolved := Array.replicate 124 none
  statics := none }

def pool1 : Array CpInfo := pool [(2, .class_ 4), (1, u "java/lang/Object"), (0, u "<init>"), (0, u "()V"), (0, .class_ 8), (0, u "com/example/nunobiki/nunobiki/engine/Profile"), (0, .class_ 10), (0, u "java/lang/String"), (0, .methodref 9 12), (0, .nameAndType 5 13), (0, u "([C)V"), (0, .methodref 7 15), (0, .nameAndType 5 16), (0, u "(Ljava/lang/String;DZ)V"), (0, .methodref 7 18), (0, .nameAndType 19 20), (0, u "observe"), (0, u "(D)V"), (0, .methodref 7 22), (0, .nameAndType 23 6), (0, u "forgetObservedScores"), (0, .methodref 7 25), (0, .nameAndType 26 27), (0, u "observedScores"), (0, u "()[D"), (0, .methodref 7 29), (0, .nameAndType 30 31), (0, u "unitThreshold"), (0, u "()D"), (0, .class_ 33), (0, u "com/example/nunobiki/nunobiki/engine/ProfileForgetObservedScoresPinLaw"), (2, u "law"), (0, u "(IIIIII)Z")] 7

def k1m0 : Method := { name := "<init>", desc := "()V", sig := { parameters := [], returnType := none }, accessFlags := 1, code := none }
def k1c1 : Code := { maxStack := 7, maxLocals := 18, code := code, exceptionTable := #[], attributes := #[] }
def k1m1 : Method := { name := "law", desc := "(IIIIII)Z", sig := { parameters := [.int, .int, .int, .int, .int, .int], returnType := some .boolean }, accessFlags := 9, code := some k1c1 }
/-- com/example/nunobiki/nunobiki/engine/ProfileForgetObservedScoresPinLaw -/
def k1 : Class := { plain "com/example/nunobiki/nunobiki/engine/ProfileForgetObservedScoresPinLaw" (some 0) with
  accessFlags := 49
  interfaces := #[]
  cf := some (fileOf pool1 32 #[] #[{ accessFlags := 1, nameIndex := 5, descriptorIndex := 6, attributes := #[] }, { accessFlags := 9, nameIndex := 36, descriptorIndex := 37, attributes := #[] }] 49 2 #[] #[])
  fields := #[]
  methods := #[k1m0, k1m1]
  instanceTypes := #[]
  staticTypes := #[]
  resolved := Array.replicate 45 none
  statics := none }

def pool2 : Array CpInfo := pool [(1, .methodref 2 3), (0, .class_ 4), (0, .nameAndType 5 6), (0, u "java/lang/Object"), (0, u "<init>"), (0, u "()V"), (0, .fieldref 8 9), (0, .class_ 10), (0, .nameAndType 11 12), (0, u "com/example/nunobiki/nunobiki/engine/Profile"), (0, u "slot"), (0, u "I"), (0, .class_ 14), (0, u "java/util/LinkedHashMap"), (0, .methodref 13 3), (0, .fieldref 8 17), (0, .nameAndType 18 19), (0, u "postings"), (0, u "Ljava/util/Map;"), (2, .double 9221120237041090560), (1, .fieldref 8 25), (0, .nameAndType 26 27), (0, u "threshold"), (0, u "D"), (0, .fieldref 8 29), (0, .nameAndType 30 31), (0, u "observedScores"), (0, u "[D"), (0, .class_ 33), (0, u "java/util/HashMap"), (0, .methodref 32 3), (0, .fieldref 8 36), (0, .nameAndType 37 19), (0, u "unjudged"), (0, .fieldref 8 39), (0, .nameAndType 40 41), (0, u "id"), (0, u "Ljava/lang/String;"), (0, .fieldref 8 43), (0, .nameAndType 44 27), (0, u "unitThreshold"), (0, .fieldref 8 46), (0, .nameAndType 47 48), (0, u "anyTerm"), (0, u "Z"), (17, u "()D"), (9, u "scoredWeight"), (42, u "learned"), (4, .fieldref 8 125), (0, .nameAndType 126 12), (0, u "observed"), (0, .methodref 128 129), (0, .class_ 130), (0, .nameAndType 131 132), (0, u "java/lang/Math"), (0, u "max"), (0, u "(II)I"), (0, .methodref 134 135), (0, .class_ 136), (0, .nameAndType 137 138), (0, u "java/util/Arrays"), (0, u "copyOf"), (0, u "([DI)[D"), (28, u "judgedRelevant"), (2, u "judged"), (17, u "(Ljava/lang/String;DZ)V"), (18, u "(D)V"), (0, u "observe"), (0, u "()[D"), (0, u "forgetObservedScores")] 27

def k2c0 : Code := { maxStack := 3, maxLocals := 5, code := prog_20_method_1_code, exceptionTable := #[], attributes := #[] }
def k2m0 : Method := { name := "<init>", desc := "(Ljava/lang/String;DZ)V", sig := { parameters := [(.object "java/lang/String"), .double, .boolean], returnType := none }, accessFlags := 0, code := some k2c0 }
def k2c1 : Code := { maxStack := 2, maxLocals := 1, code := prog_20_method_13_code, exceptionTable := #[], attributes := #[] }
def k2m1 : Method := { name := "unitThreshold", desc := "()D", sig := { parameters := [], returnType := some .double }, accessFlags := 0, code := some k2c1 }
def k2c2 : Code := { maxStack := 5, maxLocals := 3, code := prog_20_method_17_code, exceptionTable := #[], attributes := #[] }
def k2m2 : Method := { name := "observe", desc := "(D)V", sig := { parameters := [.double], returnType := none }, accessFlags := 0, code := some k2c2 }
def k2c3 : Code := { maxStack := 2, maxLocals := 1, code := prog_20_method_18_code, exceptionTable := #[], attributes := #[] }
def k2m3 : Method := { name := "observedScores", desc := "()[D", sig := { parameters := [], returnType := some (.array .double) }, accessFlags := 0, code := some k2c3 }
def k2c4 : Code := { maxStack := 2, maxLocals := 1, code := prog_20_method_19_code, exceptionTable := #[], attributes := #[] }
def k2m4 : Method := { name := "forgetObservedScores", desc := "()V", sig := { parameters := [], returnType := none }, accessFlags := 0, code := some k2c4 }
/-- com/example/nunobiki/nunobiki/engine/Profile -/
def k2 : Class := { plain "com/example/nunobiki/nunobiki/engine/Profile" (some 0) with
  accessFlags := 48
  interfaces := #[]
  cf := some (fileOf pool2 8 #[] #[{ accessFlags := 0, nameIndex := 5, descriptorIndex := 188, attributes := #[] }, { accessFlags := 0, nameIndex := 44, descriptorIndex := 66, attributes := #[] }, { accessFlags := 0, nameIndex := 208, descriptorIndex := 207, attributes := #[] }, { accessFlags := 0, nameIndex := 30, descriptorIndex := 209, attributes := #[] }, { accessFlags := 0, nameIndex := 210, descriptorIndex := 6, attributes := #[] }] 48 2 #[] #[{ accessFlags := 18, nameIndex := 40, descriptorIndex := 41, attributes := #[] }, { accessFlags := 2, nameIndex := 11, descriptorIndex := 12, attributes := #[] }, { accessFlags := 18, nameIndex := 47, descriptorIndex := 48, attributes := #[] }, { accessFlags := 18, nameIndex := 18, descriptorIndex := 19, attributes := #[] }, { accessFlags := 2, nameIndex := 119, descriptorIndex := 48, attributes := #[] }, { accessFlags := 2, nameIndex := 26, descriptorIndex := 27, attributes := #[] }, { accessFlags := 2, nameIndex := 76, descriptorIndex := 27, attributes := #[] }, { accessFlags := 2, nameIndex := 44, descriptorIndex := 27, attributes := #[] }, { accessFlags := 2, nameIndex := 170, descriptorIndex := 12, attributes := #[] }, { accessFlags := 2, nameIndex := 167, descriptorIndex := 12, attributes := #[] }, { accessFlags := 2, nameIndex := 30, descriptorIndex := 31, attributes := #[] }, { accessFlags := 2, nameIndex := 126, descriptorIndex := 12, attributes := #[] }, { accessFlags := 18, nameIndex := 37, descriptorIndex := 19, attributes := #[] }])
  fields := #[{ name := "id", type := (.object "java/lang/String"), accessFlags := 18, slot := 0, constantValue := 0 }, { name := "slot", type := .int, accessFlags := 2, slot := 1, constantValue := 0 }, { name := "anyTerm", type := .boolean, accessFlags := 18, slot := 2, constantValue := 0 }, { name := "postings", type := (.object "java/util/Map"), accessFlags := 18, slot := 3, constantValue := 0 }, { name := "learned", type := .boolean, accessFlags := 2, slot := 4, constantValue := 0 }, { name := "threshold", type := .double, accessFlags := 2, slot := 5, constantValue := 0 }, { name := "scoredWeight", type := .double, accessFlags := 2, slot := 6, constantValue := 0 }, { name := "unitThreshold", type := .double, accessFlags := 2, slot := 7, constantValue := 0 }, { name := "judged", type := .int, accessFlags := 2, slot := 8, constantValue := 0 }, { name := "judgedRelevant", type := .int, accessFlags := 2, slot := 9, constantValue := 0 }, { name := "observedScores", type := (.array .double), accessFlags := 2, slot := 10, constantValue := 0 }, { name := "observed", type := .int, accessFlags := 2, slot := 11, constantValue := 0 }, { name := "unjudged", type := (.object "java/util/Map"), accessFlags := 18, slot := 12, constantValue := 0 }]
  methods := #[k2m0, k2m1, k2m2, k2m3, k2m4]
  instanceTypes := #[(.object "java/lang/String"), .int, .boolean, (.object "java/util/Map"), .boolean, .double, .double, .double, .int, .int, (.array .double), .int, (.object "java/util/Map")]
  staticTypes := #[]
  resolved := Array.replicate 238 none
  statics := none }

def pool3 : Array CpInfo := pool [(1, .class_ 2), (0, u "java/io/Serializable"), (0, .class_ 4), (0, u "java/lang/Object")] 2

/-- java/io/Serializable -/
def k3 : Class := { plain "java/io/Serializable" (some 0) with
  accessFlags := 1537
  interfaces := #[]
  cf := some (fileOf pool3 1 #[] #[] 1537 3 #[] #[])
  fields := #[]
  methods := #[]
  instanceTypes := #[]
  staticTypes := #[]
  resolved := Array.replicate 7 none
  statics := none }

def pool4 : Array CpInfo := pool [(1, .class_ 2), (0, u "java/lang/Comparable"), (0, .class_ 4), (0, u "java/lang/Object")] 7

/-- java/lang/Comparable -/
def k4 : Class := { plain "java/lang/Comparable" (some 0) with
  accessFlags := 1537
  interfaces := #[]
  cf := some (fileOf pool4 1 #[] #[] 1537 3 #[] #[])
  fields := #[]
  methods := #[]
  instanceTypes := #[]
  staticTypes := #[]
  resolved := Array.replicate 12 none
  statics := none }

def pool5 : Array CpInfo := pool [(2, .class_ 4), (1, u "java/lang/CharSequence"), (42, .class_ 48), (0, u "java/lang/CharSequence$1CodePointIterator"), (10, .class_ 60), (0, u "java/lang/CharSequence$1CharIterator"), (5, .class_ 67), (0, u "java/lang/Object")] 63

/-- java/lang/CharSequence -/
def k5 : Class := { plain "java/lang/CharSequence" (some 0) with
  accessFlags := 1537
  interfaces := #[]
  cf := some (fileOf pool5 2 #[.nestMembers #[47, 59]] #[] 1537 66 #[] #[])
  fields := #[]
  methods := #[]
  instanceTypes := #[]
  staticTypes := #[]
  resolved := Array.replicate 131 none
  statics := none }

def pool6 : Array CpInfo := pool [(1, .class_ 2), (0, u "java/lang/constant/Constable"), (0, .class_ 4), (0, u "java/lang/Object")] 6

/-- java/lang/constant/Constable -/
def k6 : Class := { plain "java/lang/constant/Constable" (some 0) with
  accessFlags := 1537
  interfaces := #[]
  cf := some (fileOf pool6 1 #[] #[] 1537 3 #[] #[])
  fields := #[]
  methods := #[]
  instanceTypes := #[]
  staticTypes := #[]
  resolved := Array.replicate 11 none
  statics := none }

def pool7 : Array CpInfo := pool [(1, .class_ 2), (0, u "java/lang/constant/ConstantDesc"), (0, .class_ 4), (0, u "java/lang/Object")] 32

/-- java/lang/constant/ConstantDesc -/
def k7 : Class := { plain "java/lang/constant/ConstantDesc" (some 0) with
  accessFlags := 1537
  interfaces := #[]
  cf := some (fileOf pool7 1 #[] #[] 1537 3 #[] #[])
  fields := #[]
  methods := #[]
  instanceTypes := #[]
  staticTypes := #[]
  resolved := Array.replicate 37 none
  statics := none }

def pool8 : Array CpInfo := pool [(1, .methodref 2 3), (0, .class_ 4), (0, .nameAndType 5 6), (0, u "java/lang/Object"), (0, u "<init>"), (0, u "()V"), (2, .fieldref 10 11), (0, .class_ 12), (0, .nameAndType 13 14), (0, u "java/lang/String"), (0, u "value"), (0, u "[B"), (0, .fieldref 10 16), (0, .nameAndType 17 18), (0, u "coder"), (0, u "B"), (2, u "hash"), (0, u "I"), (2, u "hashIsZero"), (0, u "Z"), (0, .methodref 10 28), (0, .nameAndType 5 29), (0, u "([CIILjava/lang/Void;)V"), (8, .fieldref 10 39), (0, .nameAndType 40 26), (0, u "COMPACT_STRINGS"), (1, .class_ 44), (1, u "java/lang/StringUTF16"), (0, u "compress"), (1, .methodref 42 48), (0, .nameAndType 49 50), (0, u "coderFromArrayLen"), (0, u "([BI)B"), (126, .methodref 42 178), (0, .nameAndType 45 179), (0, u "([CII)[B"), (395, .class_ 576), (0, u "java/lang/CharSequence"), (22, u "CASE_INSENSITIVE_ORDER"), (0, u "Ljava/util/Comparator;"), (409, u "([C)V"), (90, u "serialPersistentFields"), (0, u "[Ljava/io/ObjectStreamField;"), (0, .class_ 1104), (0, u "java/lang/String$CaseInsensitiveComparator"), (1, .class_ 1107), (0, u "java/io/Serializable"), (0, .class_ 1109), (0, u "java/lang/Comparable"), (0, .class_ 1111), (0, u "java/lang/constant/Constable"), (0, .class_ 1113), (0, u "java/lang/constant/ConstantDesc"), (2, u "serialVersionUID"), (0, u "J"), (3, u "REPL"), (0, u "C"), (2, u "LATIN1"), (1, u "UTF16")] 323

def k8m0 : Method := { name := "<init>", desc := "()V", sig := { parameters := [], returnType := none }, accessFlags := 1, code := none }
def k8c1 : Code := { maxStack := 5, maxLocals := 2, code := jdk_42_method_3_code, exceptionTable := #[], attributes := #[] }
def k8m1 : Method := { name := "<init>", desc := "([C)V", sig := { parameters := [(.array .char)], returnType := none }, accessFlags := 1, code := some k8c1 }
def k8c2 : Code := { maxStack := 4, maxLocals := 6, code := jdk_42_method_149_code, exceptionTable := #[], attributes := #[] }
def k8m2 : Method := { name := "<init>", desc := "([CIILjava/lang/Void;)V", sig := { parameters := [(.array .char), .int, .int, (.object "java/lang/Void")], returnType := none }, accessFlags := 2, code := some k8c2 }
/-- java/lang/String -/
def k8 : Class := { plain "java/lang/String" (some 0) with
  accessFlags := 49
  interfaces := #[3, 4, 5, 6, 7]
  cf := some (fileOf pool8 10 #[.nestMembers #[1103]] #[{ accessFlags := 1, nameIndex := 5, descriptorIndex := 6, attributes := #[] }, { accessFlags := 1, nameIndex := 5, descriptorIndex := 1010, attributes := #[] }, { accessFlags := 2, nameIndex := 5, descriptorIndex := 29, attributes := #[] }] 49 2 #[1106, 1108, 575, 1110, 1112] #[{ accessFlags := 18, nameIndex := 13, descriptorIndex := 14, attributes := #[] }, { accessFlags := 18, nameIndex := 17, descriptorIndex := 18, attributes := #[] }, { accessFlags := 2, nameIndex := 21, descriptorIndex := 22, attributes := #[] }, { accessFlags := 2, nameIndex := 25, descriptorIndex := 26, attributes := #[] }, { accessFlags := 26, nameIndex := 1116, descriptorIndex := 1117, attributes := #[] }, { accessFlags := 24, nameIndex := 40, descriptorIndex := 26, attributes := #[] }, { accessFlags := 26, nameIndex := 1101, descriptorIndex := 1102, attributes := #[] }, { accessFlags := 26, nameIndex := 1121, descriptorIndex := 1122, attributes := #[] }, { accessFlags := 25, nameIndex := 599, descriptorIndex := 600, attributes := #[] }, { accessFlags := 24, nameIndex := 1125, descriptorIndex := 18, attributes := #[] }, { accessFlags := 24, nameIndex := 1127, descriptorIndex := 18, attributes := #[] }])
  fields := #[{ name := "value", type := (.array .byte), accessFlags := 18, slot := 0, constantValue := 0 }, { name := "coder", type := .byte, accessFlags := 18, slot := 1, constantValue := 0 }, { name := "hash", type := .int, accessFlags := 2, slot := 2, constantValue := 0 }, { name := "hashIsZero", type := .boolean, accessFlags := 2, slot := 3, constantValue := 0 }, { name := "serialVersionUID", type := .long, accessFlags := 26, slot := 0, constantValue := 0 }, { name := "COMPACT_STRINGS", type := .boolean, accessFlags := 24, slot := 1, constantValue := 0 }, { name := "serialPersistentFields", type := (.array (.object "java/io/ObjectStreamField")), accessFlags := 26, slot := 2, constantValue := 0 }, { name := "REPL", type := .char, accessFlags := 26, slot := 3, constantValue := 0 }, { name := "CASE_INSENSITIVE_ORDER", type := (.object "java/util/Comparator"), accessFlags := 25, slot := 4, constantValue := 0 }, { name := "LATIN1", type := .byte, accessFlags := 24, slot := 5, constantValue := 0 }, { name := "UTF16", type := .byte, accessFlags := 24, slot := 6, constantValue := 0 }]
  methods := #[k8m0, k8m1, k8m2]
  instanceTypes := #[(.array .byte), .byte, .int, .boolean]
  staticTypes := #[.long, .boolean, (.array (.object "java/io/ObjectStreamField")), .char, (.object "java/util/Comparator"), .byte, .byte]
  resolved := Array.replicate 1451 none
  statics := some 0 }

def pool9 : Array CpInfo := pool [(6, .class_ 8), (1, u "java/lang/Object"), (0, u "<init>"), (0, u "()V"), (1, .class_ 14), (1, u "java/lang/StringUTF16"), (31, u "$assertionsDisabled"), (0, u "Z"), (13, u "HI_BYTE_SHIFT"), (0, u "I"), (2, u "LO_BYTE_SHIFT"), (49, .methodref 12 116), (0, .nameAndType 117 118), (0, u "compress"), (0, u "([CI[BII)I"), (3, u "([CII)[B"), (138, u "coderFromArrayLen"), (0, u "([BI)B"), (106, .class_ 371), (1, u "java/lang/StringUTF16$LinesSpliterator"), (58, u "MAX_LENGTH"), (196, .class_ 628), (0, u "java/lang/StringUTF16$CodePointsSpliterator"), (0, .class_ 630), (0, u "java/lang/StringUTF16$CharsSpliterator")] 4

def k9m0 : Method := { name := "<init>", desc := "()V", sig := { parameters := [], returnType := none }, accessFlags := 0, code := none }
def k9c1 : Code := { maxStack := 2, maxLocals := 2, code := jdk_52_method_15_code, exceptionTable := #[], attributes := #[] }
def k9m1 : Method := { name := "coderFromArrayLen", desc := "([BI)B", sig := { parameters := [(.array .byte), .int], returnType := some .byte }, accessFlags := 8, code := some k9c1 }
def k9c2 : Code := { maxStack := 5, maxLocals := 6, code := jdk_52_method_16_code, exceptionTable := #[], attributes := #[] }
def k9m2 : Method := { name := "compress", desc := "([CII)[B", sig := { parameters := [(.array .char), .int, .int], returnType := some (.array .byte) }, accessFlags := 9, code := some k9c2 }
def k9c3 : Code := { maxStack := 3, maxLocals := 7, code := jdk_52_method_21_code, exceptionTable := #[], attributes := #[] }
def k9m3 : Method := { name := "compress", desc := "([CI[BII)I", sig := { parameters := [(.array .char), .int, (.array .byte), .int, .int], returnType := some .int }, accessFlags := 9, code := some k9c3 }
/-- java/lang/StringUTF16 -/
def k9 : Class := { plain "java/lang/StringUTF16" (some 0) with
  accessFlags := 48
  interfaces := #[]
  cf := some (fileOf pool9 12 #[.nestMembers #[627, 629, 369]] #[{ accessFlags := 0, nameIndex := 9, descriptorIndex := 10, attributes := #[] }, { accessFlags := 8, nameIndex := 261, descriptorIndex := 262, attributes := #[] }, { accessFlags := 9, nameIndex := 117, descriptorIndex := 122, attributes := #[] }, { accessFlags := 9, nameIndex := 117, descriptorIndex := 118, attributes := #[] }] 48 6 #[] #[{ accessFlags := 26, nameIndex := 61, descriptorIndex := 62, attributes := #[] }, { accessFlags := 26, nameIndex := 65, descriptorIndex := 62, attributes := #[] }, { accessFlags := 24, nameIndex := 430, descriptorIndex := 62, attributes := #[] }, { accessFlags := 4120, nameIndex := 46, descriptorIndex := 47, attributes := #[] }])
  fields := #[{ name := "HI_BYTE_SHIFT", type := .int, accessFlags := 26, slot := 0, constantValue := 0 }, { name := "LO_BYTE_SHIFT", type := .int, accessFlags := 26, slot := 1, constantValue := 0 }, { name := "MAX_LENGTH", type := .int, accessFlags := 24, slot := 2, constantValue := 0 }, { name := "$assertionsDisabled", type := .boolean, accessFlags := 4120, slot := 3, constantValue := 0 }]
  methods := #[k9m0, k9m1, k9m2, k9m3]
  instanceTypes := #[]
  staticTypes := #[.int, .int, .int, .boolean]
  resolved := Array.replicate 635 none
  statics := none }

def pool10 : Array CpInfo := pool [(2, .class_ 4), (1, u "java/util/Map"), (31, .class_ 37), (0, u "java/util/Map$Entry"), (55, .class_ 94), (0, u "java/lang/Object")] 168

/-- java/util/Map -/
def k10 : Class := { plain "java/util/Map" (some 0) with
  accessFlags := 1537
  interfaces := #[]
  cf := some (fileOf pool10 2 #[.nestMembers #[36]] #[] 1537 93 #[] #[])
  fields := #[]
  methods := #[]
  instanceTypes := #[]
  staticTypes := #[]
  resolved := Array.replicate 263 none
  statics := none }

def pool11 : Array CpInfo := pool [(1, .methodref 2 3), (0, .class_ 4), (0, .nameAndType 5 6), (0, u "java/lang/Object"), (0, u "<init>"), (0, u "()V"), (1, .class_ 10), (1, u "java/util/AbstractMap"), (42, .class_ 54), (0, u "java/util/Map"), (9, u "keySet"), (0, u "Ljava/util/Set;"), (0, .class_ 67), (0, u "java/util/AbstractMap$1"), (5, u "values"), (0, u "Ljava/util/Collection;"), (0, .class_ 76), (0, u "java/util/AbstractMap$2"), (104, .class_ 182), (0, u "java/util/AbstractMap$ViewCollection"), (0, .class_ 184), (0, u "java/util/AbstractMap$SimpleImmutableEntry"), (0, .class_ 186), (0, u "java/util/AbstractMap$SimpleEntry"), (0, .class_ 188), (0, u "java/util/AbstractMap$2$1"), (0, .class_ 190), (0, u "java/util/AbstractMap$1$1")] 5

def k11c0 : Code := { maxStack := 1, maxLocals := 1, code := jdk_71_method_1_code, exceptionTable := #[], attributes := #[] }
def k11m0 : Method := { name := "<init>", desc := "()V", sig := { parameters := [], returnType := none }, accessFlags := 4, code := some k11c0 }
/-- java/util/AbstractMap -/
def k11 : Class := { plain "java/util/AbstractMap" (some 0) with
  accessFlags := 1057
  interfaces := #[10]
  cf := some (fileOf pool11 8 #[.nestMembers #[181, 183, 185, 75, 187, 66, 189]] #[{ accessFlags := 4, nameIndex := 5, descriptorIndex := 6, attributes := #[] }] 1057 2 #[53] #[{ accessFlags := 128, nameIndex := 64, descriptorIndex := 65, attributes := #[] }, { accessFlags := 128, nameIndex := 73, descriptorIndex := 74, attributes := #[] }])
  fields := #[{ name := "keySet", type := (.object "java/util/Set"), accessFlags := 128, slot := 0, constantValue := 0 }, { name := "values", type := (.object "java/util/Collection"), accessFlags := 128, slot := 1, constantValue := 0 }]
  methods := #[k11m0]
  instanceTypes := #[(.object "java/util/Set"), (.object "java/util/Collection")]
  staticTypes := #[]
  resolved := Array.replicate 196 none
  statics := none }

def pool12 : Array CpInfo := pool [(1, .class_ 2), (0, u "java/lang/Cloneable"), (0, .class_ 4), (0, u "java/lang/Object")] 2

/-- java/lang/Cloneable -/
def k12 : Class := { plain "java/lang/Cloneable" (some 0) with
  accessFlags := 1537
  interfaces := #[]
  cf := some (fileOf pool12 1 #[] #[] 1537 3 #[] #[])
  fields := #[]
  methods := #[]
  instanceTypes := #[]
  staticTypes := #[]
  resolved := Array.replicate 7 none
  statics := none }

def pool13 : Array CpInfo := pool [(40, .class_ 41), (0, u "java/util/HashMap"), (1, .methodref 44 45), (0, .class_ 46), (0, .nameAndType 47 48), (0, u "java/util/AbstractMap"), (0, u "<init>"), (0, u "()V"), (32, .fieldref 40 82), (0, .nameAndType 83 84), (0, u "loadFactor"), (0, u "F"), (5, u "threshold"), (0, u "I"), (0, .float 1061158912), (8, .class_ 103), (1, u "java/util/Map"), (0, u "size"), (2, u "table"), (0, u "[Ljava/util/HashMap$Node;"), (14, u "entrySet"), (39, .class_ 165), (1, u "java/util/HashMap$Node"), (14, .class_ 181), (0, u "java/util/HashMap$TreeNode"), (22, u "modCount"), (37, u "Ljava/util/Set;"), (0, .class_ 244), (0, u "java/util/HashMap$KeySet"), (18, .class_ 264), (0, u "java/util/HashMap$Values"), (3, .class_ 269), (0, u "java/util/HashMap$EntrySet"), (76, .class_ 348), (1, u "java/util/HashMap$UnsafeHolder"), (43, .class_ 393), (0, u "java/lang/Cloneable"), (0, .class_ 395), (0, u "java/io/Serializable"), (0, u "serialVersionUID"), (0, u "J"), (3, u "DEFAULT_INITIAL_CAPACITY"), (1, u "MAXIMUM_CAPACITY"), (0, u "DEFAULT_LOAD_FACTOR"), (0, u "TREEIFY_THRESHOLD"), (1, u "UNTREEIFY_THRESHOLD"), (1, u "MIN_TREEIFY_CAPACITY"), (186, .class_ 597), (0, u "java/util/HashMap$EntrySpliterator"), (0, .class_ 599), (0, u "java/util/HashMap$ValueSpliterator"), (0, .class_ 601), (0, u "java/util/HashMap$KeySpliterator"), (0, .class_ 603), (0, u "java/util/HashMap$HashMapSpliterator"), (0, .class_ 605), (0, u "java/util/HashMap$EntryIterator"), (0, .class_ 607), (0, u "java/util/HashMap$ValueIterator"), (0, .class_ 609), (0, u "java/util/HashMap$KeyIterator"), (0, .class_ 611), (0, u "java/util/HashMap$HashIterator")] 17

def k13c0 : Code := { maxStack := 2, maxLocals := 1, code := jdk_69_method_7_code, exceptionTable := #[], attributes := #[] }
def k13m0 : Method := { name := "<init>", desc := "()V", sig := { parameters := [], returnType := none }, accessFlags := 1, code := some k13c0 }
/-- java/util/HashMap -/
def k13 : Class := { plain "java/util/HashMap" (some 11) with
  accessFlags := 33
  interfaces := #[10, 12, 3]
  cf := some (fileOf pool13 40 #[.nestMembers #[180, 596, 598, 600, 602, 604, 606, 608, 610, 346, 268, 263, 243, 163]] #[{ accessFlags := 1, nameIndex := 47, descriptorIndex := 48, attributes := #[] }] 33 44 #[101, 392, 394] #[{ accessFlags := 26, nameIndex := 396, descriptorIndex := 397, attributes := #[] }, { accessFlags := 24, nameIndex := 401, descriptorIndex := 91, attributes := #[] }, { accessFlags := 24, nameIndex := 403, descriptorIndex := 91, attributes := #[] }, { accessFlags := 24, nameIndex := 404, descriptorIndex := 84, attributes := #[] }, { accessFlags := 24, nameIndex := 405, descriptorIndex := 91, attributes := #[] }, { accessFlags := 24, nameIndex := 407, descriptorIndex := 91, attributes := #[] }, { accessFlags := 24, nameIndex := 409, descriptorIndex := 91, attributes := #[] }, { accessFlags := 128, nameIndex := 107, descriptorIndex := 108, attributes := #[] }, { accessFlags := 128, nameIndex := 123, descriptorIndex := 242, attributes := #[] }, { accessFlags := 128, nameIndex := 104, descriptorIndex := 91, attributes := #[] }, { accessFlags := 128, nameIndex := 204, descriptorIndex := 91, attributes := #[] }, { accessFlags := 0, nameIndex := 90, descriptorIndex := 91, attributes := #[] }, { accessFlags := 16, nameIndex := 83, descriptorIndex := 84, attributes := #[] }])
  fields := #[{ name := "serialVersionUID", type := .long, accessFlags := 26, slot := 0, constantValue := 0 }, { name := "DEFAULT_INITIAL_CAPACITY", type := .int, accessFlags := 24, slot := 1, constantValue := 0 }, { name := "MAXIMUM_CAPACITY", type := .int, accessFlags := 24, slot := 2, constantValue := 0 }, { name := "DEFAULT_LOAD_FACTOR", type := .float, accessFlags := 24, slot := 3, constantValue := 0 }, { name := "TREEIFY_THRESHOLD", type := .int, accessFlags := 24, slot := 4, constantValue := 0 }, { name := "UNTREEIFY_THRESHOLD", type := .int, accessFlags := 24, slot := 5, constantValue := 0 }, { name := "MIN_TREEIFY_CAPACITY", type := .int, accessFlags := 24, slot := 6, constantValue := 0 }, { name := "table", type := (.array (.object "java/util/HashMap$Node")), accessFlags := 128, slot := 2, constantValue := 0 }, { name := "entrySet", type := (.object "java/util/Set"), accessFlags := 128, slot := 3, constantValue := 0 }, { name := "size", type := .int, accessFlags := 128, slot := 4, constantValue := 0 }, { name := "modCount", type := .int, accessFlags := 128, slot := 5, constantValue := 0 }, { name := "threshold", type := .int, accessFlags := 0, slot := 6, constantValue := 0 }, { name := "loadFactor", type := .float, accessFlags := 16, slot := 7, constantValue := 0 }]
  methods := #[k13m0]
  instanceTypes := #[(.object "java/util/Set"), (.object "java/util/Collection"), (.array (.object "java/util/HashMap$Node")), (.object "java/util/Set"), .int, .int, .int, .float]
  staticTypes := #[.long, .int, .int, .float, .int, .int, .int]
  resolved := Array.replicate 629 none
  statics := none }

def pool14 : Array CpInfo := pool [(2, .class_ 4), (1, u "java/util/SequencedMap"), (38, .class_ 44), (0, u "java/util/SequencedMap$1SeqKeySet"), (3, .class_ 49), (0, u "java/util/SequencedMap$1SeqValues"), (1, .class_ 52), (0, u "java/util/SequencedMap$1SeqEntrySet"), (1, .class_ 55), (0, u "java/lang/Object"), (0, .class_ 57), (0, u "java/util/Map")] 48

/-- java/util/SequencedMap -/
def k14 : Class := { plain "java/util/SequencedMap" (some 0) with
  accessFlags := 1537
  interfaces := #[10]
  cf := some (fileOf pool14 2 #[.nestMembers #[51, 48, 43]] #[] 1537 54 #[56] #[])
  fields := #[]
  methods := #[]
  instanceTypes := #[]
  staticTypes := #[]
  resolved := Array.replicate 106 none
  statics := none }

def pool15 : Array CpInfo := pool [(1, .fieldref 2 3), (0, .class_ 4), (0, .nameAndType 5 6), (0, u "java/util/LinkedHashMap"), (0, u "putMode"), (0, u "I"), (2, u "head"), (0, u "Ljava/util/LinkedHashMap$Entry;"), (2, u "tail"), (1, .class_ 17), (1, u "java/util/LinkedHashMap$Entry"), (5, .class_ 25), (1, u "java/util/HashMap"), (1, u "()V"), (2, u "<init>"), (33, .fieldref 2 65), (0, .nameAndType 66 67), (0, u "accessOrder"), (0, u "Z"), (19, .methodref 23 88), (0, .nameAndType 30 27), (32, .class_ 122), (0, u "java/util/LinkedHashMap$LinkedKeySet"), (20, .class_ 144), (0, u "java/util/LinkedHashMap$LinkedValues"), (9, .class_ 155), (0, u "java/util/LinkedHashMap$LinkedEntrySet"), (44, .class_ 201), (0, u "java/util/LinkedHashMap$ReversedLinkedHashMapView"), (3, .class_ 206), (0, u "java/util/SequencedMap"), (0, u "serialVersionUID"), (0, u "J"), (5, u "PUT_NORM"), (1, u "PUT_FIRST"), (1, u "PUT_LAST"), (143, .class_ 363), (0, u "java/util/LinkedHashMap$LinkedEntryIterator"), (0, .class_ 365), (0, u "java/util/LinkedHashMap$LinkedValueIterator"), (0, .class_ 367), (0, u "java/util/LinkedHashMap$LinkedKeyIterator"), (0, .class_ 369), (0, u "java/util/LinkedHashMap$LinkedHashIterator")] 16

def k15c0 : Code := { maxStack := 2, maxLocals := 1, code := jdk_94_method_16_code, exceptionTable := #[], attributes := #[] }
def k15m0 : Method := { name := "<init>", desc := "()V", sig := { parameters := [], returnType := none }, accessFlags := 1, code := some k15c0 }
/-- java/util/LinkedHashMap -/
def k15 : Class := { plain "java/util/LinkedHashMap" (some 13) with
  accessFlags := 33
  interfaces := #[14]
  cf := some (fileOf pool15 2 #[.nestMembers #[200, 362, 364, 366, 368, 154, 143, 121, 15]] #[{ accessFlags := 1, nameIndex := 30, descriptorIndex := 27, attributes := #[] }] 33 23 #[205] #[{ accessFlags := 26, nameIndex := 207, descriptorIndex := 208, attributes := #[] }, { accessFlags := 128, nameIndex := 9, descriptorIndex := 10, attributes := #[] }, { accessFlags := 128, nameIndex := 13, descriptorIndex := 10, attributes := #[] }, { accessFlags := 16, nameIndex := 66, descriptorIndex := 67, attributes := #[] }, { accessFlags := 24, nameIndex := 214, descriptorIndex := 6, attributes := #[] }, { accessFlags := 24, nameIndex := 216, descriptorIndex := 6, attributes := #[] }, { accessFlags := 24, nameIndex := 218, descriptorIndex := 6, attributes := #[] }, { accessFlags := 128, nameIndex := 5, descriptorIndex := 6, attributes := #[] }])
  fields := #[{ name := "serialVersionUID", type := .long, accessFlags := 26, slot := 0, constantValue := 0 }, { name := "head", type := (.object "java/util/LinkedHashMap$Entry"), accessFlags := 128, slot := 8, constantValue := 0 }, { name := "tail", type := (.object "java/util/LinkedHashMap$Entry"), accessFlags := 128, slot := 9, constantValue := 0 }, { name := "accessOrder", type := .boolean, accessFlags := 16, slot := 10, constantValue := 0 }, { name := "PUT_NORM", type := .int, accessFlags := 24, slot := 1, constantValue := 0 }, { name := "PUT_FIRST", type := .int, accessFlags := 24, slot := 2, constantValue := 0 }, { name := "PUT_LAST", type := .int, accessFlags := 24, slot := 3, constantValue := 0 }, { name := "putMode", type := .int, accessFlags := 128, slot := 11, constantValue := 0 }]
  methods := #[k15m0]
  instanceTypes := #[(.object "java/util/Set"), (.object "java/util/Collection"), (.array (.object "java/util/HashMap$Node")), (.object "java/util/Set"), .int, .int, .int, .float, (.object "java/util/LinkedHashMap$Entry"), (.object "java/util/LinkedHashMap$Entry"), .boolean, .int]
  staticTypes := #[.long, .int, .int, .int]
  resolved := Array.replicate 386 none
  statics := none }

def pool16 : Array CpInfo := pool [(1, .class_ 2), (0, u "java/lang/Math"), (1, .class_ 6), (1, u "java/lang/Object"), (0, u "<init>"), (0, u "()V"), (89, .class_ 100), (1, u "java/lang/Math$RandomNumberGeneratorHolder"), (71, u "negativeZeroFloatBits"), (0, u "J"), (2, u "negativeZeroDoubleBits"), (21, u "max"), (2, u "min"), (43, u "$assertionsDisabled"), (0, u "Z"), (88, u "(II)I"), (2, u "twoToTheDoubleScaleDown"), (0, u "D"), (4, u "twoToTheDoubleScaleUp"), (9, u "E"), (3, u "PI"), (2, u "TAU"), (2, u "DEGREES_TO_RADIANS"), (0, u "RADIANS_TO_DEGREES")] 94

def k16m0 : Method := { name := "<init>", desc := "()V", sig := { parameters := [], returnType := none }, accessFlags := 2, code := none }
def k16c1 : Code := { maxStack := 2, maxLocals := 2, code := jdk_29_method_65_code, exceptionTable := #[], attributes := #[] }
def k16m1 : Method := { name := "max", desc := "(II)I", sig := { parameters := [.int, .int], returnType := some .int }, accessFlags := 9, code := some k16c1 }
def k16c2 : Code := { maxStack := 2, maxLocals := 2, code := jdk_29_method_69_code, exceptionTable := #[], attributes := #[] }
def k16m2 : Method := { name := "min", desc := "(II)I", sig := { parameters := [.int, .int], returnType := some .int }, accessFlags := 9, code := some k16c2 }
/-- java/lang/Math -/
def k16 : Class := { plain "java/lang/Math" (some 0) with
  accessFlags := 49
  interfaces := #[]
  cf := some (fileOf pool16 1 #[.nestMembers #[98]] #[{ accessFlags := 2, nameIndex := 7, descriptorIndex := 8, attributes := #[] }, { accessFlags := 9, nameIndex := 198, descriptorIndex := 335, attributes := #[] }, { accessFlags := 9, nameIndex := 201, descriptorIndex := 335, attributes := #[] }] 49 4 #[] #[{ accessFlags := 25, nameIndex := 354, descriptorIndex := 339, attributes := #[] }, { accessFlags := 25, nameIndex := 358, descriptorIndex := 339, attributes := #[] }, { accessFlags := 25, nameIndex := 361, descriptorIndex := 339, attributes := #[] }, { accessFlags := 26, nameIndex := 364, descriptorIndex := 339, attributes := #[] }, { accessFlags := 26, nameIndex := 365, descriptorIndex := 339, attributes := #[] }, { accessFlags := 26, nameIndex := 172, descriptorIndex := 173, attributes := #[] }, { accessFlags := 26, nameIndex := 176, descriptorIndex := 173, attributes := #[] }, { accessFlags := 8, nameIndex := 344, descriptorIndex := 339, attributes := #[] }, { accessFlags := 8, nameIndex := 338, descriptorIndex := 339, attributes := #[] }, { accessFlags := 4120, nameIndex := 245, descriptorIndex := 246, attributes := #[] }])
  fields := #[{ name := "E", type := .double, accessFlags := 25, slot := 0, constantValue := 0 }, { name := "PI", type := .double, accessFlags := 25, slot := 1, constantValue := 0 }, { name := "TAU", type := .double, accessFlags := 25, slot := 2, constantValue := 0 }, { name := "DEGREES_TO_RADIANS", type := .double, accessFlags := 26, slot := 3, constantValue := 0 }, { name := "RADIANS_TO_DEGREES", type := .double, accessFlags := 26, slot := 4, constantValue := 0 }, { name := "negativeZeroFloatBits", type := .long, accessFlags := 26, slot := 5, constantValue := 0 }, { name := "negativeZeroDoubleBits", type := .long, accessFlags := 26, slot := 6, constantValue := 0 }, { name := "twoToTheDoubleScaleUp", type := .double, accessFlags := 8, slot := 7, constantValue := 0 }, { name := "twoToTheDoubleScaleDown", type := .double, accessFlags := 8, slot := 8, constantValue := 0 }, { name := "$assertionsDisabled", type := .boolean, accessFlags := 4120, slot := 9, constantValue := 0 }]
  methods := #[k16m0, k16m1, k16m2]
  instanceTypes := #[]
  staticTypes := #[.double, .double, .double, .double, .double, .long, .long, .double, .double, .boolean]
  resolved := Array.replicate 460 none
  statics := none }

def pool17 : Array CpInfo := pool [(2, .class_ 4), (1, u "java/lang/Object"), (0, u "<init>"), (0, u "()V"), (7, .class_ 16), (1, u "java/util/Arrays"), (57, .class_ 76), (1, u "java/util/Arrays$NaturalOrder"), (32, u "()Ljava/lang/Object;"), (3, .class_ 115), (1, u "java/util/Arrays$LegacyMergeSort"), (1, u "Z"), (10, .nameAndType 129 109), (0, u "clone"), (20, .methodref 151 152), (0, .class_ 153), (0, .nameAndType 154 155), (0, u "java/lang/System"), (0, u "arraycopy"), (0, u "(Ljava/lang/Object;ILjava/lang/Object;II)V"), (146, u "copyOf"), (1, .methodref 305 306), (0, .class_ 307), (0, .nameAndType 308 309), (0, u "java/lang/Math"), (0, u "min"), (0, u "(II)I"), (18, .methodref 329 128), (0, .class_ 330), (0, u "[D"), (44, .class_ 376), (0, u "java/util/Arrays$ArrayList"), (68, u "$assertionsDisabled"), (269, u "MIN_ARRAY_SORT_GRAN"), (0, u "I"), (2, u "INSERTIONSORT_THRESHOLD"), (155, u "([DI)[D"), (99, .class_ 976), (0, u "java/util/Arrays$ArrayItr")] 52

def k17m0 : Method := { name := "<init>", desc := "()V", sig := { parameters := [], returnType := none }, accessFlags := 2, code := none }
def k17c1 : Code := { maxStack := 6, maxLocals := 3, code := jdk_65_method_127_code, exceptionTable := #[], attributes := #[] }
def k17m1 : Method := { name := "copyOf", desc := "([DI)[D", sig := { parameters := [(.array .double), .int], returnType := some (.array .double) }, accessFlags := 9, code := some k17c1 }
/-- java/util/Arrays -/
def k17 : Class := { plain "java/util/Arrays" (some 0) with
  accessFlags := 49
  interfaces := #[]
  cf := some (fileOf pool17 14 #[.nestMembers #[975, 375, 113, 74]] #[{ accessFlags := 2, nameIndex := 5, descriptorIndex := 6, attributes := #[] }, { accessFlags := 9, nameIndex := 302, descriptorIndex := 875, attributes := #[] }] 49 2 #[] #[{ accessFlags := 26, nameIndex := 715, descriptorIndex := 716, attributes := #[] }, { accessFlags := 26, nameIndex := 719, descriptorIndex := 716, attributes := #[] }, { accessFlags := 4120, nameIndex := 445, descriptorIndex := 117, attributes := #[] }])
  fields := #[{ name := "MIN_ARRAY_SORT_GRAN", type := .int, accessFlags := 26, slot := 0, constantValue := 0 }, { name := "INSERTIONSORT_THRESHOLD", type := .int, accessFlags := 26, slot := 1, constantValue := 0 }, { name := "$assertionsDisabled", type := .boolean, accessFlags := 4120, slot := 2, constantValue := 0 }]
  methods := #[k17m0, k17m1]
  instanceTypes := #[]
  staticTypes := #[.int, .int, .boolean]
  resolved := Array.replicate 1029 none
  statics := none }

def pool18 : Array CpInfo := pool [(2, .class_ 4), (1, u "java/lang/Object"), (0, u "<init>"), (0, u "()V"), (1, .class_ 10), (1, u "java/lang/System"), (0, u "allowSecurityManager"), (0, u "I"), (16, u "cons"), (0, u "Ljava/io/Console;"), (77, .class_ 110), (1, u "java/lang/System$CallersHolder"), (43, u "initialErrStream"), (0, u "Ljava/io/PrintStream;"), (19, u "security"), (0, u "Ljava/lang/SecurityManager;"), (31, .class_ 209), (0, u "java/lang/System$1"), (7, u "props"), (0, u "Ljava/util/Properties;"), (2, u "lineSeparator"), (0, u "Ljava/lang/String;"), (96, .class_ 321), (1, u "java/lang/System$LoggerFinder"), (5, .class_ 328), (0, u "java/lang/System$Logger"), (67, u "err"), (2, u "out"), (91, u "notSupportedJnuEncoding"), (15, u "in"), (17, u "initialIn"), (0, u "Ljava/io/InputStream;"), (35, u "bootLayer"), (0, u "Ljava/lang/ModuleLayer;"), (99, .class_ 664), (0, u "java/lang/System$2"), (9, u "NEVER"), (2, u "MAYBE"), (49, u "arraycopy"), (0, u "(Ljava/lang/Object;ILjava/lang/Object;II)V"), (72, .class_ 802), (0, u "java/lang/System$Logger$Level")] 31

def k18m0 : Method := { name := "<init>", desc := "()V", sig := { parameters := [], returnType := none }, accessFlags := 2, code := none }
def k18m1 : Method := { name := "arraycopy", desc := "(Ljava/lang/Object;ILjava/lang/Object;II)V", sig := { parameters := [(.object "java/lang/Object"), .int, (.object "java/lang/Object"), .int, .int], returnType := none }, accessFlags := 265, code := none }
/-- java/lang/System -/
def k18 : Class := { plain "java/lang/System" (some 0) with
  accessFlags := 49
  interfaces := #[]
  cf := some (fileOf pool18 8 #[.nestMembers #[319, 327, 801, 108, 663, 208]] #[{ accessFlags := 2, nameIndex := 5, descriptorIndex := 6, attributes := #[] }, { accessFlags := 265, nameIndex := 727, descriptorIndex := 728, attributes := #[] }] 49 2 #[] #[{ accessFlags := 25, nameIndex := 507, descriptorIndex := 526, attributes := #[] }, { accessFlags := 25, nameIndex := 399, descriptorIndex := 155, attributes := #[] }, { accessFlags := 25, nameIndex := 396, descriptorIndex := 155, attributes := #[] }, { accessFlags := 10, nameIndex := 525, descriptorIndex := 526, attributes := #[] }, { accessFlags := 26, nameIndex := 674, descriptorIndex := 12, attributes := #[] }, { accessFlags := 26, nameIndex := 677, descriptorIndex := 12, attributes := #[] }, { accessFlags := 10, nameIndex := 11, descriptorIndex := 12, attributes := #[] }, { accessFlags := 74, nameIndex := 175, descriptorIndex := 176, attributes := #[] }, { accessFlags := 10, nameIndex := 491, descriptorIndex := 222, attributes := #[] }, { accessFlags := 74, nameIndex := 29, descriptorIndex := 30, attributes := #[] }, { accessFlags := 74, nameIndex := 154, descriptorIndex := 155, attributes := #[] }, { accessFlags := 10, nameIndex := 217, descriptorIndex := 218, attributes := #[] }, { accessFlags := 10, nameIndex := 221, descriptorIndex := 222, attributes := #[] }, { accessFlags := 8, nameIndex := 562, descriptorIndex := 563, attributes := #[] }])
  fields := #[{ name := "in", type := (.object "java/io/InputStream"), accessFlags := 25, slot := 0, constantValue := 0 }, { name := "out", type := (.object "java/io/PrintStream"), accessFlags := 25, slot := 1, constantValue := 0 }, { name := "err", type := (.object "java/io/PrintStream"), accessFlags := 25, slot := 2, constantValue := 0 }, { name := "initialIn", type := (.object "java/io/InputStream"), accessFlags := 10, slot := 3, constantValue := 0 }, { name := "NEVER", type := .int, accessFlags := 26, slot := 4, constantValue := 0 }, { name := "MAYBE", type := .int, accessFlags := 26, slot := 5, constantValue := 0 }, { name := "allowSecurityManager", type := .int, accessFlags := 10, slot := 6, constantValue := 0 }, { name := "security", type := (.object "java/lang/SecurityManager"), accessFlags := 74, slot := 7, constantValue := 0 }, { name := "notSupportedJnuEncoding", type := (.object "java/lang/String"), accessFlags := 10, slot := 8, constantValue := 0 }, { name := "cons", type := (.object "java/io/Console"), accessFlags := 74, slot := 9, constantValue := 0 }, { name := "initialErrStream", type := (.object "java/io/PrintStream"), accessFlags := 74, slot := 10, constantValue := 0 }, { name := "props", type := (.object "java/util/Properties"), accessFlags := 10, slot := 11, constantValue := 0 }, { name := "lineSeparator", type := (.object "java/lang/String"), accessFlags := 10, slot := 12, constantValue := 0 }, { name := "bootLayer", type := (.object "java/lang/ModuleLayer"), accessFlags := 8, slot := 13, constantValue := 0 }]
  methods := #[k18m0, k18m1]
  instanceTypes := #[]
  staticTypes := #[(.object "java/io/InputStream"), (.object "java/io/PrintStream"), (.object "java/io/PrintStream"), (.object "java/io/InputStream"), .int, .int, .int, (.object "java/lang/SecurityManager"), (.object "java/lang/String"), (.object "java/io/Console"), (.object "java/io/PrintStream"), (.object "java/util/Properties"), (.object "java/lang/String"), (.object "java/lang/ModuleLayer")]
  resolved := Array.replicate 834 none
  statics := none }

def pool19 : Array CpInfo := pool [(4, .class_ 6), (1, u "java/lang/Object"), (0, u "<init>"), (0, u "()V"), (5, .class_ 16), (1, u "java/lang/StringLatin1"), (104, u "$assertionsDisabled"), (0, u "Z"), (98, .class_ 223), (1, u "java/lang/StringLatin1$LinesSpliterator"), (166, .class_ 391), (0, u "java/lang/StringLatin1$CharsSpliterator")] 3

def k19m0 : Method := { name := "<init>", desc := "()V", sig := { parameters := [], returnType := none }, accessFlags := 0, code := none }
/-- java/lang/StringLatin1 -/
def k19 : Class := { plain "java/lang/StringLatin1" (some 0) with
  accessFlags := 48
  interfaces := #[]
  cf := some (fileOf pool19 14 #[.nestMembers #[390, 221]] #[{ accessFlags := 0, nameIndex := 7, descriptorIndex := 8, attributes := #[] }] 48 4 #[] #[{ accessFlags := 4120, nameIndex := 121, descriptorIndex := 122, attributes := #[] }])
  fields := #[{ name := "$assertionsDisabled", type := .boolean, accessFlags := 4120, slot := 0, constantValue := 0 }]
  methods := #[k19m0]
  instanceTypes := #[]
  staticTypes := #[.boolean]
  resolved := Array.replicate 395 none
  statics := none }

def pool20 : Array CpInfo := pool [(2, .class_ 4), (1, u "java/lang/Object"), (0, u "<init>"), (0, u "()V"), (17, .class_ 26), (1, u "jdk/internal/util/Preconditions"), (28, .class_ 56), (0, u "jdk/internal/util/Preconditions$4"), (57, .class_ 115), (0, u "jdk/internal/util/Preconditions$1"), (7, u "SIOOBE_FORMATTER"), (0, u "Ljava/util/function/BiFunction;"), (0, .class_ 126), (0, u "jdk/internal/util/Preconditions$2"), (3, u "AIOOBE_FORMATTER"), (0, .class_ 132), (0, u "jdk/internal/util/Preconditions$3"), (3, u "IOOBE_FORMATTER")] 57

def k20m0 : Method := { name := "<init>", desc := "()V", sig := { parameters := [], returnType := none }, accessFlags := 1, code := none }
/-- jdk/internal/util/Preconditions -/
def k20 : Class := { plain "jdk/internal/util/Preconditions" (some 0) with
  accessFlags := 33
  interfaces := #[]
  cf := some (fileOf pool20 24 #[.nestMembers #[55, 131, 125, 114]] #[{ accessFlags := 1, nameIndex := 5, descriptorIndex := 6, attributes := #[] }] 33 2 #[] #[{ accessFlags := 25, nameIndex := 123, descriptorIndex := 124, attributes := #[] }, { accessFlags := 25, nameIndex := 130, descriptorIndex := 124, attributes := #[] }, { accessFlags := 25, nameIndex := 136, descriptorIndex := 124, attributes := #[] }])
  fields := #[{ name := "SIOOBE_FORMATTER", type := (.object "java/util/function/BiFunction"), accessFlags := 25, slot := 0, constantValue := 0 }, { name := "AIOOBE_FORMATTER", type := (.object "java/util/function/BiFunction"), accessFlags := 25, slot := 1, constantValue := 0 }, { name := "IOOBE_FORMATTER", type := (.object "java/util/function/BiFunction"), accessFlags := 25, slot := 2, constantValue := 0 }]
  methods := #[k20m0]
  instanceTypes := #[]
  staticTypes := #[(.object "java/util/function/BiFunction"), (.object "java/util/function/BiFunction"), (.object "java/util/function/BiFunction")]
  resolved := Array.replicate 194 none
  statics := some 1 }

def pool21 : Array CpInfo := pool [(9, u "<init>"), (6, .class_ 18), (1, u "java/lang/Object"), (0, u "()V"), (1, .class_ 23), (1, u "jdk/internal/util/ArraysSupport"), (0, u "LOG2_ARRAY_LONG_INDEX_SCALE"), (0, u "I"), (2, u "U"), (0, u "Ljdk/internal/misc/Unsafe;"), (8, u "BIG_ENDIAN"), (0, u "Z"), (8, u "LOG2_BYTE_BIT_SIZE"), (4, u "LOG2_ARRAY_INT_INDEX_SCALE"), (54, u "JLA"), (0, u "Ljdk/internal/access/JavaLangAccess;"), (11, u "LOG2_ARRAY_BOOLEAN_INDEX_SCALE"), (9, u "LOG2_ARRAY_BYTE_INDEX_SCALE"), (5, u "LOG2_ARRAY_CHAR_INDEX_SCALE"), (5, u "LOG2_ARRAY_SHORT_INDEX_SCALE"), (18, u "LOG2_ARRAY_FLOAT_INDEX_SCALE"), (24, u "LOG2_ARRAY_DOUBLE_INDEX_SCALE"), (89, u "T_BOOLEAN"), (2, u "T_CHAR"), (1, u "T_FLOAT"), (1, u "T_DOUBLE"), (1, u "T_BYTE"), (1, u "T_SHORT"), (1, u "T_INT"), (1, u "T_LONG"), (1, u "SOFT_MAX_ARRAY_LENGTH")] 83

def k21m0 : Method := { name := "<init>", desc := "()V", sig := { parameters := [], returnType := none }, accessFlags := 2, code := none }
/-- jdk/internal/util/ArraysSupport -/
def k21 : Class := { plain "jdk/internal/util/ArraysSupport" (some 0) with
  accessFlags := 33
  interfaces := #[]
  cf := some (fileOf pool21 21 #[] #[{ accessFlags := 2, nameIndex := 9, descriptorIndex := 19, attributes := #[] }] 33 16 #[] #[{ accessFlags := 24, nameIndex := 28, descriptorIndex := 29, attributes := #[] }, { accessFlags := 26, nameIndex := 38, descriptorIndex := 39, attributes := #[] }, { accessFlags := 25, nameIndex := 121, descriptorIndex := 25, attributes := #[] }, { accessFlags := 25, nameIndex := 131, descriptorIndex := 25, attributes := #[] }, { accessFlags := 25, nameIndex := 137, descriptorIndex := 25, attributes := #[] }, { accessFlags := 25, nameIndex := 143, descriptorIndex := 25, attributes := #[] }, { accessFlags := 25, nameIndex := 53, descriptorIndex := 25, attributes := #[] }, { accessFlags := 25, nameIndex := 24, descriptorIndex := 25, attributes := #[] }, { accessFlags := 25, nameIndex := 162, descriptorIndex := 25, attributes := #[] }, { accessFlags := 25, nameIndex := 187, descriptorIndex := 25, attributes := #[] }, { accessFlags := 26, nameIndex := 48, descriptorIndex := 25, attributes := #[] }, { accessFlags := 25, nameIndex := 277, descriptorIndex := 25, attributes := #[] }, { accessFlags := 25, nameIndex := 280, descriptorIndex := 25, attributes := #[] }, { accessFlags := 25, nameIndex := 282, descriptorIndex := 25, attributes := #[] }, { accessFlags := 25, nameIndex := 284, descriptorIndex := 25, attributes := #[] }, { accessFlags := 25, nameIndex := 286, descriptorIndex := 25, attributes := #[] }, { accessFlags := 25, nameIndex := 288, descriptorIndex := 25, attributes := #[] }, { accessFlags := 25, nameIndex := 290, descriptorIndex := 25, attributes := #[] }, { accessFlags := 25, nameIndex := 292, descriptorIndex := 25, attributes := #[] }, { accessFlags := 26, nameIndex := 108, descriptorIndex := 109, attributes := #[] }, { accessFlags := 25, nameIndex := 294, descriptorIndex := 25, attributes := #[] }])
  fields := #[{ name := "U", type := (.object "jdk/internal/misc/Unsafe"), accessFlags := 24, slot := 0, constantValue := 0 }, { name := "BIG_ENDIAN", type := .boolean, accessFlags := 26, slot := 1, constantValue := 0 }, { name := "LOG2_ARRAY_BOOLEAN_INDEX_SCALE", type := .int, accessFlags := 25, slot := 2, constantValue := 0 }, { name := "LOG2_ARRAY_BYTE_INDEX_SCALE", type := .int, accessFlags := 25, slot := 3, constantValue := 0 }, { name := "LOG2_ARRAY_CHAR_INDEX_SCALE", type := .int, accessFlags := 25, slot := 4, constantValue := 0 }, { name := "LOG2_ARRAY_SHORT_INDEX_SCALE", type := .int, accessFlags := 25, slot := 5, constantValue := 0 }, { name := "LOG2_ARRAY_INT_INDEX_SCALE", type := .int, accessFlags := 25, slot := 6, constantValue := 0 }, { name := "LOG2_ARRAY_LONG_INDEX_SCALE", type := .int, accessFlags := 25, slot := 7, constantValue := 0 }, { name := "LOG2_ARRAY_FLOAT_INDEX_SCALE", type := .int, accessFlags := 25, slot := 8, constantValue := 0 }, { name := "LOG2_ARRAY_DOUBLE_INDEX_SCALE", type := .int, accessFlags := 25, slot := 9, constantValue := 0 }, { name := "LOG2_BYTE_BIT_SIZE", type := .int, accessFlags := 26, slot := 10, constantValue := 0 }, { name := "T_BOOLEAN", type := .int, accessFlags := 25, slot := 11, constantValue := 0 }, { name := "T_CHAR", type := .int, accessFlags := 25, slot := 12, constantValue := 0 }, { name := "T_FLOAT", type := .int, accessFlags := 25, slot := 13, constantValue := 0 }, { name := "T_DOUBLE", type := .int, accessFlags := 25, slot := 14, constantValue := 0 }, { name := "T_BYTE", type := .int, accessFlags := 25, slot := 15, constantValue := 0 }, { name := "T_SHORT", type := .int, accessFlags := 25, slot := 16, constantValue := 0 }, { name := "T_INT", type := .int, accessFlags := 25, slot := 17, constantValue := 0 }, { name := "T_LONG", type := .int, accessFlags := 25, slot := 18, constantValue := 0 }, { name := "JLA", type := (.object "jdk/internal/access/JavaLangAccess"), accessFlags := 26, slot := 19, constantValue := 0 }, { name := "SOFT_MAX_ARRAY_LENGTH", type := .int, accessFlags := 25, slot := 20, constantValue := 0 }]
  methods := #[k21m0]
  instanceTypes := #[]
  staticTypes := #[(.object "jdk/internal/misc/Unsafe"), .boolean, .int, .int, .int, .int, .int, .int, .int, .int, .int, .int, .int, .int, .int, .int, .int, .int, .int, (.object "jdk/internal/access/JavaLangAccess"), .int]
  resolved := Array.replicate 378 none
  statics := none }

/-- the primitive byte -/
def k22 : Class := { plain "byte" none with kind := .primitive 'B', accessFlags := 0x411 }
/-- [B -/
def k23 : Class := { plain "[B" (some 0) with kind := .array 22 .byte, interfaces := #[12, 3], accessFlags := 1041 }

/-- the primitive char -/
def k24 : Class := { plain "char" none with kind := .primitive 'C', accessFlags := 0x411 }
/-- [C -/
def k25 : Class := { plain "[C" (some 0) with kind := .array 24 .char, interfaces := #[12, 3], accessFlags := 1041 }

/-- the primitive double -/
def k26 : Class := { plain "double" none with kind := .primitive 'D', accessFlags := 0x411 }
/-- [D -/
def k27 : Class := { plain "[D" (some 0) with kind := .array 26 .double, interfaces := #[12, 3], accessFlags := 1041 }

/-- the primitive int -/
def k28 : Class := { plain "int" none with kind := .primitive 'I', accessFlags := 0x411 }
/-- [I -/
def k29 : Class := { plain "[I" (some 0) with kind := .array 28 .int, interfaces := #[12, 3], accessFlags := 1041 }

def heap : Heap := #[{ cls := 8, slots := #[.long 0, .int 1, .null, .int 0, .null, .int 0, .int 0], vm := .statics 8 },
  { cls := 20, slots := #[.null, .null, .null], vm := .statics 20 }]
def classes : Array Class := #[k0, k1, k2, k3, k4, k5, k6, k7, k8, k9, k10, k11, k12, k13, k14, k15, k16, k17, k18, k19, k20, k21, k22, k23, k24, k25, k26, k27, k28, k29]
def interned : List (Array UInt16 × Addr) := []
def slotsUsed : Nat := 10
def theMethod : MethodId := ⟨1, 1⟩
def args0 : Array Value := #[.int 5, .int 7, .int 9, .int 2, .int 3, .int 65]
def aboutOver (below : List Frame) : State where
  vm := { classes := classes, interned := interned.toArray }
  heap := heap
  slotsUsed := slotsUsed
  threads := #[{ frames := .invoking theMethod args0 :: below }]
def below0 : List Frame := [.native { method := ⟨0, 0⟩, args := #[] }]
def about1 : State := aboutOver below0
def p0 : Program := .bare "" "" ""
def e0 : Env := launch0.env 0 0 0
theorem w_frames : about1.frames = Frame.invoking theMethod args0 :: below0 := rfl
set_option maxRecDepth 65536 in
theorem w_args : argsFit about1.vm theMethod args0 = true := by decide +kernel
set_option maxRecDepth 65536 in
theorem w_heap : heapFits about1 = true := by decide +kernel
set_option maxRecDepth 65536 in
theorem w_runnable : about1.curStatus? = some .runnable := by decide +kernel
set_option maxRecDepth 65536 in
theorem w_alone : about1.alone = true := by decide +kernel
set_option maxRecDepth 65536 in
theorem w_named : about1.methodNamed? x = some theMethod := by decide +kernel
set_option maxRecDepth 65536 in
theorem w_hears : about1.hears theMethod below0 = true := by decide +kernel
set_option maxRecDepth 65536 in
theorem w_ripe : about1.ripe theMethod args0 below0 = true := by decide +kernel
theorem w_running : about1.status = .running := rfl
set_option maxRecDepth 65536 in
theorem w_room : about1.hasRoom e0.platform room_1 = true :=
  launch0.hasRoom_least _ room_1 (by decide +kernel) (by decide +kernel) (by decide +kernel) (by decide +kernel) (by decide +kernel) (by decide +kernel)
theorem allAtoms_all (ts : List Jvm.Cond) (a : Array Jvm.Value) (st : Jvm.State) : (allAtoms ts).before a st = ts.all (fun c => c.before a st) := by
  induction ts with
  | nil => rfl
  | cons c t ih =>
    show (Jvm.Cond.and c (allAtoms t)).before a st = _
    rw [Jvm.Cond.before_and, ih, List.all_cons]
def words1 : List Jvm.Cond := Jvm.Cond.code x code maxLocals ret :: tables_1
/-- a 'code' word, met by the world's own term for the bytes: nothing is compared byte by byte -/
theorem code_word {y : MethodName} {bytes : ByteArray} {mx : Nat} {rt : Option FieldType} {a : Array Value} {s : State} {m : MethodId} {meth : Method} {c : Code} (h1 : s.methodNamed? y = some m) (h2 : s.vm.method? m = some meth) (h3 : meth.code = some c) (h4 : c.code = bytes)
    (h5 : (c.maxLocals == mx && c.exceptionTable.isEmpty && decide (c.maxStack ≤ mostOperands) && decide (meth.sig.returnType = rt) && !meth.locks && decide (parseMethodDescriptor y.desc = some meth.sig)) = true) : (Jvm.Cond.code y bytes mx rt).before a s = true := by
  simp only [Bool.and_eq_true, beq_iff_eq, Bool.not_eq_true', decide_eq_true_eq] at h5
  obtain ⟨⟨⟨⟨⟨g1, g2⟩, g3⟩, g4⟩, g5⟩, g6⟩ := h5
  simp [Cond.before, Cond.holds, Cond.value, h1, h2, h3, h4, g1, g2, g3, g4, g5, g6]
def isCode : Jvm.Cond → Bool
  | .code _ _ _ _ => true
  | _ => false
theorem all_split {L : List Jvm.Cond} {P : Jvm.Cond → Bool} (h1 : L.all (fun c => isCode c || P c) = true) (h2 : ∀ c ∈ L.filter isCode, P c = true) : L.all P = true := by
  refine List.all_eq_true.mpr fun c hc => ?_
  have h := List.all_eq_true.mp h1 c hc
  rcases Bool.eq_false_or_eq_true (isCode c) with hi | hi
  · exact h2 c (List.mem_filter.mpr ⟨hc, hi⟩)
  · simpa [hi] using h
set_option maxRecDepth 65536 in
theorem w_c0 : (Jvm.Cond.code x code maxLocals ret).before args0 about1 = true := code_word (m := ⟨1, 1⟩) (meth := k1m1) (c := k1c1) (by decide +kernel) rfl rfl rfl (by decide +kernel)
set_option maxRecDepth 65536 in
theorem w_c1 : (Jvm.Cond.code ({ cls := "java/lang/String", name := "<init>", desc := "([C)V" } : Jvm.MethodName) jdk_42_method_3_code (2 : Nat) (Option.none : Option Jvm.ClassFile.FieldType)).before args0 about1 = true := code_word (m := ⟨8, 1⟩) (meth := k8m1) (c := k8c1) (by decide +kernel) rfl rfl rfl (by decide +kernel)
set_option maxRecDepth 65536 in
theorem w_c2 : (Jvm.Cond.code ({ cls := "java/lang/String", name := "<init>", desc := "([CIILjava/lang/Void;)V" } : Jvm.MethodName) jdk_42_method_149_code (6 : Nat) (Option.none : Option Jvm.ClassFile.FieldType)).before args0 about1 = true := code_word (m := ⟨8, 2⟩) (meth := k8m2) (c := k8c2) (by decide +kernel) rfl rfl rfl (by decide +kernel)
set_option maxRecDepth 65536 in
theorem w_c3 : (Jvm.Cond.code ({ cls := "java/lang/Object", name := "<init>", desc := "()V" } : Jvm.MethodName) object_method_1_code (1 : Nat) (Option.none : Option Jvm.ClassFile.FieldType)).before args0 about1 = true := code_word (m := ⟨0, 0⟩) (meth := k0m0) (c := k0c0) (by decide +kernel) rfl rfl rfl (by decide +kernel)
set_option maxRecDepth 65536 in
theorem w_c4 : (Jvm.Cond.code ({ cls := "java/lang/StringUTF16", name := "compress", desc := "([CII)[B" } : Jvm.MethodName) jdk_52_method_16_code (6 : Nat) (Option.some (Jvm.ClassFile.FieldType.array Jvm.ClassFile.FieldType.byte))).before args0 about1 = true := code_word (m := ⟨9, 2⟩) (meth := k9m2) (c := k9c2) (by decide +kernel) rfl rfl rfl (by decide +kernel)
set_option maxRecDepth 65536 in
theorem w_c5 : (Jvm.Cond.code ({ cls := "java/lang/StringUTF16", name := "compress", desc := "([CI[BII)I" } : Jvm.MethodName) jdk_52_method_21_code (7 : Nat) (Option.some Jvm.ClassFile.FieldType.int)).before args0 about1 = true := code_word (m := ⟨9, 3⟩) (meth := k9m3) (c := k9c3) (by decide +kernel) rfl rfl rfl (by decide +kernel)
set_option maxRecDepth 65536 in
theorem w_c6 : (Jvm.Cond.code ({ cls := "java/lang/StringUTF16", name := "coderFromArrayLen", desc := "([BI)B" } : Jvm.MethodName) jdk_52_method_15_code (2 : Nat) (Option.some Jvm.ClassFile.FieldType.byte)).before args0 about1 = true := code_word (m := ⟨9, 1⟩) (meth := k9m1) (c := k9c1) (by decide +kernel) rfl rfl rfl (by decide +kernel)
set_option maxRecDepth 65536 in
theorem w_c7 : (Jvm.Cond.code ({ cls := "com/example/nunobiki/nunobiki/engine/Profile", name := "<init>", desc := "(Ljava/lang/String;DZ)V" } : Jvm.MethodName) prog_20_method_1_code (5 : Nat) (Option.none : Option Jvm.ClassFile.FieldType)).before args0 about1 = true := code_word (m := ⟨2, 0⟩) (meth := k2m0) (c := k2c0) (by decide +kernel) rfl rfl rfl (by decide +kernel)
set_option maxRecDepth 65536 in
theorem w_c8 : (Jvm.Cond.code ({ cls := "java/util/LinkedHashMap", name := "<init>", desc := "()V" } : Jvm.MethodName) jdk_94_method_16_code (1 : Nat) (Option.none : Option Jvm.ClassFile.FieldType)).before args0 about1 = true := code_word (m := ⟨15, 0⟩) (meth := k15m0) (c := k15c0) (by decide +kernel) rfl rfl rfl (by decide +kernel)
set_option maxRecDepth 65536 in
theorem w_c9 : (Jvm.Cond.code ({ cls := "java/util/HashMap", name := "<init>", desc := "()V" } : Jvm.MethodName) jdk_69_method_7_code (1 : Nat) (Option.none : Option Jvm.ClassFile.FieldType)).before args0 about1 = true := code_word (m := ⟨13, 0⟩) (meth := k13m0) (c := k13c0) (by decide +kernel) rfl rfl rfl (by decide +kernel)
set_option maxRecDepth 65536 in
theorem w_c10 : (Jvm.Cond.code ({ cls := "java/util/AbstractMap", name := "<init>", desc := "()V" } : Jvm.MethodName) jdk_71_method_1_code (1 : Nat) (Option.none : Option Jvm.ClassFile.FieldType)).before args0 about1 = true := code_word (m := ⟨11, 0⟩) (meth := k11m0) (c := k11c0) (by decide +kernel) rfl rfl rfl (by decide +kernel)
set_option maxRecDepth 65536 in
theorem w_c11 : (Jvm.Cond.code ({ cls := "com/example/nunobiki/nunobiki/engine/Profile", name := "observe", desc := "(D)V" } : Jvm.MethodName) prog_20_method_17_code (3 : Nat) (Option.none : Option Jvm.ClassFile.FieldType)).before args0 about1 = true := code_word (m := ⟨2, 2⟩) (meth := k2m2) (c := k2c2) (by decide +kernel) rfl rfl rfl (by decide +kernel)
set_option maxRecDepth 65536 in
theorem w_c12 : (Jvm.Cond.code ({ cls := "java/lang/Math", name := "max", desc := "(II)I" } : Jvm.MethodName) jdk_29_method_65_code (2 : Nat) (Option.some Jvm.ClassFile.FieldType.int)).before args0 about1 = true := code_word (m := ⟨16, 1⟩) (meth := k16m1) (c := k16c1) (by decide +kernel) rfl rfl rfl (by decide +kernel)
set_option maxRecDepth 65536 in
theorem w_c13 : (Jvm.Cond.code ({ cls := "java/util/Arrays", name := "copyOf", desc := "([DI)[D" } : Jvm.MethodName) jdk_65_method_127_code (3 : Nat) (Option.some (Jvm.ClassFile.FieldType.array Jvm.ClassFile.FieldType.double))).before args0 about1 = true := code_word (m := ⟨17, 1⟩) (meth := k17m1) (c := k17c1) (by decide +kernel) rfl rfl rfl (by decide +kernel)
set_option maxRecDepth 65536 in
theorem w_c14 : (Jvm.Cond.code ({ cls := "java/lang/Math", name := "min", desc := "(II)I" } : Jvm.MethodName) jdk_29_method_69_code (2 : Nat) (Option.some Jvm.ClassFile.FieldType.int)).before args0 about1 = true := code_word (m := ⟨16, 2⟩) (meth := k16m2) (c := k16c2) (by decide +kernel) rfl rfl rfl (by decide +kernel)
set_option maxRecDepth 65536 in
theorem w_c15 : (Jvm.Cond.code ({ cls := "com/example/nunobiki/nunobiki/engine/Profile", name := "forgetObservedScores", desc := "()V" } : Jvm.MethodName) prog_20_method_19_code (1 : Nat) (Option.none : Option Jvm.ClassFile.FieldType)).before args0 about1 = true := code_word (m := ⟨2, 4⟩) (meth := k2m4) (c := k2c4) (by decide +kernel) rfl rfl rfl (by decide +kernel)
set_option maxRecDepth 65536 in
theorem w_c16 : (Jvm.Cond.code ({ cls := "com/example/nunobiki/nunobiki/engine/Profile", name := "observedScores", desc := "()[D" } : Jvm.MethodName) prog_20_method_18_code (1 : Nat) (Option.some (Jvm.ClassFile.FieldType.array Jvm.ClassFile.FieldType.double))).before args0 about1 = true := code_word (m := ⟨2, 3⟩) (meth := k2m3) (c := k2c3) (by decide +kernel) rfl rfl rfl (by decide +kernel)
set_option maxRecDepth 65536 in
theorem w_c17 : (Jvm.Cond.code ({ cls := "com/example/nunobiki/nunobiki/engine/Profile", name := "unitThreshold", desc := "()D" } : Jvm.MethodName) prog_20_method_13_code (1 : Nat) (Option.some Jvm.ClassFile.FieldType.double)).before args0 about1 = true := code_word (m := ⟨2, 1⟩) (meth := k2m1) (c := k2c1) (by decide +kernel) rfl rfl rfl (by decide +kernel)
def codes1 : List Jvm.Cond := [Jvm.Cond.code x code maxLocals ret, Jvm.Cond.code ({ cls := "java/lang/String", name := "<init>", desc := "([C)V" } : Jvm.MethodName) jdk_42_method_3_code (2 : Nat) (Option.none : Option Jvm.ClassFile.FieldType), Jvm.Cond.code ({ cls := "java/lang/String", name := "<init>", desc := "([CIILjava/lang/Void;)V" } : Jvm.MethodName) jdk_42_method_149_code (6 : Nat) (Option.none : Option Jvm.ClassFile.FieldType), Jvm.Cond.code ({ cls := "java/lang/Object", name := "<init>", desc := "()V" } : Jvm.MethodName) object_method_1_code (1 : Nat) (Option.none : Option Jvm.ClassFile.FieldType), Jvm.Cond.code ({ cls := "java/lang/StringUTF16", name := "compress", desc := "([CII)[B" } : Jvm.MethodName) jdk_52_method_16_code (6 : Nat) (Option.some (Jvm.ClassFile.FieldType.array Jvm.ClassFile.FieldType.byte)), Jvm.Cond.code ({ cls := "java/lang/StringUTF16", name := "compress", desc := "([CI[BII)I" } : Jvm.MethodName) jdk_52_method_21_code (7 : Nat) (Option.some Jvm.ClassFile.FieldType.int), Jvm.Cond.code ({ cls := "java/lang/StringUTF16", name := "coderFromArrayLen", desc := "([BI)B" } : Jvm.MethodName) jdk_52_method_15_code (2 : Nat) (Option.some Jvm.ClassFile.FieldType.byte), Jvm.Cond.code ({ cls := "com/example/nunobiki/nunobiki/engine/Profile", name := "<init>", desc := "(Ljava/lang/String;DZ)V" } : Jvm.MethodName) prog_20_method_1_code (5 : Nat) (Option.none : Option Jvm.ClassFile.FieldType), Jvm.Cond.code ({ cls := "java/util/LinkedHashMap", name := "<init>", desc := "()V" } : Jvm.MethodName) jdk_94_method_16_code (1 : Nat) (Option.none : Option Jvm.ClassFile.FieldType), Jvm.Cond.code ({ cls := "java/util/HashMap", name := "<init>", desc := "()V" } : Jvm.MethodName) jdk_69_method_7_code (1 : Nat) (Option.none : Option Jvm.ClassFile.FieldType), Jvm.Cond.code ({ cls := "java/util/AbstractMap", name := "<init>", desc := "()V" } : Jvm.MethodName) jdk_71_method_1_code (1 : Nat) (Option.none : Option Jvm.ClassFile.FieldType), Jvm.Cond.code ({ cls := "com/example/nunobiki/nunobiki/engine/Profile", name := "observe", desc := "(D)V" } : Jvm.MethodName) prog_20_method_17_code (3 : Nat) (Option.none : Option Jvm.ClassFile.FieldType), Jvm.Cond.code ({ cls := "java/lang/Math", name := "max", desc := "(II)I" } : Jvm.MethodName) jdk_29_method_65_code (2 : Nat) (Option.some Jvm.ClassFile.FieldType.int), Jvm.Cond.code ({ cls := "java/util/Arrays", name := "copyOf", desc := "([DI)[D" } : Jvm.MethodName) jdk_65_method_127_code (3 : Nat) (Option.some (Jvm.ClassFile.FieldType.array Jvm.ClassFile.FieldType.double)), Jvm.Cond.code ({ cls := "java/lang/Math", name := "min", desc := "(II)I" } : Jvm.MethodName) jdk_29_method_69_code (2 : Nat) (Option.some Jvm.ClassFile.FieldType.int), Jvm.Cond.code ({ cls := "com/example/nunobiki/nunobiki/engine/Profile", name := "forgetObservedScores", desc := "()V" } : Jvm.MethodName) prog_20_method_19_code (1 : Nat) (Option.none : Option Jvm.ClassFile.FieldType), Jvm.Cond.code ({ cls := "com/example/nunobiki/nunobiki/engine/Profile", name := "observedScores", desc := "()[D" } : Jvm.MethodName) prog_20_method_18_code (1 : Nat) (Option.some (Jvm.ClassFile.FieldType.array Jvm.ClassFile.FieldType.double)), Jvm.Cond.code ({ cls := "com/example/nunobiki/nunobiki/engine/Profile", name := "unitThreshold", desc := "()D" } : Jvm.MethodName) prog_20_method_13_code (1 : Nat) (Option.some Jvm.ClassFile.FieldType.double)]
set_option maxRecDepth 65536 in
theorem codes_eq : words1.filter isCode = codes1 := rfl
theorem w_codes : ∀ c ∈ words1.filter isCode, c.before args0 about1 = true := by
  rw [codes_eq]
  intro c hc
  simp only [codes1, List.mem_cons, List.not_mem_nil, or_false] at hc
  rcases hc with rfl | rfl | rfl | rfl | rfl | rfl | rfl | rfl | rfl | rfl | rfl | rfl | rfl | rfl | rfl | rfl | rfl | rfl
  · exact w_c0
  · exact w_c1
  · exact w_c2
  · exact w_c3
  · exact w_c4
  · exact w_c5
  · exact w_c6
  · exact w_c7
  · exact w_c8
  · exact w_c9
  · exact w_c10
  · exact w_c11
  · exact w_c12
  · exact w_c13
  · exact w_c14
  · exact w_c15
  · exact w_c16
  · exact w_c17
set_option maxRecDepth 65536 in
theorem w_t1 : (words1.take 24).all (fun c => isCode c || c.before args0 about1) = true := by decide +kernel
set_option maxRecDepth 65536 in
theorem w_t2 : ((words1.drop 24).take 24).all (fun c => isCode c || c.before args0 about1) = true := by decide +kernel
set_option maxRecDepth 65536 in
theorem w_t3 : (((words1.drop 24).drop 24).take 24).all (fun c => isCode c || c.before args0 about1) = true := by decide +kernel
set_option maxRecDepth 65536 in
theorem w_t4 : ((((words1.drop 24).drop 24).drop 24).take 24).all (fun c => isCode c || c.before args0 about1) = true := by decide +kernel
set_option maxRecDepth 65536 in
theorem w_t5 : (((((words1.drop 24).drop 24).drop 24).drop 24).take 24).all (fun c => isCode c || c.before args0 about1) = true := by decide +kernel
set_option maxRecDepth 65536 in
theorem w_t6 : (((((words1.drop 24).drop 24).drop 24).drop 24).drop 24).all (fun c => isCode c || c.before args0 about1) = true := by decide +kernel
theorem w_tables : (allAtoms (Jvm.Cond.code x code maxLocals ret :: tables_1)).before args0 about1 = true := by
  rw [allAtoms_all]
  show words1.all (fun c => c.before args0 about1) = true
  refine all_split ?_ w_codes
  rw [← List.take_append_drop 24 words1, List.all_append, w_t1, ← List.take_append_drop 24 (words1.drop 24), List.all_append, w_t2, ← List.take_append_drop 24 ((words1.drop 24).drop 24), List.all_append, w_t3, ← List.take_append_drop 24 (((words1.drop 24).drop 24).drop 24), List.all_append, w_t4, ← List.take_append_drop 24 ((((words1.drop 24).drop 24).drop 24).drop 24), List.all_append, w_t5, w_t6]
  rfl
set_option maxRecDepth 65536 in
theorem w_rest : rest_1_c.before args0 about1 = true := by decide +kernel
set_option maxRecDepth 65536 in
theorem w_case : (Jvm.Cond.and given_1 narrow_1).before args0 about1 = true := by decide +kernel
theorem w_applies : (headSpec (Jvm.Cond.code x code maxLocals ret :: tables_1) room_1).applies x e0.platform about1 = true :=
  (Spec.applies_iff w_frames).mpr ⟨w_running, w_runnable, w_alone, w_named, w_hears, w_ripe, w_room, w_tables⟩
theorem atStart : AtStart classFile x code maxLocals ret World_1 tables_1 room_1 Calls_1 rest_1 Pre_1 launch0 p0 e0 about1 theMethod args0 below0 :=
  ⟨lists_1, trivial, launch0.admits_env _ _ _, launch0.least_env, fairChoices_fair.cas, fairChoices_fair.clock, w_frames, w_args, w_heap, w_applies, trivial, w_rest, w_case⟩
end start1
theorem witness_1 : WitnessClaimed_1 := ⟨start1.p0, start1.e0, start1.about1, start1.theMethod, start1.args0, start1.below0, start1.atStart⟩
end Jvm.Pilot.@@N@@
