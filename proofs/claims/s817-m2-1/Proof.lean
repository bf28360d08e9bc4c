import JvmDerived
import JvmDerived.Pilot.@@N@@Statement
import JvmDerived.Pilot.@@N@@Code
set_option linter.unusedVariables false
set_option linter.unusedSimpArgs false
@@BLOCK:NumsL.lean.txt@@
/- laws to paste: Road.backV (cut by pick.py; bodies as the Statement names them) -/
namespace Jvm.Pilot.@@N@@
namespace StrChars
open Jvm Sem ClassFile Op Lib Jvm.Stand Jvm.Free.XT Jvm.Free.ALB Jvm.Free.JM Jvm.Free
open Jvm.Lib.Cold (StaticIs)
/-- a char array whose places are chars -/
def Ch (a : Addr) (A : Cell) (U : State) : Prop := Arr .char a A U ∧ Typed .char A
theorem Ch.mv {a : Addr} {A : Cell} {U U' : State} (h : Ch a A U) (hal : U.vm.Alike U'.vm) (hh : U'.heap = U.heap) : Ch a A U' := ⟨h.1.mv hal hh, h.2⟩
theorem Ch.keep {a : Addr} {A : Cell} {U U' : State} (h : Ch a A U) (hal : U.vm.Alike U'.vm) (hk : U'.heap[a]? = some A) : Ch a A U' := ⟨h.1.keep hal hk, h.2⟩
/-- what place i of a char[]'s cell holds -/
def cv (A : Cell) (i : Nat) : Int32 := match A.slots[i]? with | some (.int x) => x | _ => 0
theorem Ch.get {a : Addr} {A : Cell} {U : State} (h : Ch a A U) {i : Nat} (hi : i < A.slots.size) : A.slots[i]? = some (.int (cv A i)) := by
  have e := Array.getElem?_eq_getElem hi
  have f := h.2 i _ e
  unfold cv; rw [e]
  generalize A.slots[i] = v at f
  cases v <;> simp [fits] at f ⊢
/-- the byte that i2b leaves of a char -/
def lo8 (x : Int32) : Int32 := x.toInt8.toInt32
theorem fits_lo8 (y : Int32) : fits .byte (.int (lo8 y)) = true := by
  have h1 := y.toInt8.le_toInt
  have h2 := y.toInt8.toInt_lt
  simp only [lo8, fits, Bool.and_eq_true, decide_eq_true_eq, Int32.le_iff_toInt_le, Int8.toInt_toInt32, show (-128 : Int32).toInt = -128 from by decide, show (127 : Int32).toInt = 127 from by decide]
  omega
/-- A' is A but that each place j of lo .. hi - 1 holds f j -/
def Laid (A A' : Cell) (lo hi : Nat) (f : Nat → Value) : Prop := A'.cls = A.cls ∧ A'.vm = A.vm ∧ A'.slots.size = A.slots.size ∧ ∀ i, A'.slots[i]? = if lo ≤ i ∧ i < hi then some (f i) else A.slots[i]?
theorem Laid.zero (A : Cell) (lo : Nat) (f : Nat → Value) : Laid A A lo (lo + 0) f := ⟨rfl, rfl, rfl, fun i => by rw [if_neg (by omega)]⟩
theorem Laid.step {A Ak : Cell} {lo k : Nat} {f : Nat → Value} {v : Value} (h : Laid A Ak lo k f) (hlo : lo ≤ k) (hk : k < Ak.slots.size) (hv : v = f k) : Laid A (Ak.setSlot k v) lo (k + 1) f := by
  refine ⟨h.1, h.2.1, by simpa [Cell.setSlot] using h.2.2.1, fun i => ?_⟩
  by_cases e : k = i
  · subst e; rw [Cell.slots_setSlot_self v hk, if_pos (by omega), hv]
  · rw [Cell.slots_setSlot_ne v e, h.2.2.2 i]
    by_cases q : lo ≤ i ∧ i < k
    · rw [if_pos q, if_pos (by omega)]
    · rw [if_neg q, if_neg (by omega)]
def U16 : String := "java/lang/StringUTF16"
namespace Cmp5
def yN : MethodName := ⟨"java/lang/StringUTF16", "compress", "([CI[BII)I"⟩
abbrev yB : ByteArray := jdk_52_method_21_code
theorem d0 : decode yB 0 = .ok (.iconst 0, 1) := by decide +kernel
theorem d1 : decode yB 1 = .ok (.istore 5, 2) := by decide +kernel
theorem d3 : decode yB 3 = .ok (.iload 5, 2) := by decide +kernel
theorem d5 : decode yB 5 = .ok (.iload 4, 2) := by decide +kernel
theorem d7 : decode yB 7 = .ok (.if_icmp (.ge) 37, 3) := by decide +kernel
theorem d10 : decode yB 10 = .ok (.aload_n 0, 1) := by decide +kernel
theorem d11 : decode yB 11 = .ok (.iload_n 1, 1) := by decide +kernel
theorem d12 : decode yB 12 = .ok (.caload, 1) := by decide +kernel
theorem d13 : decode yB 13 = .ok (.istore 6, 2) := by decide +kernel
theorem d15 : decode yB 15 = .ok (.iload 6, 2) := by decide +kernel
theorem d17 : decode yB 17 = .ok (.sipush 255, 3) := by decide +kernel
theorem d20 : decode yB 20 = .ok (.if_icmp (.le) 6, 3) := by decide +kernel
theorem d26 : decode yB 26 = .ok (.aload_n 2, 1) := by decide +kernel
theorem d27 : decode yB 27 = .ok (.iload_n 3, 1) := by decide +kernel
theorem d28 : decode yB 28 = .ok (.iload 6, 2) := by decide +kernel
theorem d30 : decode yB 30 = .ok (.i2b, 1) := by decide +kernel
theorem d31 : decode yB 31 = .ok (.bastore, 1) := by decide +kernel
theorem d32 : decode yB 32 = .ok (.iinc 1 1, 3) := by decide +kernel
theorem d35 : decode yB 35 = .ok (.iinc 3 1, 3) := by decide +kernel
theorem d38 : decode yB 38 = .ok (.iinc 5 1, 3) := by decide +kernel
theorem d41 : decode yB 41 = .ok (.goto (-38), 3) := by decide +kernel
theorem d44 : decode yB 44 = .ok (.iload 4, 2) := by decide +kernel
theorem d46 : decode yB 46 = .ok (.ireturn, 1) := by decide +kernel
def site : List Cond := []
def tab : Cond := tabOf yN yB 7 (some .int) site
def P (b : Addr) (A : Cell) (d : Addr) (B : Cell) (o q len : Nat) (args : Array Value) (s : State) : Prop := args = #[.ref b, .int (Int32.ofNat o), .ref d, .int (Int32.ofNat q), .int (Int32.ofNat len)] ∧ Ch b A s ∧ Arr .byte d B s ∧ b ≠ d ∧ o + len ≤ A.slots.size ∧ q + len ≤ B.slots.size ∧ ∀ i, i < len → ¬ 255 < cv A (o + i)
def E (b : Addr) (A : Cell) (d : Addr) (B : Cell) (o q len : Nat) (r : Option Value) (s u : State) : Prop := r = some (.int (Int32.ofNat len)) ∧ ∃ B', Put d B' s u ∧ Laid B B' q (q + len) (fun j => Value.int (lo8 (cv A (o + (j - q)))))
/-- no char of the range above 255: len; the places written hold each char's low byte -/
theorem law (l : Launch) (b : Addr) (A : Cell) (d : Addr) (B : Cell) (o q len : Nat) : Law l yN 5 5 0 0 yB 7 (some .int) site (P b A d B o q len) (E b A d B o q len) (copyLocs d q len) 0 0 := by
  refine Law.of_walk (plainFor_of_name (by decide +kernel)) (by decide +kernel) (by decide +kernel) (by decide) (fun _ _ h => by rw [h.1]; rfl) (fun _ U U' hal hh h => ⟨h.1, h.2.1.mv hal hh, h.2.2.1.mv hal hh, h.2.2.2⟩) (fun r U U' V V' h1 hal h2 h => ⟨h.1, h.2.elim fun B' q => ⟨B', q.1.mv h1 h2, q.2⟩⟩) ?_
  intro p e s m args below meth c s₁ X0 hexec hbytes hml hret hlk hnm hown hh0 W hP
  obtain ⟨rfl, hA, hB, hne, l1, l2, hp⟩ := hP
  have c1 : Steps p.tables e below (s₁.setTop (entryFrame m #[.ref b, .int (Int32.ofNat o), .ref d, .int (Int32.ofNat q), .int (Int32.ofNat len)] 7)) (s₁.setTop (mkF m 0 #[.val (.ref b), .val (.int (Int32.ofNat o)), .val (.ref d), .val (.int (Int32.ofNat q)), .val (.int (Int32.ofNat len)), .unset, .unset] [])) := entry rfl
  have hA0 := hA.1.mv X0.warmed.alike hh0
  have hB0 := hB.mv X0.warmed.alike hh0
  have a31 := hA.1.2.2.2
  have c2 : Steps p.tables e below (s₁.setTop (entryFrame m #[.ref b, .int (Int32.ofNat o), .ref d, .int (Int32.ofNat q), .int (Int32.ofNat len)] 7)) (s₁.setTop (mkF m 3 #[.val (.ref b), .val (.int (Int32.ofNat o)), .val (.ref d), .val (.int (Int32.ofNat q)), .val (.int (Int32.ofNat len)), .val (.int 0), .unset] [])) := c1.trans (by
    refine iconstV X0.here hexec rfl 0 (hb hbytes d0) (by decide) ?_
    refine XS.istore X0.here hexec rfl (hb hbytes d1) rfl rfl ?_
    exact Steps.refl _)
  have loop : ∀ (r i : Nat), i + r = len → ∀ (z : Slot), (z = .unset ∨ ∃ w, z = .val w ∧ w.category = 1) → ∀ (Tl : State) (Bk : Cell), Stand p l e { frames := 0, locals := 0, cells := 0, slots := 0 } s m #[.ref b, .int (Int32.ofNat o), .ref d, .int (Int32.ofNat q), .int (Int32.ofNat len)] below meth c Tl ([] ++ copyLocs d q i) 0 0 → Put d Bk s₁ Tl → Laid B Bk q (q + i) (fun j => Value.int (lo8 (cv A (o + (j - q))))) →
      Steps p.tables e below (s₁.setTop (entryFrame m #[.ref b, .int (Int32.ofNat o), .ref d, .int (Int32.ofNat q), .int (Int32.ofNat len)] 7)) (Tl.setTop (mkF m 3 #[.val (.ref b), .val (.int (Int32.ofNat (o + i))), .val (.ref d), .val (.int (Int32.ofNat (q + i))), .val (.int (Int32.ofNat len)), .val (.int (Int32.ofNat i)), z] [])) → ∃ (T' : State) (B' : Cell) (z' : Slot), Stand p l e { frames := 0, locals := 0, cells := 0, slots := 0 } s m #[.ref b, .int (Int32.ofNat o), .ref d, .int (Int32.ofNat q), .int (Int32.ofNat len)] below meth c T' ([] ++ copyLocs d q len) 0 0 ∧ Put d B' s₁ T' ∧ Laid B B' q (q + len) (fun j => Value.int (lo8 (cv A (o + (j - q))))) ∧
      Steps p.tables e below (s₁.setTop (entryFrame m #[.ref b, .int (Int32.ofNat o), .ref d, .int (Int32.ofNat q), .int (Int32.ofNat len)] 7)) (T'.setTop (mkF m 3 #[.val (.ref b), .val (.int (Int32.ofNat (o + len))), .val (.ref d), .val (.int (Int32.ofNat (q + len))), .val (.int (Int32.ofNat len)), .val (.int (Int32.ofNat len)), z'] [])) := by
    intro r
    induction r with
    | zero =>
      intro i hi z hz Tl Bk Xl pl fl cl
      have hil : i = len := by omega
      rw [hil] at Xl fl cl
      exact ⟨Tl, Bk, z, Xl, pl, fl, cl⟩
    | succ r ih =>
      intro i hi z hz Tl Bk Xl pl fl cl
      have all := X0.warmed.alike.symm.trans Xl.warmed.alike
      have hAl := hA0.keep all (pl.other hne hA0.1)
      have hBk := hB0.like all pl.1 fl.1 fl.2.1 fl.2.2.1
      have hlt : q + i < Bk.slots.size := by rw [fl.2.2.1]; omega
      have c3 : Steps p.tables e below (s₁.setTop (entryFrame m #[.ref b, .int (Int32.ofNat o), .ref d, .int (Int32.ofNat q), .int (Int32.ofNat len)] 7)) (Tl.setTop (mkF m 12 #[.val (.ref b), .val (.int (Int32.ofNat (o + i))), .val (.ref d), .val (.int (Int32.ofNat (q + i))), .val (.int (Int32.ofNat len)), .val (.int (Int32.ofNat i)), z] [.int (Int32.ofNat (o + i)), .ref b])) := cl.trans (by
        refine XS.iload Xl.here hexec rfl (hb hbytes d3) rfl ?_
        refine XS.iload Xl.here hexec rfl (hb hbytes d5) rfl ?_
        refine XS.icmpNo Xl.here hexec rfl (hb hbytes d7) rfl (ii_ge_f (lt32 (by omega) (by omega))) ?_
        refine XS.aloadN Xl.here hexec rfl (hb hbytes d10) rfl rfl ?_
        refine XS.iloadN Xl.here hexec rfl (hb hbytes d11) rfl ?_
        exact Steps.refl _)
      have c4 : Steps p.tables e below (s₁.setTop (entryFrame m #[.ref b, .int (Int32.ofNat o), .ref d, .int (Int32.ofNat q), .int (Int32.ofNat len)] 7)) (Tl.setTop (mkF m 13 #[.val (.ref b), .val (.int (Int32.ofNat (o + i))), .val (.ref d), .val (.int (Int32.ofNat (q + i))), .val (.int (Int32.ofNat len)), .val (.int (Int32.ofNat i)), z] [.int (cv A (o + i))])) := c3.trans (by
        refine Xl.aget hexec hAl rfl (hA.get (i := o + i) (by omega)) rfl rfl (hb hbytes d12) ?_
        exact Steps.refl _)
      have c5 : Steps p.tables e below (s₁.setTop (entryFrame m #[.ref b, .int (Int32.ofNat o), .ref d, .int (Int32.ofNat q), .int (Int32.ofNat len)] 7)) (Tl.setTop (mkF m 15 #[.val (.ref b), .val (.int (Int32.ofNat (o + i))), .val (.ref d), .val (.int (Int32.ofNat (q + i))), .val (.int (Int32.ofNat len)), .val (.int (Int32.ofNat i)), .val (.int (cv A (o + i)))] [])) := c4.trans (by
        refine XS.istoreS Xl.here hexec rfl (hb hbytes d13) rfl rfl hz ?_
        exact Steps.refl _)
      have c6 : Steps p.tables e below (s₁.setTop (entryFrame m #[.ref b, .int (Int32.ofNat o), .ref d, .int (Int32.ofNat q), .int (Int32.ofNat len)] 7)) (Tl.setTop (mkF m 31 #[.val (.ref b), .val (.int (Int32.ofNat (o + i))), .val (.ref d), .val (.int (Int32.ofNat (q + i))), .val (.int (Int32.ofNat len)), .val (.int (Int32.ofNat i)), .val (.int (cv A (o + i)))] [.int (lo8 (cv A (o + i))), .int (Int32.ofNat (q + i)), .ref d])) := c5.trans (by
        refine XS.iload Xl.here hexec rfl (hb hbytes d15) rfl ?_
        refine sipushV Xl.here hexec rfl 255 (hb hbytes d17) (by decide) ?_
        refine XS.icmpYes Xl.here hexec rfl (pc0 := 20) rfl (hb hbytes d20) rfl (ii_le_t (hp i (by omega))) (by decide) rfl ?_
        refine XS.aloadN Xl.here hexec rfl (hb hbytes d26) rfl rfl ?_
        refine XS.iloadN Xl.here hexec rfl (hb hbytes d27) rfl ?_
        refine XS.iload Xl.here hexec rfl (hb hbytes d28) rfl ?_
        refine i2b Xl.here hexec rfl (hb hbytes d30) rfl ?_
        exact Steps.refl _)
      obtain ⟨T7, X7, p7, st7⟩ := Xl.aput hexec hBk rfl hlt rfl (fits_lo8 (cv A (o + i))) (g := (mkF m 31 #[.val (.ref b), .val (.int (Int32.ofNat (o + i))), .val (.ref d), .val (.int (Int32.ofNat (q + i))), .val (.int (Int32.ofNat len)), .val (.int (Int32.ofNat i)), .val (.int (cv A (o + i)))] [.int (lo8 (cv A (o + i))), .int (Int32.ofNat (q + i)), .ref d])) rfl (rest := []) rfl (hb hbytes d31)
      have c8 : Steps p.tables e below (s₁.setTop (entryFrame m #[.ref b, .int (Int32.ofNat o), .ref d, .int (Int32.ofNat q), .int (Int32.ofNat len)] 7)) (T7.setTop (mkF m 32 #[.val (.ref b), .val (.int (Int32.ofNat (o + i))), .val (.ref d), .val (.int (Int32.ofNat (q + i))), .val (.int (Int32.ofNat len)), .val (.int (Int32.ofNat i)), .val (.int (cv A (o + i)))] [])) := c6.trans (st7 _ (Steps.refl _))
      have c9 : Steps p.tables e below (s₁.setTop (entryFrame m #[.ref b, .int (Int32.ofNat o), .ref d, .int (Int32.ofNat q), .int (Int32.ofNat len)] 7)) (T7.setTop (mkF m 3 #[.val (.ref b), .val (.int (Int32.ofNat (o + i) + 1)), .val (.ref d), .val (.int (Int32.ofNat (q + i) + 1)), .val (.int (Int32.ofNat len)), .val (.int (Int32.ofNat i + 1)), .val (.int (cv A (o + i)))] [])) := c8.trans (by
        refine iincV X7.here hexec rfl 1 (hb hbytes d32) (by decide) rfl rfl ?_
        refine iincV X7.here hexec rfl 1 (hb hbytes d35) (by decide) rfl rfl ?_
        refine iincV X7.here hexec rfl 1 (hb hbytes d38) (by decide) rfl rfl ?_
        refine XS.goto X7.here hexec rfl (pc0 := 41) rfl (hb hbytes d41) (by decide) rfl ?_
        exact Steps.refl _)
      have c10 : Steps p.tables e below (s₁.setTop (entryFrame m #[.ref b, .int (Int32.ofNat o), .ref d, .int (Int32.ofNat q), .int (Int32.ofNat len)] 7)) (T7.setTop (mkF m 3 #[.val (.ref b), .val (.int (Int32.ofNat (o + (i + 1)))), .val (.ref d), .val (.int (Int32.ofNat (q + (i + 1)))), .val (.int (Int32.ofNat len)), .val (.int (Int32.ofNat (i + 1))), .val (.int (cv A (o + i)))] [])) := by
        have := c9
        rw [succ32, succ32, succ32] at this
        exact this
      exact ih (i + 1) (by omega) _ (Or.inr ⟨_, rfl, rfl⟩) T7 _ (by rw [copyLocs_step, ← List.append_assoc]; exact X7) (pl.trans p7) (fl.step (by omega) hlt (by simp)) c10
  obtain ⟨T9, B9, z9, X9, p9, f9, g9⟩ := loop len 0 (by omega) .unset (Or.inl rfl) s₁ B (by simpa [copyLocs] using X0) ⟨hB0.1, fun _ _ => rfl, rfl⟩ (Laid.zero _ _ _) c2
  have c11 : Steps p.tables e below (s₁.setTop (entryFrame m #[.ref b, .int (Int32.ofNat o), .ref d, .int (Int32.ofNat q), .int (Int32.ofNat len)] 7)) (T9.setTop (mkF m 46 #[.val (.ref b), .val (.int (Int32.ofNat (o + len))), .val (.ref d), .val (.int (Int32.ofNat (q + len))), .val (.int (Int32.ofNat len)), .val (.int (Int32.ofNat len)), z9] [.int (Int32.ofNat len)])) := g9.trans (by
    refine XS.iload X9.here hexec rfl (hb hbytes d3) rfl ?_
    refine XS.iload X9.here hexec rfl (hb hbytes d5) rfl ?_
    refine XS.icmpYes X9.here hexec rfl (pc0 := 7) rfl (hb hbytes d7) rfl (ii_ge_t (nlt32 (by omega) (Nat.le_refl _))) (by decide) rfl ?_
    refine XS.iload X9.here hexec rfl (hb hbytes d44) rfl ?_
    exact Steps.refl _)
  exact ⟨T9, some (.int (Int32.ofNat len)), _, _, _, X9, by simp, rfl, rfl, (fun h => by cases h), ⟨rfl, B9, p9.from hh0, f9⟩, fun fs hl => c11.trans (X9.ireturnOut hexec hret rfl (Or.inl rfl) (hb hbytes d46) hl)⟩
end Cmp5
namespace Cmp3
def yN : MethodName := ⟨"java/lang/StringUTF16", "compress", "([CII)[B"⟩
abbrev yB : ByteArray := jdk_52_method_16_code
theorem d0 : decode yB 0 = .ok (.iload_n 2, 1) := by decide +kernel
theorem d1 : decode yB 1 = .ok (.newarray .byte, 2) := by decide +kernel
theorem d3 : decode yB 3 = .ok (.astore_n 3, 1) := by decide +kernel
theorem d4 : decode yB 4 = .ok (.aload_n 0, 1) := by decide +kernel
theorem d5 : decode yB 5 = .ok (.iload_n 1, 1) := by decide +kernel
theorem d6 : decode yB 6 = .ok (.aload_n 3, 1) := by decide +kernel
theorem d7 : decode yB 7 = .ok (.iconst 0, 1) := by decide +kernel
theorem d8 : decode yB 8 = .ok (.iload_n 2, 1) := by decide +kernel
theorem d9 : decode yB 9 = .ok (.invokestatic 115, 3) := by decide +kernel
theorem d12 : decode yB 12 = .ok (.istore 4, 2) := by decide +kernel
theorem d14 : decode yB 14 = .ok (.iload 4, 2) := by decide +kernel
theorem d16 : decode yB 16 = .ok (.iload_n 2, 1) := by decide +kernel
theorem d17 : decode yB 17 = .ok (.if_icmp (.eq) 40, 3) := by decide +kernel
theorem d57 : decode yB 57 = .ok (.aload_n 3, 1) := by decide +kernel
theorem d58 : decode yB 58 = .ok (.areturn, 1) := by decide +kernel
def site : List Cond := [.arrayClass .byte, Cmp5.tab] ++ staticW U16 115 Cmp5.yN
def tab : Cond := tabOf yN yB 6 (some (.array .byte)) site
def P (b : Addr) (A : Cell) (o len : Nat) (args : Array Value) (s : State) : Prop := args = #[.ref b, .int (Int32.ofNat o), .int (Int32.ofNat len)] ∧ Ch b A s ∧ o + len ≤ A.slots.size ∧ len ≤ 536870912 ∧ ∀ i, i < len → ¬ 255 < cv A (o + i)
def E (b : Addr) (A : Cell) (o len : Nat) (r : Option Value) (s u : State) : Prop := NewArr .byte "[B" len (fun j => .int (lo8 (cv A (o + j)))) r s u ∧ u.heap.size = s.heap.size + 1
/-- no char of the range above 255: a new byte[] of their low bytes -/
theorem law (l : Launch) (b : Addr) (A : Cell) (o len : Nat) : Law l yN 3 3 1 18 yB 6 (some (.array .byte)) site (P b A o len) (E b A o len) [] 1 len := by
  refine Law.of_walk (plainFor_of_name (by decide +kernel)) (by decide +kernel) (by decide +kernel) (by decide) (fun _ _ h => by rw [h.1]; rfl) (fun _ U U' hal hh h => ⟨h.1, h.2.1.mv hal hh, h.2.2⟩) (fun r U U' V V' h1 hal h2 h => ⟨NewArr.mv r U U' V V' h1 hal h2 h.1, by rw [h1, h2]; exact h.2⟩) ?_
  intro p e s m args below meth c s₁ X0 hexec hbytes hml hret hlk hnm hown hh0 W hP
  obtain ⟨rfl, hA, l1, l2, hp⟩ := hP
  have a31 := hA.1.2.2.2
  have c1 : Steps p.tables e below (s₁.setTop (entryFrame m #[.ref b, .int (Int32.ofNat o), .int (Int32.ofNat len)] 6)) (s₁.setTop (mkF m 0 #[.val (.ref b), .val (.int (Int32.ofNat o)), .val (.int (Int32.ofNat len)), .unset, .unset, .unset] [])) := entry rfl
  have c2 : Steps p.tables e below (s₁.setTop (entryFrame m #[.ref b, .int (Int32.ofNat o), .int (Int32.ofNat len)] 6)) (s₁.setTop (mkF m 1 #[.val (.ref b), .val (.int (Int32.ofNat o)), .val (.int (Int32.ofNat len)), .unset, .unset, .unset] [.int (Int32.ofNat len)])) := c1.trans (by
    refine XS.iloadN X0.here hexec rfl (hb hbytes d0) rfl ?_
    exact Steps.refl _)
  obtain ⟨T3, B3, X3, ba3, bs3, bv3, bh3, bf3, st3⟩ := X0.anew hexec (atype := .byte) (wk W (.arrayClass .byte)) rfl (by show len * 1 ≤ _; omega) (by omega) (g := (mkF m 1 #[.val (.ref b), .val (.int (Int32.ofNat o)), .val (.int (Int32.ofNat len)), .unset, .unset, .unset] [.int (Int32.ofNat len)])) rfl (hb hbytes d1) (rest := []) rfl (Nat.le_refl _) (by show 0 + len ≤ len; omega)
  rw [hh0] at ba3 st3
  have kp3 : XT.Kept s T3 := (XT.Kept.of_eq hh0).push bh3
  have hA3 := hA.keep X3.warmed.alike (kp3 _ _ hA.1.1)
  have hne : b ≠ s.heap.size := hA.1.ne
  have c4 : Steps p.tables e below (s₁.setTop (entryFrame m #[.ref b, .int (Int32.ofNat o), .int (Int32.ofNat len)] 6)) (T3.setTop (mkF m 3 #[.val (.ref b), .val (.int (Int32.ofNat o)), .val (.int (Int32.ofNat len)), .unset, .unset, .unset] [.ref s.heap.size])) := c2.trans (st3 _ (Steps.refl _))
  have c5 : Steps p.tables e below (s₁.setTop (entryFrame m #[.ref b, .int (Int32.ofNat o), .int (Int32.ofNat len)] 6)) (T3.setTop (mkF m 9 #[.val (.ref b), .val (.int (Int32.ofNat o)), .val (.int (Int32.ofNat len)), .val (.ref s.heap.size), .unset, .unset] [.int (Int32.ofNat len), .int 0, .ref s.heap.size, .int (Int32.ofNat o), .ref b])) := c4.trans (by
    refine XS.astoreN X3.here hexec rfl (hb hbytes d3) rfl rfl rfl ?_
    refine XS.aloadN X3.here hexec rfl (hb hbytes d4) rfl rfl ?_
    refine XS.iloadN X3.here hexec rfl (hb hbytes d5) rfl ?_
    refine XS.aloadN X3.here hexec rfl (hb hbytes d6) rfl rfl ?_
    refine iconstV X3.here hexec rfl 0 (hb hbytes d7) (by decide) ?_
    refine XS.iloadN X3.here hexec rfl (hb hbytes d8) rfl ?_
    exact Steps.refl _)
  obtain ⟨v6, T6, X6, E6, g6⟩ := X3.callS hexec (Cmp5.law l b A s.heap.size B3 o 0 len) hown (wks W (staticW U16 115 Cmp5.yN)) (wk W Cmp5.tab) (W := 0) (Nat.le_of_ble_eq_true rfl) (Nat.le_of_ble_eq_true rfl) (Nat.le_refl _) (by show 0 + len + 0 ≤ len; omega) (g := (mkF m 9 #[.val (.ref b), .val (.int (Int32.ofNat o)), .val (.int (Int32.ofNat len)), .val (.ref s.heap.size), .unset, .unset] [.int (Int32.ofNat len), .int (Int32.ofNat 0), .ref s.heap.size, .int (Int32.ofNat o), .ref b])) rfl (by rw [hml]; rfl) c5 (argsL := [.ref b, .int (Int32.ofNat o), .ref s.heap.size, .int (Int32.ofNat 0), .int (Int32.ofNat len)]) (rest := []) rfl rfl (by show 2 * 0 + 0 ≤ _; decide) (hb hbytes d9) (⟨rfl, hA3, ba3, hne, l1, by rw [bs3]; simp, hp⟩)
  obtain ⟨rfl, B6, p6, f6⟩ := E6
  have c7 : Steps p.tables e below (s₁.setTop (entryFrame m #[.ref b, .int (Int32.ofNat o), .int (Int32.ofNat len)] 6)) (T6.setTop (mkF m 12 #[.val (.ref b), .val (.int (Int32.ofNat o)), .val (.int (Int32.ofNat len)), .val (.ref s.heap.size), .unset, .unset] [.int (Int32.ofNat len)])) := g6
  have c8 : Steps p.tables e below (s₁.setTop (entryFrame m #[.ref b, .int (Int32.ofNat o), .int (Int32.ofNat len)] 6)) (T6.setTop (mkF m 58 #[.val (.ref b), .val (.int (Int32.ofNat o)), .val (.int (Int32.ofNat len)), .val (.ref s.heap.size), .val (.int (Int32.ofNat len)), .unset] [.ref s.heap.size])) := c7.trans (by
    refine XS.istore X6.here hexec rfl (hb hbytes d12) rfl rfl ?_
    refine XS.iload X6.here hexec rfl (hb hbytes d14) rfl ?_
    refine XS.iloadN X6.here hexec rfl (hb hbytes d16) rfl ?_
    refine XS.icmpYes X6.here hexec rfl (pc0 := 17) rfl (hb hbytes d17) rfl (ii_eq_t rfl) (by decide) rfl ?_
    refine XS.aloadN X6.here hexec rfl (hb hbytes d57) rfl rfl ?_
    exact Steps.refl _)
  have X8 := X6.wide (L' := []) (cells' := 1) (slots' := len) (fun x hx hlt => by
    simp only [List.nil_append, copyLocs, List.mem_map, List.mem_range] at hx
    obtain ⟨i, -, rfl⟩ := hx
    exact absurd hlt (Nat.lt_irrefl _)) (Nat.le_refl _) (by omega)
  exact ⟨T6, some (.ref s.heap.size), _, _, _, X8, rfl, rfl, rfl, (fun h => by cases h), ⟨⟨rfl, B6, ba3.like (X3.warmed.alike.symm.trans X6.warmed.alike) p6.1 f6.1 f6.2.1 f6.2.2.1, f6.2.1.trans bv3, by rw [X6.warmed.alike.findClass, f6.1]; exact bf3, by rw [f6.2.2.1, bs3]; simp, fun j hj => by rw [f6.2.2.2 j, if_pos (by omega)]; rfl, kp3.put p6 (Nat.le_refl _)⟩, by rw [p6.2.2, bh3, hh0]; simp⟩, fun fs hl => c8.trans (X8.areturnOut hexec rfl hret rfl (hb hbytes d58) hl)⟩
end Cmp3
namespace CodL
def yN : MethodName := ⟨"java/lang/StringUTF16", "coderFromArrayLen", "([BI)B"⟩
abbrev yB : ByteArray := jdk_52_method_15_code
theorem d0 : decode yB 0 = .ok (.iload_n 1, 1) := by decide +kernel
theorem d1 : decode yB 1 = .ok (.aload_n 0, 1) := by decide +kernel
theorem d2 : decode yB 2 = .ok (.arraylength, 1) := by decide +kernel
theorem d3 : decode yB 3 = .ok (.isub, 1) := by decide +kernel
theorem d4 : decode yB 4 = .ok (.bipush 31, 2) := by decide +kernel
theorem d6 : decode yB 6 = .ok (.iushr, 1) := by decide +kernel
theorem d7 : decode yB 7 = .ok (.i2b, 1) := by decide +kernel
theorem d8 : decode yB 8 = .ok (.ireturn, 1) := by decide +kernel
def site : List Cond := []
def tab : Cond := tabOf yN yB 2 (some .byte) site
def P (d : Addr) (B : Cell) (args : Array Value) (s : State) : Prop := args = #[.ref d, .int (Int32.ofNat B.slots.size)] ∧ Arr .byte d B s
def E (r : Option Value) (s u : State) : Prop := XT.PureE (some (.int 0)) r s u
/-- an array as long as the number of chars: LATIN1 -/
theorem law (l : Launch) (d : Addr) (B : Cell) : Law l yN 2 2 0 0 yB 2 (some .byte) site (P d B) E [] 0 0 := by
  refine Law.of_walk (plainFor_of_name (by decide +kernel)) (by decide +kernel) (by decide +kernel) (by decide) (fun _ _ h => by rw [h.1]; rfl) (fun _ U U' hal hh h => ⟨h.1, h.2.mv hal hh⟩) (fun r U U' V V' h1 hal h2 h => XT.PureE.mv r U U' V V' h1 hal h2 h) ?_
  intro p e s m args below meth c s₁ X0 hexec hbytes hml hret hlk hnm hown hh0 W hP
  obtain ⟨rfl, hB⟩ := hP
  have hB0 := hB.mv X0.warmed.alike hh0
  have c1 : Steps p.tables e below (s₁.setTop (entryFrame m #[.ref d, .int (Int32.ofNat B.slots.size)] 2)) (s₁.setTop (mkF m 0 #[.val (.ref d), .val (.int (Int32.ofNat B.slots.size))] [])) := entry rfl
  have c2 : Steps p.tables e below (s₁.setTop (entryFrame m #[.ref d, .int (Int32.ofNat B.slots.size)] 2)) (s₁.setTop (mkF m 2 #[.val (.ref d), .val (.int (Int32.ofNat B.slots.size))] [.ref d, .int (Int32.ofNat B.slots.size)])) := c1.trans (by
    refine XS.iloadN X0.here hexec rfl (hb hbytes d0) rfl ?_
    refine XS.aloadN X0.here hexec rfl (hb hbytes d1) rfl rfl ?_
    exact Steps.refl _)
  have c3 : Steps p.tables e below (s₁.setTop (entryFrame m #[.ref d, .int (Int32.ofNat B.slots.size)] 2)) (s₁.setTop (mkF m 8 #[.val (.ref d), .val (.int (Int32.ofNat B.slots.size))] [.int (lo8 (ushr (Int32.ofNat B.slots.size - Int32.ofNat B.slots.size) 31))])) := c2.trans (by
    refine X0.alen hexec hB0 rfl rfl (hb hbytes d2) ?_
    refine XS.isub X0.here hexec rfl (hb hbytes d3) rfl ?_
    refine bipushV X0.here hexec rfl 31 (hb hbytes d4) (by decide) ?_
    refine iushr X0.here hexec rfl (hb hbytes d6) rfl ?_
    refine i2b X0.here hexec rfl (hb hbytes d7) rfl ?_
    exact Steps.refl _)
  have e0 : lo8 (ushr (Int32.ofNat B.slots.size - Int32.ofNat B.slots.size) 31) = 0 := by rw [Int32.sub_self]; decide
  rw [e0] at c3
  exact ⟨s₁, some (.int 0), _, _, _, X0, rfl, rfl, rfl, (fun h => by cases h), ⟨rfl, hh0⟩, fun fs hl => c3.trans (X0.ireturnOut hexec hret rfl (Or.inr (Or.inr (Or.inl rfl))) (hb hbytes d8) hl)⟩
end CodL
/-- the String at a is Latin-1 over a new byte[] (the heap's one new cell): the low bytes of the len chars of A from o on; every cell but a is kept -/
def Got (a : Addr) (D : Cell) (fV fC : Field) (A : Cell) (o len : Nat) (r : Option Value) (s u : State) : Prop := r = none ∧ ∃ D' V : Cell, Blank "java/lang/String" a D' u ∧ Same D D' [fV.slot, fC.slot] ∧ D'.slots[fV.slot]? = some (.ref s.heap.size) ∧ D'.slots[fC.slot]? = some (.int 0) ∧ Arr .byte s.heap.size V u ∧ V.vm = .none ∧ u.vm.findClass "[B" = some V.cls ∧ V.slots.size = len ∧ (∀ j, j < len → V.slots[j]? = some (.int (lo8 (cv A (o + j))))) ∧ (∀ (y : Addr) (c : Cell), y ≠ a → s.heap[y]? = some c → u.heap[y]? = some c) ∧ u.heap.size = s.heap.size + 1
theorem Got.mv {a : Addr} {D A : Cell} {fV fC : Field} {o len : Nat} : ∀ r (U U' V V' : State), U'.heap = U.heap → V.vm.Alike V'.vm → V'.heap = V.heap → Got a D fV fC A o len r U V → Got a D fV fC A o len r U' V' :=
  fun r U U' V V' h1 hal h2 ⟨e0, D', X, a1, a2, a3, a4, a5, a6, a7, a8, a9, a10, a11⟩ => ⟨e0, D', X, a1.mv hal h2, a2, by rw [h1]; exact a3, a4, by rw [h1]; exact a5.mv hal h2, a6, by rw [hal.findClass]; exact a7, a8, a9, by rw [h1, h2]; exact a10, by rw [h1, h2]; exact a11⟩
namespace New4
def yN : MethodName := ⟨"java/lang/String", "<init>", "([CIILjava/lang/Void;)V"⟩
abbrev yB : ByteArray := jdk_42_method_149_code
theorem d0 : decode yB 0 = .ok (.aload_n 0, 1) := by decide +kernel
theorem d1 : decode yB 1 = .ok (.invokespecial 1, 3) := by decide +kernel
theorem d4 : decode yB 4 = .ok (.iload_n 3, 1) := by decide +kernel
theorem d5 : decode yB 5 = .ok (.ifCond (.ne) 22, 3) := by decide +kernel
theorem d27 : decode yB 27 = .ok (.getstatic 38, 3) := by decide +kernel
theorem d30 : decode yB 30 = .ok (.ifCond (.eq) 28, 3) := by decide +kernel
theorem d33 : decode yB 33 = .ok (.aload_n 1, 1) := by decide +kernel
theorem d34 : decode yB 34 = .ok (.iload_n 2, 1) := by decide +kernel
theorem d35 : decode yB 35 = .ok (.iload_n 3, 1) := by decide +kernel
theorem d36 : decode yB 36 = .ok (.invokestatic 177, 3) := by decide +kernel
theorem d39 : decode yB 39 = .ok (.astore 5, 2) := by decide +kernel
theorem d41 : decode yB 41 = .ok (.aload_n 0, 1) := by decide +kernel
theorem d42 : decode yB 42 = .ok (.aload 5, 2) := by decide +kernel
theorem d44 : decode yB 44 = .ok (.iload_n 3, 1) := by decide +kernel
theorem d45 : decode yB 45 = .ok (.invokestatic 47, 3) := by decide +kernel
theorem d48 : decode yB 48 = .ok (.putfield 15, 3) := by decide +kernel
theorem d51 : decode yB 51 = .ok (.aload_n 0, 1) := by decide +kernel
theorem d52 : decode yB 52 = .ok (.aload 5, 2) := by decide +kernel
theorem d54 : decode yB 54 = .ok (.putfield 9, 3) := by decide +kernel
theorem d57 : decode yB 57 = .ok (.return_, 1) := by decide +kernel
def site : List Cond := [.fieldLink "java/lang/String" 38 "java/lang/String" "COMPACT_STRINGS" "Z", Cmp3.tab, CodL.tab, .laysFinal "java/lang/String" "java/lang/String" "value" "[B", .fieldLink "java/lang/String" 9 "java/lang/String" "value" "[B", .laysFinal "java/lang/String" "java/lang/String" "coder" "B", .fieldLink "java/lang/String" 15 "java/lang/String" "coder" "B"] ++ objW "java/lang/String" 1 ++ staticW "java/lang/String" 177 Cmp3.yN ++ staticW "java/lang/String" 47 CodL.yN
def tab : Cond := tabOf yN yB 6 none site
def P (a : Addr) (D : Cell) (fV fC : Field) (b : Addr) (A : Cell) (z : Int32) (o len : Nat) (args : Array Value) (s : State) : Prop := args = #[.ref a, .ref b, .int (Int32.ofNat o), .int (Int32.ofNat len), .null] ∧ Blank "java/lang/String" a D s ∧ Found "java/lang/String" "value" "[B" fV s ∧ Found "java/lang/String" "coder" "B" fC s ∧ Ch b A s ∧ StaticIs s "java/lang/String" "COMPACT_STRINGS" "Z" (.int z) ∧ ¬ z = 0 ∧ 0 < len ∧ o + len ≤ A.slots.size ∧ len ≤ 536870912 ∧ ∀ i, i < len → ¬ 255 < cv A (o + i)
def E (a : Addr) (D : Cell) (fV fC : Field) (A : Cell) (o len : Nat) (r : Option Value) (s u : State) : Prop := Got a D fV fC A o len r s u
/-- len > 0, no char of the range above 255: a Latin-1 String of their low bytes -/
theorem law (l : Launch) (a : Addr) (D : Cell) (fV fC : Field) (b : Addr) (A : Cell) (z : Int32) (o len : Nat) : Law l yN 5 4 2 35 yB 6 none site (P a D fV fC b A z o len) (E a D fV fC A o len) [⟨a, fC.slot⟩, ⟨a, fV.slot⟩] 1 len := by
  refine Law.of_walk (plainFor_of_name (by decide +kernel)) (by decide +kernel) (by decide +kernel) (by decide) (fun _ _ h => by rw [h.1]; rfl) (fun _ U U' hal hh h => ⟨h.1, h.2.1.mv hal hh, h.2.2.1.al hal, h.2.2.2.1.al hal, h.2.2.2.2.1.mv hal hh, h.2.2.2.2.2.1.there hal hh, h.2.2.2.2.2.2⟩) (fun r U U' V V' h1 hal h2 h => Got.mv r U U' V V' h1 hal h2 h) ?_
  intro p e s m args below meth c s₁ X0 hexec hbytes hml hret hlk hnm hown hh0 W hP
  obtain ⟨rfl, hB, f1, f2, hA, s1, hz, l0, l1, l2, hp⟩ := hP
  have a31 := hA.1.2.2.2
  have c1 : Steps p.tables e below (s₁.setTop (entryFrame m #[.ref a, .ref b, .int (Int32.ofNat o), .int (Int32.ofNat len), .null] 6)) (s₁.setTop (mkF m 0 #[.val (.ref a), .val (.ref b), .val (.int (Int32.ofNat o)), .val (.int (Int32.ofNat len)), .val .null, .unset] [])) := entry rfl
  have c2 : Steps p.tables e below (s₁.setTop (entryFrame m #[.ref a, .ref b, .int (Int32.ofNat o), .int (Int32.ofNat len), .null] 6)) (s₁.setTop (mkF m 1 #[.val (.ref a), .val (.ref b), .val (.int (Int32.ofNat o)), .val (.int (Int32.ofNat len)), .val .null, .unset] [.ref a])) := c1.trans (by
    refine XS.aloadN X0.here hexec rfl (hb hbytes d0) rfl rfl ?_
    exact Steps.refl _)
  obtain ⟨T3, X3, q3, st3⟩ := X0.oinit hexec hown (wks W (objW "java/lang/String" 1)) (g := (mkF m 1 #[.val (.ref a), .val (.ref b), .val (.int (Int32.ofNat o)), .val (.int (Int32.ofNat len)), .val .null, .unset] [.ref a])) rfl (by rw [hml]; rfl) (rest := []) rfl (hb hbytes d1) (W := 0) (by show 2 * 0 + 0 ≤ _; decide) (Nat.le_of_ble_eq_true rfl) (Nat.le_of_ble_eq_true rfl)
  have hh3 := q3.trans hh0
  have c4 : Steps p.tables e below (s₁.setTop (entryFrame m #[.ref a, .ref b, .int (Int32.ofNat o), .int (Int32.ofNat len), .null] 6)) (T3.setTop (mkF m 27 #[.val (.ref a), .val (.ref b), .val (.int (Int32.ofNat o)), .val (.int (Int32.ofNat len)), .val .null, .unset] [])) := (c2.trans (st3 _ (Steps.refl _))).trans (by
    refine XS.iloadN X3.here hexec rfl (hb hbytes d4) rfl ?_
    refine XS.ifYes X3.here hexec rfl (pc0 := 5) rfl (hb hbytes d5) rfl (i0_ne_t (nz32 (by omega) l0)) (by decide) rfl ?_
    exact Steps.refl _)
  obtain ⟨T5, X5, q5, st5⟩ := X3.sget hexec hown (wk W (.fieldLink "java/lang/String" 38 "java/lang/String" "COMPACT_STRINGS" "Z")) s1 (fun _ _ h => by rw [hh3]; exact h) (g := (mkF m 27 #[.val (.ref a), .val (.ref b), .val (.int (Int32.ofNat o)), .val (.int (Int32.ofNat len)), .val .null, .unset] [])) rfl (hb hbytes d27)
  have hh5 := q5.trans hh3
  have c6 : Steps p.tables e below (s₁.setTop (entryFrame m #[.ref a, .ref b, .int (Int32.ofNat o), .int (Int32.ofNat len), .null] 6)) (T5.setTop (mkF m 30 #[.val (.ref a), .val (.ref b), .val (.int (Int32.ofNat o)), .val (.int (Int32.ofNat len)), .val .null, .unset] [.int z])) := c4.trans (st5 _ (Steps.refl _))
  have c7 : Steps p.tables e below (s₁.setTop (entryFrame m #[.ref a, .ref b, .int (Int32.ofNat o), .int (Int32.ofNat len), .null] 6)) (T5.setTop (mkF m 36 #[.val (.ref a), .val (.ref b), .val (.int (Int32.ofNat o)), .val (.int (Int32.ofNat len)), .val .null, .unset] [.int (Int32.ofNat len), .int (Int32.ofNat o), .ref b])) := c6.trans (by
    refine XS.ifNo X5.here hexec rfl (hb hbytes d30) rfl (i0_eq_f hz) ?_
    refine XS.aloadN X5.here hexec rfl (hb hbytes d33) rfl rfl ?_
    refine XS.iloadN X5.here hexec rfl (hb hbytes d34) rfl ?_
    refine XS.iloadN X5.here hexec rfl (hb hbytes d35) rfl ?_
    exact Steps.refl _)
  obtain ⟨v8, T8, X8, E8, g8⟩ := X5.callS hexec (Cmp3.law l b A o len) hown (wks W (staticW "java/lang/String" 177 Cmp3.yN)) (wk W Cmp3.tab) (W := 0) (Nat.le_of_ble_eq_true rfl) (Nat.le_of_ble_eq_true rfl) (Nat.le_refl _) (by show 0 + len ≤ len; omega) (g := (mkF m 36 #[.val (.ref a), .val (.ref b), .val (.int (Int32.ofNat o)), .val (.int (Int32.ofNat len)), .val .null, .unset] [.int (Int32.ofNat len), .int (Int32.ofNat o), .ref b])) rfl (by rw [hml]; rfl) c7 (argsL := [.ref b, .int (Int32.ofNat o), .int (Int32.ofNat len)]) (rest := []) rfl rfl (by show 2 * 0 + 0 ≤ _; decide) (hb hbytes d36) (⟨rfl, hA.mv X5.warmed.alike hh5, l1, l2, hp⟩)
  obtain ⟨e8, z8⟩ := E8
  obtain ⟨rfl, N, n1, n2, n3, n4, n5, n6⟩ := NewArr.mv _ T5 s _ _ hh5.symm (Vm.Alike.refl _) rfl e8
  rw [hh5] at z8
  have hB1 := hB.keep X8.warmed.alike (n6 _ _ hB.1)
  have hne : s.heap.size ≠ a := (Nat.ne_of_lt (Array.getElem?_eq_some_iff.mp hB.1).1).symm
  have c9 : Steps p.tables e below (s₁.setTop (entryFrame m #[.ref a, .ref b, .int (Int32.ofNat o), .int (Int32.ofNat len), .null] 6)) (T8.setTop (mkF m 39 #[.val (.ref a), .val (.ref b), .val (.int (Int32.ofNat o)), .val (.int (Int32.ofNat len)), .val .null, .unset] [.ref s.heap.size])) := g8
  have c10 : Steps p.tables e below (s₁.setTop (entryFrame m #[.ref a, .ref b, .int (Int32.ofNat o), .int (Int32.ofNat len), .null] 6)) (T8.setTop (mkF m 45 #[.val (.ref a), .val (.ref b), .val (.int (Int32.ofNat o)), .val (.int (Int32.ofNat len)), .val .null, .val (.ref s.heap.size)] [.int (Int32.ofNat N.slots.size), .ref s.heap.size, .ref a])) := by
    have hc : Steps p.tables e below (s₁.setTop (entryFrame m #[.ref a, .ref b, .int (Int32.ofNat o), .int (Int32.ofNat len), .null] 6)) (T8.setTop (mkF m 45 #[.val (.ref a), .val (.ref b), .val (.int (Int32.ofNat o)), .val (.int (Int32.ofNat len)), .val .null, .val (.ref s.heap.size)] [.int (Int32.ofNat len), .ref s.heap.size, .ref a])) := c9.trans (by
      refine XS.astore X8.here hexec rfl (hb hbytes d39) rfl rfl rfl ?_
      refine XS.aloadN X8.here hexec rfl (hb hbytes d41) rfl rfl ?_
      refine XS.aload X8.here hexec rfl (hb hbytes d42) rfl rfl ?_
      refine XS.iloadN X8.here hexec rfl (hb hbytes d44) rfl ?_
      exact Steps.refl _)
    rw [n4]; exact hc
  obtain ⟨v11, T11, X11, E11, g11⟩ := X8.callS hexec (CodL.law l s.heap.size N) hown (wks W (staticW "java/lang/String" 47 CodL.yN)) (wk W CodL.tab) (W := 1) (Nat.le_of_ble_eq_true rfl) (Nat.le_of_ble_eq_true rfl) (Nat.le_refl _) (by show 0 + len + 0 ≤ len; omega) (g := (mkF m 45 #[.val (.ref a), .val (.ref b), .val (.int (Int32.ofNat o)), .val (.int (Int32.ofNat len)), .val .null, .val (.ref s.heap.size)] [.int (Int32.ofNat N.slots.size), .ref s.heap.size, .ref a])) rfl (by rw [hml]; rfl) c10 (argsL := [.ref s.heap.size, .int (Int32.ofNat N.slots.size)]) (rest := [.ref a]) rfl rfl (by show 2 * 0 + (1 + 0) ≤ _; decide) (hb hbytes d45) (⟨rfl, n1⟩)
  obtain ⟨rfl, q11⟩ := E11
  have hB11 := hB1.mv (X8.warmed.alike.symm.trans X11.warmed.alike) q11
  have c12 : Steps p.tables e below (s₁.setTop (entryFrame m #[.ref a, .ref b, .int (Int32.ofNat o), .int (Int32.ofNat len), .null] 6)) (T11.setTop (mkF m 48 #[.val (.ref a), .val (.ref b), .val (.int (Int32.ofNat o)), .val (.int (Int32.ofNat len)), .val .null, .val (.ref s.heap.size)] [.int 0, .ref a])) := g11
  obtain ⟨T13, X13, p13, bl13, sl13, st13⟩ := X11.finit hexec hown (wk W (.fieldLink "java/lang/String" 15 "java/lang/String" "coder" "B")) (Or.inr ⟨_, (wk W (.laysFinal "java/lang/String" "java/lang/String" "coder" "B"))⟩) (Or.inl ⟨rfl, hnm⟩) f2 (Or.inl rfl) hB11 (t := .byte) (by decide +kernel) rfl (g := (mkF m 48 #[.val (.ref a), .val (.ref b), .val (.int (Int32.ofNat o)), .val (.int (Int32.ofNat len)), .val .null, .val (.ref s.heap.size)] [.int 0, .ref a])) rfl (rest := []) rfl (hb hbytes d48)
  have c14 : Steps p.tables e below (s₁.setTop (entryFrame m #[.ref a, .ref b, .int (Int32.ofNat o), .int (Int32.ofNat len), .null] 6)) (T13.setTop (mkF m 54 #[.val (.ref a), .val (.ref b), .val (.int (Int32.ofNat o)), .val (.int (Int32.ofNat len)), .val .null, .val (.ref s.heap.size)] [.ref s.heap.size, .ref a])) := (c12.trans (st13 _ (Steps.refl _))).trans (by
    refine XS.aloadN X13.here hexec rfl (hb hbytes d51) rfl rfl ?_
    refine XS.aload X13.here hexec rfl (hb hbytes d52) rfl rfl ?_
    exact Steps.refl _)
  obtain ⟨T15, X15, p15, bl15, sl15, st15⟩ := X13.finit hexec hown (wk W (.fieldLink "java/lang/String" 9 "java/lang/String" "value" "[B")) (Or.inr ⟨_, (wk W (.laysFinal "java/lang/String" "java/lang/String" "value" "[B"))⟩) (Or.inl ⟨rfl, hnm⟩) f1 (Or.inl rfl) bl13 (t := (.array .byte)) (by decide +kernel) rfl (g := (mkF m 54 #[.val (.ref a), .val (.ref b), .val (.int (Int32.ofNat o)), .val (.int (Int32.ofNat len)), .val .null, .val (.ref s.heap.size)] [.ref s.heap.size, .ref a])) rfl (rest := []) rfl (hb hbytes d54)
  have c16 : Steps p.tables e below (s₁.setTop (entryFrame m #[.ref a, .ref b, .int (Int32.ofNat o), .int (Int32.ofNat len), .null] 6)) (T15.setTop (mkF m 57 #[.val (.ref a), .val (.ref b), .val (.int (Int32.ofNat o)), .val (.int (Int32.ofNat len)), .val .null, .val (.ref s.heap.size)] [])) := c14.trans (st15 _ (Steps.refl _))
  have ap := apart (Or.inr ⟨_, (wk W (.laysFinal "java/lang/String" "java/lang/String" "value" "[B"))⟩) (Or.inr ⟨_, (wk W (.laysFinal "java/lang/String" "java/lang/String" "coder" "B"))⟩) f1 f2 (t₁ := .array .byte) (t₂ := .byte) (by decide +kernel) (by decide +kernel) (by decide)
  have al := X8.warmed.alike.symm.trans X15.warmed.alike
  have n7 : T11.heap[s.heap.size]? = some N := by rw [q11]; exact n1.1
  exact ⟨T15, none, _, _, _, X15, by simp, rfl, by omega, (fun _ => rfl), ⟨rfl, _, N, bl15, ((Same.refl D _).set _ (by simp)).set _ (by simp), sl15, (Cell.slots_setSlot_ne _ ap).trans sl13, n1.keep al (p15.other hne (p13.other hne n7)), n2, by rw [al.findClass]; exact n3, n4, n5, fun y c h1 h2 => p15.other h1 (p13.other h1 (by rw [q11]; exact n6 y c h2)), by rw [p15.2.2, p13.2.2, q11]; exact z8⟩, fun fs hl => c16.trans (X15.returnOut hexec hret (hb hbytes d57) hl)⟩
end New4
namespace New1
def yN : MethodName := ⟨"java/lang/String", "<init>", "([C)V"⟩
abbrev yB : ByteArray := jdk_42_method_3_code
theorem d0 : decode yB 0 = .ok (.aload_n 0, 1) := by decide +kernel
theorem d1 : decode yB 1 = .ok (.aload_n 1, 1) := by decide +kernel
theorem d2 : decode yB 2 = .ok (.iconst 0, 1) := by decide +kernel
theorem d3 : decode yB 3 = .ok (.aload_n 1, 1) := by decide +kernel
theorem d4 : decode yB 4 = .ok (.arraylength, 1) := by decide +kernel
theorem d5 : decode yB 5 = .ok (.aconst_null, 1) := by decide +kernel
theorem d6 : decode yB 6 = .ok (.invokespecial 27, 3) := by decide +kernel
theorem d9 : decode yB 9 = .ok (.return_, 1) := by decide +kernel
def site : List Cond := [New4.tab] ++ initW "java/lang/String" 27 New4.yN
def tab : Cond := tabOf yN yB 2 none site
def P (a : Addr) (D : Cell) (fV fC : Field) (b : Addr) (A : Cell) (z : Int32) (args : Array Value) (s : State) : Prop := args = #[.ref a, .ref b] ∧ Blank "java/lang/String" a D s ∧ Found "java/lang/String" "value" "[B" fV s ∧ Found "java/lang/String" "coder" "B" fC s ∧ Ch b A s ∧ StaticIs s "java/lang/String" "COMPACT_STRINGS" "Z" (.int z) ∧ ¬ z = 0 ∧ 0 < A.slots.size ∧ A.slots.size ≤ 536870912 ∧ ∀ i, i < A.slots.size → ¬ 255 < cv A i
def E (a : Addr) (D : Cell) (fV fC : Field) (A : Cell) (r : Option Value) (s u : State) : Prop := Got a D fV fC A 0 A.slots.size r s u
/-- new String(chars), not empty, no char above 255: a Latin-1 String of their low bytes -/
theorem law (l : Launch) (a : Addr) (D : Cell) (fV fC : Field) (b : Addr) (A : Cell) (z : Int32) : Law l yN 2 1 3 52 yB 2 none site (P a D fV fC b A z) (E a D fV fC A) [⟨a, fC.slot⟩, ⟨a, fV.slot⟩] 1 A.slots.size := by
  refine Law.of_walk (plainFor_of_name (by decide +kernel)) (by decide +kernel) (by decide +kernel) (by decide) (fun _ _ h => by rw [h.1]; rfl) (fun _ U U' hal hh h => ⟨h.1, h.2.1.mv hal hh, h.2.2.1.al hal, h.2.2.2.1.al hal, h.2.2.2.2.1.mv hal hh, h.2.2.2.2.2.1.there hal hh, h.2.2.2.2.2.2⟩) (fun r U U' V V' h1 hal h2 h => Got.mv r U U' V V' h1 hal h2 h) ?_
  intro p e s m args below meth c s₁ X0 hexec hbytes hml hret hlk hnm hown hh0 W hP
  obtain ⟨rfl, hB, f1, f2, hA, s1, hz, l0, l2, hp⟩ := hP
  have c1 : Steps p.tables e below (s₁.setTop (entryFrame m #[.ref a, .ref b] 2)) (s₁.setTop (mkF m 0 #[.val (.ref a), .val (.ref b)] [])) := entry rfl
  have c2 : Steps p.tables e below (s₁.setTop (entryFrame m #[.ref a, .ref b] 2)) (s₁.setTop (mkF m 6 #[.val (.ref a), .val (.ref b)] [.null, .int (Int32.ofNat A.slots.size), .int 0, .ref b, .ref a])) := c1.trans (by
    refine XS.aloadN X0.here hexec rfl (hb hbytes d0) rfl rfl ?_
    refine XS.aloadN X0.here hexec rfl (hb hbytes d1) rfl rfl ?_
    refine iconstV X0.here hexec rfl 0 (hb hbytes d2) (by decide) ?_
    refine XS.aloadN X0.here hexec rfl (hb hbytes d3) rfl rfl ?_
    refine X0.alen hexec (hA.1.mv X0.warmed.alike hh0) rfl rfl (hb hbytes d4) ?_
    refine XS.aconstNull X0.here hexec rfl (hb hbytes d5) ?_
    exact Steps.refl _)
  obtain ⟨v3, T3, X3, E3, g3⟩ := X0.callN hexec (New4.law l a D fV fC b A z 0 A.slots.size) rfl hown (wks W (initW "java/lang/String" 27 New4.yN)) (W New4.tab (by simp only [site, List.mem_cons, List.mem_append, true_or, or_true])) (W := 0) (Nat.le_of_ble_eq_true rfl) (Nat.le_of_ble_eq_true rfl) (Nat.le_refl _) (by show 0 + A.slots.size ≤ A.slots.size; omega) (g := (mkF m 6 #[.val (.ref a), .val (.ref b)] [.null, .int (Int32.ofNat A.slots.size), .int (Int32.ofNat 0), .ref b, .ref a])) rfl (by rw [hml]; rfl) c2 (argsL := [.ref b, .int (Int32.ofNat 0), .int (Int32.ofNat A.slots.size), .null]) (rest := []) rfl rfl (by show 2 * 0 + 0 ≤ _; decide) (hb hbytes d6) (⟨rfl, hB.mv X0.warmed.alike hh0, f1.al X0.warmed.alike, f2.al X0.warmed.alike, hA.mv X0.warmed.alike hh0, s1.there X0.warmed.alike hh0, hz, l0, by omega, l2, fun i hi => by rw [Nat.zero_add]; exact hp i hi⟩)
  have e0 := Got.mv _ s₁ s _ _ hh0.symm (Vm.Alike.refl _) rfl E3
  obtain rfl := e0.1
  have c4 : Steps p.tables e below (s₁.setTop (entryFrame m #[.ref a, .ref b] 2)) (T3.setTop (mkF m 9 #[.val (.ref a), .val (.ref b)] [])) := g3
  exact ⟨T3, none, _, _, _, X3, by simp, rfl, by omega, (fun _ => rfl), e0, fun fs hl => c4.trans (X3.returnOut hexec hret (hb hbytes d9) hl)⟩
theorem pays {l : Launch} {R : Room} {p : Program} {e : Env} {below : List Frame} {s : State} {sargs : Array Value} {len W : Nat} (a : Addr) (D : Cell) (fV fC : Field) (b : Addr) (A : Cell) (z : Int32) (htab : tab.before sargs s = true) (hfr : 4 ≤ R.frames) (hlo : W + 65 ≤ R.locals) :
    Back l R p e below s sargs yN len W (fun A₁ a₁ => A₁.cells + 1 ≤ R.cells ∧ A₁.slots + A.slots.size ≤ R.slots ∧ P a D fV fC b A z a₁ A₁.U) (fun A₁ _ v₁ B₁ => E a D fV fC A v₁ A₁.U B₁.U ∧ B₁.locs = A₁.locs ++ [⟨a, fC.slot⟩, ⟨a, fV.slot⟩] ∧ B₁.cells = A₁.cells + 1 ∧ B₁.slots = A₁.slots + A.slots.size) :=
  (law l a D fV fC b A z).pays htab hfr (by omega)
end New1
end StrChars
namespace StrChars.Road
open Jvm Sem ClassFile Op Lib Jvm.Stand Jvm.Free Jvm.Free.XT
open Jvm.Lib.Cold (StaticIs)
abbrev ST : String := "java/lang/String"
/-- every table word that New1's law asks, flat -/
abbrev words : List Jvm.Cond := [.code New1.yN New1.yB 2 none, .initialized ST, .methodLink ST 27 New4.yN, .instanceMethod New4.yN,
  .code New4.yN New4.yB 6 none, .fieldLink ST 38 ST "COMPACT_STRINGS" "Z", .laysFinal ST ST "value" "[B", .fieldLink ST 9 ST "value" "[B", .laysFinal ST ST "coder" "B", .fieldLink ST 15 ST "coder" "B",
  .methodLink ST 1 Lib.objectInit, .instanceMethod Lib.objectInit, .code Lib.objectInit ⟨#[0xb1]⟩ 1 none, .methodLink ST 177 Cmp3.yN, .static Cmp3.yN, .methodLink ST 47 CodL.yN, .static CodL.yN,
  .code Cmp3.yN Cmp3.yB 6 (some (.array .byte)), .initialized U16, .arrayClass .byte, .methodLink U16 115 Cmp5.yN, .static Cmp5.yN, .code Cmp5.yN Cmp5.yB 7 (some .int), .code CodL.yN CodL.yB 2 (some .byte)]
theorem tab_of {a : Array Value} {s : State} (h : ∀ w ∈ words, w.before a s = true) : New1.tab.before a s = true := by
  have h5 : Cmp5.tab.before a s = true := unparts (wk h (.code Cmp5.yN Cmp5.yB 7 (some .int))) (wks h (.initialized Cmp5.yN.cls :: Cmp5.site))
  have hc : CodL.tab.before a s = true := unparts (wk h (.code CodL.yN CodL.yB 2 (some .byte))) (wks h (.initialized CodL.yN.cls :: CodL.site))
  have q5 : ∀ w ∈ Cmp5.tab :: words, w.before a s = true := fun w hw => (List.mem_cons.mp hw).elim (fun e => e ▸ h5) (h w)
  have h3 : Cmp3.tab.before a s = true := unparts (wk q5 (.code Cmp3.yN Cmp3.yB 6 (some (.array .byte)))) (wks q5 (.initialized Cmp3.yN.cls :: Cmp3.site))
  have q3 : ∀ w ∈ Cmp3.tab :: CodL.tab :: words, w.before a s = true := fun w hw => (List.mem_cons.mp hw).elim (fun e => e ▸ h3) fun hw => (List.mem_cons.mp hw).elim (fun e => e ▸ hc) (h w)
  have h4 : New4.tab.before a s = true := unparts (wk q3 (.code New4.yN New4.yB 6 none)) (wks q3 (.initialized New4.yN.cls :: New4.site))
  have q4 : ∀ w ∈ New4.tab :: words, w.before a s = true := fun w hw => (List.mem_cons.mp hw).elim (fun e => e ▸ h4) (h w)
  exact unparts (wk q4 (.code New1.yN New1.yB 2 none)) (wks q4 (.initialized New1.yN.cls :: New1.site))
/-- the words ride from the start Z to the walk's own state -/
theorem moved {Z s : State} {a0 args : Array Value} (hZ : Z.Warmed39 s.vm) (hw : ∀ d ∈ words, d.before a0 Z = true) : ∀ d ∈ words, d.before args s = true := fun d hd => by
  have q := hw d hd
  have t : ∀ d ∈ words, d = .arrayClass .byte ∨ (d.onTables && d.keepsFace) = true := by decide +kernel
  rcases t d hd with rfl | t
  · exact RoadKit.mvA hZ q
  · exact RoadKit.mv hZ q t
/-- WHAT COMES BACK, over the tables of the start Z: h the heap at the call, h' behind it -/
def Q (Z : State) (x : Addr) (A : Cell) (h : Heap) (v : Option Value) (h' : Heap) (L : List Loc) : Prop := v = none ∧ (∀ y ∈ L, y.base = x) ∧ RoadKit.Keep h h' [x] ∧ h'.size = h.size + 1 ∧ RoadKit.Exa Z h' x ST ∧ RoadKit.Fld Z h' x ST "value" "[B" (.ref h.size) ∧ RoadKit.Fld Z h' x ST "coder" "B" (.int 0) ∧
  (∃ V : Cell, RoadKit.Arr Z h' h.size V .byte ∧ V.vm = .none ∧ Z.vm.findClass "[B" = some V.cls ∧ V.slots.size = A.slots.size ∧ ∀ j, j < A.slots.size → V.slots[j]? = some (.int (lo8 (cv A j)))) ∧
  ∀ (O n d : String) (w : Value), RoadKit.Fld Z h x O n d w → RoadKit.slotOf Z O n d ≠ RoadKit.slotOf Z ST "value" "[B" → RoadKit.slotOf Z O n d ≠ RoadKit.slotOf Z ST "coder" "B" → RoadKit.Fld Z h' x O n d w
/-- **new String(chars) AT A CALL, IN THE ROAD'S FORM**: for specialBack behind newO: x the fresh String, b the char[] with the cell A -/
theorem back {p : Program} {l : Launch} {e : Env} {R : Room} {s : State} {args : Array Value} {below : List Frame} {len W : Nat} {Z : State} {a0 : Array Value} {h : Heap} (hZ : Z.Warmed39 s.vm) (hw : ∀ d ∈ words, d.before a0 Z = true) {kI : Nat} (wi : (Jvm.Cond.instantiable ST kI).before a0 Z = true)
    {x b : Addr} {A : Cell} {z : Int32} {v0 c0 : Value} (E : RoadKit.Exa Z h x ST) (V : RoadKit.Fld Z h x ST "value" "[B" v0) (C : RoadKit.Fld Z h x ST "coder" "B" c0) (K : RoadKit.Arr Z h b A .char) (hty : Typed .char A) (S : RoadKit.Sta Z h ST "COMPACT_STRINGS" "Z" (.int z)) (hz : ¬ z = 0)
    (l0 : 0 < A.slots.size) (l2 : A.slots.size ≤ 536870912) (hp : ∀ i, i < A.slots.size → ¬ 255 < cv A i) (hfr : 4 ≤ R.frames) (hlo : W + 65 ≤ R.locals) :
    Back l R p e below s args New1.yN len W (fun P a => a = #[.ref x, .ref b] ∧ P.U.heap = h ∧ P.cells + 1 ≤ R.cells ∧ P.slots + A.slots.size ≤ R.slots)
      (fun P _ v B => ∃ L, Q Z x A h v B.U.heap L ∧ B.locs = P.locs ++ L ∧ B.cells = P.cells + 1 ∧ B.slots = P.slots + A.slots.size) := by
  intro m meth c P g ig mk a X hg hsize hdg hW hn hp'
  obtain ⟨rfl, rfl, r1, r2⟩ := hp'
  have al : Z.vm.Alike P.U.vm := hZ.alike.trans X.warmed.alike
  obtain ⟨D, cfV, kV, iV, fV, hD, gV, stV, knV, obV, asV, slV⟩ := id V
  obtain ⟨D', cfC, kC, iC, fC, hD', gC, stC, -, -, asC, slC⟩ := id C
  cases hD.symm.trans hD'
  obtain ⟨D2, kD, e1, e2, e3, e4, e5⟩ := id E
  cases hD.symm.trans e1
  obtain ⟨c2, k2, i1, i2, i3, -⟩ := Cond.instantiable_spec wi
  cases e2.symm.trans i1
  cases e3.symm.trans i2
  obtain ⟨kU, u1, u2⟩ := al.2.2 _ _ e3
  have hB : Blank ST x D P.U := ⟨hD, ⟨knV, fun q hq => by rw [hq] at obV; cases obV⟩, by rw [al.findClass]; exact e2, kU, u1, by rw [u2]; exact i3, by rw [u2]; exact e5 i3⟩
  have F1 : Found ST "value" "[B" fV P.U := ⟨SBG.found_only al ⟨cfV, kV, iV, gV⟩, stV⟩
  have F2 : Found ST "coder" "B" fC P.U := ⟨SBG.found_only al ⟨cfC, kC, iC, gC⟩, stC⟩
  have hA : Ch b A P.U := ⟨⟨K.1, State.isArrayOf_alike al K.2.1, K.2.2, by omega⟩, hty⟩
  have hS : StaticIs P.U ST "COMPACT_STRINGS" "Z" (.int z) := by
    obtain ⟨cfS, iS, kS, fS, st, cS, t1, t2, t3, t4, t5, t6, t7⟩ := S
    exact StaticIs.there (s := { Z with heap := P.U.heap }) ⟨cfS, iS, kS, fS, st, cS, t1, t2, t3, t4, t5, (fun q => by rw [q] at t6; cases t6), t7⟩ al rfl
  obtain ⟨v, B, X', ⟨⟨hv, E', V', q1, q2, q3, q4, q5, q6, q7, q8, q9, q10, q11⟩, hl, hc, hs⟩, st⟩ := New1.pays x D fV fC b A z (tab_of (moved hZ hw)) hfr hlo m meth c P g ig mk _ X hg hsize hdg hW hn ⟨r1, r2, rfl, hB, F1, F2, hA, hS, hz, l0, l2, hp⟩
  have al' : Z.vm.Alike B.U.vm := hZ.alike.trans X'.warmed.alike
  have hsz : E'.slots.size = D.slots.size := by
    obtain ⟨-, -, -, kB, w1, w2, w3⟩ := q1
    obtain ⟨kB', y1, y2⟩ := al'.2.2 _ _ e3
    rw [q2.2.1] at w1
    cases w1.symm.trans y1
    rw [w3, e5 i3, y2]
  refine ⟨v, B, X', ⟨_, ⟨hv, ?_, ⟨by omega, fun y cy hy hn' => q10 y cy (by simpa using hn') hy, fun y cy hy => ?_⟩, q11, ⟨E', _, q1.1, by rw [q2.2.1]; exact e2, by rw [q2.2.1]; exact e3, by rw [q2.1]; exact obV, fun _ => by rw [hsz]; exact e5 i3⟩,
    ⟨E', cfV, kV, iV, fV, q1.1, gV, stV, by rw [q2.1]; exact knV, by rw [q2.1]; exact obV, by rw [q2.2.1]; exact asV, q3⟩, ⟨E', cfC, kC, iC, fC, q1.1, gC, stC, by rw [q2.1]; exact knV, by rw [q2.1]; exact obV, by rw [q2.2.1]; exact asC, q4⟩,
    ⟨V', ⟨q5.1, State.isArrayOf_alike al'.symm q5.2.1, q5.2.2.1⟩, q6, by rw [← al'.findClass]; exact q7, q8, fun j hj => by have := q9 j hj; rwa [Nat.zero_add] at this⟩, fun O n d w F n1 n2 => ?_⟩, hl, hc, hs⟩, st⟩
  · intro y hy
    simp only [List.mem_cons, List.not_mem_nil, or_false] at hy
    rcases hy with rfl | rfl <;> rfl
  · by_cases q : y = x
    · subst q
      cases hD.symm.trans hy
      exact ⟨E', q1.1, q2.2.1, q2.1, hsz⟩
    · exact ⟨cy, q10 y cy q hy, rfl, rfl, rfl⟩
  · obtain ⟨D3, cf, k, i, f, g1, g2, g3, g4, g5, g6, g7⟩ := F
    cases hD.symm.trans g1
    simp only [RoadKit.slotOf, g2, gV, gC, Option.map_some, Option.getD_some] at n1 n2
    exact ⟨E', cf, k, i, f, q1.1, g2, g3, by rw [q2.1]; exact g4, by rw [q2.1]; exact g5, by rw [q2.2.1]; exact g6, by rw [q2.2.2 f.slot (by simp [n1, n2])]; exact g7⟩
end StrChars.Road
namespace StrChars.Road
open Jvm Sem ClassFile Op Lib Jvm.Stand Jvm.Free Jvm.Free.XT
/-- WHAT COMES BACK, the byte[] as a list of values -/
def QA (Z : State) (x : Addr) (zn : Int32) (cs : List Int32) (h : Heap) (v : Option Value) (h' : Heap) (L : List Loc) : Prop := v = none ∧ (∀ y ∈ L, y.base = x) ∧ RoadKit.Keep h h' [x] ∧ h'.size = h.size + 1 ∧ RoadKit.Exa Z h' x ST ∧ RoadKit.Fld Z h' x ST "value" "[B" (.ref h.size) ∧ RoadKit.Fld Z h' x ST "coder" "B" (.int 0) ∧
  (∃ kb, Z.vm.findClass "[B" = some kb ∧ RoadKit.Arv Z h' h.size kb .byte zn (cs.map fun c => .int (lo8 c)) (.int 0)) ∧
  ∀ (O n d : String) (w : Value), RoadKit.Fld Z h x O n d w → RoadKit.slotOf Z O n d ≠ RoadKit.slotOf Z ST "value" "[B" → RoadKit.slotOf Z O n d ≠ RoadKit.slotOf Z ST "coder" "B" → RoadKit.Fld Z h' x O n d w
/-- **new String(chars) AT A CALL, THE ARRAYS AS LISTS**: the char[] at b holds cs, not empty, no char above 255 -/
theorem backArv {p : Program} {l : Launch} {e : Env} {R : Room} {s : State} {args : Array Value} {below : List Frame} {len W : Nat} {Z : State} {a0 : Array Value} {h : Heap} (hZ : Z.Warmed39 s.vm) (hw : ∀ d ∈ words, d.before a0 Z = true) {kI : Nat} (wi : (Jvm.Cond.instantiable ST kI).before a0 Z = true)
    {x b : Addr} {k : ClassId} {zn z : Int32} {cs : List Int32} {dv v0 c0 : Value} (E : RoadKit.Exa Z h x ST) (V : RoadKit.Fld Z h x ST "value" "[B" v0) (C : RoadKit.Fld Z h x ST "coder" "B" c0) (K : RoadKit.Arv Z h b k .char zn (cs.map Value.int) dv) (S : RoadKit.Sta Z h ST "COMPACT_STRINGS" "Z" (.int z)) (hz : ¬ z = 0)
    (hlen : zn.toNatClampNeg = cs.length) (h0 : 0 < cs.length) (hbig : cs.length ≤ 536870912) (hall : ∀ c ∈ cs, ¬ 255 < c) (hfr : 4 ≤ R.frames) (hlo : W + 65 ≤ R.locals) :
    Back l R p e below s args New1.yN len W (fun P a => a = #[.ref x, .ref b] ∧ P.U.heap = h ∧ P.cells + 1 ≤ R.cells ∧ P.slots + cs.length ≤ R.slots)
      (fun P _ v B => ∃ L, QA Z x zn cs h v B.U.heap L ∧ B.locs = P.locs ++ L ∧ B.cells = P.cells + 1 ∧ B.slots = P.slots + cs.length) := by
  obtain ⟨A, K1, K2, K3, K4, K5, K6⟩ := K
  have e : A.slots.size = cs.length := K3.trans hlen
  have hat : ∀ (i : Nat) (hi : i < cs.length), A.slots[i]? = some (.int cs[i]) := fun i hi => by rw [K5 i (by omega)]; simp [List.getD_eq_getElem?_getD, hi]
  have hcv : ∀ (i : Nat) (hi : i < cs.length), cv A i = cs[i] := fun i hi => by unfold cv; rw [hat i hi]
  have hty : Typed .char A := fun i v hv => by
    have hi : i < A.slots.size := (Array.getElem?_eq_some_iff.mp hv).1
    have q := K5 i hi
    rw [hv] at q
    rw [Option.some.inj q]
    exact K6 i hi
  refine Back.mono (back hZ hw wi E V C K1 hty S hz (by omega) (by omega) (fun i hi => by rw [hcv i (by omega)]; exact hall _ (List.getElem_mem _)) hfr hlo) (fun P a hp => ⟨hp.1, hp.2.1, hp.2.2.1, by rw [e]; exact hp.2.2.2⟩) (fun P a v B hp hq => ?_)
  obtain ⟨L, ⟨q1, q2, q3, q4, q5, q6, q7, ⟨V', v1, v2, v3, v4, v5⟩, q9⟩, hl, hc, hs⟩ := hq
  refine ⟨L, ⟨q1, q2, q3, q4, q5, q6, q7, ⟨V'.cls, v3, V', v1, rfl, by rw [v4, e, hlen], K4, fun i hi => ?_, fun i hi => ?_⟩, q9⟩, hl, hc, by rw [hs, e]⟩
  · have hi' : i < cs.length := by omega
    rw [v5 i (by omega), hcv i hi']; simp [List.getD_eq_getElem?_getD, hi']
  · have hi' : i < cs.length := by omega
    simp only [List.getD_eq_getElem?_getD, List.getElem?_map, List.getElem?_eq_getElem hi', Option.map_some, Option.getD_some]
    exact fits_lo8 _
end StrChars.Road
namespace StrChars.Road
open Jvm Sem ClassFile Op Lib Jvm.Stand Jvm.Free Jvm.Free.XT
/-- WHAT COMES BACK, in the writer's own shape -/
def QV (Z : State) (x : Addr) (N : Int32) (bs : List Int32) (h : Heap) (n0 : Nat) (v : Option Value) (h' : Heap) (L : List Loc) : Prop := v = none ∧ RoadKit.Fr n0 L ∧ RoadKit.Keep h h' [x] ∧ RoadKit.Exa Z h' x ST ∧ RoadKit.Fld Z h' x ST "coder" "B" (.int 0) ∧
  ∃ (t : Addr) (kb : ClassId), n0 ≤ t ∧ h.size ≤ t ∧ ¬ t = x ∧ RoadKit.Fld Z h' x ST "value" "[B" (.ref t) ∧ RoadKit.Arv Z h' t kb .byte N (bs.map Value.int) (.int 0)
/-- **new String(chars) AT A CALL, FOR THE WRITER**: a char[] of n known ints, each 0 to 255 -/
theorem backV {p : Program} {l : Launch} {e : Env} {R : Room} {s : State} {args : Array Value} {below : List Frame} {len W : Nat} {Z : State} {a0 : Array Value} {h : Heap} (hZ : Z.Warmed39 s.vm) (hw : ∀ d ∈ words, d.before a0 Z = true) {kI : Nat} (wi : (Jvm.Cond.instantiable ST kI).before a0 Z = true)
    {x b : Addr} {kC : ClassId} {cs bs : List Int32} {d v0 c0 : Value} {z N : Int32} {n n0 : Nat} (hx0 : n0 ≤ x) (hh0 : n0 ≤ h.size) (E : RoadKit.Exa Z h x ST) (V : RoadKit.Fld Z h x ST "value" "[B" v0) (C : RoadKit.Fld Z h x ST "coder" "B" c0) (K : RoadKit.Arv Z h b kC .char N (cs.map Value.int) d) (S : RoadKit.Sta Z h ST "COMPACT_STRINGS" "Z" (.int z)) (hz : ¬ z = 0)
    (hn : cs.length = n) (hN : N = Int32.ofNat n) (l0 : 0 < n) (l2 : n ≤ 4000) (hp : ∀ c ∈ cs, ¬ c < 0 ∧ ¬ (255 : Int32) < c) (hb : bs = cs.map (fun c => c.toInt8.toInt32)) (hfr : 4 ≤ R.frames) (hlo : W + 65 ≤ R.locals) :
    Back l R p e below s args (⟨"java/lang/String", "<init>", "([C)V"⟩ : MethodName) len W (fun P a => a = #[.ref x, .ref b] ∧ P.U.heap = h ∧ P.cells + 1 ≤ R.cells ∧ P.slots + n ≤ R.slots)
      (fun P _ v B => ∃ L, QV Z x N bs h n0 v B.U.heap L ∧ B.locs = P.locs ++ L ∧ B.cells = P.cells + 1 ∧ B.slots = P.slots + n) := by
  subst hn hN hb
  refine Back.mono (backArv hZ hw wi E V C K S hz (n32 (by omega)) l0 (by omega) (fun c hc => (hp c hc).2) hfr hlo) (fun P a hp => hp) (fun P a v B hp hq => ?_)
  obtain ⟨L, ⟨q1, q2, q3, q4, q5, q6, q7, ⟨kb, v1, v2⟩, q9⟩, hl, hc, hs⟩ := hq
  exact ⟨L, ⟨q1, fun y hy => by rw [q2 y hy]; exact hx0, q3, q5, q7, h.size, kb, hh0, Nat.le_refl _, Nat.ne_of_gt E.lt, q6, by rw [List.map_map]; exact v2⟩, hl, hc, hs⟩
end StrChars.Road
end Jvm.Pilot.@@N@@
namespace Jvm.Pilot.@@N@@
open Jvm Jvm.ClassFile Sem Op Lib Jvm.Free Jvm.Stand Jvm.LawKit Jvm.RoadKit Bundle Jvm.Pilot.@@N@@.Jvm.D
section Own
variable {p : Program} {l : Launch} {e : Env} {R rm : Room} {s : State} {m : MethodId} {args : Array Value} {below : List Frame} {meth : Method} {c : Code} {T : State} {locs : List Loc} {cells slots : Nat} {Z : State} {a0 : Array Value} {h : Heap}
/-- the run comes to the end of the invocation, and what is asked holds there -/
def o_Goes (p : Program) (e : Env) (below : List Frame) (G : Outcome → State → Prop) (S : State) : Prop := ∃ s₂ o, Steps p.tables e below S s₂ ∧ s₂.status = .running ∧ Ended s₂ below o ∧ G o s₂
theorem o_go {G : Outcome → State → Prop} {S S' : State} (h : ∀ t, Steps p.tables e below S' t → Steps p.tables e below S t) (k : o_Goes p e below G S') : o_Goes p e below G S := by
  obtain ⟨s₂, o, h1, h2⟩ := k
  exact ⟨s₂, o, h _ h1, h2⟩
theorem o_tr {G : Outcome → State → Prop} {S S' : State} (h : Steps p.tables e below S S') (k : o_Goes p e below G S') : o_Goes p e below G S := o_go (fun _ q => h.trans q) k
abbrev o_End (s : State) (rm : Room) (Q : Option Value → Heap → List Loc → Prop) : Outcome → State → Prop := fun o U' => ∃ v L, o = .returned v ∧ Q v U'.heap L ∧ FrameEnd s o U' L rm.cells rm.slots
/-- a body's contract: with these arguments, over this heap, it returns and leaves what Q says -/
def o_Met (l : Launch) (Z : State) (y : MethodName) (bytes : ByteArray) (maxL : Nat) (ret : Option FieldType) (ws : List Jvm.Cond) (rm : Room) (as : Array Value) (h0 : Heap) (Q : Option Value → Heap → List Loc → Prop) : Prop :=
  MetFree l y (head1 (Jvm.Cond.code y bytes maxL ret :: ws) rm) (fun a U => a = as ∧ Z.Warmed39 U.vm ∧ U.heap = h0) (fun _ _ _ _ _ => True) (fun _ U o U' => ∃ v L, o = .returned v ∧ Q v U'.heap L ∧ FrameEnd U o U' L rm.cells rm.slots)
theorem o_met {y : MethodName} {bytes : ByteArray} {maxL : Nat} {ret : Option FieldType} {ws : List Jvm.Cond} {as : Array Value} {h0 : Heap} {Q : Option Value → Heap → List Loc → Prop} (hp : plainFor y = true)
    (body : ∀ (p : Program) (e : Env) (s : State) (m : MethodId) (below : List Frame) (meth : Method) (c : Code) (s₁ : State), p.tables.exec = Jvm.exec → c.code = bytes → c.maxLocals = maxL → s.vm.findClass y.cls = some m.cls → meth.name = y.name → meth.sig.returnType = ret → meth.locks = false → Z.Warmed39 s.vm → s₁.heap = h0 →
      Stand p l e rm s m as below meth c s₁ [] 0 0 → o_Goes p e below (o_End s rm Q) (s₁.setTop (entryFrame m as maxL))) : o_Met l Z y bytes maxL ret ws rm as h0 Q := by
  refine MetFree.of_bodySF hp hisR ?_
  intro p e s m args below meth c s₁ Bd hml hP hK
  obtain ⟨rfl, hZ, hh⟩ := hP
  exact body p e s m below meth c s₁ Bd.exec Bd.bytes hml (findClass_of_methodNamed Bd.named) (name_of_methodNamed Bd.named Bd.method).1 Bd.returns Bd.notSynchronized hZ (by rw [← hh, Bd.state]; rfl) (Stand.of_body Bd)
/-- the returns -/
theorem o_retV {Q : Option Value → Heap → List Loc → Prop} (X : Stand p l e rm s m args below meth c T locs cells slots) (hx : p.tables.exec = Jvm.exec) (hlk : meth.locks = false) {pc : Nat} {Ls : Array Slot} {w : Value} {t : FieldType} {i : Instr} {rest : List Value} (hret : meth.sig.returnType = some t) (hn : narrow t w = w)
    (hi : (i = .ireturn ∧ (t = .int ∨ t = .boolean ∨ t = .byte ∨ t = .char ∨ t = .short) ∧ ∃ z, w = .int z) ∨ (i = .lreturn ∧ t = .long ∧ ∃ z, w = .long z) ∨ (i = .dreturn ∧ t = .double ∧ ∃ z, w = .double z) ∨ (i = .freturn ∧ t = .float ∧ ∃ z, w = .float z) ∨ (i = .areturn ∧ t.isReference = true ∧ w.isRef = true))
    (hd : decode c.code pc = .ok (i, 1)) (hc : cells ≤ rm.cells) (hs : slots ≤ rm.slots) (hq : Q (some w) T.heap locs) : o_Goes p e below (o_End s rm Q) (T.setTop (mkF m pc Ls (w :: rest))) := by
  obtain ⟨fs, hr, hrun, hended, hW, hsame⟩ := X.leave (v := some w) (fun h => by rw [hret] at h; cases h) hlk
  exact ⟨_, _, retOut X hx hret hn hi hd hr, hrun, hended, _, _, rfl, hq, ⟨_, rfl⟩, hW, hsame.mono hc hs⟩
theorem o_retI {Q : Option Value → Heap → List Loc → Prop} (X : Stand p l e rm s m args below meth c T locs cells slots) (hx : p.tables.exec = Jvm.exec) (hlk : meth.locks = false) {pc : Nat} {Ls : Array Slot} {z : Int32} {rest : List Value} (hret : meth.sig.returnType = some .int)
    (hd : decode c.code pc = .ok (.ireturn, 1)) (hc : cells ≤ rm.cells) (hs : slots ≤ rm.slots) (hq : Q (some (.int z)) T.heap locs) : o_Goes p e below (o_End s rm Q) (T.setTop (mkF m pc Ls (.int z :: rest))) :=
  o_retV X hx hlk hret rfl (Or.inl ⟨rfl, Or.inl rfl, z, rfl⟩) hd hc hs hq
theorem o_retJ {Q : Option Value → Heap → List Loc → Prop} (X : Stand p l e rm s m args below meth c T locs cells slots) (hx : p.tables.exec = Jvm.exec) (hlk : meth.locks = false) {pc : Nat} {Ls : Array Slot} {z : Int64} {rest : List Value} (hret : meth.sig.returnType = some .long)
    (hd : decode c.code pc = .ok (.lreturn, 1)) (hc : cells ≤ rm.cells) (hs : slots ≤ rm.slots) (hq : Q (some (.long z)) T.heap locs) : o_Goes p e below (o_End s rm Q) (T.setTop (mkF m pc Ls (.long z :: rest))) :=
  o_retV X hx hlk hret rfl (Or.inr (Or.inl ⟨rfl, rfl, z, rfl⟩)) hd hc hs hq
theorem o_retD {Q : Option Value → Heap → List Loc → Prop} (X : Stand p l e rm s m args below meth c T locs cells slots) (hx : p.tables.exec = Jvm.exec) (hlk : meth.locks = false) {pc : Nat} {Ls : Array Slot} {z : UInt64} {rest : List Value} (hret : meth.sig.returnType = some .double)
    (hd : decode c.code pc = .ok (.dreturn, 1)) (hc : cells ≤ rm.cells) (hs : slots ≤ rm.slots) (hq : Q (some (.double z)) T.heap locs) : o_Goes p e below (o_End s rm Q) (T.setTop (mkF m pc Ls (.double z :: rest))) :=
  o_retV X hx hlk hret rfl (Or.inr (Or.inr (Or.inl ⟨rfl, rfl, z, rfl⟩))) hd hc hs hq
theorem o_retR {Q : Option Value → Heap → List Loc → Prop} (X : Stand p l e rm s m args below meth c T locs cells slots) (hx : p.tables.exec = Jvm.exec) (hlk : meth.locks = false) {pc : Nat} {Ls : Array Slot} {w : Value} {t : FieldType} {rest : List Value} (hret : meth.sig.returnType = some t) (ht : t.isReference = true) (hw : w.isRef = true)
    (hd : decode c.code pc = .ok (.areturn, 1)) (hc : cells ≤ rm.cells) (hs : slots ≤ rm.slots) (hq : Q (some w) T.heap locs) : o_Goes p e below (o_End s rm Q) (T.setTop (mkF m pc Ls (w :: rest))) :=
  o_retV X hx hlk hret (by cases t <;> first | rfl | cases ht) (Or.inr (Or.inr (Or.inr (Or.inr ⟨rfl, ht, hw⟩)))) hd hc hs hq
theorem o_retN {Q : Option Value → Heap → List Loc → Prop} (X : Stand p l e rm s m args below meth c T locs cells slots) (hx : p.tables.exec = Jvm.exec) (hlk : meth.locks = false) {pc : Nat} {Ls : Array Slot} {z z' : Int32} {t : FieldType} {rest : List Value} (hret : meth.sig.returnType = some t) (ht : t = .boolean ∨ t = .byte ∨ t = .char ∨ t = .short) (hz : nar t z = z')
    (hd : decode c.code pc = .ok (.ireturn, 1)) (hc : cells ≤ rm.cells) (hs : slots ≤ rm.slots) (hq : Q (some (.int z')) T.heap locs) : o_Goes p e below (o_End s rm Q) (T.setTop (mkF m pc Ls (.int z :: rest))) := by
  subst hz
  obtain ⟨fs, hr, hrun, hended, hW, hsame⟩ := X.leave (v := some (.int (nar t z))) (fun h => by rw [hret] at h; cases h) hlk
  exact ⟨_, _, retN X hx hret ht hd hr, hrun, hended, _, _, rfl, hq, ⟨_, rfl⟩, hW, hsame.mono hc hs⟩
theorem o_ret0 {Q : Option Value → Heap → List Loc → Prop} (X : Stand p l e rm s m args below meth c T locs cells slots) (hx : p.tables.exec = Jvm.exec) (hlk : meth.locks = false) {pc : Nat} {Ls : Array Slot} (hret : meth.sig.returnType = none)
    (hd : decode c.code pc = .ok (.return_, 1)) (hc : cells ≤ rm.cells) (hs : slots ≤ rm.slots) (hq : Q none T.heap locs) : o_Goes p e below (o_End s rm Q) (T.setTop (mkF m pc Ls [])) := by
  obtain ⟨fs, hr, hrun, hended, hW, hsame⟩ := X.leave (v := none) (fun _ => rfl) hlk
  exact ⟨_, _, X.returnOut hx hret hd hr, hrun, hended, _, _, rfl, hq, ⟨_, rfl⟩, hW, hsame.mono hc hs⟩
/-- a static call by the callee's contract -/
theorem o_callS (X : Stand p l e R s m args below meth c T locs cells slots) (hx : p.tables.exec = Jvm.exec) (hZ : Z.Warmed39 s.vm) {own : String} {index : Nat} {y : MethodName} {bytes : ByteArray} {maxL : Nat} {ret : Option FieldType} (hown : s.vm.findClass own = some m.cls)
    (w1 : (Jvm.Cond.methodLink own index y).before a0 Z = true) (w2 : (Jvm.Cond.static y).before a0 Z = true) (w3 : (Jvm.Cond.initialized y.cls).before a0 Z = true) (w4 : (Jvm.Cond.code y bytes maxL ret).before a0 Z = true) (hy : y.cls ≠ "java/lang/invoke/MethodHandle" ∧ y.cls ≠ "java/lang/invoke/VarHandle")
    {as : List Value} {Q : Option Value → Heap → List Loc → Prop} (hM : o_Met l Z y bytes maxL ret [] rm as.toArray h Q) (eT : T.heap = h) {ps : List FieldType} {rt : Option FieldType} (hpd : parseMethodDescriptor y.desc = some ⟨ps, rt⟩) (hlen : as.length = ps.length)
    {pc : Nat} {Ls : Array Slot} {rest : List Value} {W : Nat} (hsize : Ls.size = c.maxLocals) (hW : (rest.map fun v => v.category).sum ≤ W) (hf : rm.frames + 1 ≤ R.frames) (hl : W + (maxL + 11) + rm.locals ≤ R.locals) (hd : decode c.code pc = .ok (.invokestatic index, 3)) (hc : cells + rm.cells ≤ R.cells) (hs : slots + rm.slots ≤ R.slots) :
    ∃ (v : Option Value) (T' : State) (L' : List Loc), Stand p l e R s m args below meth c T' (locs ++ L') (cells + rm.cells) (slots + rm.slots) ∧ Q v T'.heap L' ∧ ∀ target, Steps p.tables e below (T'.setTop (mkF m (pc + 3) Ls (v.toList ++ rest))) target → Steps p.tables e below (T.setTop (mkF m pc Ls (as.reverse ++ rest))) target := by
  obtain ⟨v, _, ⟨T', L', k', n'⟩, -, X', ⟨Lc, hQ, hl', hk', hn'⟩, st⟩ := Jvm.LawKit.callS X hx (y := y) hown (mvT hZ w1) (mvT hZ w2) (mvT hZ w3) (mvT hZ w4) hy (backOf (W := W) hM hZ w4 w3 hf hl) (g := mkF m pc Ls (as.reverse ++ rest)) rfl hsize (argsL := as) (rest := rest) (lenOf hpd hlen) rfl (by show 2 * 0 + _ ≤ _; omega) hd (fun _ _ => ⟨rfl, eT, hc, hs⟩)
  dsimp only [Pt.U, Pt.locs, Pt.cells, Pt.slots] at X' hl' hk' hn' st hQ
  subst hl' hk' hn'
  exact ⟨v, T', Lc, X', hQ, st⟩
/-- an instance method by the contract of the body that the receiver's class selects -/
theorem o_callV (X : Stand p l e R s m args below meth c T locs cells slots) (hx : p.tables.exec = Jvm.exec) (hZ : Z.Warmed39 s.vm) {own C : String} {index : Nat} {y : MethodName} {bytes : ByteArray} {maxL : Nat} {ret : Option FieldType} (hown : s.vm.findClass own = some m.cls)
    (w1 : (Jvm.Cond.methodLink own index y).before a0 Z = true) (w2 : (Jvm.Cond.declares y).before a0 Z = true) (w3 : (Jvm.Cond.selects C y y).before a0 Z = true) (w4 : (Jvm.Cond.instanceMethod y).before a0 Z = true) (w5 : (Jvm.Cond.initialized y.cls).before a0 Z = true) (w6 : (Jvm.Cond.code y bytes maxL ret).before a0 Z = true) (hy : y.cls ≠ "java/lang/invoke/MethodHandle" ∧ y.cls ≠ "java/lang/invoke/VarHandle")
    {b : Addr} {as : List Value} {Q : Option Value → Heap → List Loc → Prop} (hM : o_Met l Z y bytes maxL ret [] rm (Value.ref b :: as).toArray h Q) (eT : T.heap = h) (E : Exa Z h b C) {ps : List FieldType} {rt : Option FieldType} (hpd : parseMethodDescriptor y.desc = some ⟨ps, rt⟩) (hlen : as.length = ps.length)
    {pc : Nat} {Ls : Array Slot} {rest : List Value} {W : Nat} (hsize : Ls.size = c.maxLocals) (hW : (rest.map fun v => v.category).sum ≤ W) (hf : rm.frames + 1 ≤ R.frames) (hl : W + (maxL + 11) + rm.locals ≤ R.locals) (hd : decode c.code pc = .ok (.invokevirtual index, 3)) (hc : cells + rm.cells ≤ R.cells) (hs : slots + rm.slots ≤ R.slots) :
    ∃ (v : Option Value) (T' : State) (L' : List Loc), Stand p l e R s m args below meth c T' (locs ++ L') (cells + rm.cells) (slots + rm.slots) ∧ Q v T'.heap L' ∧ ∀ target, Steps p.tables e below (T'.setTop (mkF m (pc + 3) Ls (v.toList ++ rest))) target → Steps p.tables e below (T.setTop (mkF m pc Ls (as.reverse ++ Value.ref b :: rest))) target := by
  obtain ⟨cq, kq, qa, qb, qc⟩ := isOf hZ eT E
  obtain ⟨v, _, ⟨T', L', k', n'⟩, -, X', ⟨Lc, hQ, hl', hk', hn'⟩, st⟩ := X.virtualBack hx (y := y) (z := y) hown (mvT hZ w1) (mvT hZ w2) (notFace_of_selects (args := #[]) (mvT hZ w3)) (mvT hZ w3) (mvT hZ w4) hy (backOf (W := W) hM hZ w6 w5 hf hl) qa qc (g := mkF m pc Ls (as.reverse ++ Value.ref b :: rest)) rfl hsize (Steps.refl _) (argsL := as) (rest := rest) (lenOf hpd hlen) rfl (by show 2 * 0 + _ ≤ _; omega) hd (fun _ _ => ⟨rfl, eT, hc, hs⟩)
  dsimp only [Pt.U, Pt.locs, Pt.cells, Pt.slots] at X' hl' hk' hn' st hQ
  subst hl' hk' hn'
  exact ⟨v, T', Lc, X', hQ, fun _ q => st.trans q⟩
/-- a constructor by its contract -/
theorem o_callI (X : Stand p l e R s m args below meth c T locs cells slots) (hx : p.tables.exec = Jvm.exec) (hZ : Z.Warmed39 s.vm) {own : String} {index : Nat} {y : MethodName} {bytes : ByteArray} {maxL : Nat} (hy1 : y.name = "<init>") (hown : s.vm.findClass own = some m.cls)
    (w1 : (Jvm.Cond.methodLink own index y).before a0 Z = true) (w4 : (Jvm.Cond.instanceMethod y).before a0 Z = true) (w5 : (Jvm.Cond.initialized y.cls).before a0 Z = true) (w6 : (Jvm.Cond.code y bytes maxL none).before a0 Z = true) (hy : y.cls ≠ "java/lang/invoke/MethodHandle" ∧ y.cls ≠ "java/lang/invoke/VarHandle")
    {b : Addr} {as : List Value} {Q : Option Value → Heap → List Loc → Prop} (hM : o_Met l Z y bytes maxL none [] rm (Value.ref b :: as).toArray h Q) (eT : T.heap = h) {ps : List FieldType} {rt : Option FieldType} (hpd : parseMethodDescriptor y.desc = some ⟨ps, rt⟩) (hlen : as.length = ps.length)
    {pc : Nat} {Ls : Array Slot} {rest : List Value} {W : Nat} (hsize : Ls.size = c.maxLocals) (hW : (rest.map fun v => v.category).sum ≤ W) (hf : rm.frames + 1 ≤ R.frames) (hl : W + (maxL + 11) + rm.locals ≤ R.locals) (hd : decode c.code pc = .ok (.invokespecial index, 3)) (hc : cells + rm.cells ≤ R.cells) (hs : slots + rm.slots ≤ R.slots) :
    ∃ (v : Option Value) (T' : State) (L' : List Loc), Stand p l e R s m args below meth c T' (locs ++ L') (cells + rm.cells) (slots + rm.slots) ∧ Q v T'.heap L' ∧ ∀ target, Steps p.tables e below (T'.setTop (mkF m (pc + 3) Ls (v.toList ++ rest))) target → Steps p.tables e below (T.setTop (mkF m pc Ls (as.reverse ++ Value.ref b :: rest))) target := by
  obtain ⟨v, _, ⟨T', L', k', n'⟩, -, X', ⟨Lc, hQ, hl', hk', hn'⟩, st⟩ := X.specialBack hx (y := y) hy1 hown (mvT hZ w1) (mvT hZ w4) (mvT hZ w6) hy (backOf (W := W) hM hZ w6 w5 hf hl) (g := mkF m pc Ls (as.reverse ++ Value.ref b :: rest)) rfl hsize (Steps.refl _) (a := b) (argsL := as) (rest := rest) (lenOf hpd hlen) rfl (by show 2 * 0 + _ ≤ _; omega) hd (fun _ _ => ⟨rfl, eT, hc, hs⟩)
  dsimp only [Pt.U, Pt.locs, Pt.cells, Pt.slots] at X' hl' hk' hn' st hQ
  subst hl' hk' hn'
  exact ⟨v, T', Lc, X', hQ, fun _ q => st.trans q⟩
end Own
theorem o_gi {p : Program} {e : Env} {below : List Frame} {G : Outcome → State → Prop} {S S' : State} (h : ∀ {t}, Steps p.tables e below S' t → Steps p.tables e below S t) (k : o_Goes p e below G S') : o_Goes p e below G S := o_go (fun _ => h) k
abbrev o_Gs (p : Program) (e : Env) (below : List Frame) (G : Outcome → State → Prop) (T : State) (m : MethodId) (pc : Nat) (Ls : Array Slot) (st : List Value) : Prop := o_Goes p e below G (T.setTop (mkF m pc Ls st))
section OwnPrivate
variable {p : Program} {l : Launch} {e : Env} {R rm : Room} {s : State} {m : MethodId} {args : Array Value} {below : List Frame} {meth : Method} {c : Code} {T : State} {locs : List Loc} {cells slots : Nat} {Z : State} {a0 : Array Value} {h : Heap}
/-- a private method by its contract -/
theorem o_callP (X : Stand p l e R s m args below meth c T locs cells slots) (hx : p.tables.exec = Jvm.exec) (hZ : Z.Warmed39 s.vm) {own : String} {index kk : Nat} {y : MethodName} {bytes : ByteArray} {maxL : Nat} {ret : Option FieldType} (hown : s.vm.findClass own = some m.cls)
  (w1 : (Jvm.Cond.methodLink own index y).before a0 Z = true) (wp : (Jvm.Cond.privateMethod y).before a0 Z = true) (wi : (Jvm.Cond.instantiable y.cls kk).before a0 Z = true) (w4 : (Jvm.Cond.instanceMethod y).before a0 Z = true) (w5 : (Jvm.Cond.initialized y.cls).before a0 Z = true) (w6 : (Jvm.Cond.code y bytes maxL ret).before a0 Z = true) (hy : y.cls ≠ "java/lang/invoke/MethodHandle" ∧ y.cls ≠ "java/lang/invoke/VarHandle")
  {b : Addr} {as : List Value} {Q : Option Value → Heap → List Loc → Prop} (hM : o_Met l Z y bytes maxL ret [] rm (Value.ref b :: as).toArray h Q) (eT : T.heap = h) (E : Exa Z h b y.cls) {ps : List FieldType} {rt : Option FieldType} (hpd : parseMethodDescriptor y.desc = some ⟨ps, rt⟩) (hlen : as.length = ps.length)
  {pc : Nat} {Ls : Array Slot} {rest : List Value} {W : Nat} (hsize : Ls.size = c.maxLocals) (hW : (rest.map fun v => v.category).sum ≤ W) (hf : rm.frames + 1 ≤ R.frames) (hl : W + (maxL + 11) + rm.locals ≤ R.locals) (hd : decode c.code pc = .ok (.invokevirtual index, 3)) (hc : cells + rm.cells ≤ R.cells) (hs : slots + rm.slots ≤ R.slots) :
  ∃ (v : Option Value) (T' : State) (L' : List Loc), Stand p l e R s m args below meth c T' (locs ++ L') (cells + rm.cells) (slots + rm.slots) ∧ Q v T'.heap L' ∧ ∀ target, Steps p.tables e below (T'.setTop (mkF m (pc + 3) Ls (v.toList ++ rest))) target → Steps p.tables e below (T.setTop (mkF m pc Ls (as.reverse ++ Value.ref b :: rest))) target := by
 obtain ⟨cell, hc1, hc2⟩ := E.cell
 have hpv : s.PrivateAt y := Cond.privateMethod_at (mvP hZ wp (args := #[]))
 obtain ⟨cI, kI, i1, i2, -, i4, -⟩ := Cond.instantiable_spec (mvT (args := args) hZ wi)
 have hni : kI.isInterface = false := by
  cases hq : kI.isInterface
  ·rfl
  ·rw [hq] at i4; simp at i4
 have hsel : (Jvm.Cond.selects y.cls y y).before args s = true := selects_self_of_private i1 i2 hni hpv (mvT hZ w4) hy
 obtain ⟨v, _, ⟨T', L', k', n'⟩, -, X', ⟨Lc, hQ, hl', hk', hn'⟩, st⟩ := X.privateBack hx (y := y) hown (mvT hZ w1) (mvT hZ w4) hsel hpv (mvT hZ w6) hy (backOf (W := W) hM hZ w6 w5 hf hl) (g := mkF m pc Ls (as.reverse ++ Value.ref b :: rest)) rfl hsize (Steps.refl _) (a := b) (by rw [eT]; exact hc1) hc2 (argsL := as) (rest := rest) (lenOf hpd hlen) rfl (by show 2 * 0 + _ ≤ _; omega) hd (fun _ _ => ⟨rfl, eT, hc, hs⟩)
 dsimp only [Pt.U, Pt.locs, Pt.cells, Pt.slots] at X' hl' hk' hn' st hQ
 subst hl' hk' hn'
 exact ⟨v, T', Lc, X', hQ, fun _ q => st.trans q⟩
end OwnPrivate

section OwnStr
variable {p : Program} {l : Launch} {e : Env} {R rm : Room} {s : State} {m : MethodId} {args : Array Value} {below : List Frame} {meth : Method} {c : Code} {T : State} {locs : List Loc} {cells slots : Nat} {Z : State} {a0 : Array Value} {h : Heap}
theorem o_pdStr : parseMethodDescriptor "([C)V" = some ⟨[.array .char], none⟩ := by decide +kernel
/-- new String(char[]) -/
theorem o_newStr (X : Stand p l e R s m args below meth c T locs cells slots) (hx : p.tables.exec = Jvm.exec) (hZ : Z.Warmed39 s.vm) {own : String} {index : Nat} {bytes : ByteArray} (hown : s.vm.findClass own = some m.cls)
  (w1 : (Jvm.Cond.methodLink own index ⟨"java/lang/String", "<init>", "([C)V"⟩).before a0 Z = true) (w4 : (Jvm.Cond.instanceMethod ⟨"java/lang/String", "<init>", "([C)V"⟩).before a0 Z = true) (w6 : (Jvm.Cond.code ⟨"java/lang/String", "<init>", "([C)V"⟩ bytes 2 none).before a0 Z = true) (wi : (Jvm.Cond.instantiable "java/lang/String" 4).before a0 Z = true)
  (hws : ∀ d ∈ StrChars.Road.words, d.before a0 Z = true) {x b : Addr} {kC : ClassId} {cs : List Int32} {d v0 c0 : Value} {z N : Int32} {n n0 : Nat} (hx0 : n0 ≤ x) (hh0 : n0 ≤ h.size) (E : Exa Z h x "java/lang/String") (V : Fld Z h x "java/lang/String" "value" "[B" v0) (C : Fld Z h x "java/lang/String" "coder" "B" c0)
  (K : Arv Z h b kC .char N (cs.map Value.int) d) (S : Sta Z h "java/lang/String" "COMPACT_STRINGS" "Z" (.int z)) (hz : ¬ z = 0) (hn : cs.length = n) (hN : N = Int32.ofNat n) (l0 : 0 < n) (l2 : n ≤ 4000) (hp : ∀ c ∈ cs, ¬ c < 0 ∧ ¬ (255 : Int32) < c) (eT : T.heap = h)
  {pc : Nat} {Ls : Array Slot} {rest : List Value} {W : Nat} (hsize : Ls.size = c.maxLocals) (hW : (rest.map fun v => v.category).sum ≤ W) (hf : 4 ≤ R.frames) (hl : W + 65 ≤ R.locals) (hd : decode c.code pc = .ok (.invokespecial index, 3)) (hc : cells + 1 ≤ R.cells) (hs : slots + n ≤ R.slots) :
  ∃ (T' : State) (L' : List Loc), Stand p l e R s m args below meth c T' (locs ++ L') (cells + 1) (slots + n) ∧ StrChars.Road.QV Z x N (cs.map fun c => c.toInt8.toInt32) h n0 none T'.heap L' ∧ ∀ target, Steps p.tables e below (T'.setTop (mkF m (pc + 3) Ls rest)) target → Steps p.tables e below (T.setTop (mkF m pc Ls (Value.ref b :: Value.ref x :: rest))) target := by
 obtain ⟨v, _, ⟨T', L', k', n'⟩, -, X', ⟨Lc, hQ, hl', hk', hn'⟩, st⟩ := X.specialBack hx (y := ⟨"java/lang/String", "<init>", "([C)V"⟩) rfl hown (mvT hZ w1) (mvT hZ w4) (mvT hZ w6) (by decide) (StrChars.Road.backV (W := W) hZ hws wi (cs := cs) (bs := cs.map fun c => c.toInt8.toInt32) (n := n) hx0 hh0 E V C K S hz hn hN l0 l2 hp rfl hf hl) (g := mkF m pc Ls (Value.ref b :: Value.ref x :: rest)) rfl hsize (Steps.refl _) (a := x) (argsL := [Value.ref b]) (rest := rest) (lenOf o_pdStr rfl) rfl (by show 2 * 0 + _ ≤ _; omega) hd (fun _ _ => ⟨rfl, eT, hc, hs⟩)
 dsimp only [Pt.U, Pt.locs, Pt.cells, Pt.slots] at X' hl' hk' hn' st hQ
 subst hl' hk' hn'
 have hv : v = none := hQ.1
 subst hv
 exact ⟨T', Lc, X', hQ, fun _ q => st.trans q⟩
end OwnStr

theorem o_ch (x : Int32) : ¬ nar .char ((x &&& (255 : Int32)).toUInt32.toUInt16.toUInt32.toInt32) < 0 ∧ ¬ (255 : Int32) < nar .char ((x &&& (255 : Int32)).toUInt32.toUInt16.toUInt32.toInt32) := by
 have t : ∀ k : Fin 256, ¬ nar .char ((Int32.ofNat k.val).toUInt32.toUInt16.toUInt32.toInt32) < 0 ∧ ¬ (255 : Int32) < nar .char ((Int32.ofNat k.val).toUInt32.toUInt16.toUInt32.toInt32) := by decide +kernel
 have h : (x &&& 255).toInt = x.toInt % 2 ^ 8 := Jvm.Kit.i32_mask x 255 (k := 8) (by decide) (by decide)
 have e : Int32.ofNat (x &&& 255).toInt.toNat = (x &&& 255) := by
  rw [← Int32.toInt_inj, Int32.toInt_ofNat_of_lt (by omega)]; omega
 have q := t ⟨(x &&& 255).toInt.toNat, by omega⟩
 simp only [e] at q
 exact q
theorem o_nz {args : Array Value} {s : State} {t : Term} {z : Int32} (v : t.eval args s none [] s = some (.int z)) (h : (Jvm.Cond.not (Jvm.Cond.eq t (Jvm.Term.int 0))).value args s none s [] = some true) : ¬ z = 0 := fun q => by
 have h1 := not_v h
 rw [eq_i v (Term.int_eval _) (by rw [q])] at h1
 cases h1

section OwnW
variable {p : Program} {l : Launch} {e : Env} {R rm : Room} {s : State} {m : MethodId} {args : Array Value} {below : List Frame} {meth : Method} {c : Code} {T : State} {locs : List Loc} {cells slots : Nat} {Z : State} {a0 : Array Value} {h h0 : Heap} {EL : List (String × Nat)} {vm0 : Vm} {k0 : Nat}
/-- the end of a body that may load String constants -/
abbrev o_EndW (Z : State) (EL : List (String × Nat)) (s : State) (h0 : Heap) (rm : Room) (Q : Option Value → Heap → List Loc → Prop) : Outcome → State → Prop := fun o U' => ∃ v L, o = .returned v ∧ Q v U'.heap L ∧ CHr Z EL s.vm h0 U'.vm U'.heap ∧ ReturnedEndW s o U' L rm.cells rm.slots
def o_MetW (l : Launch) (Z : State) (EL : List (String × Nat)) (y : MethodName) (bytes : ByteArray) (maxL : Nat) (ret : Option FieldType) (ws : List Jvm.Cond) (rm : Room) (as : Array Value) (h0 : Heap) (Q : Option Value → Heap → List Loc → Prop) : Prop :=
 MetFree l y (head1 (Jvm.Cond.code y bytes maxL ret :: ws) rm) (fun a U => a = as ∧ Z.Warmed39 U.vm ∧ U.heap = h0 ∧ CHv Z EL U.vm h0) (fun _ _ _ _ _ => True) (fun _ U o U' => ∃ v L, o = .returned v ∧ Q v U'.heap L ∧ CHr Z EL U.vm U.heap U'.vm U'.heap ∧ ReturnedEndW U o U' L rm.cells rm.slots)
theorem o_metW {y : MethodName} {bytes : ByteArray} {maxL : Nat} {ret : Option FieldType} {ws : List Jvm.Cond} {as : Array Value} {Q : Option Value → Heap → List Loc → Prop} (hp : plainFor y = true)
  (body : ∀ (p : Program) (e : Env) (s : State) (m : MethodId) (below : List Frame) (meth : Method) (c : Code) (s₁ : State), p.tables.exec = Jvm.exec → c.code = bytes → c.maxLocals = maxL → (s.setVm s.vm).vm.findClass y.cls = some m.cls → meth.name = y.name → meth.sig.returnType = ret → meth.locks = false → Z.Warmed39 (s.setVm s.vm).vm → s₁.heap = h0 →
   s.Since s.vm 0 → CHr Z EL s.vm h0 s.vm h0 → Stand p l e rm (s.setVm s.vm) m as below meth c s₁ [] 0 0 → o_Goes p e below (o_EndW Z EL s h0 rm Q) (s₁.setTop (entryFrame m as maxL))) : o_MetW l Z EL y bytes maxL ret ws rm as h0 Q := by
 refine MetFree.of_bodySF hp hisR ?_
 intro p e s m args below meth c s₁ Bd hml hP hK
 obtain ⟨rfl, hZ, rfl, hC⟩ := hP
 exact body p e s m below meth c s₁ Bd.exec Bd.bytes hml (findClass_of_methodNamed Bd.named) (name_of_methodNamed Bd.named Bd.method).1 Bd.returns Bd.notSynchronized hZ (by rw [Bd.state]; rfl) ((State.WarmedH.refl s).since 0) (CHr.refl hC) (Stand.of_body Bd)
theorem o_retVW {Q : Option Value → Heap → List Loc → Prop} (hS : s.Since vm0 k0) (hk : k0 ≤ h.size) (hZ : Z.Warmed39 (s.setVm vm0).vm) (hEL : EW Z a0 EL) (C : CHr Z EL s.vm h0 vm0 h) (eT : T.heap = h) (X : Stand p l e rm (s.setVm vm0) m args below meth c T locs cells slots) (hx : p.tables.exec = Jvm.exec) (hlk : meth.locks = false) {pc : Nat} {Ls : Array Slot} {w : Value} {t : FieldType} {i : Instr} {rest : List Value} (hret : meth.sig.returnType = some t) (hn : narrow t w = w)
  (hi : (i = .ireturn ∧ (t = .int ∨ t = .boolean ∨ t = .byte ∨ t = .char ∨ t = .short) ∧ ∃ z, w = .int z) ∨ (i = .lreturn ∧ t = .long ∧ ∃ z, w = .long z) ∨ (i = .dreturn ∧ t = .double ∧ ∃ z, w = .double z) ∨ (i = .freturn ∧ t = .float ∧ ∃ z, w = .float z) ∨ (i = .areturn ∧ t.isReference = true ∧ w.isRef = true))
  (hd : decode c.code pc = .ok (i, 1)) (hc : cells ≤ rm.cells) (hs : slots ≤ rm.slots) (hq : Q (some w) T.heap locs) : o_Goes p e below (o_EndW Z EL s h0 rm Q) (T.setTop (mkF m pc Ls (w :: rest))) := by
 subst eT
 obtain ⟨fs, hr, hrun, hended, g1, g2, g3, g4⟩ := X.leaveW hS hk (v := some w) (fun h => by rw [hret] at h; cases h) hlk
 have hCC := C.trans (CHv.at X hZ hEL C.1)
 exact ⟨_, _, retOut X hx hret hn hi hd hr, hrun, hended, _, _, rfl, hq, hCC, g1, g2, g3, g4.mono hc hs⟩
theorem o_retIW {Q : Option Value → Heap → List Loc → Prop} (hS : s.Since vm0 k0) (hk : k0 ≤ h.size) (hZ : Z.Warmed39 (s.setVm vm0).vm) (hEL : EW Z a0 EL) (C : CHr Z EL s.vm h0 vm0 h) (eT : T.heap = h) (X : Stand p l e rm (s.setVm vm0) m args below meth c T locs cells slots) (hx : p.tables.exec = Jvm.exec) (hlk : meth.locks = false) {pc : Nat} {Ls : Array Slot} {z : Int32} {rest : List Value} (hret : meth.sig.returnType = some .int)
  (hd : decode c.code pc = .ok (.ireturn, 1)) (hc : cells ≤ rm.cells) (hs : slots ≤ rm.slots) (hq : Q (some (.int z)) T.heap locs) : o_Goes p e below (o_EndW Z EL s h0 rm Q) (T.setTop (mkF m pc Ls (.int z :: rest))) :=
 o_retVW hS hk hZ hEL C eT X hx hlk hret rfl (Or.inl ⟨rfl, Or.inl rfl, z, rfl⟩) hd hc hs hq
theorem o_retJW {Q : Option Value → Heap → List Loc → Prop} (hS : s.Since vm0 k0) (hk : k0 ≤ h.size) (hZ : Z.Warmed39 (s.setVm vm0).vm) (hEL : EW Z a0 EL) (C : CHr Z EL s.vm h0 vm0 h) (eT : T.heap = h) (X : Stand p l e rm (s.setVm vm0) m args below meth c T locs cells slots) (hx : p.tables.exec = Jvm.exec) (hlk : meth.locks = false) {pc : Nat} {Ls : Array Slot} {z : Int64} {rest : List Value} (hret : meth.sig.returnType = some .long)
  (hd : decode c.code pc = .ok (.lreturn, 1)) (hc : cells ≤ rm.cells) (hs : slots ≤ rm.slots) (hq : Q (some (.long z)) T.heap locs) : o_Goes p e below (o_EndW Z EL s h0 rm Q) (T.setTop (mkF m pc Ls (.long z :: rest))) :=
 o_retVW hS hk hZ hEL C eT X hx hlk hret rfl (Or.inr (Or.inl ⟨rfl, rfl, z, rfl⟩)) hd hc hs hq
theorem o_retRW {Q : Option Value → Heap → List Loc → Prop} (hS : s.Since vm0 k0) (hk : k0 ≤ h.size) (hZ : Z.Warmed39 (s.setVm vm0).vm) (hEL : EW Z a0 EL) (C : CHr Z EL s.vm h0 vm0 h) (eT : T.heap = h) (X : Stand p l e rm (s.setVm vm0) m args below meth c T locs cells slots) (hx : p.tables.exec = Jvm.exec) (hlk : meth.locks = false) {pc : Nat} {Ls : Array Slot} {w : Value} {t : FieldType} {rest : List Value} (hret : meth.sig.returnType = some t) (ht : t.isReference = true) (hw : w.isRef = true)
  (hd : decode c.code pc = .ok (.areturn, 1)) (hc : cells ≤ rm.cells) (hs : slots ≤ rm.slots) (hq : Q (some w) T.heap locs) : o_Goes p e below (o_EndW Z EL s h0 rm Q) (T.setTop (mkF m pc Ls (w :: rest))) :=
 o_retVW hS hk hZ hEL C eT X hx hlk hret (by cases t <;> first | rfl | cases ht) (Or.inr (Or.inr (Or.inr (Or.inr ⟨rfl, ht, hw⟩)))) hd hc hs hq
theorem o_retNW {Q : Option Value → Heap → List Loc → Prop} (hS : s.Since vm0 k0) (hk : k0 ≤ h.size) (hZ : Z.Warmed39 (s.setVm vm0).vm) (hEL : EW Z a0 EL) (C : CHr Z EL s.vm h0 vm0 h) (eT : T.heap = h) (X : Stand p l e rm (s.setVm vm0) m args below meth c T locs cells slots) (hx : p.tables.exec = Jvm.exec) (hlk : meth.locks = false) {pc : Nat} {Ls : Array Slot} {z z' : Int32} {t : FieldType} {rest : List Value} (hret : meth.sig.returnType = some t) (ht : t = .boolean ∨ t = .byte ∨ t = .char ∨ t = .short) (hz : nar t z = z')
  (hd : decode c.code pc = .ok (.ireturn, 1)) (hc : cells ≤ rm.cells) (hs : slots ≤ rm.slots) (hq : Q (some (.int z')) T.heap locs) : o_Goes p e below (o_EndW Z EL s h0 rm Q) (T.setTop (mkF m pc Ls (.int z :: rest))) := by
 subst hz eT
 obtain ⟨fs, hr, hrun, hended, g1, g2, g3, g4⟩ := X.leaveW hS hk (v := some (.int (nar t z))) (fun h => by rw [hret] at h; cases h) hlk
 have hCC := C.trans (CHv.at X hZ hEL C.1)
 exact ⟨_, _, retN X hx hret ht hd hr, hrun, hended, _, _, rfl, hq, hCC, g1, g2, g3, g4.mono hc hs⟩
theorem o_ret0W {Q : Option Value → Heap → List Loc → Prop} (hS : s.Since vm0 k0) (hk : k0 ≤ h.size) (hZ : Z.Warmed39 (s.setVm vm0).vm) (hEL : EW Z a0 EL) (C : CHr Z EL s.vm h0 vm0 h) (eT : T.heap = h) (X : Stand p l e rm (s.setVm vm0) m args below meth c T locs cells slots) (hx : p.tables.exec = Jvm.exec) (hlk : meth.locks = false) {pc : Nat} {Ls : Array Slot} (hret : meth.sig.returnType = none)
  (hd : decode c.code pc = .ok (.return_, 1)) (hc : cells ≤ rm.cells) (hs : slots ≤ rm.slots) (hq : Q none T.heap locs) : o_Goes p e below (o_EndW Z EL s h0 rm Q) (T.setTop (mkF m pc Ls [])) := by
 subst eT
 obtain ⟨fs, hr, hrun, hended, g1, g2, g3, g4⟩ := X.leaveW hS hk (v := none) (fun _ => rfl) hlk
 have hCC := C.trans (CHv.at X hZ hEL C.1)
 exact ⟨_, _, X.returnOut hx hret hd hr, hrun, hended, _, _, rfl, hq, hCC, g1, g2, g3, g4.mono hc hs⟩
/-- a static call of a callee that may load String constants -/
theorem o_callSW (hS : s.Since vm0 k0) (hk : k0 ≤ h.size) (hEL : EW Z a0 EL) (H : CHv Z EL vm0 h) (X : Stand p l e R (s.setVm vm0) m args below meth c T locs cells slots) (hx : p.tables.exec = Jvm.exec) (hZ : Z.Warmed39 (s.setVm vm0).vm) {own : String} {index : Nat} {y : MethodName} {bytes : ByteArray} {maxL : Nat} {ret : Option FieldType} (hown : (s.setVm vm0).vm.findClass own = some m.cls)
  (w1 : (Jvm.Cond.methodLink own index y).before a0 Z = true) (w2 : (Jvm.Cond.static y).before a0 Z = true) (w3 : (Jvm.Cond.initialized y.cls).before a0 Z = true) (w4 : (Jvm.Cond.code y bytes maxL ret).before a0 Z = true) (hy : y.cls ≠ "java/lang/invoke/MethodHandle" ∧ y.cls ≠ "java/lang/invoke/VarHandle")
  {as : List Value} {Q : Option Value → Heap → List Loc → Prop} (hM : o_MetW l Z EL y bytes maxL ret [] rm as.toArray h Q) (eT : T.heap = h) {ps : List FieldType} {rt : Option FieldType} (hpd : parseMethodDescriptor y.desc = some ⟨ps, rt⟩) (hlen : as.length = ps.length)
  {pc : Nat} {Ls : Array Slot} {rest : List Value} {W : Nat} (hsize : Ls.size = c.maxLocals) (hW : (rest.map fun v => v.category).sum ≤ W) (hf : rm.frames + 1 ≤ R.frames) (hl : W + (maxL + 11) + rm.locals ≤ R.locals) (hd : decode c.code pc = .ok (.invokestatic index, 3)) (hc : cells + rm.cells ≤ R.cells) (hs : slots + rm.slots ≤ R.slots) :
  ∃ (v : Option Value) (T' : State) (L' : List Loc), Stand p l e R (s.setVm T'.vm) m args below meth c T' (locs ++ L') (cells + rm.cells) (slots + rm.slots) ∧ Q v T'.heap L' ∧ s.Since T'.vm T'.heap.size ∧ Z.Warmed39 (s.setVm T'.vm).vm ∧ (s.setVm T'.vm).vm.findClass own = some m.cls ∧ CHr Z EL vm0 h T'.vm T'.heap ∧
   ∀ target, Steps p.tables e below (T'.setTop (mkF m (pc + 3) Ls (v.toList ++ rest))) target → Steps p.tables e below (T.setTop (mkF m pc Ls (as.reverse ++ rest))) target := by
 obtain ⟨v, _, ⟨T', L', k', n'⟩, -, X', hS2, hg, ⟨Lc, hQ, hl', hk', hn', hC⟩, st⟩ := callSS X hx (y := y) hown (mvT hZ w1) (mvT hZ w2) (mvT hZ w3) (mvT hZ w4) hy (backOfSH (W := W) hM hZ w4 w3 hf hl hEL H) (g := mkF m pc Ls (as.reverse ++ rest)) rfl hsize (argsL := as) (rest := rest) (lenOf hpd hlen) rfl (by show 2 * 0 + _ ≤ _; omega) hd (fun _ _ => ⟨rfl, eT, hc, hs⟩)
 dsimp only [Pt.U, Pt.locs, Pt.cells, Pt.slots] at X' hl' hk' hn' st hQ hS2 hg hC
 subst hl' hk' hn'
 obtain ⟨X3, hS3, hZ3, ho3⟩ := rebS hS (n1 := T.heap.size) (by rw [eT]; exact hk) X' hS2 hg hZ hown
 exact ⟨v, T', Lc, X3, hQ, hS3, hZ3, ho3, hC, fun _ q => st.trans q⟩
/-- a constructor that may load String constants -/
theorem o_callIW (hS : s.Since vm0 k0) (hk : k0 ≤ h.size) (hEL : EW Z a0 EL) (H : CHv Z EL vm0 h) (X : Stand p l e R (s.setVm vm0) m args below meth c T locs cells slots) (hx : p.tables.exec = Jvm.exec) (hZ : Z.Warmed39 (s.setVm vm0).vm) {own : String} {index : Nat} {y : MethodName} {bytes : ByteArray} {maxL : Nat} (hy1 : y.name = "<init>") (hown : (s.setVm vm0).vm.findClass own = some m.cls)
  (w1 : (Jvm.Cond.methodLink own index y).before a0 Z = true) (w4 : (Jvm.Cond.instanceMethod y).before a0 Z = true) (w5 : (Jvm.Cond.initialized y.cls).before a0 Z = true) (w6 : (Jvm.Cond.code y bytes maxL none).before a0 Z = true) (hy : y.cls ≠ "java/lang/invoke/MethodHandle" ∧ y.cls ≠ "java/lang/invoke/VarHandle")
  {b : Addr} {as : List Value} {Q : Option Value → Heap → List Loc → Prop} (hM : o_MetW l Z EL y bytes maxL none [] rm (Value.ref b :: as).toArray h Q) (eT : T.heap = h) {ps : List FieldType} {rt : Option FieldType} (hpd : parseMethodDescriptor y.desc = some ⟨ps, rt⟩) (hlen : as.length = ps.length)
  {pc : Nat} {Ls : Array Slot} {rest : List Value} {W : Nat} (hsize : Ls.size = c.maxLocals) (hW : (rest.map fun v => v.category).sum ≤ W) (hf : rm.frames + 1 ≤ R.frames) (hl : W + (maxL + 11) + rm.locals ≤ R.locals) (hd : decode c.code pc = .ok (.invokespecial index, 3)) (hc : cells + rm.cells ≤ R.cells) (hs : slots + rm.slots ≤ R.slots) :
  ∃ (v : Option Value) (T' : State) (L' : List Loc), Stand p l e R (s.setVm T'.vm) m args below meth c T' (locs ++ L') (cells + rm.cells) (slots + rm.slots) ∧ Q v T'.heap L' ∧ s.Since T'.vm T'.heap.size ∧ Z.Warmed39 (s.setVm T'.vm).vm ∧ (s.setVm T'.vm).vm.findClass own = some m.cls ∧ CHr Z EL vm0 h T'.vm T'.heap ∧
   ∀ target, Steps p.tables e below (T'.setTop (mkF m (pc + 3) Ls (v.toList ++ rest))) target → Steps p.tables e below (T.setTop (mkF m pc Ls (as.reverse ++ Value.ref b :: rest))) target := by
 obtain ⟨v, _, ⟨T', L', k', n'⟩, -, X', hS2, hg, ⟨Lc, hQ, hl', hk', hn', hC⟩, st⟩ := X.specialBackS hx (y := y) hy1 hown (mvT hZ w1) (mvT hZ w4) (mvT hZ w6) hy (backOfSH (W := W) hM hZ w6 w5 hf hl hEL H) (g := mkF m pc Ls (as.reverse ++ Value.ref b :: rest)) rfl hsize (Steps.refl _) (a := b) (argsL := as) (rest := rest) (lenOf hpd hlen) rfl (by show 2 * 0 + _ ≤ _; omega) hd (fun _ _ => ⟨rfl, eT, hc, hs⟩)
 dsimp only [Pt.U, Pt.locs, Pt.cells, Pt.slots] at X' hl' hk' hn' st hQ hS2 hg hC
 subst hl' hk' hn'
 obtain ⟨X3, hS3, hZ3, ho3⟩ := rebS hS (n1 := T.heap.size) (by rw [eT]; exact hk) X' hS2 hg hZ hown
 exact ⟨v, T', Lc, X3, hQ, hS3, hZ3, ho3, hC, fun _ q => st.trans q⟩
/-- an instance method that may load String constants -/
theorem o_callVW (hS : s.Since vm0 k0) (hk : k0 ≤ h.size) (hEL : EW Z a0 EL) (H : CHv Z EL vm0 h) (X : Stand p l e R (s.setVm vm0) m args below meth c T locs cells slots) (hx : p.tables.exec = Jvm.exec) (hZ : Z.Warmed39 (s.setVm vm0).vm) {own C : String} {index : Nat} {y : MethodName} {bytes : ByteArray} {maxL : Nat} {ret : Option FieldType} (hown : (s.setVm vm0).vm.findClass own = some m.cls)
  (w1 : (Jvm.Cond.methodLink own index y).before a0 Z = true) (w2 : (Jvm.Cond.declares y).before a0 Z = true) (w3 : (Jvm.Cond.selects C y y).before a0 Z = true) (w4 : (Jvm.Cond.instanceMethod y).before a0 Z = true) (w5 : (Jvm.Cond.initialized y.cls).before a0 Z = true) (w6 : (Jvm.Cond.code y bytes maxL ret).before a0 Z = true) (hy : y.cls ≠ "java/lang/invoke/MethodHandle" ∧ y.cls ≠ "java/lang/invoke/VarHandle")
  {b : Addr} {as : List Value} {Q : Option Value → Heap → List Loc → Prop} (hM : o_MetW l Z EL y bytes maxL ret [] rm (Value.ref b :: as).toArray h Q) (eT : T.heap = h) (E : Exa Z h b C) {ps : List FieldType} {rt : Option FieldType} (hpd : parseMethodDescriptor y.desc = some ⟨ps, rt⟩) (hlen : as.length = ps.length)
  {pc : Nat} {Ls : Array Slot} {rest : List Value} {W : Nat} (hsize : Ls.size = c.maxLocals) (hW : (rest.map fun v => v.category).sum ≤ W) (hf : rm.frames + 1 ≤ R.frames) (hl : W + (maxL + 11) + rm.locals ≤ R.locals) (hd : decode c.code pc = .ok (.invokevirtual index, 3)) (hc : cells + rm.cells ≤ R.cells) (hs : slots + rm.slots ≤ R.slots) :
  ∃ (v : Option Value) (T' : State) (L' : List Loc), Stand p l e R (s.setVm T'.vm) m args below meth c T' (locs ++ L') (cells + rm.cells) (slots + rm.slots) ∧ Q v T'.heap L' ∧ s.Since T'.vm T'.heap.size ∧ Z.Warmed39 (s.setVm T'.vm).vm ∧ (s.setVm T'.vm).vm.findClass own = some m.cls ∧ CHr Z EL vm0 h T'.vm T'.heap ∧
   ∀ target, Steps p.tables e below (T'.setTop (mkF m (pc + 3) Ls (v.toList ++ rest))) target → Steps p.tables e below (T.setTop (mkF m pc Ls (as.reverse ++ Value.ref b :: rest))) target := by
 obtain ⟨cq, kq, qa, qb, qc⟩ := isOf hZ eT E
 obtain ⟨v, _, ⟨T', L', k', n'⟩, -, X', hS2, hg, ⟨Lc, hQ, hl', hk', hn', hC⟩, st⟩ := X.virtualBackS hx (y := y) (z := y) hown (mvT hZ w1) (mvT hZ w2) (notFace_of_selects (args := #[]) (mvT hZ w3)) (mvT hZ w3) (mvT hZ w4) hy (backOfSH (W := W) hM hZ w6 w5 hf hl hEL H) qa qc (g := mkF m pc Ls (as.reverse ++ Value.ref b :: rest)) rfl hsize (Steps.refl _) (argsL := as) (rest := rest) (lenOf hpd hlen) rfl (by show 2 * 0 + _ ≤ _; omega) hd (fun _ _ => ⟨rfl, eT, hc, hs⟩)
 dsimp only [Pt.U, Pt.locs, Pt.cells, Pt.slots] at X' hl' hk' hn' st hQ hS2 hg hC
 subst hl' hk' hn'
 obtain ⟨X3, hS3, hZ3, ho3⟩ := rebS hS (n1 := T.heap.size) (by rw [eT]; exact hk) X' hS2 hg hZ hown
 exact ⟨v, T', Lc, X3, hQ, hS3, hZ3, ho3, hC, fun _ q => st.trans q⟩
/-- a String under construction is booked nowhere -/
theorem o_safeNull {x : Addr} (hal : Z.vm.Alike vm0) (E : Exa Z h x "java/lang/String") (F : Fld Z h x "java/lang/String" "value" "[B" .null) : Safe Z EL vm0 h x := fun B => by
 obtain ⟨cell, k, e1, e2, e3, -, -⟩ := E
 obtain ⟨p, -, u, a, -, q, -, G, rfl | rfl⟩ := B
 ·obtain ⟨cS, ⟨⟨s1, s2, s3, ⟨cv, kv, iv, s4, s4'⟩, ⟨cc, kc, ic, s5, s5'⟩, s6, s7, s8, s9, s10, s11, s12, s13, s14, s15, s16⟩, hfS, hcS⟩, -, -, -⟩ := G
  obtain ⟨kv', z4⟩ := ff_back (U := Wst Z vm0 h) hal s4
  have FF : Fld Z h q.sa "java/lang/String" "value" "[B" (.ref q.sd) := ⟨q.sC, cv, kv', iv, q.fSV, s1, z4, s6, s2, s3, by rw [← hal.assignable]; exact s4', s8⟩
  exact Fld.ne FF F (by simp) rfl
 ·cases (show h[q.sd]? = some q.SA from G.hd).symm.trans e1
  obtain ⟨cS, -, -, f, -⟩ := G
  have f : vm0.findClass "[B" = some q.SA.cls := f
  rw [hal.findClass] at f
  obtain ⟨k1, q1, q2⟩ := Vm.findClass_spec f
  obtain ⟨k2, q3, q4⟩ := Vm.findClass_spec e2
  cases q1.symm.trans q3
  have : "[B" = "java/lang/String" := q2.symm.trans q4
  exact absurd this (by decide)
theorem o_safeArv {x : Addr} {k : ClassId} {ty : FieldType} {z : Int32} {vs : List Value} {dv : Value} (hal : Z.vm.Alike vm0) (A : Arv Z h x k ty z vs dv) (ht : ty ≠ .byte) : Safe Z EL vm0 h x := by
 obtain ⟨cl, A, -⟩ := A
 exact Safe.arr hal A ht
theorem o_safe0 {x : Addr} : Safe Z [] vm0 h x := fun ⟨_, hp, _⟩ => nomatch hp
theorem o_held0 : CHv Z [] vm0 h := fun _ hp => nomatch hp
end OwnW

/-- an array of n places whose j-th holds the int F j -/
def o_Tb (Z : State) (h : Heap) (a : Addr) (ty : FieldType) (n : Int32) (F : Int32 → Int32) : Prop := ∃ cl : Cell, Arr Z h a cl ty ∧ cl.slots.size = n.toNatClampNeg ∧ ¬ n < 0 ∧ ∀ j : Int32, ¬ j < 0 → j < n → cl.slots[j.toNatClampNeg]? = some (.int (F j))
section OwnTb
variable {Z : State} {h h' : Heap} {a b : Addr} {ty : FieldType} {n : Int32} {F : Int32 → Int32}
theorem o_Tb.lt (T : o_Tb Z h a ty n F) : a < h.size := by obtain ⟨c, A, -⟩ := T; exact A.lt
theorem o_Tb.ext (T : o_Tb Z h a ty n F) (E : Ext h h') : o_Tb Z h' a ty n F := by obtain ⟨c, A, r⟩ := T; exact ⟨c, A.ext E, r⟩
theorem o_Tb.other {sl : Nat} {v : Value} (T : o_Tb Z h a ty n F) (W : Wr h h' b sl v) (q : a ≠ b) : o_Tb Z h' a ty n F := by obtain ⟨c, A, r⟩ := T; exact ⟨c, A.other W q, r⟩
theorem o_Tb.keep {ws : List Addr} (T : o_Tb Z h a ty n F) (K : Keep h h' ws) (q : a ∉ ws) : o_Tb Z h' a ty n F := by obtain ⟨c, A, r⟩ := T; exact ⟨c, ⟨K.2.1 a c A.1 q, A.2⟩, r⟩
theorem o_toNat {j k : Int32} (hj : ¬ j < 0) (hk : ¬ k < 0) (e : j.toNatClampNeg = k.toNatClampNeg) : j = k := by
 rw [← (back32 hj).1, ← (back32 hk).1, e]
theorem o_Tb.new {k : ClassId} (A : Arr Z h a (newA k ty n) ty) (q : ¬ n < 0) (hd : defaultValue ty = .int 0) : o_Tb Z h a ty n (fun _ => 0) := by
 obtain ⟨c, A1, -, S, -, H, -⟩ := Arv.new A q
 refine ⟨c, A1, S, q, fun j hj hn => ?_⟩
 have hi : j.toNatClampNeg < c.slots.size := Nat.lt_of_not_le fun y => inb_of S ⟨hj, hn⟩ (Or.inr y)
 rw [H _ hi, hd]
 rfl
theorem o_Tb.set {j x : Int32} {cl : Cell} (A : Arr Z h a cl ty) (S : cl.slots.size = n.toNatClampNeg) (hn : ¬ n < 0) (H : ∀ j : Int32, ¬ j < 0 → j < n → cl.slots[j.toNatClampNeg]? = some (.int (F j))) (W : Wr h h' a j.toNatClampNeg (.int x)) (hj : ¬ j < 0 ∧ j < n) : o_Tb Z h' a ty n (fun k => if k = j then x else F k) := by
 have hi : j.toNatClampNeg < cl.slots.size := Nat.lt_of_not_le fun y => inb_of S hj (Or.inr y)
 refine ⟨_, A.same W, by simp [Cell.setSlot, S], hn, fun k hk hn => ?_⟩
 by_cases e : k = j
 ·subst e
  show _ = some (Value.int (if k = k then x else F k))
  rw [if_pos rfl]
  simp [Cell.setSlot, hi]
 ·show _ = some (Value.int (if k = j then x else F k))
  have e' : j.toNatClampNeg ≠ k.toNatClampNeg := fun q => e (o_toNat hk hj.1 q.symm)
  rw [if_neg e, ← H k hk hn]
  simp [Cell.setSlot, Array.getElem?_setIfInBounds_ne e']
theorem o_getD (bs : List Int32) (i : Nat) : (bs.map Value.int).getD i (.int 0) = .int (bs.getD i 0) := by
 rw [List.getD_eq_getElem?_getD, List.getD_eq_getElem?_getD, List.getElem?_map]
 cases bs[i]? <;> rfl
theorem o_Tb.of_arv {k : ClassId} {bs : List Int32} (A : Arv Z h a k ty n (bs.map Value.int) (.int 0)) : o_Tb Z h a ty n (fun j => bs.getD j.toNatClampNeg 0) := by
 obtain ⟨c, A1, -, S, q, H, -⟩ := A
 refine ⟨c, A1, S, q, fun j hj hn => ?_⟩
 have hi : j.toNatClampNeg < c.slots.size := Nat.lt_of_not_le fun y => inb_of S ⟨hj, hn⟩ (Or.inr y)
 rw [H _ hi, o_getD]
theorem o_small {c : Int32} (h : ¬ c < 0 ∧ ¬ (255 : Int32) < c) : ∃ k : Fin 256, c = Int32.ofNat k.val := by
 obtain ⟨h1, h2⟩ := h
 rw [Int32.lt_iff_toInt_lt, show (0 : Int32).toInt = 0 from rfl] at h1
 rw [Int32.lt_iff_toInt_lt, show (255 : Int32).toInt = 255 from rfl] at h2
 refine ⟨⟨c.toInt.toNat, by omega⟩, ?_⟩
 rw [← Int32.toInt_inj, Int32.toInt_ofNat_of_lt (by simp only; omega)]
 simp only
 omega
theorem o_fitsC {c : Int32} (h : ¬ c < 0 ∧ ¬ (255 : Int32) < c) : fits .char (.int c) = true := by
 obtain ⟨k, rfl⟩ := o_small h
 exact (by decide +kernel : ∀ k : Fin 256, fits .char (.int (Int32.ofNat k.val)) = true) k
theorem o_ofc {n : Int32} {i : Nat} (hi : i < n.toNatClampNeg) : i < 2 ^ 31 := by
 have := Int32.toNatClampNeg_lt n
 omega
theorem o_Tb.arv {m : Nat} (T : o_Tb Z h a .char n F) (hm : n = Int32.ofNat m) (hm' : m < 2 ^ 31) (hF : ∀ j, ¬ F j < 0 ∧ ¬ (255 : Int32) < F j) : ∃ k, Arv Z h a k .char n (((List.range m).map fun i => F (Int32.ofNat i)).map Value.int) (.int 0) := by
 obtain ⟨c, A, S, q, H⟩ := T
 have hs : c.slots.size = m := by rw [S, hm]; exact Jvm.i32_toNatClampNeg_ofNat hm'
 have e : ∀ i, i < m → (((List.range m).map fun i => F (Int32.ofNat i)).map Value.int).getD i (.int 0) = .int (F (Int32.ofNat i)) := fun i hi => by
  rw [o_getD, List.getD_eq_getElem?_getD, List.getElem?_map, List.getElem?_range hi]; rfl
 refine ⟨c.cls, c, A, rfl, S, q, fun i hi => ?_, fun i hi => ?_⟩
 ·rw [e i (hs ▸ hi)]
  have t : (Int32.ofNat i).toNatClampNeg = i := Jvm.i32_toNatClampNeg_ofNat (by omega)
  have z := H (Int32.ofNat i) (Int32.ofNat_not_neg (by omega)) (by
   rw [Int32.lt_iff_toInt_lt, hm, Int32.toInt_ofNat_of_lt (by omega), Int32.toInt_ofNat_of_lt (by omega)]; omega)
  rw [t] at z
  exact z
 ·rw [e i (hs ▸ hi)]
  exact o_fitsC (hF _)
/-- twice an index -/
theorem o_shl {x : Int32} (h : 0 ≤ x.toInt ∧ x.toInt < 1073741824) : (x <<< ((1 : Int32) &&& 31)).toInt = 2 * x.toInt := by
 have e := c_ishl x 1 1 (by decide)
 have h1 := Int32.toInt_lt (x <<< ((1 : Int32) &&& 31))
 have h2 := Int32.le_toInt (x <<< ((1 : Int32) &&& 31))
 omega
theorem o_add (x k : Int32) (h : -2147483648 ≤ x.toInt + k.toInt ∧ x.toInt + k.toInt < 2147483648) : (x + k).toInt = x.toInt + k.toInt := Jvm.Kit.i32_add (by omega) (by omega)
theorem o_bd {n j : Int32} (h : 0 ≤ j.toInt ∧ j.toInt < n.toInt) : ¬ j < 0 ∧ j < n := by
 rw [Int32.lt_iff_toInt_lt, Int32.lt_iff_toInt_lt, show (0 : Int32).toInt = 0 from rfl]; omega
theorem o_ix0 {x n : Int32} (h : 0 ≤ x.toInt ∧ 2 * x.toInt + 1 < n.toInt) : ¬ (x <<< ((1 : Int32) &&& 31)) < 0 ∧ (x <<< ((1 : Int32) &&& 31)) < n := by
 have := Int32.toInt_lt n
 have e := o_shl (x := x) (by omega)
 exact o_bd (by omega)
theorem o_ix1 {x n : Int32} (h : 0 ≤ x.toInt ∧ 2 * x.toInt + 1 < n.toInt) : ¬ ((x <<< ((1 : Int32) &&& 31)) + (1 : Int32)) < 0 ∧ ((x <<< ((1 : Int32) &&& 31)) + (1 : Int32)) < n := by
 have := Int32.toInt_lt n
 have e := o_shl (x := x) (by omega)
 have f := o_add (x <<< ((1 : Int32) &&& 31)) 1 (by rw [show (1 : Int32).toInt = 1 from rfl]; omega)
 rw [show (1 : Int32).toInt = 1 from rfl] at f
 exact o_bd (by omega)
end OwnTb
section OwnStrT
variable {p : Program} {l : Launch} {e : Env} {R rm : Room} {s : State} {m : MethodId} {args : Array Value} {below : List Frame} {meth : Method} {c : Code} {T : State} {locs : List Loc} {cells slots : Nat} {Z : State} {a0 : Array Value} {h : Heap}
/-- new String(char[]), the chars as a table, each 0 to 255 -/
theorem o_newStrT (X : Stand p l e R s m args below meth c T locs cells slots) (hx : p.tables.exec = Jvm.exec) (hZ : Z.Warmed39 s.vm) {own : String} {index : Nat} {bytes : ByteArray} (hown : s.vm.findClass own = some m.cls)
  (w1 : (Jvm.Cond.methodLink own index ⟨"java/lang/String", "<init>", "([C)V"⟩).before a0 Z = true) (w4 : (Jvm.Cond.instanceMethod ⟨"java/lang/String", "<init>", "([C)V"⟩).before a0 Z = true) (w6 : (Jvm.Cond.code ⟨"java/lang/String", "<init>", "([C)V"⟩ bytes 2 none).before a0 Z = true) (wi : (Jvm.Cond.instantiable "java/lang/String" 4).before a0 Z = true)
  (hws : ∀ d ∈ StrChars.Road.words, d.before a0 Z = true) {x b : Addr} {v0 c0 : Value} {z N : Int32} {n n0 : Nat} {F : Int32 → Int32} (hx0 : n0 ≤ x) (hh0 : n0 ≤ h.size) (E : Exa Z h x "java/lang/String") (V : Fld Z h x "java/lang/String" "value" "[B" v0) (C : Fld Z h x "java/lang/String" "coder" "B" c0)
  (K : o_Tb Z h b .char N F) (S : Sta Z h "java/lang/String" "COMPACT_STRINGS" "Z" (.int z)) (hz : ¬ z = 0) (hN : N = Int32.ofNat n) (l0 : 0 < n) (l2 : n ≤ 4000) (hp : ∀ j, ¬ F j < 0 ∧ ¬ (255 : Int32) < F j) (eT : T.heap = h)
  {pc : Nat} {Ls : Array Slot} {rest : List Value} {W : Nat} (hsize : Ls.size = c.maxLocals) (hW : (rest.map fun v => v.category).sum ≤ W) (hf : 4 ≤ R.frames) (hl : W + 65 ≤ R.locals) (hd : decode c.code pc = .ok (.invokespecial index, 3)) (hc : cells + 1 ≤ R.cells) (hs : slots + n ≤ R.slots) :
  ∃ (T' : State) (L' : List Loc), Stand p l e R s m args below meth c T' (locs ++ L') (cells + 1) (slots + n) ∧ (Fr n0 L' ∧ Keep h T'.heap [x] ∧ Exa Z T'.heap x "java/lang/String" ∧ Fld Z T'.heap x "java/lang/String" "coder" "B" (.int 0) ∧ ∃ (t : Addr) (G : Int32 → Int32), h.size ≤ t ∧ Fld Z T'.heap x "java/lang/String" "value" "[B" (.ref t) ∧ o_Tb Z T'.heap t .byte N G) ∧ ∀ target, Steps p.tables e below (T'.setTop (mkF m (pc + 3) Ls rest)) target → Steps p.tables e below (T.setTop (mkF m pc Ls (Value.ref b :: Value.ref x :: rest))) target := by
 obtain ⟨kC, K'⟩ := K.arv hN (by omega) hp
 obtain ⟨T', L', X', ⟨-, q1, q2, q3, q4, t, k, -, q5, -, q6, q7⟩, st⟩ := o_newStr X hx hZ hown w1 w4 w6 wi hws hx0 hh0 E V C K' S hz (n := n) (by rw [List.length_map, List.length_range]) hN l0 l2 (fun c hc => by
  obtain ⟨i, -, rfl⟩ := List.mem_map.mp hc
  exact hp _) eT hsize hW hf hl hd hc hs
 exact ⟨T', L', X', ⟨q1, q2, q3, q4, t, _, q5, q6, o_Tb.of_arv q7⟩, st⟩
end OwnStrT

theorem o_d11_0 : decode jdk_52_method_4_code 0 = .ok (.getstatic 44, 3) := by decide +kernel
theorem o_t49 : (Jvm.Cond.fieldLink "java/lang/StringUTF16" (44 : Nat) "java/lang/StringUTF16" "$assertionsDisabled" "Z") ∈ tables_1 := List.mem_of_getElem? (i := 49) rfl
theorem o_d11_3 : decode jdk_52_method_4_code 3 = .ok (.ifCond .ne 25, 3) := by decide +kernel
theorem o_d11_28 : decode jdk_52_method_4_code 28 = .ok (.iload_n 1, 1) := by decide +kernel
theorem o_d11_29 : decode jdk_52_method_4_code 29 = .ok (.iconst 1, 1) := by decide +kernel
theorem o_d11_30 : decode jdk_52_method_4_code 30 = .ok (.ishl, 1) := by decide +kernel
theorem o_d11_31 : decode jdk_52_method_4_code 31 = .ok (.istore_n 1, 1) := by decide +kernel
theorem o_d11_32 : decode jdk_52_method_4_code 32 = .ok (.aload_n 0, 1) := by decide +kernel
theorem o_d11_33 : decode jdk_52_method_4_code 33 = .ok (.iload_n 1, 1) := by decide +kernel
theorem o_d11_34 : decode jdk_52_method_4_code 34 = .ok (.iinc 1 1, 3) := by decide +kernel
theorem o_d11_37 : decode jdk_52_method_4_code 37 = .ok (.iload_n 2, 1) := by decide +kernel
theorem o_d11_38 : decode jdk_52_method_4_code 38 = .ok (.getstatic 59, 3) := by decide +kernel
theorem o_t50 : (Jvm.Cond.fieldLink "java/lang/StringUTF16" (59 : Nat) "java/lang/StringUTF16" "HI_BYTE_SHIFT" "I") ∈ tables_1 := List.mem_of_getElem? (i := 50) rfl
theorem o_d11_41 : decode jdk_52_method_4_code 41 = .ok (.ishr, 1) := by decide +kernel
theorem o_d11_42 : decode jdk_52_method_4_code 42 = .ok (.i2b, 1) := by decide +kernel
theorem o_d11_43 : decode jdk_52_method_4_code 43 = .ok (.bastore, 1) := by decide +kernel
theorem o_d11_44 : decode jdk_52_method_4_code 44 = .ok (.aload_n 0, 1) := by decide +kernel
theorem o_d11_45 : decode jdk_52_method_4_code 45 = .ok (.iload_n 1, 1) := by decide +kernel
theorem o_d11_46 : decode jdk_52_method_4_code 46 = .ok (.iload_n 2, 1) := by decide +kernel
theorem o_d11_47 : decode jdk_52_method_4_code 47 = .ok (.getstatic 63, 3) := by decide +kernel
theorem o_t51 : (Jvm.Cond.fieldLink "java/lang/StringUTF16" (63 : Nat) "java/lang/StringUTF16" "LO_BYTE_SHIFT" "I") ∈ tables_1 := List.mem_of_getElem? (i := 51) rfl
theorem o_d11_50 : decode jdk_52_method_4_code 50 = .ok (.ishr, 1) := by decide +kernel
theorem o_d11_51 : decode jdk_52_method_4_code 51 = .ok (.i2b, 1) := by decide +kernel
theorem o_d11_52 : decode jdk_52_method_4_code 52 = .ok (.bastore, 1) := by decide +kernel
theorem o_pn0 : plainName "java/lang/StringUTF16" = true := by first | (simp [plainName, overriddenIn]; done) | decide +kernel
theorem o_d11_53 : decode jdk_52_method_4_code 53 = .ok (.return_, 1) := by decide +kernel
def o_G11_1 (x1 : Int32) (x2 : Int32) (q_F : Int32 → Int32) : Int32 → Int32 := fun k => if k = (x1 <<< ((1 : Int32) &&& 31)) then (nar .byte ((x2 >>> ((0 : Int32) &&& 31)).toInt8.toInt32)) else q_F k
def o_G11_2 (x1 : Int32) (x2 : Int32) (q_F : Int32 → Int32) : Int32 → Int32 := fun k => if k = ((x1 <<< ((1 : Int32) &&& 31)) + (1 : Int32)) then (nar .byte ((x2 >>> ((8 : Int32) &&& 31)).toInt8.toInt32)) else (o_G11_1 x1 x2 q_F) k
def o_Q11 (Z : State) (r0 : Addr) (x1 : Int32) (x2 : Int32) (q_n : Int32) (q_F : Int32 → Int32) (h0 : Heap) (n0 : Nat) (v : Option Value) (h : Heap) (L : List Loc) : Prop := v = none ∧ Fr n0 L ∧ Keep h0 h [r0] ∧ o_Tb Z h r0 .byte q_n (o_G11_2 x1 x2 q_F)
abbrev o_R11 : Room := { frames := 0, cells := 0, slots := 0, locals := 0 }
theorem o_ef11 (m : MethodId) (z0 : Addr) (z1 : Int32) (z2 : Int32) : entryFrame m #[(.ref z0), (.int z1), (.int z2)] 3 = mkF m 0 #[.val (.ref z0), .val (.int z1), .val (.int z2)] [] := by first | (simp [entryFrame, mkF, argsToLocals, Value.category]; done) | rfl
set_option maxRecDepth 65536 in
set_option maxHeartbeats 40000000 in
theorem rm11 (l : Launch) (Z : State) (a0 : Array Value) (hw : ∀ d ∈ tables_1, d.before a0 Z = true) (ws : List Jvm.Cond) (r0 : Addr) (x1 : Int32) (x2 : Int32) (q_n : Int32) (q_F : Int32 → Int32) (h0 : Heap) (n0 : Nat) (Z0 : n0 ≤ h0.size) (g_r0 : n0 ≤ r0) (O0 : Old Z n0 h0) (T_a : o_Tb Z h0 r0 .byte q_n q_F) (hix : 0 ≤ x1.toInt ∧ 2 * x1.toInt + 1 < q_n.toInt) (S_ad : Sta Z Z.heap "java/lang/StringUTF16" "$assertionsDisabled" "Z" (.int 1)) (S_hi : Sta Z Z.heap "java/lang/StringUTF16" "HI_BYTE_SHIFT" "I" (.int 0)) (S_lo : Sta Z Z.heap "java/lang/StringUTF16" "LO_BYTE_SHIFT" "I" (.int 8)) : o_Met l Z (⟨"java/lang/StringUTF16", "putChar", "([BII)V"⟩ : MethodName) jdk_52_method_4_code 3 none ws o_R11 #[(.ref r0), (.int x1), (.int x2)] h0 (o_Q11 Z r0 x1 x2 q_n q_F h0 n0) := by
 refine o_met (plainFor_of_name o_pn0) ?_
 intro p e s m below meth c s₁ hx hby hml hown hnm hret hlk hZ e0 X0
 have N0 := Fr.nil n0
 have hml : c.maxLocals = 3 := hml
 have hown : s.vm.findClass "java/lang/StringUTF16" = some m.cls := hown
 have hret : meth.sig.returnType = none := hret
 have hby : c.code = jdk_52_method_4_code := hby
 have hnm : meth.name = "putChar" := hnm
 rw [o_ef11]
 show o_Gs p e below _ s₁ m 0 #[.val (.ref r0), .val (.int x1), .val (.int x2)] []
 obtain ⟨T1, X1, e1, st1⟩ := getS2 X0 hx hZ hown (host := "") (Or.inl (hw _ o_t49)) Via.refl e0 (S_ad.ext O0.2) (g := (mkF m 0 #[.val (.ref r0), .val (.int x1), .val (.int x2)] [])) rfl (hb hby o_d11_0)
 refine o_go st1 ?_
 show o_Gs p e below _ T1 m 3 #[.val (.ref r0), .val (.int x1), .val (.int x2)] [(.int 1)]
 have hd2 : ¬ ((1 : Int32) = (0 : Int32)) := (by decide)
 refine o_gi (XS.ifYes X1.here hx rfl (pc0 := 3) (pc' := 28) rfl (hb hby o_d11_3) rfl ((if0 _ _).trans (feq hd2).2) (by decide) (by decide)) ?_
 refine o_gi (XS.iloadN X1.here hx rfl (hb hby o_d11_28) rfl) ?_
 refine o_gi (XS.iconst X1.here hx rfl (hb hby o_d11_29)) ?_
 show o_Gs p e below _ T1 m 30 #[.val (.ref r0), .val (.int x1), .val (.int x2)] [(.int 1), (.int x1)]
 refine o_gi (XS.ishl X1.here hx rfl (hb hby o_d11_30) rfl) ?_
 refine o_gi (XS.istoreN X1.here hx rfl (hb hby o_d11_31) rfl (l' := #[.val (.ref r0), .val (.int (x1 <<< ((1 : Int32) &&& 31))), .val (.int x2)]) rfl) ?_
 refine o_gi (XS.aloadN X1.here hx rfl (hb hby o_d11_32) rfl rfl) ?_
 refine o_gi (XS.iloadN X1.here hx rfl (hb hby o_d11_33) rfl) ?_
 show o_Gs p e below _ T1 m 34 #[.val (.ref r0), .val (.int (x1 <<< ((1 : Int32) &&& 31))), .val (.int x2)] [(.int (x1 <<< ((1 : Int32) &&& 31))), (.ref r0)]
 refine o_gi (XS.iinc X1.here hx rfl (hb hby o_d11_34) rfl (l' := #[.val (.ref r0), .val (.int ((x1 <<< ((1 : Int32) &&& 31)) + (1 : Int32))), .val (.int x2)]) rfl) ?_
 refine o_gi (XS.iloadN X1.here hx rfl (hb hby o_d11_37) rfl) ?_
 show o_Gs p e below _ T1 m 38 #[.val (.ref r0), .val (.int ((x1 <<< ((1 : Int32) &&& 31)) + (1 : Int32))), .val (.int x2)] [(.int x2), (.int (x1 <<< ((1 : Int32) &&& 31))), (.ref r0)]
 obtain ⟨T3, X3, e3, st3⟩ := getS2 X1 hx hZ hown (host := "") (Or.inl (hw _ o_t50)) Via.refl e1 (S_hi.ext O0.2) (g := (mkF m 38 #[.val (.ref r0), .val (.int ((x1 <<< ((1 : Int32) &&& 31)) + (1 : Int32))), .val (.int x2)] [(.int x2), (.int (x1 <<< ((1 : Int32) &&& 31))), (.ref r0)])) rfl (hb hby o_d11_38)
 refine o_go st3 ?_
 show o_Gs p e below _ T3 m 41 #[.val (.ref r0), .val (.int ((x1 <<< ((1 : Int32) &&& 31)) + (1 : Int32))), .val (.int x2)] [(.int 0), (.int x2), (.int (x1 <<< ((1 : Int32) &&& 31))), (.ref r0)]
 refine o_gi (XS.ishr X3.here hx rfl (hb hby o_d11_41) rfl) ?_
 show o_Gs p e below _ T3 m 42 #[.val (.ref r0), .val (.int ((x1 <<< ((1 : Int32) &&& 31)) + (1 : Int32))), .val (.int x2)] [(.int (x2 >>> ((0 : Int32) &&& 31))), (.int (x1 <<< ((1 : Int32) &&& 31))), (.ref r0)]
 refine o_gi (XS.i2b X3.here hx rfl (hb hby o_d11_42) rfl) ?_
 show o_Gs p e below _ T3 m 43 #[.val (.ref r0), .val (.int ((x1 <<< ((1 : Int32) &&& 31)) + (1 : Int32))), .val (.int x2)] [(.int ((x2 >>> ((0 : Int32) &&& 31)).toInt8.toInt32)), (.int (x1 <<< ((1 : Int32) &&& 31))), (.ref r0)]
 obtain ⟨cl4, Ar4, sa4, na4, ha4⟩ := id T_a
 obtain ⟨T4, h4, X4, e4, W4, st4⟩ := stB X3 hx hZ e3 Ar4 (j := (x1 <<< ((1 : Int32) &&& 31))) (inb_of sa4 (o_ix0 hix)) (g := (mkF m 43 #[.val (.ref r0), .val (.int ((x1 <<< ((1 : Int32) &&& 31)) + (1 : Int32))), .val (.int x2)] [(.int ((x2 >>> ((0 : Int32) &&& 31)).toInt8.toInt32)), (.int (x1 <<< ((1 : Int32) &&& 31))), (.ref r0)])) rfl rfl (hb hby o_d11_43)
 have V4 : o_Tb Z h4 r0 .byte q_n (o_G11_1 x1 x2 q_F) := o_Tb.set Ar4 sa4 na4 ha4 W4 (o_ix0 hix)
 have N4 := Fr.snoc X4 N0 g_r0
 refine o_go st4 ?_
 refine o_gi (XS.aloadN X4.here hx rfl (hb hby o_d11_44) rfl rfl) ?_
 refine o_gi (XS.iloadN X4.here hx rfl (hb hby o_d11_45) rfl) ?_
 refine o_gi (XS.iloadN X4.here hx rfl (hb hby o_d11_46) rfl) ?_
 show o_Gs p e below _ T4 m 47 #[.val (.ref r0), .val (.int ((x1 <<< ((1 : Int32) &&& 31)) + (1 : Int32))), .val (.int x2)] [(.int x2), (.int ((x1 <<< ((1 : Int32) &&& 31)) + (1 : Int32))), (.ref r0)]
 obtain ⟨T5, X5, e5, st5⟩ := getS2 X4 hx hZ hown (host := "") (Or.inl (hw _ o_t51)) Via.refl e4 (S_lo.ext (O0.wr W4 g_r0).2) (g := (mkF m 47 #[.val (.ref r0), .val (.int ((x1 <<< ((1 : Int32) &&& 31)) + (1 : Int32))), .val (.int x2)] [(.int x2), (.int ((x1 <<< ((1 : Int32) &&& 31)) + (1 : Int32))), (.ref r0)])) rfl (hb hby o_d11_47)
 refine o_go st5 ?_
 show o_Gs p e below _ T5 m 50 #[.val (.ref r0), .val (.int ((x1 <<< ((1 : Int32) &&& 31)) + (1 : Int32))), .val (.int x2)] [(.int 8), (.int x2), (.int ((x1 <<< ((1 : Int32) &&& 31)) + (1 : Int32))), (.ref r0)]
 refine o_gi (XS.ishr X5.here hx rfl (hb hby o_d11_50) rfl) ?_
 show o_Gs p e below _ T5 m 51 #[.val (.ref r0), .val (.int ((x1 <<< ((1 : Int32) &&& 31)) + (1 : Int32))), .val (.int x2)] [(.int (x2 >>> ((8 : Int32) &&& 31))), (.int ((x1 <<< ((1 : Int32) &&& 31)) + (1 : Int32))), (.ref r0)]
 refine o_gi (XS.i2b X5.here hx rfl (hb hby o_d11_51) rfl) ?_
 show o_Gs p e below _ T5 m 52 #[.val (.ref r0), .val (.int ((x1 <<< ((1 : Int32) &&& 31)) + (1 : Int32))), .val (.int x2)] [(.int ((x2 >>> ((8 : Int32) &&& 31)).toInt8.toInt32)), (.int ((x1 <<< ((1 : Int32) &&& 31)) + (1 : Int32))), (.ref r0)]
 obtain ⟨cl6, Ar6, sa6, na6, ha6⟩ := id V4
 obtain ⟨T6, h6, X6, e6, W6, st6⟩ := stB X5 hx hZ e5 Ar6 (j := ((x1 <<< ((1 : Int32) &&& 31)) + (1 : Int32))) (inb_of sa6 (o_ix1 hix)) (g := (mkF m 52 #[.val (.ref r0), .val (.int ((x1 <<< ((1 : Int32) &&& 31)) + (1 : Int32))), .val (.int x2)] [(.int ((x2 >>> ((8 : Int32) &&& 31)).toInt8.toInt32)), (.int ((x1 <<< ((1 : Int32) &&& 31)) + (1 : Int32))), (.ref r0)])) rfl rfl (hb hby o_d11_52)
 have V6 : o_Tb Z h6 r0 .byte q_n (o_G11_2 x1 x2 q_F) := o_Tb.set Ar6 sa6 na6 ha6 W6 (o_ix1 hix)
 have N6 := Fr.snoc X6 N4 g_r0
 refine o_go st6 ?_
 show o_Gs p e below _ T6 m 53 #[.val (.ref r0), .val (.int ((x1 <<< ((1 : Int32) &&& 31)) + (1 : Int32))), .val (.int x2)] []
 exact o_ret0 X6 hx hlk hret (hb hby o_d11_53) (by decide) (by decide) (by show o_Q11 Z r0 x1 x2 q_n q_F h0 n0 _ T6.heap _; rw [e6]; exact ⟨rfl, N6, (((Keep.refl h0 ([r0] : List Addr)).wr W4 (Or.inl (List.mem_of_getElem? (i := 0) rfl))).wr W6 (Or.inl (List.mem_of_getElem? (i := 0) rfl))), V6⟩)
theorem o_d12_0 : decode jdk_52_method_5_code 0 = .ok (.getstatic 44, 3) := by decide +kernel
theorem o_d12_3 : decode jdk_52_method_5_code 3 = .ok (.ifCond .ne 25, 3) := by decide +kernel
theorem o_d12_28 : decode jdk_52_method_5_code 28 = .ok (.iload_n 1, 1) := by decide +kernel
theorem o_d12_29 : decode jdk_52_method_5_code 29 = .ok (.iconst 1, 1) := by decide +kernel
theorem o_d12_30 : decode jdk_52_method_5_code 30 = .ok (.ishl, 1) := by decide +kernel
theorem o_d12_31 : decode jdk_52_method_5_code 31 = .ok (.istore_n 1, 1) := by decide +kernel
theorem o_d12_32 : decode jdk_52_method_5_code 32 = .ok (.aload_n 0, 1) := by decide +kernel
theorem o_d12_33 : decode jdk_52_method_5_code 33 = .ok (.iload_n 1, 1) := by decide +kernel
theorem o_d12_34 : decode jdk_52_method_5_code 34 = .ok (.iinc 1 1, 3) := by decide +kernel
theorem o_d12_37 : decode jdk_52_method_5_code 37 = .ok (.baload, 1) := by decide +kernel
theorem o_d12_38 : decode jdk_52_method_5_code 38 = .ok (.sipush 255, 3) := by decide +kernel
theorem o_d12_41 : decode jdk_52_method_5_code 41 = .ok (.iand, 1) := by decide +kernel
theorem o_d12_42 : decode jdk_52_method_5_code 42 = .ok (.getstatic 59, 3) := by decide +kernel
theorem o_d12_45 : decode jdk_52_method_5_code 45 = .ok (.ishl, 1) := by decide +kernel
theorem o_d12_46 : decode jdk_52_method_5_code 46 = .ok (.aload_n 0, 1) := by decide +kernel
theorem o_d12_47 : decode jdk_52_method_5_code 47 = .ok (.iload_n 1, 1) := by decide +kernel
theorem o_d12_48 : decode jdk_52_method_5_code 48 = .ok (.baload, 1) := by decide +kernel
theorem o_d12_49 : decode jdk_52_method_5_code 49 = .ok (.sipush 255, 3) := by decide +kernel
theorem o_d12_52 : decode jdk_52_method_5_code 52 = .ok (.iand, 1) := by decide +kernel
theorem o_d12_53 : decode jdk_52_method_5_code 53 = .ok (.getstatic 63, 3) := by decide +kernel
theorem o_d12_56 : decode jdk_52_method_5_code 56 = .ok (.ishl, 1) := by decide +kernel
theorem o_d12_57 : decode jdk_52_method_5_code 57 = .ok (.ior, 1) := by decide +kernel
theorem o_d12_58 : decode jdk_52_method_5_code 58 = .ok (.i2c, 1) := by decide +kernel
theorem o_d12_59 : decode jdk_52_method_5_code 59 = .ok (.ireturn, 1) := by decide +kernel
def o_f12 (x1 : Int32) (q_F : Int32 → Int32) : Int32 := ((((((q_F (x1 <<< ((1 : Int32) &&& 31))) &&& (255 : Int32)) <<< ((0 : Int32) &&& 31)) ||| (((q_F ((x1 <<< ((1 : Int32) &&& 31)) + (1 : Int32))) &&& (255 : Int32)) <<< ((8 : Int32) &&& 31))).toUInt32.toUInt16.toUInt32.toInt32).toUInt32.toUInt16.toUInt32.toInt32)
def o_Q12 (r0 : Addr) (x1 : Int32) (q_n : Int32) (q_F : Int32 → Int32) (h0 : Heap) (n0 : Nat) (v : Option Value) (h : Heap) (L : List Loc) : Prop := v = some (.int (o_f12 x1 q_F)) ∧ Fr n0 L ∧ h = h0
abbrev o_R12 : Room := { frames := 0, cells := 0, slots := 0, locals := 0 }
theorem o_ef12 (m : MethodId) (z0 : Addr) (z1 : Int32) : entryFrame m #[(.ref z0), (.int z1)] 2 = mkF m 0 #[.val (.ref z0), .val (.int z1)] [] := by first | (simp [entryFrame, mkF, argsToLocals, Value.category]; done) | rfl
set_option maxRecDepth 65536 in
set_option maxHeartbeats 40000000 in
theorem rm12 (l : Launch) (Z : State) (a0 : Array Value) (hw : ∀ d ∈ tables_1, d.before a0 Z = true) (ws : List Jvm.Cond) (r0 : Addr) (x1 : Int32) (q_n : Int32) (q_F : Int32 → Int32) (h0 : Heap) (n0 : Nat) (O0 : Old Z n0 h0) (T_a : o_Tb Z h0 r0 .byte q_n q_F) (hix : 0 ≤ x1.toInt ∧ 2 * x1.toInt + 1 < q_n.toInt) (S_ad : Sta Z Z.heap "java/lang/StringUTF16" "$assertionsDisabled" "Z" (.int 1)) (S_hi : Sta Z Z.heap "java/lang/StringUTF16" "HI_BYTE_SHIFT" "I" (.int 0)) (S_lo : Sta Z Z.heap "java/lang/StringUTF16" "LO_BYTE_SHIFT" "I" (.int 8)) : o_Met l Z (⟨"java/lang/StringUTF16", "getChar", "([BI)C"⟩ : MethodName) jdk_52_method_5_code 2 (some .char) ws o_R12 #[(.ref r0), (.int x1)] h0 (o_Q12 r0 x1 q_n q_F h0 n0) := by
 refine o_met (plainFor_of_name o_pn0) ?_
 intro p e s m below meth c s₁ hx hby hml hown hnm hret hlk hZ e0 X0
 have N0 := Fr.nil n0
 have hml : c.maxLocals = 2 := hml
 have hown : s.vm.findClass "java/lang/StringUTF16" = some m.cls := hown
 have hret : meth.sig.returnType = (some .char) := hret
 have hby : c.code = jdk_52_method_5_code := hby
 have hnm : meth.name = "getChar" := hnm
 rw [o_ef12]
 show o_Gs p e below _ s₁ m 0 #[.val (.ref r0), .val (.int x1)] []
 obtain ⟨T7, X7, e7, st7⟩ := getS2 X0 hx hZ hown (host := "") (Or.inl (hw _ o_t49)) Via.refl e0 (S_ad.ext O0.2) (g := (mkF m 0 #[.val (.ref r0), .val (.int x1)] [])) rfl (hb hby o_d12_0)
 refine o_go st7 ?_
 show o_Gs p e below _ T7 m 3 #[.val (.ref r0), .val (.int x1)] [(.int 1)]
 have hd8 : ¬ ((1 : Int32) = (0 : Int32)) := (by decide)
 refine o_gi (XS.ifYes X7.here hx rfl (pc0 := 3) (pc' := 28) rfl (hb hby o_d12_3) rfl ((if0 _ _).trans (feq hd8).2) (by decide) (by decide)) ?_
 refine o_gi (XS.iloadN X7.here hx rfl (hb hby o_d12_28) rfl) ?_
 refine o_gi (XS.iconst X7.here hx rfl (hb hby o_d12_29)) ?_
 show o_Gs p e below _ T7 m 30 #[.val (.ref r0), .val (.int x1)] [(.int 1), (.int x1)]
 refine o_gi (XS.ishl X7.here hx rfl (hb hby o_d12_30) rfl) ?_
 refine o_gi (XS.istoreN X7.here hx rfl (hb hby o_d12_31) rfl (l' := #[.val (.ref r0), .val (.int (x1 <<< ((1 : Int32) &&& 31)))]) rfl) ?_
 refine o_gi (XS.aloadN X7.here hx rfl (hb hby o_d12_32) rfl rfl) ?_
 refine o_gi (XS.iloadN X7.here hx rfl (hb hby o_d12_33) rfl) ?_
 show o_Gs p e below _ T7 m 34 #[.val (.ref r0), .val (.int (x1 <<< ((1 : Int32) &&& 31)))] [(.int (x1 <<< ((1 : Int32) &&& 31))), (.ref r0)]
 refine o_gi (XS.iinc X7.here hx rfl (hb hby o_d12_34) rfl (l' := #[.val (.ref r0), .val (.int ((x1 <<< ((1 : Int32) &&& 31)) + (1 : Int32)))]) rfl) ?_
 show o_Gs p e below _ T7 m 37 #[.val (.ref r0), .val (.int ((x1 <<< ((1 : Int32) &&& 31)) + (1 : Int32)))] [(.int (x1 <<< ((1 : Int32) &&& 31))), (.ref r0)]
 obtain ⟨cl9, Ar9, sa9, na9, ha9⟩ := id T_a
 have ix9 : ¬ (x1 <<< ((1 : Int32) &&& 31)) < 0 ∧ (x1 <<< ((1 : Int32) &&& 31)) < q_n := (o_ix0 hix)
 refine o_go (X7.baloadBytes hx (j := (x1 <<< ((1 : Int32) &&& 31))) (v := (.int (q_F (x1 <<< ((1 : Int32) &&& 31))))) (by rw [e7]; exact Ar9.1) (State.isArrayOf_alike hZ.alike Ar9.2.1) Ar9.2.2 (inb_of sa9 ix9) (ha9 _ ix9.1 ix9.2) (g := (mkF m 37 #[.val (.ref r0), .val (.int ((x1 <<< ((1 : Int32) &&& 31)) + (1 : Int32)))] [(.int (x1 <<< ((1 : Int32) &&& 31))), (.ref r0)])) rfl rfl (hb hby o_d12_37)) ?_
 refine o_gi (XS.sipush X7.here hx rfl (hb hby o_d12_38)) ?_
 show o_Gs p e below _ T7 m 41 #[.val (.ref r0), .val (.int ((x1 <<< ((1 : Int32) &&& 31)) + (1 : Int32)))] [(.int 255), (.int (q_F (x1 <<< ((1 : Int32) &&& 31))))]
 refine o_gi (XS.iand X7.here hx rfl (hb hby o_d12_41) rfl) ?_
 show o_Gs p e below _ T7 m 42 #[.val (.ref r0), .val (.int ((x1 <<< ((1 : Int32) &&& 31)) + (1 : Int32)))] [(.int ((q_F (x1 <<< ((1 : Int32) &&& 31))) &&& (255 : Int32)))]
 obtain ⟨T10, X10, e10, st10⟩ := getS2 X7 hx hZ hown (host := "") (Or.inl (hw _ o_t50)) Via.refl e7 (S_hi.ext O0.2) (g := (mkF m 42 #[.val (.ref r0), .val (.int ((x1 <<< ((1 : Int32) &&& 31)) + (1 : Int32)))] [(.int ((q_F (x1 <<< ((1 : Int32) &&& 31))) &&& (255 : Int32)))])) rfl (hb hby o_d12_42)
 refine o_go st10 ?_
 show o_Gs p e below _ T10 m 45 #[.val (.ref r0), .val (.int ((x1 <<< ((1 : Int32) &&& 31)) + (1 : Int32)))] [(.int 0), (.int ((q_F (x1 <<< ((1 : Int32) &&& 31))) &&& (255 : Int32)))]
 refine o_gi (XS.ishl X10.here hx rfl (hb hby o_d12_45) rfl) ?_
 refine o_gi (XS.aloadN X10.here hx rfl (hb hby o_d12_46) rfl rfl) ?_
 refine o_gi (XS.iloadN X10.here hx rfl (hb hby o_d12_47) rfl) ?_
 show o_Gs p e below _ T10 m 48 #[.val (.ref r0), .val (.int ((x1 <<< ((1 : Int32) &&& 31)) + (1 : Int32)))] [(.int ((x1 <<< ((1 : Int32) &&& 31)) + (1 : Int32))), (.ref r0), (.int (((q_F (x1 <<< ((1 : Int32) &&& 31))) &&& (255 : Int32)) <<< ((0 : Int32) &&& 31)))]
 obtain ⟨cl11, Ar11, sa11, na11, ha11⟩ := id T_a
 have ix11 : ¬ ((x1 <<< ((1 : Int32) &&& 31)) + (1 : Int32)) < 0 ∧ ((x1 <<< ((1 : Int32) &&& 31)) + (1 : Int32)) < q_n := (o_ix1 hix)
 refine o_go (X10.baloadBytes hx (j := ((x1 <<< ((1 : Int32) &&& 31)) + (1 : Int32))) (v := (.int (q_F ((x1 <<< ((1 : Int32) &&& 31)) + (1 : Int32))))) (by rw [e10]; exact Ar11.1) (State.isArrayOf_alike hZ.alike Ar11.2.1) Ar11.2.2 (inb_of sa11 ix11) (ha11 _ ix11.1 ix11.2) (g := (mkF m 48 #[.val (.ref r0), .val (.int ((x1 <<< ((1 : Int32) &&& 31)) + (1 : Int32)))] [(.int ((x1 <<< ((1 : Int32) &&& 31)) + (1 : Int32))), (.ref r0), (.int (((q_F (x1 <<< ((1 : Int32) &&& 31))) &&& (255 : Int32)) <<< ((0 : Int32) &&& 31)))])) rfl rfl (hb hby o_d12_48)) ?_
 refine o_gi (XS.sipush X10.here hx rfl (hb hby o_d12_49)) ?_
 show o_Gs p e below _ T10 m 52 #[.val (.ref r0), .val (.int ((x1 <<< ((1 : Int32) &&& 31)) + (1 : Int32)))] [(.int 255), (.int (q_F ((x1 <<< ((1 : Int32) &&& 31)) + (1 : Int32)))), (.int (((q_F (x1 <<< ((1 : Int32) &&& 31))) &&& (255 : Int32)) <<< ((0 : Int32) &&& 31)))]
 refine o_gi (XS.iand X10.here hx rfl (hb hby o_d12_52) rfl) ?_
 show o_Gs p e below _ T10 m 53 #[.val (.ref r0), .val (.int ((x1 <<< ((1 : Int32) &&& 31)) + (1 : Int32)))] [(.int ((q_F ((x1 <<< ((1 : Int32) &&& 31)) + (1 : Int32))) &&& (255 : Int32))), (.int (((q_F (x1 <<< ((1 : Int32) &&& 31))) &&& (255 : Int32)) <<< ((0 : Int32) &&& 31)))]
 obtain ⟨T12, X12, e12, st12⟩ := getS2 X10 hx hZ hown (host := "") (Or.inl (hw _ o_t51)) Via.refl e10 (S_lo.ext O0.2) (g := (mkF m 53 #[.val (.ref r0), .val (.int ((x1 <<< ((1 : Int32) &&& 31)) + (1 : Int32)))] [(.int ((q_F ((x1 <<< ((1 : Int32) &&& 31)) + (1 : Int32))) &&& (255 : Int32))), (.int (((q_F (x1 <<< ((1 : Int32) &&& 31))) &&& (255 : Int32)) <<< ((0 : Int32) &&& 31)))])) rfl (hb hby o_d12_53)
 refine o_go st12 ?_
 show o_Gs p e below _ T12 m 56 #[.val (.ref r0), .val (.int ((x1 <<< ((1 : Int32) &&& 31)) + (1 : Int32)))] [(.int 8), (.int ((q_F ((x1 <<< ((1 : Int32) &&& 31)) + (1 : Int32))) &&& (255 : Int32))), (.int (((q_F (x1 <<< ((1 : Int32) &&& 31))) &&& (255 : Int32)) <<< ((0 : Int32) &&& 31)))]
 refine o_gi (XS.ishl X12.here hx rfl (hb hby o_d12_56) rfl) ?_
 show o_Gs p e below _ T12 m 57 #[.val (.ref r0), .val (.int ((x1 <<< ((1 : Int32) &&& 31)) + (1 : Int32)))] [(.int (((q_F ((x1 <<< ((1 : Int32) &&& 31)) + (1 : Int32))) &&& (255 : Int32)) <<< ((8 : Int32) &&& 31))), (.int (((q_F (x1 <<< ((1 : Int32) &&& 31))) &&& (255 : Int32)) <<< ((0 : Int32) &&& 31)))]
 refine o_gi (XS.ior X12.here hx rfl (hb hby o_d12_57) rfl) ?_
 show o_Gs p e below _ T12 m 58 #[.val (.ref r0), .val (.int ((x1 <<< ((1 : Int32) &&& 31)) + (1 : Int32)))] [(.int ((((q_F (x1 <<< ((1 : Int32) &&& 31))) &&& (255 : Int32)) <<< ((0 : Int32) &&& 31)) ||| (((q_F ((x1 <<< ((1 : Int32) &&& 31)) + (1 : Int32))) &&& (255 : Int32)) <<< ((8 : Int32) &&& 31))))]
 refine o_gi (XS.i2c X12.here hx rfl (hb hby o_d12_58) rfl) ?_
 show o_Gs p e below _ T12 m 59 #[.val (.ref r0), .val (.int ((x1 <<< ((1 : Int32) &&& 31)) + (1 : Int32)))] [(.int (((((q_F (x1 <<< ((1 : Int32) &&& 31))) &&& (255 : Int32)) <<< ((0 : Int32) &&& 31)) ||| (((q_F ((x1 <<< ((1 : Int32) &&& 31)) + (1 : Int32))) &&& (255 : Int32)) <<< ((8 : Int32) &&& 31))).toUInt32.toUInt16.toUInt32.toInt32))]
 exact o_retN X12 hx hlk hret (by simp) (z' := ((((((q_F (x1 <<< ((1 : Int32) &&& 31))) &&& (255 : Int32)) <<< ((0 : Int32) &&& 31)) ||| (((q_F ((x1 <<< ((1 : Int32) &&& 31)) + (1 : Int32))) &&& (255 : Int32)) <<< ((8 : Int32) &&& 31))).toUInt32.toUInt16.toUInt32.toInt32).toUInt32.toUInt16.toUInt32.toInt32)) rfl (hb hby o_d12_59) (by decide) (by decide) ⟨by rw [o_f12], N0, e12⟩
theorem o_d24_0 : decode jdk_89_method_14_code 0 = .ok (.iload_n 0, 1) := by decide +kernel
theorem o_d24_1 : decode jdk_89_method_14_code 1 = .ok (.ldc 75, 2) := by decide +kernel
theorem o_t112 : (Jvm.Cond.constant "java/lang/Character" (75 : Nat) (55296 : Int32)) ∈ tables_1 := List.mem_of_getElem? (i := 112) rfl
theorem o_d24_3 : decode jdk_89_method_14_code 3 = .ok (.if_icmp .lt 13, 3) := by decide +kernel
theorem o_d24_16 : decode jdk_89_method_14_code 16 = .ok (.iconst 0, 1) := by decide +kernel
theorem o_d24_6 : decode jdk_89_method_14_code 6 = .ok (.iload_n 0, 1) := by decide +kernel
theorem o_d24_7 : decode jdk_89_method_14_code 7 = .ok (.ldc 76, 2) := by decide +kernel
theorem o_t113 : (Jvm.Cond.constant "java/lang/Character" (76 : Nat) (56320 : Int32)) ∈ tables_1 := List.mem_of_getElem? (i := 113) rfl
theorem o_d24_9 : decode jdk_89_method_14_code 9 = .ok (.if_icmp .ge 7, 3) := by decide +kernel
theorem o_d24_12 : decode jdk_89_method_14_code 12 = .ok (.iconst 1, 1) := by decide +kernel
theorem o_d24_13 : decode jdk_89_method_14_code 13 = .ok (.goto 4, 3) := by decide +kernel
theorem o_pn1 : plainName "java/lang/Character" = true := by first | (simp [plainName, overriddenIn]; done) | decide +kernel
theorem o_d24_17 : decode jdk_89_method_14_code 17 = .ok (.ireturn, 1) := by decide +kernel
def o_j24_1 (x0 : Int32) : Int32 := (if x0 < (55296 : Int32) then (0 : Int32) else (if x0 < (56320 : Int32) then (1 : Int32) else (0 : Int32)))
def o_f24 (x0 : Int32) : Int32 := ((o_j24_1 x0) &&& 1)
def o_Q24 (x0 : Int32) (h0 : Heap) (n0 : Nat) (v : Option Value) (h : Heap) (L : List Loc) : Prop := v = some (.int (o_f24 x0)) ∧ Fr n0 L ∧ h = h0
abbrev o_R24 : Room := { frames := 0, cells := 0, slots := 0, locals := 0 }
theorem o_ef24 (m : MethodId) (z0 : Int32) : entryFrame m #[(.int z0)] 1 = mkF m 0 #[.val (.int z0)] [] := by first | (simp [entryFrame, mkF, argsToLocals, Value.category]; done) | rfl
set_option maxRecDepth 65536 in
set_option maxHeartbeats 40000000 in
theorem rm24 (l : Launch) (Z : State) (a0 : Array Value) (hw : ∀ d ∈ tables_1, d.before a0 Z = true) (ws : List Jvm.Cond) (x0 : Int32) (h0 : Heap) (n0 : Nat) : o_Met l Z (⟨"java/lang/Character", "isHighSurrogate", "(C)Z"⟩ : MethodName) jdk_89_method_14_code 1 (some .boolean) ws o_R24 #[(.int x0)] h0 (o_Q24 x0 h0 n0) := by
 refine o_met (plainFor_of_name o_pn1) ?_
 intro p e s m below meth c s₁ hx hby hml hown hnm hret hlk hZ e0 X0
 have N0 := Fr.nil n0
 have hml : c.maxLocals = 1 := hml
 have hown : s.vm.findClass "java/lang/Character" = some m.cls := hown
 have hret : meth.sig.returnType = (some .boolean) := hret
 have hby : c.code = jdk_89_method_14_code := hby
 have hnm : meth.name = "isHighSurrogate" := hnm
 rw [o_ef24]
 refine o_gi (XS.iloadN X0.here hx rfl (hb hby o_d24_0) rfl) ?_
 show o_Gs p e below _ s₁ m 1 #[.val (.int x0)] [(.int x0)]
 refine o_go (X0.ldcInt hx hown (mvT hZ (hw _ o_t112)) (g := (mkF m 1 #[.val (.int x0)] [(.int x0)])) rfl (hb hby o_d24_1)) ?_
 show o_Gs p e below _ s₁ m 3 #[.val (.int x0)] [(.int 55296), (.int x0)]
 suffices HH15 : o_Goes p e below (o_End s o_R24 (o_Q24 x0 h0 n0)) (s₁.setTop (mkF m 17 #[.val (.int x0)] [(.int (o_j24_1 x0))])) by
  by_cases hc13 : x0 < (55296 : Int32)
  ·refine o_gi (XS.icmpYes X0.here hx rfl (pc0 := 3) (pc' := 16) rfl (hb hby o_d24_3) rfl (tlt hc13).1 (by decide) (by decide)) ?_
   refine o_gi (XS.iconst X0.here hx rfl (hb hby o_d24_16)) ?_
   rw [show (o_j24_1 x0) = (0 : Int32) from by rw [o_j24_1, if_pos hc13]] at HH15
   exact HH15
  ·refine o_gi (XS.icmpNo X0.here hx rfl (hb hby o_d24_3) rfl (flt hc13).1) ?_
   refine o_gi (XS.iloadN X0.here hx rfl (hb hby o_d24_6) rfl) ?_
   show o_Gs p e below _ s₁ m 7 #[.val (.int x0)] [(.int x0)]
   refine o_go (X0.ldcInt hx hown (mvT hZ (hw _ o_t113)) (g := (mkF m 7 #[.val (.int x0)] [(.int x0)])) rfl (hb hby o_d24_7)) ?_
   show o_Gs p e below _ s₁ m 9 #[.val (.int x0)] [(.int 56320), (.int x0)]
   by_cases hc14 : x0 < (56320 : Int32)
   ·refine o_gi (XS.icmpNo X0.here hx rfl (hb hby o_d24_9) rfl (tlt hc14).2.1) ?_
    refine o_gi (XS.iconst X0.here hx rfl (hb hby o_d24_12)) ?_
    refine o_gi (XS.goto X0.here hx rfl (pc0 := 13) (pc' := 17) rfl (hb hby o_d24_13) (by decide) (by decide)) ?_
    rw [show (o_j24_1 x0) = (1 : Int32) from by rw [o_j24_1, if_neg hc13, if_pos hc14]] at HH15
    exact HH15
   ·refine o_gi (XS.icmpYes X0.here hx rfl (pc0 := 9) (pc' := 16) rfl (hb hby o_d24_9) rfl (flt hc14).2.1 (by decide) (by decide)) ?_
    refine o_gi (XS.iconst X0.here hx rfl (hb hby o_d24_16)) ?_
    rw [show (o_j24_1 x0) = (0 : Int32) from by rw [o_j24_1, if_neg hc13, if_neg hc14]] at HH15
    exact HH15
 show o_Gs p e below _ s₁ m 17 #[.val (.int x0)] [(.int (o_j24_1 x0))]
 exact o_retN X0 hx hlk hret (by simp) (z' := ((o_j24_1 x0) &&& 1)) rfl (hb hby o_d24_17) (by decide) (by decide) ⟨by rw [o_f24], N0, e0⟩
theorem o_d25_0 : decode jdk_89_method_15_code 0 = .ok (.iload_n 0, 1) := by decide +kernel
theorem o_d25_1 : decode jdk_89_method_15_code 1 = .ok (.ldc 76, 2) := by decide +kernel
theorem o_d25_3 : decode jdk_89_method_15_code 3 = .ok (.if_icmp .lt 13, 3) := by decide +kernel
theorem o_d25_16 : decode jdk_89_method_15_code 16 = .ok (.iconst 0, 1) := by decide +kernel
theorem o_d25_6 : decode jdk_89_method_15_code 6 = .ok (.iload_n 0, 1) := by decide +kernel
theorem o_d25_7 : decode jdk_89_method_15_code 7 = .ok (.ldc 77, 2) := by decide +kernel
theorem o_t117 : (Jvm.Cond.constant "java/lang/Character" (77 : Nat) (57344 : Int32)) ∈ tables_1 := List.mem_of_getElem? (i := 117) rfl
theorem o_d25_9 : decode jdk_89_method_15_code 9 = .ok (.if_icmp .ge 7, 3) := by decide +kernel
theorem o_d25_12 : decode jdk_89_method_15_code 12 = .ok (.iconst 1, 1) := by decide +kernel
theorem o_d25_13 : decode jdk_89_method_15_code 13 = .ok (.goto 4, 3) := by decide +kernel
theorem o_d25_17 : decode jdk_89_method_15_code 17 = .ok (.ireturn, 1) := by decide +kernel
def o_j25_1 (x0 : Int32) : Int32 := (if x0 < (56320 : Int32) then (0 : Int32) else (if x0 < (57344 : Int32) then (1 : Int32) else (0 : Int32)))
def o_f25 (x0 : Int32) : Int32 := ((o_j25_1 x0) &&& 1)
def o_Q25 (x0 : Int32) (h0 : Heap) (n0 : Nat) (v : Option Value) (h : Heap) (L : List Loc) : Prop := v = some (.int (o_f25 x0)) ∧ Fr n0 L ∧ h = h0
abbrev o_R25 : Room := { frames := 0, cells := 0, slots := 0, locals := 0 }
theorem o_ef25 (m : MethodId) (z0 : Int32) : entryFrame m #[(.int z0)] 1 = mkF m 0 #[.val (.int z0)] [] := by first | (simp [entryFrame, mkF, argsToLocals, Value.category]; done) | rfl
set_option maxRecDepth 65536 in
set_option maxHeartbeats 40000000 in
theorem rm25 (l : Launch) (Z : State) (a0 : Array Value) (hw : ∀ d ∈ tables_1, d.before a0 Z = true) (ws : List Jvm.Cond) (x0 : Int32) (h0 : Heap) (n0 : Nat) : o_Met l Z (⟨"java/lang/Character", "isLowSurrogate", "(C)Z"⟩ : MethodName) jdk_89_method_15_code 1 (some .boolean) ws o_R25 #[(.int x0)] h0 (o_Q25 x0 h0 n0) := by
 refine o_met (plainFor_of_name o_pn1) ?_
 intro p e s m below meth c s₁ hx hby hml hown hnm hret hlk hZ e0 X0
 have N0 := Fr.nil n0
 have hml : c.maxLocals = 1 := hml
 have hown : s.vm.findClass "java/lang/Character" = some m.cls := hown
 have hret : meth.sig.returnType = (some .boolean) := hret
 have hby : c.code = jdk_89_method_15_code := hby
 have hnm : meth.name = "isLowSurrogate" := hnm
 rw [o_ef25]
 refine o_gi (XS.iloadN X0.here hx rfl (hb hby o_d25_0) rfl) ?_
 show o_Gs p e below _ s₁ m 1 #[.val (.int x0)] [(.int x0)]
 refine o_go (X0.ldcInt hx hown (mvT hZ (hw _ o_t113)) (g := (mkF m 1 #[.val (.int x0)] [(.int x0)])) rfl (hb hby o_d25_1)) ?_
 show o_Gs p e below _ s₁ m 3 #[.val (.int x0)] [(.int 56320), (.int x0)]
 suffices HH18 : o_Goes p e below (o_End s o_R25 (o_Q25 x0 h0 n0)) (s₁.setTop (mkF m 17 #[.val (.int x0)] [(.int (o_j25_1 x0))])) by
  by_cases hc16 : x0 < (56320 : Int32)
  ·refine o_gi (XS.icmpYes X0.here hx rfl (pc0 := 3) (pc' := 16) rfl (hb hby o_d25_3) rfl (tlt hc16).1 (by decide) (by decide)) ?_
   refine o_gi (XS.iconst X0.here hx rfl (hb hby o_d25_16)) ?_
   rw [show (o_j25_1 x0) = (0 : Int32) from by rw [o_j25_1, if_pos hc16]] at HH18
   exact HH18
  ·refine o_gi (XS.icmpNo X0.here hx rfl (hb hby o_d25_3) rfl (flt hc16).1) ?_
   refine o_gi (XS.iloadN X0.here hx rfl (hb hby o_d25_6) rfl) ?_
   show o_Gs p e below _ s₁ m 7 #[.val (.int x0)] [(.int x0)]
   refine o_go (X0.ldcInt hx hown (mvT hZ (hw _ o_t117)) (g := (mkF m 7 #[.val (.int x0)] [(.int x0)])) rfl (hb hby o_d25_7)) ?_
   show o_Gs p e below _ s₁ m 9 #[.val (.int x0)] [(.int 57344), (.int x0)]
   by_cases hc17 : x0 < (57344 : Int32)
   ·refine o_gi (XS.icmpNo X0.here hx rfl (hb hby o_d25_9) rfl (tlt hc17).2.1) ?_
    refine o_gi (XS.iconst X0.here hx rfl (hb hby o_d25_12)) ?_
    refine o_gi (XS.goto X0.here hx rfl (pc0 := 13) (pc' := 17) rfl (hb hby o_d25_13) (by decide) (by decide)) ?_
    rw [show (o_j25_1 x0) = (1 : Int32) from by rw [o_j25_1, if_neg hc16, if_pos hc17]] at HH18
    exact HH18
   ·refine o_gi (XS.icmpYes X0.here hx rfl (pc0 := 9) (pc' := 16) rfl (hb hby o_d25_9) rfl (flt hc17).2.1 (by decide) (by decide)) ?_
    refine o_gi (XS.iconst X0.here hx rfl (hb hby o_d25_16)) ?_
    rw [show (o_j25_1 x0) = (0 : Int32) from by rw [o_j25_1, if_neg hc16, if_neg hc17]] at HH18
    exact HH18
 show o_Gs p e below _ s₁ m 17 #[.val (.int x0)] [(.int (o_j25_1 x0))]
 exact o_retN X0 hx hlk hret (by simp) (z' := ((o_j25_1 x0) &&& 1)) rfl (hb hby o_d25_17) (by decide) (by decide) ⟨by rw [o_f25], N0, e0⟩
def o_lo (c : Int32) : Int32 := nar .byte ((c >>> ((0 : Int32) &&& 31)).toInt8.toInt32)
def o_hi (c : Int32) : Int32 := nar .byte ((c >>> ((8 : Int32) &&& 31)).toInt8.toInt32)
/-- the first four bytes spell the first two signs -/
def o_Hd (G F : Int32 → Int32) : Prop := F 0 = o_lo (G 0) ∧ F 1 = o_hi (G 0) ∧ F 2 = o_lo (G 1) ∧ F 3 = o_hi (G 1)
/-- the first two signs are a surrogate pair -/
def o_HS (G : Int32 → Int32) : Prop := (∃ k : Fin 1024, G 0 = Int32.ofNat (55296 + k.val)) ∧ ∃ k : Fin 1024, G 1 = Int32.ofNat (56320 + k.val)
def o_HL (F : Int32 → Int32) : Prop := ¬ o_f24 (o_f12 0 F) = 0 ∧ ¬ o_f25 (o_f12 ((0 : Int32) + 1) F) = 0
def o_cp (F : Int32 → Int32) (x2 : Int32) : Nat → Int32 → Int32 → Int32
 | 0, n, _ => n
 | k + 1, n, i => if i < (x2 - (1 : Int32)) then (if (o_f24 (o_f12 i F)) = (0 : Int32) then o_cp F x2 k n (i + (1 : Int32)) else if (o_f25 (o_f12 (i + (1 : Int32)) F)) = (0 : Int32) then o_cp F x2 k n (i + (1 : Int32)) else o_cp F x2 k (n + (-1 : Int32)) ((i + (1 : Int32)) + (1 : Int32))) else n
/-- a String that checkId lets through at this bound -/
def o_Id (Z : State) (h : Heap) (x : Addr) (mx : Int32) : Prop := ∃ (t : Addr) (cd N : Int32) (F : Int32 → Int32), Exa Z h x "java/lang/String" ∧ Fld Z h x "java/lang/String" "value" "[B" (.ref t) ∧ Fld Z h x "java/lang/String" "coder" "B" (.int cd) ∧ o_Tb Z h t .byte N F ∧ ((cd = 0 ∧ ¬ N = 0 ∧ ¬ N < 0 ∧ ¬ mx < N) ∨ (cd = 1 ∧ ((mx = 64 ∧ N = 130) ∨ (mx = 255 ∧ N = 512)) ∧ o_HL F))
theorem o_Id.exa {Z : State} {h : Heap} {x : Addr} {mx : Int32} (F : o_Id Z h x mx) : Exa Z h x "java/lang/String" := by obtain ⟨t, cd, N, G, E, -⟩ := F; exact E
theorem o_Id.lt {Z : State} {h : Heap} {x : Addr} {mx : Int32} (F : o_Id Z h x mx) : x < h.size := F.exa.lt
theorem o_Id.ext {Z : State} {h h' : Heap} {x : Addr} {mx : Int32} (F : o_Id Z h x mx) (E : Ext h h') : o_Id Z h' x mx := by
 obtain ⟨t, cd, N, G, f1, f2, f3, f4, r⟩ := F; exact ⟨t, cd, N, G, f1.ext E, f2.ext E, f3.ext E, f4.ext E, r⟩
theorem o_Id.keep {Z : State} {h h' : Heap} {x : Addr} {mx : Int32} (F : o_Id Z h x mx) (K : Keep h h' []) : o_Id Z h' x mx := by
 obtain ⟨t, cd, N, G, f1, f2, f3, f4, r⟩ := F; exact ⟨t, cd, N, G, f1.keep K, f2.keep K nin0, f3.keep K nin0, f4.keep K nin0, r⟩
theorem o_one : (1 : Int32).toInt = 1 := rfl
theorem o_lt {a b : Int32} : a < b ↔ a.toInt < b.toInt := Int32.lt_iff_toInt_lt
theorem o_sub1 {x : Int32} (h : 1 ≤ x.toInt) : (x - (1 : Int32)).toInt = x.toInt - 1 := by
 have := Int32.toInt_lt x
 exact Jvm.Kit.i32_sub (by rw [o_one]; omega) (by rw [o_one]; omega)
theorem o_ad1 {x : Int32} (h : 0 ≤ x.toInt ∧ x.toInt < 1000000) : (x + (1 : Int32)).toInt = x.toInt + 1 := o_add x 1 (by rw [o_one]; omega)
section OwnCp
variable {q_n x2 i n : Int32} {k : Nat} (hq : q_n.toInt = 2 * x2.toInt ∧ 1 ≤ x2.toInt ∧ x2.toInt ≤ 256)
theorem o_h0 (hq : q_n.toInt = 2 * x2.toInt ∧ 1 ≤ x2.toInt ∧ x2.toInt ≤ 256) (hi : 0 ≤ i.toInt ∧ i.toInt ≤ x2.toInt ∧ x2.toInt ≤ i.toInt + (0 : Nat) + 1) : ¬ i < (x2 - (1 : Int32)) := by
 rw [o_lt, o_sub1 hq.2.1]; omega
theorem o_hx (hq : q_n.toInt = 2 * x2.toInt ∧ 1 ≤ x2.toInt ∧ x2.toInt ≤ 256) (hi : 0 ≤ i.toInt ∧ i.toInt ≤ x2.toInt ∧ x2.toInt ≤ i.toInt + (k + 1 : Nat) + 1) (h : i < (x2 - (1 : Int32))) : 0 ≤ i.toInt ∧ 2 * i.toInt + 1 < q_n.toInt := by
 rw [o_lt, o_sub1 hq.2.1] at h; omega
theorem o_hx1 (hq : q_n.toInt = 2 * x2.toInt ∧ 1 ≤ x2.toInt ∧ x2.toInt ≤ 256) (hi : 0 ≤ i.toInt ∧ i.toInt ≤ x2.toInt ∧ x2.toInt ≤ i.toInt + (k + 1 : Nat) + 1) (h : i < (x2 - (1 : Int32))) : 0 ≤ (i + (1 : Int32)).toInt ∧ 2 * (i + (1 : Int32)).toInt + 1 < q_n.toInt := by
 rw [o_lt, o_sub1 hq.2.1] at h; rw [o_ad1 (by omega)]; omega
theorem o_h1 (hq : q_n.toInt = 2 * x2.toInt ∧ 1 ≤ x2.toInt ∧ x2.toInt ≤ 256) (hi : 0 ≤ i.toInt ∧ i.toInt ≤ x2.toInt ∧ x2.toInt ≤ i.toInt + (k + 1 : Nat) + 1) (h : i < (x2 - (1 : Int32))) : 0 ≤ (i + (1 : Int32)).toInt ∧ (i + (1 : Int32)).toInt ≤ x2.toInt ∧ x2.toInt ≤ (i + (1 : Int32)).toInt + k + 1 := by
 rw [o_lt, o_sub1 hq.2.1] at h; rw [o_ad1 (by omega)]; omega
theorem o_h2 (hq : q_n.toInt = 2 * x2.toInt ∧ 1 ≤ x2.toInt ∧ x2.toInt ≤ 256) (hi : 0 ≤ i.toInt ∧ i.toInt ≤ x2.toInt ∧ x2.toInt ≤ i.toInt + (k + 1 : Nat) + 1) (h : i < (x2 - (1 : Int32))) : 0 ≤ ((i + (1 : Int32)) + (1 : Int32)).toInt ∧ ((i + (1 : Int32)) + (1 : Int32)).toInt ≤ x2.toInt ∧ x2.toInt ≤ ((i + (1 : Int32)) + (1 : Int32)).toInt + k + 1 := by
 rw [o_lt, o_sub1 hq.2.1] at h
 have e := o_ad1 (x := i) (by omega)
 rw [o_ad1 (by omega)]; omega
theorem o_hs (hq : q_n.toInt = 2 * x2.toInt ∧ 1 ≤ x2.toInt ∧ x2.toInt ≤ 256) : 0 ≤ (0 : Int32).toInt ∧ (0 : Int32).toInt ≤ x2.toInt ∧ x2.toInt ≤ (0 : Int32).toInt + (300 : Nat) + 1 := by
 rw [show (0 : Int32).toInt = 0 from rfl]; omega
end OwnCp
theorem o_cple (F : Int32 → Int32) (x2 : Int32) : ∀ (k : Nat) (n i : Int32), -1000 ≤ n.toInt - k → (o_cp F x2 k n i).toInt ≤ n.toInt
 | 0, n, i, _ => by rw [o_cp]; exact Int.le_refl _
 | k + 1, n, i, h => by
  have q := o_cple F x2 k
  have e : (n + (-1 : Int32)).toInt = n.toInt - 1 := by
   have h1 := Int32.toInt_lt n
   rw [o_add n (-1) (by rw [show (-1 : Int32).toInt = -1 from rfl]; omega), show (-1 : Int32).toInt = -1 from rfl]; omega
  rw [o_cp]
  split
  ·split
   ·exact q n _ (by omega)
   ·split
    ·exact q n _ (by omega)
    ·have := q (n + (-1 : Int32)) (i + (1 : Int32) + (1 : Int32)) (by omega)
     omega
  ·exact Int.le_refl _
theorem o_leU {F : Int32 → Int32} {x2 mx : Int32} (h : o_HL F) (h1 : 1 < x2.toInt ∧ x2.toInt ≤ 256 ∧ x2.toInt = mx.toInt + 1) : ¬ mx < o_cp F x2 300 (x2 - (0 : Int32)) 0 := by
 rw [o_cp, if_pos, if_neg h.1, if_neg h.2]
 ·have q := o_cple F x2 299 ((x2 - (0 : Int32)) + (-1 : Int32)) ((0 : Int32) + 1 + 1)
  have e0 : (x2 - (0 : Int32)) = x2 := Int32.sub_zero x2
  rw [e0] at q ⊢
  have e : (x2 + (-1 : Int32)).toInt = x2.toInt - 1 := by
   rw [o_add x2 (-1) (by rw [show (-1 : Int32).toInt = -1 from rfl]; omega), show (-1 : Int32).toInt = -1 from rfl]; omega
  have := q (by omega)
  rw [o_lt]
  omega
 ·rw [o_lt, o_sub1 (by omega), show (0 : Int32).toInt = 0 from rfl]; omega
theorem o_le64 {F : Int32 → Int32} (h : o_HL F) : ¬ (64 : Int32) < o_cp F (65 : Int32) 300 ((65 : Int32) - (0 : Int32)) 0 := o_leU h (by decide)
theorem o_le255 {F : Int32 → Int32} (h : o_HL F) : ¬ (255 : Int32) < o_cp F (256 : Int32) 300 ((256 : Int32) - (0 : Int32)) 0 := o_leU h (by decide)
/- the loop of toBytes -/
section OwnI8
variable {i z : Int32} {k n : Nat}
theorem o_i8n (hi : 2 ≤ i.toInt ∧ i.toInt + (0 : Nat) = n) (hz : z.toInt = n) : ¬ i < z := by rw [o_lt]; omega
theorem o_i8l (hi : 2 ≤ i.toInt ∧ i.toInt + (k + 1 : Nat) = n) (hz : z.toInt = n) : i < z := by rw [o_lt]; omega
theorem o_i8 (hi : 2 ≤ i.toInt ∧ i.toInt + (k + 1 : Nat) = n) (hz : z.toInt = n) : ¬ i < 0 ∧ i < z := o_bd (by omega)
theorem o_i8x {y : Int32} (hi : 2 ≤ i.toInt ∧ i.toInt + (k + 1 : Nat) = n) (hz : z.toInt = n) (hy : y.toInt = 2 * z.toInt) : 0 ≤ i.toInt ∧ 2 * i.toInt + 1 < y.toInt := by omega
theorem o_i8h (hi : 2 ≤ i.toInt ∧ i.toInt + (k + 1 : Nat) = n) (hn : n < 1000) : 2 ≤ i.toInt ∧ i.toInt < 1000 := by omega
theorem o_i8s (hi : 2 ≤ i.toInt ∧ i.toInt + (k + 1 : Nat) = n) (hn : n < 1000) : 2 ≤ (i + (1 : Int32)).toInt ∧ (i + (1 : Int32)).toInt + k = n := by rw [o_ad1 (by omega)]; omega
end OwnI8
theorem o_nk {i j : Int32} (hi : 2 ≤ i.toInt ∧ i.toInt < 1000) (hj : 0 ≤ j.toInt ∧ j.toInt < 4) : ¬ j = (i <<< ((1 : Int32) &&& 31)) ∧ ¬ j = ((i <<< ((1 : Int32) &&& 31)) + (1 : Int32)) := by
 have e := o_shl (x := i) (by omega)
 have f := o_ad1 (x := i <<< ((1 : Int32) &&& 31)) (by omega)
 constructor <;> intro q <;> subst q <;> omega
theorem o_HdS {G F : Int32 → Int32} {i c : Int32} (hi : 2 ≤ i.toInt ∧ i.toInt < 1000) (h : o_Hd G F) : o_Hd G (o_G11_2 i c F) := by
 have t : ∀ j : Int32, 0 ≤ j.toInt ∧ j.toInt < 4 → o_G11_2 i c F j = F j := fun j hj => by
  obtain ⟨a, b⟩ := o_nk hi hj
  show (if j = _ then _ else if j = _ then _ else F j) = F j
  rw [if_neg b, if_neg a]
 obtain ⟨a, b, c', d⟩ := h
 exact ⟨(t 0 (by decide)).trans a, (t 1 (by decide)).trans b, (t 2 (by decide)).trans c', (t 3 (by decide)).trans d⟩
theorem o_Gs0 {c : Int32} {F : Int32 → Int32} : o_G11_2 0 c F 0 = o_lo c ∧ o_G11_2 0 c F 1 = o_hi c := by
 constructor
 ·show (if (0 : Int32) = _ then _ else if (0 : Int32) = _ then _ else F 0) = _
  rw [if_neg (by decide), if_pos (by decide)]; rfl
 ·show (if (1 : Int32) = _ then _ else if (1 : Int32) = _ then _ else F 1) = _
  rw [if_pos (by decide)]; rfl
theorem o_Gs1 {c : Int32} {F : Int32 → Int32} : o_G11_2 1 c F 0 = F 0 ∧ o_G11_2 1 c F 1 = F 1 ∧ o_G11_2 1 c F 2 = o_lo c ∧ o_G11_2 1 c F 3 = o_hi c := by
 refine ⟨?_, ?_, ?_, ?_⟩
 ·show (if (0 : Int32) = _ then _ else if (0 : Int32) = _ then _ else F 0) = _
  rw [if_neg (by decide), if_neg (by decide)]
 ·show (if (1 : Int32) = _ then _ else if (1 : Int32) = _ then _ else F 1) = _
  rw [if_neg (by decide), if_neg (by decide)]
 ·show (if (2 : Int32) = _ then _ else if (2 : Int32) = _ then _ else F 2) = _
  rw [if_neg (by decide), if_pos (by decide)]; rfl
 ·show (if (3 : Int32) = _ then _ else if (3 : Int32) = _ then _ else F 3) = _
  rw [if_pos (by decide)]; rfl
theorem o_Hd0 (G F : Int32 → Int32) : o_Hd G (o_G11_2 1 (G 1) (o_G11_2 0 (G 0) F)) :=
 ⟨o_Gs1.1.trans o_Gs0.1, o_Gs1.2.1.trans o_Gs0.2, o_Gs1.2.2.1, o_Gs1.2.2.2⟩
/- surrogates -/
def o_two (a b : Int32) : Int32 := o_f12 0 (fun j => if j = 0 then a else b)
theorem o_f120 (F : Int32 → Int32) : o_f12 0 F = o_two (F 0) (F 1) := by
 unfold o_two o_f12
 rw [show ((0 : Int32) <<< ((1 : Int32) &&& 31)) = 0 from by decide, show ((0 : Int32) + (1 : Int32)) = 1 from by decide]
 simp only [if_true, show ¬ ((1 : Int32) = 0) from by decide, if_false]
theorem o_f121 (F : Int32 → Int32) : o_f12 ((0 : Int32) + 1) F = o_two (F 2) (F 3) := by
 unfold o_two o_f12
 rw [show (((0 : Int32) + 1) <<< ((1 : Int32) &&& 31)) = 2 from by decide, show ((2 : Int32) + (1 : Int32)) = 3 from by decide, show ((0 : Int32) <<< ((1 : Int32) &&& 31)) = 0 from by decide, show ((0 : Int32) + (1 : Int32)) = 1 from by decide]
 simp only [if_true, show ¬ ((1 : Int32) = 0) from by decide, if_false]
theorem o_sur : ∀ k : Fin 1024, (255 : Int32) < o_two (o_lo (Int32.ofNat (55296 + k.val))) (o_hi (Int32.ofNat (55296 + k.val))) ∧ ¬ o_f24 (o_two (o_lo (Int32.ofNat (55296 + k.val))) (o_hi (Int32.ofNat (55296 + k.val)))) = 0 ∧ ¬ o_f25 (o_two (o_lo (Int32.ofNat (56320 + k.val))) (o_hi (Int32.ofNat (56320 + k.val)))) = 0 ∧ (255 : Int32) < Int32.ofNat (55296 + k.val) := by decide +kernel
theorem o_HLof {G F : Int32 → Int32} (h : o_HS G) (q : o_Hd G F) : o_HL F := by
 obtain ⟨⟨k, hk⟩, j, hj⟩ := h
 obtain ⟨a, b, c, d⟩ := q
 constructor
 ·rw [o_f120, a, b, hk]; exact (o_sur k).2.1
 ·rw [o_f121, c, d, hj]; exact (o_sur j).2.2.1
theorem o_HS0 {G : Int32 → Int32} (h : o_HS G) : (255 : Int32) < G 0 := by obtain ⟨⟨k, hk⟩, -⟩ := h; rw [hk]; exact (o_sur k).2.2.2
theorem o_g0 {G F : Int32 → Int32} (h : o_HS G) (q : o_Hd G F) : (255 : Int32) < o_f12 0 F := by
 obtain ⟨⟨k, hk⟩, -⟩ := h
 rw [o_f120, q.1, q.2.1, hk]; exact (o_sur k).1
theorem o_mask (y : Int32) : ∃ k : Fin 1024, y &&& (1023 : Int32) = Int32.ofNat k.val := by
 have h : (y &&& 1023).toInt = y.toInt % 2 ^ 10 := Jvm.Kit.i32_mask y 1023 (k := 10) (by decide) (by decide)
 refine ⟨⟨(y &&& 1023).toInt.toNat, by omega⟩, ?_⟩
 rw [← Int32.toInt_inj, Int32.toInt_ofNat_of_lt (by simp only; omega)]
 simp only
 omega
theorem o_hiS (y : Int32) : ∃ k : Fin 1024, nar .char ((((55296 : Int32) ||| (y &&& (1023 : Int32))).toUInt32.toUInt16.toUInt32.toInt32)) = Int32.ofNat (55296 + k.val) := by
 obtain ⟨k, hk⟩ := o_mask y
 rw [hk]
 exact ⟨k, (by decide +kernel : ∀ k : Fin 1024, nar .char ((((55296 : Int32) ||| Int32.ofNat k.val).toUInt32.toUInt16.toUInt32.toInt32)) = Int32.ofNat (55296 + k.val)) k⟩
theorem o_loS (y : Int32) : ∃ k : Fin 1024, nar .char ((((56320 : Int32) ||| (y &&& (1023 : Int32))).toUInt32.toUInt16.toUInt32.toInt32)) = Int32.ofNat (56320 + k.val) := by
 obtain ⟨k, hk⟩ := o_mask y
 rw [hk]
 exact ⟨k, (by decide +kernel : ∀ k : Fin 1024, nar .char ((((56320 : Int32) ||| Int32.ofNat k.val).toUInt32.toUInt16.toUInt32.toInt32)) = Int32.ofNat (56320 + k.val)) k⟩
theorem o_g00 : ∀ j : Int32, ¬ (fun _ => 0 : Int32 → Int32) j < 0 ∧ ¬ (255 : Int32) < (fun _ => 0 : Int32 → Int32) j := fun _ => ⟨by show ¬ (0 : Int32) < 0; decide, by show ¬ (255 : Int32) < 0; decide⟩
theorem o_gset {F : Int32 → Int32} {i x : Int32} (hF : ∀ j : Int32, ¬ F j < 0 ∧ ¬ (255 : Int32) < F j) (hx : ¬ x < 0 ∧ ¬ (255 : Int32) < x) : ∀ j : Int32, ¬ (if j = i then x else F j) < 0 ∧ ¬ (255 : Int32) < (if j = i then x else F j) := fun j => by
 split
 ·exact hx
 ·exact hF j
theorem o_k3 (x : Int32) : (x &&& (3 : Int32)) = 0 ∨ (x &&& (3 : Int32)) = 1 ∨ (x &&& (3 : Int32)) = 2 ∨ (x &&& (3 : Int32)) = 3 := by
 have h : (x &&& 3).toInt = x.toInt % 2 ^ 2 := Jvm.Kit.i32_mask x 3 (k := 2) (by decide) (by decide)
 simp only [← Int32.toInt_inj]
 rw [show (0 : Int32).toInt = 0 from rfl, show (1 : Int32).toInt = 1 from rfl, show (2 : Int32).toInt = 2 from rfl, show (3 : Int32).toInt = 3 from rfl]
 omega
def o_Q23 (x2 : Int32) (q_F : Int32 → Int32) (h0 : Heap) (n0 : Nat) (v : Option Value) (h : Heap) (L : List Loc) : Prop := v = some (.int (o_cp q_F x2 300 (x2 - (0 : Int32)) 0)) ∧ Fr n0 L ∧ h = h0
abbrev o_R23 : Room := { frames := 2, cells := 0, slots := 0, locals := 40 }
theorem o_d23_44 : decode jdk_52_method_11_code 44 = .ok (.iload 5, 2) := by decide +kernel
theorem o_d23_46 : decode jdk_52_method_11_code 46 = .ok (.iload_n 2, 1) := by decide +kernel
theorem o_d23_47 : decode jdk_52_method_11_code 47 = .ok (.iconst 1, 1) := by decide +kernel
theorem o_d23_48 : decode jdk_52_method_11_code 48 = .ok (.isub, 1) := by decide +kernel
theorem o_d23_49 : decode jdk_52_method_11_code 49 = .ok (.if_icmp .ge 39, 3) := by decide +kernel
theorem o_d23_88 : decode jdk_52_method_11_code 88 = .ok (.iload 4, 2) := by decide +kernel
theorem o_d23_90 : decode jdk_52_method_11_code 90 = .ok (.ireturn, 1) := by decide +kernel
theorem o_d23_52 : decode jdk_52_method_11_code 52 = .ok (.aload_n 0, 1) := by decide +kernel
theorem o_d23_53 : decode jdk_52_method_11_code 53 = .ok (.iload 5, 2) := by decide +kernel
theorem o_d23_55 : decode jdk_52_method_11_code 55 = .ok (.iinc 5 1, 3) := by decide +kernel
theorem o_d23_58 : decode jdk_52_method_11_code 58 = .ok (.invokestatic 71, 3) := by decide +kernel
theorem o_t52 : (Jvm.Cond.methodLink "java/lang/StringUTF16" (71 : Nat) ({ cls := "java/lang/StringUTF16", name := "getChar", desc := "([BI)C" } : Jvm.MethodName)) ∈ tables_1 := List.mem_of_getElem? (i := 52) rfl
theorem o_pd0 : parseMethodDescriptor "([BI)C" = some ⟨[(.array .byte), .int], some .char⟩ := by decide +kernel
theorem o_t53 : (Jvm.Cond.static ({ cls := "java/lang/StringUTF16", name := "getChar", desc := "([BI)C" } : Jvm.MethodName)) ∈ tables_1 := List.mem_of_getElem? (i := 53) rfl
theorem o_t21 : (Jvm.Cond.initialized "java/lang/StringUTF16") ∈ tables_1 := List.mem_of_getElem? (i := 21) rfl
theorem o_t54 : (Jvm.Cond.code ({ cls := "java/lang/StringUTF16", name := "getChar", desc := "([BI)C" } : Jvm.MethodName) jdk_52_method_5_code (2 : Nat) (Option.some Jvm.ClassFile.FieldType.char)) ∈ tables_1 := List.mem_of_getElem? (i := 54) rfl
theorem o_d23_61 : decode jdk_52_method_11_code 61 = .ok (.invokestatic 75, 3) := by decide +kernel
theorem o_t108 : (Jvm.Cond.methodLink "java/lang/StringUTF16" (75 : Nat) ({ cls := "java/lang/Character", name := "isHighSurrogate", desc := "(C)Z" } : Jvm.MethodName)) ∈ tables_1 := List.mem_of_getElem? (i := 108) rfl
theorem o_pd1 : parseMethodDescriptor "(C)Z" = some ⟨[.char], some .boolean⟩ := by decide +kernel
theorem o_t109 : (Jvm.Cond.static ({ cls := "java/lang/Character", name := "isHighSurrogate", desc := "(C)Z" } : Jvm.MethodName)) ∈ tables_1 := List.mem_of_getElem? (i := 109) rfl
theorem o_t110 : (Jvm.Cond.initialized "java/lang/Character") ∈ tables_1 := List.mem_of_getElem? (i := 110) rfl
theorem o_t111 : (Jvm.Cond.code ({ cls := "java/lang/Character", name := "isHighSurrogate", desc := "(C)Z" } : Jvm.MethodName) jdk_89_method_14_code (1 : Nat) (Option.some Jvm.ClassFile.FieldType.boolean)) ∈ tables_1 := List.mem_of_getElem? (i := 111) rfl
theorem o_d23_64 : decode jdk_52_method_11_code 64 = .ok (.ifCond .eq (-20), 3) := by decide +kernel
theorem o_d23_67 : decode jdk_52_method_11_code 67 = .ok (.aload_n 0, 1) := by decide +kernel
theorem o_d23_68 : decode jdk_52_method_11_code 68 = .ok (.iload 5, 2) := by decide +kernel
theorem o_d23_70 : decode jdk_52_method_11_code 70 = .ok (.invokestatic 71, 3) := by decide +kernel
theorem o_d23_73 : decode jdk_52_method_11_code 73 = .ok (.invokestatic 81, 3) := by decide +kernel
theorem o_t114 : (Jvm.Cond.methodLink "java/lang/StringUTF16" (81 : Nat) ({ cls := "java/lang/Character", name := "isLowSurrogate", desc := "(C)Z" } : Jvm.MethodName)) ∈ tables_1 := List.mem_of_getElem? (i := 114) rfl
theorem o_t115 : (Jvm.Cond.static ({ cls := "java/lang/Character", name := "isLowSurrogate", desc := "(C)Z" } : Jvm.MethodName)) ∈ tables_1 := List.mem_of_getElem? (i := 115) rfl
theorem o_t116 : (Jvm.Cond.code ({ cls := "java/lang/Character", name := "isLowSurrogate", desc := "(C)Z" } : Jvm.MethodName) jdk_89_method_15_code (1 : Nat) (Option.some Jvm.ClassFile.FieldType.boolean)) ∈ tables_1 := List.mem_of_getElem? (i := 116) rfl
theorem o_d23_76 : decode jdk_52_method_11_code 76 = .ok (.ifCond .eq (-32), 3) := by decide +kernel
theorem o_d23_79 : decode jdk_52_method_11_code 79 = .ok (.iinc 4 (-1), 3) := by decide +kernel
theorem o_d23_82 : decode jdk_52_method_11_code 82 = .ok (.iinc 5 1, 3) := by decide +kernel
theorem o_d23_85 : decode jdk_52_method_11_code 85 = .ok (.goto (-41), 3) := by decide +kernel
set_option maxRecDepth 65536 in
set_option maxHeartbeats 40000000 in
theorem o_p44 (l : Launch) (Z : State) (a0 : Array Value) (hw : ∀ d ∈ tables_1, d.before a0 Z = true) (r0 : Addr) (x2 : Int32) (q_n : Int32) (q_F : Int32 → Int32) (h0 : Heap) (n0 : Nat) (Z0 : n0 ≤ h0.size) (O0 : Old Z n0 h0) (T_a : o_Tb Z h0 r0 .byte q_n q_F) (hq : q_n.toInt = 2 * x2.toInt ∧ 1 ≤ x2.toInt ∧ x2.toInt ≤ 256) (S_ad : Sta Z Z.heap "java/lang/StringUTF16" "$assertionsDisabled" "Z" (.int 1)) (S_hi : Sta Z Z.heap "java/lang/StringUTF16" "HI_BYTE_SHIFT" "I" (.int 0)) (S_lo : Sta Z Z.heap "java/lang/StringUTF16" "LO_BYTE_SHIFT" "I" (.int 8)) (p : Program) (e : Env) (s : State) (m : MethodId) (below : List Frame) (meth : Method) (c : Code) (hx : p.tables.exec = Jvm.exec) (hby : c.code = jdk_52_method_11_code) (hml : c.maxLocals = 6) (hown : s.vm.findClass "java/lang/StringUTF16" = some m.cls) (hret : meth.sig.returnType = (some .int)) (hlk : meth.locks = false) (hZ : Z.Warmed39 s.vm) (k : Nat) : ∀ (T0 : State) (L0 : List Loc) (X0 : Stand p l e o_R23 s m #[(.ref r0), (.int 0), (.int x2), (.int 0)] below meth c T0 L0 0 0) (e0 : T0.heap = h0) (N0 : Fr n0 L0) (n i : Int32) (hi : 0 ≤ i.toInt ∧ i.toInt ≤ x2.toInt ∧ x2.toInt ≤ i.toInt + k + 1), o_Goes p e below (o_End s o_R23 (fun v h L => v = some (.int (o_cp q_F x2 k n i)) ∧ Fr n0 L ∧ h = h0)) (T0.setTop (mkF m 44 #[.val (.ref r0), .val (.int 0), .val (.int x2), .val (.int 0), .val (.int n), .val (.int i)] [])) := by
 induction k with
 | zero =>
  intro T0 L0 X0 e0 N0 n i hi
  refine o_gi (XS.iload X0.here hx rfl (hb hby o_d23_44) rfl) ?_
  refine o_gi (XS.iloadN X0.here hx rfl (hb hby o_d23_46) rfl) ?_
  refine o_gi (XS.iconst X0.here hx rfl (hb hby o_d23_47)) ?_
  show o_Gs p e below _ T0 m 48 #[.val (.ref r0), .val (.int 0), .val (.int x2), .val (.int 0), .val (.int n), .val (.int i)] [(.int 1), (.int x2), (.int i)]
  refine o_gi (XS.isub X0.here hx rfl (hb hby o_d23_48) rfl) ?_
  show o_Gs p e below _ T0 m 49 #[.val (.ref r0), .val (.int 0), .val (.int x2), .val (.int 0), .val (.int n), .val (.int i)] [(.int (x2 - (1 : Int32))), (.int i)]
  have hd19 : ¬ (i < (x2 - (1 : Int32))) := (o_h0 hq hi)
  refine o_gi (XS.icmpYes X0.here hx rfl (pc0 := 49) (pc' := 88) rfl (hb hby o_d23_49) rfl (flt hd19).2.1 (by decide) (by decide)) ?_
  refine o_gi (XS.iload X0.here hx rfl (hb hby o_d23_88) rfl) ?_
  show o_Gs p e below _ T0 m 90 #[.val (.ref r0), .val (.int 0), .val (.int x2), .val (.int 0), .val (.int n), .val (.int i)] [(.int n)]
  exact o_retI X0 hx hlk hret (hb hby o_d23_90) (by decide) (by decide) ⟨by rw [o_cp], N0, e0⟩
 | succ k ih =>
  intro T0 L0 X0 e0 N0 n i hi
  refine o_gi (XS.iload X0.here hx rfl (hb hby o_d23_44) rfl) ?_
  refine o_gi (XS.iloadN X0.here hx rfl (hb hby o_d23_46) rfl) ?_
  refine o_gi (XS.iconst X0.here hx rfl (hb hby o_d23_47)) ?_
  show o_Gs p e below _ T0 m 48 #[.val (.ref r0), .val (.int 0), .val (.int x2), .val (.int 0), .val (.int n), .val (.int i)] [(.int 1), (.int x2), (.int i)]
  refine o_gi (XS.isub X0.here hx rfl (hb hby o_d23_48) rfl) ?_
  show o_Gs p e below _ T0 m 49 #[.val (.ref r0), .val (.int 0), .val (.int x2), .val (.int 0), .val (.int n), .val (.int i)] [(.int (x2 - (1 : Int32))), (.int i)]
  by_cases hc20 : i < (x2 - (1 : Int32))
  ·refine o_gi (XS.icmpNo X0.here hx rfl (hb hby o_d23_49) rfl (tlt hc20).2.1) ?_
   refine o_gi (XS.aloadN X0.here hx rfl (hb hby o_d23_52) rfl rfl) ?_
   refine o_gi (XS.iload X0.here hx rfl (hb hby o_d23_53) rfl) ?_
   show o_Gs p e below _ T0 m 55 #[.val (.ref r0), .val (.int 0), .val (.int x2), .val (.int 0), .val (.int n), .val (.int i)] [(.int i), (.ref r0)]
   refine o_gi (XS.iinc X0.here hx rfl (hb hby o_d23_55) rfl (l' := #[.val (.ref r0), .val (.int 0), .val (.int x2), .val (.int 0), .val (.int n), .val (.int (i + (1 : Int32)))]) rfl) ?_
   show o_Gs p e below _ T0 m 58 #[.val (.ref r0), .val (.int 0), .val (.int x2), .val (.int 0), .val (.int n), .val (.int (i + (1 : Int32)))] [(.int i), (.ref r0)]
   obtain ⟨_, T21, L21, X21, ⟨rfl, N21q, e21⟩, st21⟩ := o_callS X0 hx hZ hown (hw _ o_t52) (hw _ o_t53) (hw _ o_t21) (hw _ o_t54) (by decide) (as := [(.ref r0), (.int i)]) (rm12 l Z a0 hw [] r0 i q_n q_F h0 n0 O0 T_a (o_hx hq hi hc20) S_ad S_hi S_lo) e0 o_pd0 rfl (pc := 58) (Ls := #[.val (.ref r0), .val (.int 0), .val (.int x2), .val (.int 0), .val (.int n), .val (.int (i + (1 : Int32)))]) (rest := []) (W := 0) (by rw [hml]; rfl) (Nat.le_of_eq rfl) (by decide) (by decide) (hb hby o_d23_58) (by decide) (by decide)
   have N21 := Fr.app N0 N21q
   refine o_go st21 ?_
   show o_Gs p e below _ T21 m 61 #[.val (.ref r0), .val (.int 0), .val (.int x2), .val (.int 0), .val (.int n), .val (.int (i + (1 : Int32)))] [(.int (o_f12 i q_F))]
   obtain ⟨_, T22, L22, X22, ⟨rfl, N22q, e22⟩, st22⟩ := o_callS X21 hx hZ hown (hw _ o_t108) (hw _ o_t109) (hw _ o_t110) (hw _ o_t111) (by decide) (as := [(.int (o_f12 i q_F))]) (rm24 l Z a0 hw [] (o_f12 i q_F) h0 n0) e21 o_pd1 rfl (pc := 61) (Ls := #[.val (.ref r0), .val (.int 0), .val (.int x2), .val (.int 0), .val (.int n), .val (.int (i + (1 : Int32)))]) (rest := []) (W := 0) (by rw [hml]; rfl) (Nat.le_of_eq rfl) (by decide) (by decide) (hb hby o_d23_61) (by decide) (by decide)
   have N22 := Fr.app N21 N22q
   refine o_go st22 ?_
   show o_Gs p e below _ T22 m 64 #[.val (.ref r0), .val (.int 0), .val (.int x2), .val (.int 0), .val (.int n), .val (.int (i + (1 : Int32)))] [(.int (o_f24 (o_f12 i q_F)))]
   by_cases hc23 : (o_f24 (o_f12 i q_F)) = (0 : Int32)
   ·refine o_gi (XS.ifYes X22.here hx rfl (pc0 := 64) (pc' := 44) rfl (hb hby o_d23_64) rfl ((if0 _ _).trans (teq hc23).1) (by decide) (by decide)) ?_
    have ee : o_cp q_F x2 (k + 1) n i = o_cp q_F x2 k n (i + (1 : Int32)) := by rw [o_cp, if_pos hc20, if_pos hc23]
    rw [ee]
    exact ih _ _ X22 e22 N22 n (i + (1 : Int32)) (o_h1 hq hi hc20)
   ·refine o_gi (XS.ifNo X22.here hx rfl (hb hby o_d23_64) rfl ((if0 _ _).trans (feq hc23).1)) ?_
    refine o_gi (XS.aloadN X22.here hx rfl (hb hby o_d23_67) rfl rfl) ?_
    refine o_gi (XS.iload X22.here hx rfl (hb hby o_d23_68) rfl) ?_
    show o_Gs p e below _ T22 m 70 #[.val (.ref r0), .val (.int 0), .val (.int x2), .val (.int 0), .val (.int n), .val (.int (i + (1 : Int32)))] [(.int (i + (1 : Int32))), (.ref r0)]
    obtain ⟨_, T24, L24, X24, ⟨rfl, N24q, e24⟩, st24⟩ := o_callS X22 hx hZ hown (hw _ o_t52) (hw _ o_t53) (hw _ o_t21) (hw _ o_t54) (by decide) (as := [(.ref r0), (.int (i + (1 : Int32)))]) (rm12 l Z a0 hw [] r0 (i + (1 : Int32)) q_n q_F h0 n0 O0 T_a (o_hx1 hq hi hc20) S_ad S_hi S_lo) e22 o_pd0 rfl (pc := 70) (Ls := #[.val (.ref r0), .val (.int 0), .val (.int x2), .val (.int 0), .val (.int n), .val (.int (i + (1 : Int32)))]) (rest := []) (W := 0) (by rw [hml]; rfl) (Nat.le_of_eq rfl) (by decide) (by decide) (hb hby o_d23_70) (by decide) (by decide)
    have N24 := Fr.app N22 N24q
    refine o_go st24 ?_
    show o_Gs p e below _ T24 m 73 #[.val (.ref r0), .val (.int 0), .val (.int x2), .val (.int 0), .val (.int n), .val (.int (i + (1 : Int32)))] [(.int (o_f12 (i + (1 : Int32)) q_F))]
    obtain ⟨_, T25, L25, X25, ⟨rfl, N25q, e25⟩, st25⟩ := o_callS X24 hx hZ hown (hw _ o_t114) (hw _ o_t115) (hw _ o_t110) (hw _ o_t116) (by decide) (as := [(.int (o_f12 (i + (1 : Int32)) q_F))]) (rm25 l Z a0 hw [] (o_f12 (i + (1 : Int32)) q_F) h0 n0) e24 o_pd1 rfl (pc := 73) (Ls := #[.val (.ref r0), .val (.int 0), .val (.int x2), .val (.int 0), .val (.int n), .val (.int (i + (1 : Int32)))]) (rest := []) (W := 0) (by rw [hml]; rfl) (Nat.le_of_eq rfl) (by decide) (by decide) (hb hby o_d23_73) (by decide) (by decide)
    have N25 := Fr.app N24 N25q
    refine o_go st25 ?_
    show o_Gs p e below _ T25 m 76 #[.val (.ref r0), .val (.int 0), .val (.int x2), .val (.int 0), .val (.int n), .val (.int (i + (1 : Int32)))] [(.int (o_f25 (o_f12 (i + (1 : Int32)) q_F)))]
    by_cases hc26 : (o_f25 (o_f12 (i + (1 : Int32)) q_F)) = (0 : Int32)
    ·refine o_gi (XS.ifYes X25.here hx rfl (pc0 := 76) (pc' := 44) rfl (hb hby o_d23_76) rfl ((if0 _ _).trans (teq hc26).1) (by decide) (by decide)) ?_
     have ee : o_cp q_F x2 (k + 1) n i = o_cp q_F x2 k n (i + (1 : Int32)) := by rw [o_cp, if_pos hc20, if_neg hc23, if_pos hc26]
     rw [ee]
     exact ih _ _ X25 e25 N25 n (i + (1 : Int32)) (o_h1 hq hi hc20)
    ·refine o_gi (XS.ifNo X25.here hx rfl (hb hby o_d23_76) rfl ((if0 _ _).trans (feq hc26).1)) ?_
     show o_Gs p e below _ T25 m 79 #[.val (.ref r0), .val (.int 0), .val (.int x2), .val (.int 0), .val (.int n), .val (.int (i + (1 : Int32)))] []
     refine o_gi (XS.iinc X25.here hx rfl (hb hby o_d23_79) rfl (l' := #[.val (.ref r0), .val (.int 0), .val (.int x2), .val (.int 0), .val (.int (n + (-1 : Int32))), .val (.int (i + (1 : Int32)))]) rfl) ?_
     show o_Gs p e below _ T25 m 82 #[.val (.ref r0), .val (.int 0), .val (.int x2), .val (.int 0), .val (.int (n + (-1 : Int32))), .val (.int (i + (1 : Int32)))] []
     refine o_gi (XS.iinc X25.here hx rfl (hb hby o_d23_82) rfl (l' := #[.val (.ref r0), .val (.int 0), .val (.int x2), .val (.int 0), .val (.int (n + (-1 : Int32))), .val (.int ((i + (1 : Int32)) + (1 : Int32)))]) rfl) ?_
     refine o_gi (XS.goto X25.here hx rfl (pc0 := 85) (pc' := 44) rfl (hb hby o_d23_85) (by decide) (by decide)) ?_
     have ee : o_cp q_F x2 (k + 1) n i = o_cp q_F x2 k (n + (-1 : Int32)) ((i + (1 : Int32)) + (1 : Int32)) := by rw [o_cp, if_pos hc20, if_neg hc23, if_neg hc26]
     rw [ee]
     exact ih _ _ X25 e25 N25 (n + (-1 : Int32)) ((i + (1 : Int32)) + (1 : Int32)) (o_h2 hq hi hc20)
  ·refine o_gi (XS.icmpYes X0.here hx rfl (pc0 := 49) (pc' := 88) rfl (hb hby o_d23_49) rfl (flt hc20).2.1 (by decide) (by decide)) ?_
   refine o_gi (XS.iload X0.here hx rfl (hb hby o_d23_88) rfl) ?_
   show o_Gs p e below _ T0 m 90 #[.val (.ref r0), .val (.int 0), .val (.int x2), .val (.int 0), .val (.int n), .val (.int i)] [(.int n)]
   exact o_retI X0 hx hlk hret (hb hby o_d23_90) (by decide) (by decide) ⟨by rw [o_cp, if_neg hc20], N0, e0⟩
theorem o_d23_0 : decode jdk_52_method_11_code 0 = .ok (.getstatic 44, 3) := by decide +kernel
theorem o_d23_3 : decode jdk_52_method_11_code 3 = .ok (.ifCond .ne 16, 3) := by decide +kernel
theorem o_d23_19 : decode jdk_52_method_11_code 19 = .ok (.iload_n 2, 1) := by decide +kernel
theorem o_d23_20 : decode jdk_52_method_11_code 20 = .ok (.iload_n 1, 1) := by decide +kernel
theorem o_d23_21 : decode jdk_52_method_11_code 21 = .ok (.isub, 1) := by decide +kernel
theorem o_d23_22 : decode jdk_52_method_11_code 22 = .ok (.istore 4, 2) := by decide +kernel
theorem o_d23_24 : decode jdk_52_method_11_code 24 = .ok (.iload_n 1, 1) := by decide +kernel
theorem o_d23_25 : decode jdk_52_method_11_code 25 = .ok (.istore 5, 2) := by decide +kernel
theorem o_d23_27 : decode jdk_52_method_11_code 27 = .ok (.iload_n 3, 1) := by decide +kernel
theorem o_d23_28 : decode jdk_52_method_11_code 28 = .ok (.ifCond .eq 16, 3) := by decide +kernel
theorem o_ef23 (m : MethodId) (z0 : Addr) (z2 : Int32) : entryFrame m #[(.ref z0), (.int 0), (.int z2), (.int 0)] 6 = mkF m 0 #[.val (.ref z0), .val (.int 0), .val (.int z2), .val (.int 0), .unset, .unset] [] := by first | (simp [entryFrame, mkF, argsToLocals, Value.category]; done) | rfl
set_option maxRecDepth 65536 in
set_option maxHeartbeats 40000000 in
theorem rm23 (l : Launch) (Z : State) (a0 : Array Value) (hw : ∀ d ∈ tables_1, d.before a0 Z = true) (ws : List Jvm.Cond) (r0 : Addr) (x2 : Int32) (q_n : Int32) (q_F : Int32 → Int32) (h0 : Heap) (n0 : Nat) (Z0 : n0 ≤ h0.size) (O0 : Old Z n0 h0) (T_a : o_Tb Z h0 r0 .byte q_n q_F) (hq : q_n.toInt = 2 * x2.toInt ∧ 1 ≤ x2.toInt ∧ x2.toInt ≤ 256) (S_ad : Sta Z Z.heap "java/lang/StringUTF16" "$assertionsDisabled" "Z" (.int 1)) (S_hi : Sta Z Z.heap "java/lang/StringUTF16" "HI_BYTE_SHIFT" "I" (.int 0)) (S_lo : Sta Z Z.heap "java/lang/StringUTF16" "LO_BYTE_SHIFT" "I" (.int 8)) : o_Met l Z (⟨"java/lang/StringUTF16", "codePointCount", "([BIIZ)I"⟩ : MethodName) jdk_52_method_11_code 6 (some .int) ws o_R23 #[(.ref r0), (.int 0), (.int x2), (.int 0)] h0 (o_Q23 x2 q_F h0 n0) := by
 refine o_met (plainFor_of_name o_pn0) ?_
 intro p e s m below meth c s₁ hx hby hml hown hnm hret hlk hZ e0 X0
 have N0 := Fr.nil n0
 have hml : c.maxLocals = 6 := hml
 have hown : s.vm.findClass "java/lang/StringUTF16" = some m.cls := hown
 have hret : meth.sig.returnType = (some .int) := hret
 have hby : c.code = jdk_52_method_11_code := hby
 have hnm : meth.name = "codePointCount" := hnm
 rw [o_ef23]
 show o_Gs p e below _ s₁ m 0 #[.val (.ref r0), .val (.int 0), .val (.int x2), .val (.int 0), .unset, .unset] []
 obtain ⟨T27, X27, e27, st27⟩ := getS2 X0 hx hZ hown (host := "") (Or.inl (hw _ o_t49)) Via.refl e0 (S_ad.ext O0.2) (g := (mkF m 0 #[.val (.ref r0), .val (.int 0), .val (.int x2), .val (.int 0), .unset, .unset] [])) rfl (hb hby o_d23_0)
 refine o_go st27 ?_
 show o_Gs p e below _ T27 m 3 #[.val (.ref r0), .val (.int 0), .val (.int x2), .val (.int 0), .unset, .unset] [(.int 1)]
 have hd28 : ¬ ((1 : Int32) = (0 : Int32)) := (by decide)
 refine o_gi (XS.ifYes X27.here hx rfl (pc0 := 3) (pc' := 19) rfl (hb hby o_d23_3) rfl ((if0 _ _).trans (feq hd28).2) (by decide) (by decide)) ?_
 refine o_gi (XS.iloadN X27.here hx rfl (hb hby o_d23_19) rfl) ?_
 refine o_gi (XS.iloadN X27.here hx rfl (hb hby o_d23_20) rfl) ?_
 show o_Gs p e below _ T27 m 21 #[.val (.ref r0), .val (.int 0), .val (.int x2), .val (.int 0), .unset, .unset] [(.int 0), (.int x2)]
 refine o_gi (XS.isub X27.here hx rfl (hb hby o_d23_21) rfl) ?_
 refine o_gi (XS.istore X27.here hx rfl (hb hby o_d23_22) rfl (l' := #[.val (.ref r0), .val (.int 0), .val (.int x2), .val (.int 0), .val (.int (x2 - (0 : Int32))), .unset]) rfl) ?_
 refine o_gi (XS.iloadN X27.here hx rfl (hb hby o_d23_24) rfl) ?_
 refine o_gi (XS.istore X27.here hx rfl (hb hby o_d23_25) rfl (l' := #[.val (.ref r0), .val (.int 0), .val (.int x2), .val (.int 0), .val (.int (x2 - (0 : Int32))), .val (.int 0)]) rfl) ?_
 refine o_gi (XS.iloadN X27.here hx rfl (hb hby o_d23_27) rfl) ?_
 show o_Gs p e below _ T27 m 28 #[.val (.ref r0), .val (.int 0), .val (.int x2), .val (.int 0), .val (.int (x2 - (0 : Int32))), .val (.int 0)] [(.int 0)]
 have hd29 : (0 : Int32) = (0 : Int32) := (by decide)
 refine o_gi (XS.ifYes X27.here hx rfl (pc0 := 28) (pc' := 44) rfl (hb hby o_d23_28) rfl ((if0 _ _).trans (teq hd29).1) (by decide) (by decide)) ?_
 exact o_p44 l Z a0 hw r0 x2 q_n q_F h0 n0 Z0 O0 T_a hq S_ad S_hi S_lo p e s m below meth c hx hby hml hown hret hlk hZ 300 _ _ X27 e27 N0 _ _ (o_hs hq)
theorem o_d22_0 : decode jdk_52_method_12_code 0 = .ok (.aload_n 0, 1) := by decide +kernel
theorem o_d22_1 : decode jdk_52_method_12_code 1 = .ok (.iload_n 1, 1) := by decide +kernel
theorem o_d22_2 : decode jdk_52_method_12_code 2 = .ok (.iload_n 2, 1) := by decide +kernel
theorem o_d22_3 : decode jdk_52_method_12_code 3 = .ok (.iconst 0, 1) := by decide +kernel
theorem o_d22_4 : decode jdk_52_method_12_code 4 = .ok (.invokestatic 100, 3) := by decide +kernel
theorem o_t105 : (Jvm.Cond.methodLink "java/lang/StringUTF16" (100 : Nat) ({ cls := "java/lang/StringUTF16", name := "codePointCount", desc := "([BIIZ)I" } : Jvm.MethodName)) ∈ tables_1 := List.mem_of_getElem? (i := 105) rfl
theorem o_pd2 : parseMethodDescriptor "([BIIZ)I" = some ⟨[(.array .byte), .int, .int, .boolean], some .int⟩ := by decide +kernel
theorem o_t106 : (Jvm.Cond.static ({ cls := "java/lang/StringUTF16", name := "codePointCount", desc := "([BIIZ)I" } : Jvm.MethodName)) ∈ tables_1 := List.mem_of_getElem? (i := 106) rfl
theorem o_t107 : (Jvm.Cond.code ({ cls := "java/lang/StringUTF16", name := "codePointCount", desc := "([BIIZ)I" } : Jvm.MethodName) jdk_52_method_11_code (6 : Nat) (Option.some Jvm.ClassFile.FieldType.int)) ∈ tables_1 := List.mem_of_getElem? (i := 107) rfl
theorem o_d22_7 : decode jdk_52_method_12_code 7 = .ok (.ireturn, 1) := by decide +kernel
def o_f22 (x2 : Int32) (q_F : Int32 → Int32) : Int32 := (o_cp q_F x2 300 (x2 - (0 : Int32)) 0)
def o_Q22 (r0 : Addr) (x2 : Int32) (q_n : Int32) (q_F : Int32 → Int32) (h0 : Heap) (n0 : Nat) (v : Option Value) (h : Heap) (L : List Loc) : Prop := v = some (.int (o_f22 x2 q_F)) ∧ Fr n0 L ∧ h = h0
abbrev o_R22 : Room := { frames := 3, cells := 0, slots := 0, locals := 57 }
theorem o_ef22 (m : MethodId) (z0 : Addr) (z2 : Int32) : entryFrame m #[(.ref z0), (.int 0), (.int z2)] 3 = mkF m 0 #[.val (.ref z0), .val (.int 0), .val (.int z2)] [] := by first | (simp [entryFrame, mkF, argsToLocals, Value.category]; done) | rfl
set_option maxRecDepth 65536 in
set_option maxHeartbeats 40000000 in
theorem rm22 (l : Launch) (Z : State) (a0 : Array Value) (hw : ∀ d ∈ tables_1, d.before a0 Z = true) (ws : List Jvm.Cond) (r0 : Addr) (x2 : Int32) (q_n : Int32) (q_F : Int32 → Int32) (h0 : Heap) (n0 : Nat) (Z0 : n0 ≤ h0.size) (O0 : Old Z n0 h0) (T_a : o_Tb Z h0 r0 .byte q_n q_F) (hq : q_n.toInt = 2 * x2.toInt ∧ 1 ≤ x2.toInt ∧ x2.toInt ≤ 256) (S_ad : Sta Z Z.heap "java/lang/StringUTF16" "$assertionsDisabled" "Z" (.int 1)) (S_hi : Sta Z Z.heap "java/lang/StringUTF16" "HI_BYTE_SHIFT" "I" (.int 0)) (S_lo : Sta Z Z.heap "java/lang/StringUTF16" "LO_BYTE_SHIFT" "I" (.int 8)) : o_Met l Z (⟨"java/lang/StringUTF16", "codePointCount", "([BII)I"⟩ : MethodName) jdk_52_method_12_code 3 (some .int) ws o_R22 #[(.ref r0), (.int 0), (.int x2)] h0 (o_Q22 r0 x2 q_n q_F h0 n0) := by
 refine o_met (plainFor_of_name o_pn0) ?_
 intro p e s m below meth c s₁ hx hby hml hown hnm hret hlk hZ e0 X0
 have N0 := Fr.nil n0
 have hml : c.maxLocals = 3 := hml
 have hown : s.vm.findClass "java/lang/StringUTF16" = some m.cls := hown
 have hret : meth.sig.returnType = (some .int) := hret
 have hby : c.code = jdk_52_method_12_code := hby
 have hnm : meth.name = "codePointCount" := hnm
 rw [o_ef22]
 refine o_gi (XS.aloadN X0.here hx rfl (hb hby o_d22_0) rfl rfl) ?_
 refine o_gi (XS.iloadN X0.here hx rfl (hb hby o_d22_1) rfl) ?_
 refine o_gi (XS.iloadN X0.here hx rfl (hb hby o_d22_2) rfl) ?_
 refine o_gi (XS.iconst X0.here hx rfl (hb hby o_d22_3)) ?_
 show o_Gs p e below _ s₁ m 4 #[.val (.ref r0), .val (.int 0), .val (.int x2)] [(.int 0), (.int x2), (.int 0), (.ref r0)]
 obtain ⟨_, T30, L30, X30, ⟨rfl, N30q, e30⟩, st30⟩ := o_callS X0 hx hZ hown (hw _ o_t105) (hw _ o_t106) (hw _ o_t21) (hw _ o_t107) (by decide) (as := [(.ref r0), (.int 0), (.int x2), (.int 0)]) (rm23 l Z a0 hw [] r0 x2 q_n q_F h0 n0 Z0 O0 T_a hq S_ad S_hi S_lo) e0 o_pd2 rfl (pc := 4) (Ls := #[.val (.ref r0), .val (.int 0), .val (.int x2)]) (rest := []) (W := 0) (by rw [hml]; rfl) (Nat.le_of_eq rfl) (by decide) (by decide) (hb hby o_d22_4) (by decide) (by decide)
 have N30 := Fr.app N0 N30q
 refine o_go st30 ?_
 show o_Gs p e below _ T30 m 7 #[.val (.ref r0), .val (.int 0), .val (.int x2)] [(.int (o_cp q_F x2 300 (x2 - (0 : Int32)) 0))]
 exact o_retI X30 hx hlk hret (hb hby o_d22_7) (by decide) (by decide) ⟨by rw [o_f22], N30, e30⟩
theorem o_d20_0 : decode jdk_41_method_12_code 0 = .ok (.iload_n 0, 1) := by decide +kernel
theorem o_d20_1 : decode jdk_41_method_12_code 1 = .ok (.ifCond .lt 13, 3) := by decide +kernel
theorem o_d20_4 : decode jdk_41_method_12_code 4 = .ok (.iload_n 0, 1) := by decide +kernel
theorem o_d20_5 : decode jdk_41_method_12_code 5 = .ok (.iload_n 1, 1) := by decide +kernel
theorem o_d20_6 : decode jdk_41_method_12_code 6 = .ok (.if_icmp .gt 8, 3) := by decide +kernel
theorem o_d20_9 : decode jdk_41_method_12_code 9 = .ok (.iload_n 1, 1) := by decide +kernel
theorem o_d20_10 : decode jdk_41_method_12_code 10 = .ok (.iload_n 2, 1) := by decide +kernel
theorem o_d20_11 : decode jdk_41_method_12_code 11 = .ok (.if_icmp .le 11, 3) := by decide +kernel
theorem o_d20_22 : decode jdk_41_method_12_code 22 = .ok (.iload_n 0, 1) := by decide +kernel
theorem o_pn2 : plainName "jdk/internal/util/Preconditions" = true := by first | (simp [plainName, overriddenIn]; done) | decide +kernel
theorem o_d20_23 : decode jdk_41_method_12_code 23 = .ok (.ireturn, 1) := by decide +kernel
def o_Q20 (x0 : Int32) (x1 : Int32) (x2 : Int32) (h0 : Heap) (n0 : Nat) (v : Option Value) (h : Heap) (L : List Loc) : Prop := v = some (.int x0) ∧ Fr n0 L ∧ h = h0
abbrev o_R20 : Room := { frames := 0, cells := 0, slots := 0, locals := 0 }
theorem o_ef20 (m : MethodId) (z0 : Int32) (z1 : Int32) (z2 : Int32) : entryFrame m #[(.int z0), (.int z1), (.int z2), .null] 4 = mkF m 0 #[.val (.int z0), .val (.int z1), .val (.int z2), .val .null] [] := by first | (simp [entryFrame, mkF, argsToLocals, Value.category]; done) | rfl
set_option maxRecDepth 65536 in
set_option maxHeartbeats 40000000 in
theorem rm20 (l : Launch) (Z : State) (a0 : Array Value) (hw : ∀ d ∈ tables_1, d.before a0 Z = true) (ws : List Jvm.Cond) (x0 : Int32) (x1 : Int32) (x2 : Int32) (h0 : Heap) (n0 : Nat) (h1 : ¬ (x0 < (0 : Int32))) (h2 : ¬ (x1 < x0)) (h3 : ¬ (x2 < x1)) : o_Met l Z (⟨"jdk/internal/util/Preconditions", "checkFromToIndex", "(IIILjava/util/function/BiFunction;)I"⟩ : MethodName) jdk_41_method_12_code 4 (some .int) ws o_R20 #[(.int x0), (.int x1), (.int x2), .null] h0 (o_Q20 x0 x1 x2 h0 n0) := by
 refine o_met (plainFor_of_name o_pn2) ?_
 intro p e s m below meth c s₁ hx hby hml hown hnm hret hlk hZ e0 X0
 have N0 := Fr.nil n0
 have hml : c.maxLocals = 4 := hml
 have hown : s.vm.findClass "jdk/internal/util/Preconditions" = some m.cls := hown
 have hret : meth.sig.returnType = (some .int) := hret
 have hby : c.code = jdk_41_method_12_code := hby
 have hnm : meth.name = "checkFromToIndex" := hnm
 rw [o_ef20]
 refine o_gi (XS.iloadN X0.here hx rfl (hb hby o_d20_0) rfl) ?_
 show o_Gs p e below _ s₁ m 1 #[.val (.int x0), .val (.int x1), .val (.int x2), .val .null] [(.int x0)]
 have hd31 : ¬ (x0 < (0 : Int32)) := h1
 refine o_gi (XS.ifNo X0.here hx rfl (hb hby o_d20_1) rfl ((if0 _ _).trans (flt hd31).1)) ?_
 refine o_gi (XS.iloadN X0.here hx rfl (hb hby o_d20_4) rfl) ?_
 refine o_gi (XS.iloadN X0.here hx rfl (hb hby o_d20_5) rfl) ?_
 show o_Gs p e below _ s₁ m 6 #[.val (.int x0), .val (.int x1), .val (.int x2), .val .null] [(.int x1), (.int x0)]
 have hd32 : ¬ (x1 < x0) := h2
 refine o_gi (XS.icmpNo X0.here hx rfl (hb hby o_d20_6) rfl (flt hd32).2.2.1) ?_
 refine o_gi (XS.iloadN X0.here hx rfl (hb hby o_d20_9) rfl) ?_
 refine o_gi (XS.iloadN X0.here hx rfl (hb hby o_d20_10) rfl) ?_
 show o_Gs p e below _ s₁ m 11 #[.val (.int x0), .val (.int x1), .val (.int x2), .val .null] [(.int x2), (.int x1)]
 have hd33 : ¬ (x2 < x1) := h3
 refine o_gi (XS.icmpYes X0.here hx rfl (pc0 := 11) (pc' := 22) rfl (hb hby o_d20_11) rfl (flt hd33).2.2.2 (by decide) (by decide)) ?_
 refine o_gi (XS.iloadN X0.here hx rfl (hb hby o_d20_22) rfl) ?_
 show o_Gs p e below _ s₁ m 23 #[.val (.int x0), .val (.int x1), .val (.int x2), .val .null] [(.int x0)]
 exact o_retI X0 hx hlk hret (hb hby o_d20_23) (by decide) (by decide) ⟨rfl, N0, e0⟩
theorem o_d19_0 : decode jdk_31_method_18_code 0 = .ok (.iload_n 0, 1) := by decide +kernel
theorem o_d19_1 : decode jdk_31_method_18_code 1 = .ok (.iload_n 1, 1) := by decide +kernel
theorem o_d19_2 : decode jdk_31_method_18_code 2 = .ok (.iload_n 2, 1) := by decide +kernel
theorem o_d19_3 : decode jdk_31_method_18_code 3 = .ok (.aconst_null, 1) := by decide +kernel
theorem o_d19_4 : decode jdk_31_method_18_code 4 = .ok (.invokestatic 111, 3) := by decide +kernel
theorem o_t92 : (Jvm.Cond.methodLink "java/util/Objects" (111 : Nat) ({ cls := "jdk/internal/util/Preconditions", name := "checkFromToIndex", desc := "(IIILjava/util/function/BiFunction;)I" } : Jvm.MethodName)) ∈ tables_1 := List.mem_of_getElem? (i := 92) rfl
theorem o_pd3 : parseMethodDescriptor "(IIILjava/util/function/BiFunction;)I" = some ⟨[.int, .int, .int, (.object "java/util/function/BiFunction")], some .int⟩ := by decide +kernel
theorem o_t93 : (Jvm.Cond.static ({ cls := "jdk/internal/util/Preconditions", name := "checkFromToIndex", desc := "(IIILjava/util/function/BiFunction;)I" } : Jvm.MethodName)) ∈ tables_1 := List.mem_of_getElem? (i := 93) rfl
theorem o_t94 : (Jvm.Cond.initialized "jdk/internal/util/Preconditions") ∈ tables_1 := List.mem_of_getElem? (i := 94) rfl
theorem o_t95 : (Jvm.Cond.code ({ cls := "jdk/internal/util/Preconditions", name := "checkFromToIndex", desc := "(IIILjava/util/function/BiFunction;)I" } : Jvm.MethodName) jdk_41_method_12_code (4 : Nat) (Option.some Jvm.ClassFile.FieldType.int)) ∈ tables_1 := List.mem_of_getElem? (i := 95) rfl
theorem o_pn3 : plainName "java/util/Objects" = true := by first | (simp [plainName, overriddenIn]; done) | decide +kernel
theorem o_d19_7 : decode jdk_31_method_18_code 7 = .ok (.ireturn, 1) := by decide +kernel
def o_Q19 (x0 : Int32) (x1 : Int32) (x2 : Int32) (h0 : Heap) (n0 : Nat) (v : Option Value) (h : Heap) (L : List Loc) : Prop := v = some (.int x0) ∧ Fr n0 L ∧ h = h0
abbrev o_R19 : Room := { frames := 1, cells := 0, slots := 0, locals := 15 }
theorem o_ef19 (m : MethodId) (z0 : Int32) (z1 : Int32) (z2 : Int32) : entryFrame m #[(.int z0), (.int z1), (.int z2)] 3 = mkF m 0 #[.val (.int z0), .val (.int z1), .val (.int z2)] [] := by first | (simp [entryFrame, mkF, argsToLocals, Value.category]; done) | rfl
set_option maxRecDepth 65536 in
set_option maxHeartbeats 40000000 in
theorem rm19 (l : Launch) (Z : State) (a0 : Array Value) (hw : ∀ d ∈ tables_1, d.before a0 Z = true) (ws : List Jvm.Cond) (x0 : Int32) (x1 : Int32) (x2 : Int32) (h0 : Heap) (n0 : Nat) (h1 : ¬ (x0 < (0 : Int32))) (h2 : ¬ (x1 < x0)) (h3 : ¬ (x2 < x1)) : o_Met l Z (⟨"java/util/Objects", "checkFromToIndex", "(III)I"⟩ : MethodName) jdk_31_method_18_code 3 (some .int) ws o_R19 #[(.int x0), (.int x1), (.int x2)] h0 (o_Q19 x0 x1 x2 h0 n0) := by
 refine o_met (plainFor_of_name o_pn3) ?_
 intro p e s m below meth c s₁ hx hby hml hown hnm hret hlk hZ e0 X0
 have N0 := Fr.nil n0
 have hml : c.maxLocals = 3 := hml
 have hown : s.vm.findClass "java/util/Objects" = some m.cls := hown
 have hret : meth.sig.returnType = (some .int) := hret
 have hby : c.code = jdk_31_method_18_code := hby
 have hnm : meth.name = "checkFromToIndex" := hnm
 rw [o_ef19]
 refine o_gi (XS.iloadN X0.here hx rfl (hb hby o_d19_0) rfl) ?_
 refine o_gi (XS.iloadN X0.here hx rfl (hb hby o_d19_1) rfl) ?_
 refine o_gi (XS.iloadN X0.here hx rfl (hb hby o_d19_2) rfl) ?_
 refine o_gi (XS.aconstNull X0.here hx rfl (hb hby o_d19_3)) ?_
 show o_Gs p e below _ s₁ m 4 #[.val (.int x0), .val (.int x1), .val (.int x2)] [.null, (.int x2), (.int x1), (.int x0)]
 obtain ⟨_, T34, L34, X34, ⟨rfl, N34q, e34⟩, st34⟩ := o_callS X0 hx hZ hown (hw _ o_t92) (hw _ o_t93) (hw _ o_t94) (hw _ o_t95) (by decide) (as := [(.int x0), (.int x1), (.int x2), .null]) (rm20 l Z a0 hw [] x0 x1 x2 h0 n0 h1 h2 h3) e0 o_pd3 rfl (pc := 4) (Ls := #[.val (.int x0), .val (.int x1), .val (.int x2)]) (rest := []) (W := 0) (by rw [hml]; rfl) (Nat.le_of_eq rfl) (by decide) (by decide) (hb hby o_d19_4) (by decide) (by decide)
 have N34 := Fr.app N0 N34q
 refine o_go st34 ?_
 show o_Gs p e below _ T34 m 7 #[.val (.int x0), .val (.int x1), .val (.int x2)] [(.int x0)]
 exact o_retI X34 hx hlk hret (hb hby o_d19_7) (by decide) (by decide) ⟨rfl, N34, e34⟩
theorem o_d15_0 : decode jdk_42_method_55_code 0 = .ok (.aload_n 0, 1) := by decide +kernel
theorem o_d15_1 : decode jdk_42_method_55_code 1 = .ok (.getfield 9, 3) := by decide +kernel
theorem o_t32 : (Jvm.Cond.fieldLink "java/lang/String" (9 : Nat) "java/lang/String" "value" "[B") ∈ tables_1 := List.mem_of_getElem? (i := 32) rfl
theorem o_d15_4 : decode jdk_42_method_55_code 4 = .ok (.arraylength, 1) := by decide +kernel
theorem o_d15_5 : decode jdk_42_method_55_code 5 = .ok (.ifCond .ne 7, 3) := by decide +kernel
theorem o_d15_12 : decode jdk_42_method_55_code 12 = .ok (.iconst 0, 1) := by decide +kernel
theorem o_pn4 : plainName "java/lang/String" = true := by first | (simp [plainName, overriddenIn]; done) | decide +kernel
theorem o_d15_13 : decode jdk_42_method_55_code 13 = .ok (.ireturn, 1) := by decide +kernel
def o_Q15 (r0 : Addr) (t : Addr) (q_n : Int32) (q_F : Int32 → Int32) (h0 : Heap) (n0 : Nat) (v : Option Value) (h : Heap) (L : List Loc) : Prop := v = some (.int 0) ∧ Fr n0 L ∧ h = h0
abbrev o_R15 : Room := { frames := 0, cells := 0, slots := 0, locals := 0 }
theorem o_ef15 (m : MethodId) (z0 : Addr) : entryFrame m #[(.ref z0)] 1 = mkF m 0 #[.val (.ref z0)] [] := by first | (simp [entryFrame, mkF, argsToLocals, Value.category]; done) | rfl
set_option maxRecDepth 65536 in
set_option maxHeartbeats 40000000 in
theorem rm15 (l : Launch) (Z : State) (a0 : Array Value) (hw : ∀ d ∈ tables_1, d.before a0 Z = true) (ws : List Jvm.Cond) (r0 : Addr) (t : Addr) (q_n : Int32) (q_F : Int32 → Int32) (h0 : Heap) (n0 : Nat) (F_v : Fld Z h0 r0 "java/lang/String" "value" "[B" (.ref t)) (T_t : o_Tb Z h0 t .byte q_n q_F) (hN : ¬ q_n = (0 : Int32)) : o_Met l Z (⟨"java/lang/String", "isEmpty", "()Z"⟩ : MethodName) jdk_42_method_55_code 1 (some .boolean) ws o_R15 #[(.ref r0)] h0 (o_Q15 r0 t q_n q_F h0 n0) := by
 refine o_met (plainFor_of_name o_pn4) ?_
 intro p e s m below meth c s₁ hx hby hml hown hnm hret hlk hZ e0 X0
 have N0 := Fr.nil n0
 have hml : c.maxLocals = 1 := hml
 have hown : s.vm.findClass "java/lang/String" = some m.cls := hown
 have hret : meth.sig.returnType = (some .boolean) := hret
 have hby : c.code = jdk_42_method_55_code := hby
 have hnm : meth.name = "isEmpty" := hnm
 rw [o_ef15]
 refine o_gi (XS.aloadN X0.here hx rfl (hb hby o_d15_0) rfl rfl) ?_
 show o_Gs p e below _ s₁ m 1 #[.val (.ref r0)] [(.ref r0)]
 obtain ⟨T35, X35, e35, st35⟩ := getF X0 hx hZ hown (host := "") (Or.inl (hw _ o_t32)) Via.refl e0 F_v (g := (mkF m 1 #[.val (.ref r0)] [(.ref r0)])) rfl rfl (hb hby o_d15_1)
 refine o_go st35 ?_
 show o_Gs p e below _ T35 m 4 #[.val (.ref r0)] [(.ref t)]
 obtain ⟨cl36, Ar36, sa36, na36, ha36⟩ := id T_t
 refine o_go (X35.arraylength hx (by rw [e35]; exact Ar36.1) (State.isArrayOf_alike hZ.alike Ar36.2.1) (g := (mkF m 4 #[.val (.ref r0)] [(.ref t)])) rfl rfl (hb hby o_d15_4)) ?_
 rw [len_of sa36 na36]
 show o_Gs p e below _ T35 m 5 #[.val (.ref r0)] [(.int q_n)]
 have hd37 : ¬ (q_n = (0 : Int32)) := hN
 refine o_gi (XS.ifYes X35.here hx rfl (pc0 := 5) (pc' := 12) rfl (hb hby o_d15_5) rfl ((if0 _ _).trans (feq hd37).2) (by decide) (by decide)) ?_
 refine o_gi (XS.iconst X35.here hx rfl (hb hby o_d15_12)) ?_
 show o_Gs p e below _ T35 m 13 #[.val (.ref r0)] [(.int 0)]
 exact o_retN X35 hx hlk hret (by simp) (z' := (0 : Int32)) rfl (hb hby o_d15_13) (by decide) (by decide) ⟨rfl, N0, e35⟩
theorem o_d17_0 : decode jdk_42_method_152_code 0 = .ok (.getstatic 38, 3) := by decide +kernel
theorem o_t18 : (Jvm.Cond.fieldLink "java/lang/String" (38 : Nat) "java/lang/String" "COMPACT_STRINGS" "Z") ∈ tables_1 := List.mem_of_getElem? (i := 18) rfl
theorem o_d17_3 : decode jdk_42_method_152_code 3 = .ok (.ifCond .eq 10, 3) := by decide +kernel
theorem o_d17_6 : decode jdk_42_method_152_code 6 = .ok (.aload_n 0, 1) := by decide +kernel
theorem o_d17_7 : decode jdk_42_method_152_code 7 = .ok (.getfield 15, 3) := by decide +kernel
theorem o_t30 : (Jvm.Cond.fieldLink "java/lang/String" (15 : Nat) "java/lang/String" "coder" "B") ∈ tables_1 := List.mem_of_getElem? (i := 30) rfl
theorem o_d17_10 : decode jdk_42_method_152_code 10 = .ok (.goto 4, 3) := by decide +kernel
theorem o_d17_14 : decode jdk_42_method_152_code 14 = .ok (.ireturn, 1) := by decide +kernel
def o_Q17_0 (r0 : Addr) (z_cs : Int32) (h0 : Heap) (n0 : Nat) (v : Option Value) (h : Heap) (L : List Loc) : Prop := v = some (.int 0) ∧ Fr n0 L ∧ h = h0
abbrev o_R17_0 : Room := { frames := 0, cells := 0, slots := 0, locals := 0 }
theorem o_ef17_0 (m : MethodId) (z0 : Addr) : entryFrame m #[(.ref z0)] 1 = mkF m 0 #[.val (.ref z0)] [] := by first | (simp [entryFrame, mkF, argsToLocals, Value.category]; done) | rfl
set_option maxRecDepth 65536 in
set_option maxHeartbeats 40000000 in
theorem rm17_0 (l : Launch) (Z : State) (a0 : Array Value) (hw : ∀ d ∈ tables_1, d.before a0 Z = true) (ws : List Jvm.Cond) (r0 : Addr) (z_cs : Int32) (h0 : Heap) (n0 : Nat) (O0 : Old Z n0 h0) (z_CS : ¬ z_cs = 0) (F_c : Fld Z h0 r0 "java/lang/String" "coder" "B" (.int 0)) (S_z_cs : Sta Z Z.heap "java/lang/String" "COMPACT_STRINGS" "Z" (.int z_cs)) : o_Met l Z (⟨"java/lang/String", "coder", "()B"⟩ : MethodName) jdk_42_method_152_code 1 (some .byte) ws o_R17_0 #[(.ref r0)] h0 (o_Q17_0 r0 z_cs h0 n0) := by
 refine o_met (plainFor_of_name o_pn4) ?_
 intro p e s m below meth c s₁ hx hby hml hown hnm hret hlk hZ e0 X0
 have N0 := Fr.nil n0
 have hml : c.maxLocals = 1 := hml
 have hown : s.vm.findClass "java/lang/String" = some m.cls := hown
 have hret : meth.sig.returnType = (some .byte) := hret
 have hby : c.code = jdk_42_method_152_code := hby
 have hnm : meth.name = "coder" := hnm
 rw [o_ef17_0]
 show o_Gs p e below _ s₁ m 0 #[.val (.ref r0)] []
 obtain ⟨T38, X38, e38, st38⟩ := getS2 X0 hx hZ hown (host := "") (Or.inl (hw _ o_t18)) Via.refl e0 (S_z_cs.ext O0.2) (g := (mkF m 0 #[.val (.ref r0)] [])) rfl (hb hby o_d17_0)
 refine o_go st38 ?_
 show o_Gs p e below _ T38 m 3 #[.val (.ref r0)] [(.int z_cs)]
 have hd39 : ¬ (z_cs = (0 : Int32)) := z_CS
 refine o_gi (XS.ifNo X38.here hx rfl (hb hby o_d17_3) rfl ((if0 _ _).trans (feq hd39).1)) ?_
 refine o_gi (XS.aloadN X38.here hx rfl (hb hby o_d17_6) rfl rfl) ?_
 show o_Gs p e below _ T38 m 7 #[.val (.ref r0)] [(.ref r0)]
 obtain ⟨T40, X40, e40, st40⟩ := getF X38 hx hZ hown (host := "") (Or.inl (hw _ o_t30)) Via.refl e38 F_c (g := (mkF m 7 #[.val (.ref r0)] [(.ref r0)])) rfl rfl (hb hby o_d17_7)
 refine o_go st40 ?_
 refine o_gi (XS.goto X40.here hx rfl (pc0 := 10) (pc' := 14) rfl (hb hby o_d17_10) (by decide) (by decide)) ?_
 show o_Gs p e below _ T40 m 14 #[.val (.ref r0)] [(.int 0)]
 exact o_retN X40 hx hlk hret (by simp) (z' := (0 : Int32)) rfl (hb hby o_d17_14) (by decide) (by decide) ⟨rfl, N0, e40⟩
theorem o_d21_0 : decode jdk_42_method_154_code 0 = .ok (.getstatic 38, 3) := by decide +kernel
theorem o_d21_3 : decode jdk_42_method_154_code 3 = .ok (.ifCond .eq 14, 3) := by decide +kernel
theorem o_d21_6 : decode jdk_42_method_154_code 6 = .ok (.aload_n 0, 1) := by decide +kernel
theorem o_d21_7 : decode jdk_42_method_154_code 7 = .ok (.getfield 15, 3) := by decide +kernel
theorem o_d21_10 : decode jdk_42_method_154_code 10 = .ok (.ifCond .ne 7, 3) := by decide +kernel
theorem o_d21_13 : decode jdk_42_method_154_code 13 = .ok (.iconst 1, 1) := by decide +kernel
theorem o_d21_14 : decode jdk_42_method_154_code 14 = .ok (.goto 4, 3) := by decide +kernel
theorem o_d21_18 : decode jdk_42_method_154_code 18 = .ok (.ireturn, 1) := by decide +kernel
def o_Q21_0 (r0 : Addr) (z_cs : Int32) (h0 : Heap) (n0 : Nat) (v : Option Value) (h : Heap) (L : List Loc) : Prop := v = some (.int 1) ∧ Fr n0 L ∧ h = h0
abbrev o_R21_0 : Room := { frames := 0, cells := 0, slots := 0, locals := 0 }
theorem o_ef21_0 (m : MethodId) (z0 : Addr) : entryFrame m #[(.ref z0)] 1 = mkF m 0 #[.val (.ref z0)] [] := by first | (simp [entryFrame, mkF, argsToLocals, Value.category]; done) | rfl
set_option maxRecDepth 65536 in
set_option maxHeartbeats 40000000 in
theorem rm21_0 (l : Launch) (Z : State) (a0 : Array Value) (hw : ∀ d ∈ tables_1, d.before a0 Z = true) (ws : List Jvm.Cond) (r0 : Addr) (z_cs : Int32) (h0 : Heap) (n0 : Nat) (O0 : Old Z n0 h0) (z_CS : ¬ z_cs = 0) (F_c : Fld Z h0 r0 "java/lang/String" "coder" "B" (.int 0)) (S_z_cs : Sta Z Z.heap "java/lang/String" "COMPACT_STRINGS" "Z" (.int z_cs)) : o_Met l Z (⟨"java/lang/String", "isLatin1", "()Z"⟩ : MethodName) jdk_42_method_154_code 1 (some .boolean) ws o_R21_0 #[(.ref r0)] h0 (o_Q21_0 r0 z_cs h0 n0) := by
 refine o_met (plainFor_of_name o_pn4) ?_
 intro p e s m below meth c s₁ hx hby hml hown hnm hret hlk hZ e0 X0
 have N0 := Fr.nil n0
 have hml : c.maxLocals = 1 := hml
 have hown : s.vm.findClass "java/lang/String" = some m.cls := hown
 have hret : meth.sig.returnType = (some .boolean) := hret
 have hby : c.code = jdk_42_method_154_code := hby
 have hnm : meth.name = "isLatin1" := hnm
 rw [o_ef21_0]
 show o_Gs p e below _ s₁ m 0 #[.val (.ref r0)] []
 obtain ⟨T41, X41, e41, st41⟩ := getS2 X0 hx hZ hown (host := "") (Or.inl (hw _ o_t18)) Via.refl e0 (S_z_cs.ext O0.2) (g := (mkF m 0 #[.val (.ref r0)] [])) rfl (hb hby o_d21_0)
 refine o_go st41 ?_
 show o_Gs p e below _ T41 m 3 #[.val (.ref r0)] [(.int z_cs)]
 have hd42 : ¬ (z_cs = (0 : Int32)) := z_CS
 refine o_gi (XS.ifNo X41.here hx rfl (hb hby o_d21_3) rfl ((if0 _ _).trans (feq hd42).1)) ?_
 refine o_gi (XS.aloadN X41.here hx rfl (hb hby o_d21_6) rfl rfl) ?_
 show o_Gs p e below _ T41 m 7 #[.val (.ref r0)] [(.ref r0)]
 obtain ⟨T43, X43, e43, st43⟩ := getF X41 hx hZ hown (host := "") (Or.inl (hw _ o_t30)) Via.refl e41 F_c (g := (mkF m 7 #[.val (.ref r0)] [(.ref r0)])) rfl rfl (hb hby o_d21_7)
 refine o_go st43 ?_
 show o_Gs p e below _ T43 m 10 #[.val (.ref r0)] [(.int 0)]
 have hd44 : (0 : Int32) = (0 : Int32) := (by decide)
 refine o_gi (XS.ifNo X43.here hx rfl (hb hby o_d21_10) rfl ((if0 _ _).trans (teq hd44).2)) ?_
 refine o_gi (XS.iconst X43.here hx rfl (hb hby o_d21_13)) ?_
 refine o_gi (XS.goto X43.here hx rfl (pc0 := 14) (pc' := 18) rfl (hb hby o_d21_14) (by decide) (by decide)) ?_
 show o_Gs p e below _ T43 m 18 #[.val (.ref r0)] [(.int 1)]
 exact o_retN X43 hx hlk hret (by simp) (z' := (1 : Int32)) rfl (hb hby o_d21_18) (by decide) (by decide) ⟨rfl, N0, e43⟩
def o_Q17_1 (r0 : Addr) (z_cs : Int32) (h0 : Heap) (n0 : Nat) (v : Option Value) (h : Heap) (L : List Loc) : Prop := v = some (.int 1) ∧ Fr n0 L ∧ h = h0
abbrev o_R17_1 : Room := { frames := 0, cells := 0, slots := 0, locals := 0 }
theorem o_ef17_1 (m : MethodId) (z0 : Addr) : entryFrame m #[(.ref z0)] 1 = mkF m 0 #[.val (.ref z0)] [] := by first | (simp [entryFrame, mkF, argsToLocals, Value.category]; done) | rfl
set_option maxRecDepth 65536 in
set_option maxHeartbeats 40000000 in
theorem rm17_1 (l : Launch) (Z : State) (a0 : Array Value) (hw : ∀ d ∈ tables_1, d.before a0 Z = true) (ws : List Jvm.Cond) (r0 : Addr) (z_cs : Int32) (h0 : Heap) (n0 : Nat) (O0 : Old Z n0 h0) (z_CS : ¬ z_cs = 0) (F_c : Fld Z h0 r0 "java/lang/String" "coder" "B" (.int 1)) (S_z_cs : Sta Z Z.heap "java/lang/String" "COMPACT_STRINGS" "Z" (.int z_cs)) : o_Met l Z (⟨"java/lang/String", "coder", "()B"⟩ : MethodName) jdk_42_method_152_code 1 (some .byte) ws o_R17_1 #[(.ref r0)] h0 (o_Q17_1 r0 z_cs h0 n0) := by
 refine o_met (plainFor_of_name o_pn4) ?_
 intro p e s m below meth c s₁ hx hby hml hown hnm hret hlk hZ e0 X0
 have N0 := Fr.nil n0
 have hml : c.maxLocals = 1 := hml
 have hown : s.vm.findClass "java/lang/String" = some m.cls := hown
 have hret : meth.sig.returnType = (some .byte) := hret
 have hby : c.code = jdk_42_method_152_code := hby
 have hnm : meth.name = "coder" := hnm
 rw [o_ef17_1]
 show o_Gs p e below _ s₁ m 0 #[.val (.ref r0)] []
 obtain ⟨T45, X45, e45, st45⟩ := getS2 X0 hx hZ hown (host := "") (Or.inl (hw _ o_t18)) Via.refl e0 (S_z_cs.ext O0.2) (g := (mkF m 0 #[.val (.ref r0)] [])) rfl (hb hby o_d17_0)
 refine o_go st45 ?_
 show o_Gs p e below _ T45 m 3 #[.val (.ref r0)] [(.int z_cs)]
 have hd46 : ¬ (z_cs = (0 : Int32)) := z_CS
 refine o_gi (XS.ifNo X45.here hx rfl (hb hby o_d17_3) rfl ((if0 _ _).trans (feq hd46).1)) ?_
 refine o_gi (XS.aloadN X45.here hx rfl (hb hby o_d17_6) rfl rfl) ?_
 show o_Gs p e below _ T45 m 7 #[.val (.ref r0)] [(.ref r0)]
 obtain ⟨T47, X47, e47, st47⟩ := getF X45 hx hZ hown (host := "") (Or.inl (hw _ o_t30)) Via.refl e45 F_c (g := (mkF m 7 #[.val (.ref r0)] [(.ref r0)])) rfl rfl (hb hby o_d17_7)
 refine o_go st47 ?_
 refine o_gi (XS.goto X47.here hx rfl (pc0 := 10) (pc' := 14) rfl (hb hby o_d17_10) (by decide) (by decide)) ?_
 show o_Gs p e below _ T47 m 14 #[.val (.ref r0)] [(.int 1)]
 exact o_retN X47 hx hlk hret (by simp) (z' := (1 : Int32)) rfl (hb hby o_d17_14) (by decide) (by decide) ⟨rfl, N0, e47⟩
theorem o_d21_17 : decode jdk_42_method_154_code 17 = .ok (.iconst 0, 1) := by decide +kernel
def o_Q21_1 (r0 : Addr) (z_cs : Int32) (h0 : Heap) (n0 : Nat) (v : Option Value) (h : Heap) (L : List Loc) : Prop := v = some (.int 0) ∧ Fr n0 L ∧ h = h0
abbrev o_R21_1 : Room := { frames := 0, cells := 0, slots := 0, locals := 0 }
theorem o_ef21_1 (m : MethodId) (z0 : Addr) : entryFrame m #[(.ref z0)] 1 = mkF m 0 #[.val (.ref z0)] [] := by first | (simp [entryFrame, mkF, argsToLocals, Value.category]; done) | rfl
set_option maxRecDepth 65536 in
set_option maxHeartbeats 40000000 in
theorem rm21_1 (l : Launch) (Z : State) (a0 : Array Value) (hw : ∀ d ∈ tables_1, d.before a0 Z = true) (ws : List Jvm.Cond) (r0 : Addr) (z_cs : Int32) (h0 : Heap) (n0 : Nat) (O0 : Old Z n0 h0) (z_CS : ¬ z_cs = 0) (F_c : Fld Z h0 r0 "java/lang/String" "coder" "B" (.int 1)) (S_z_cs : Sta Z Z.heap "java/lang/String" "COMPACT_STRINGS" "Z" (.int z_cs)) : o_Met l Z (⟨"java/lang/String", "isLatin1", "()Z"⟩ : MethodName) jdk_42_method_154_code 1 (some .boolean) ws o_R21_1 #[(.ref r0)] h0 (o_Q21_1 r0 z_cs h0 n0) := by
 refine o_met (plainFor_of_name o_pn4) ?_
 intro p e s m below meth c s₁ hx hby hml hown hnm hret hlk hZ e0 X0
 have N0 := Fr.nil n0
 have hml : c.maxLocals = 1 := hml
 have hown : s.vm.findClass "java/lang/String" = some m.cls := hown
 have hret : meth.sig.returnType = (some .boolean) := hret
 have hby : c.code = jdk_42_method_154_code := hby
 have hnm : meth.name = "isLatin1" := hnm
 rw [o_ef21_1]
 show o_Gs p e below _ s₁ m 0 #[.val (.ref r0)] []
 obtain ⟨T48, X48, e48, st48⟩ := getS2 X0 hx hZ hown (host := "") (Or.inl (hw _ o_t18)) Via.refl e0 (S_z_cs.ext O0.2) (g := (mkF m 0 #[.val (.ref r0)] [])) rfl (hb hby o_d21_0)
 refine o_go st48 ?_
 show o_Gs p e below _ T48 m 3 #[.val (.ref r0)] [(.int z_cs)]
 have hd49 : ¬ (z_cs = (0 : Int32)) := z_CS
 refine o_gi (XS.ifNo X48.here hx rfl (hb hby o_d21_3) rfl ((if0 _ _).trans (feq hd49).1)) ?_
 refine o_gi (XS.aloadN X48.here hx rfl (hb hby o_d21_6) rfl rfl) ?_
 show o_Gs p e below _ T48 m 7 #[.val (.ref r0)] [(.ref r0)]
 obtain ⟨T50, X50, e50, st50⟩ := getF X48 hx hZ hown (host := "") (Or.inl (hw _ o_t30)) Via.refl e48 F_c (g := (mkF m 7 #[.val (.ref r0)] [(.ref r0)])) rfl rfl (hb hby o_d21_7)
 refine o_go st50 ?_
 show o_Gs p e below _ T50 m 10 #[.val (.ref r0)] [(.int 1)]
 have hd51 : ¬ ((1 : Int32) = (0 : Int32)) := (by decide)
 refine o_gi (XS.ifYes X50.here hx rfl (pc0 := 10) (pc' := 17) rfl (hb hby o_d21_10) rfl ((if0 _ _).trans (feq hd51).2) (by decide) (by decide)) ?_
 refine o_gi (XS.iconst X50.here hx rfl (hb hby o_d21_17)) ?_
 show o_Gs p e below _ T50 m 18 #[.val (.ref r0)] [(.int 0)]
 exact o_retN X50 hx hlk hret (by simp) (z' := (0 : Int32)) rfl (hb hby o_d21_18) (by decide) (by decide) ⟨rfl, N0, e50⟩
theorem o_d16_0 : decode jdk_42_method_54_code 0 = .ok (.aload_n 0, 1) := by decide +kernel
theorem o_d16_1 : decode jdk_42_method_54_code 1 = .ok (.getfield 9, 3) := by decide +kernel
theorem o_d16_4 : decode jdk_42_method_54_code 4 = .ok (.arraylength, 1) := by decide +kernel
theorem o_d16_5 : decode jdk_42_method_54_code 5 = .ok (.aload_n 0, 1) := by decide +kernel
theorem o_d16_6 : decode jdk_42_method_54_code 6 = .ok (.invokevirtual 335, 3) := by decide +kernel
theorem o_t77 : (Jvm.Cond.methodLink "java/lang/String" (335 : Nat) ({ cls := "java/lang/String", name := "coder", desc := "()B" } : Jvm.MethodName)) ∈ tables_1 := List.mem_of_getElem? (i := 77) rfl
theorem o_pd4 : parseMethodDescriptor "()B" = some ⟨[], some .byte⟩ := by decide +kernel
theorem o_t78 : (Jvm.Cond.declares ({ cls := "java/lang/String", name := "coder", desc := "()B" } : Jvm.MethodName)) ∈ tables_1 := List.mem_of_getElem? (i := 78) rfl
theorem o_t80 : (Jvm.Cond.selects "java/lang/String" ({ cls := "java/lang/String", name := "coder", desc := "()B" } : Jvm.MethodName) ({ cls := "java/lang/String", name := "coder", desc := "()B" } : Jvm.MethodName)) ∈ tables_1 := List.mem_of_getElem? (i := 80) rfl
theorem o_t79 : (Jvm.Cond.instanceMethod ({ cls := "java/lang/String", name := "coder", desc := "()B" } : Jvm.MethodName)) ∈ tables_1 := List.mem_of_getElem? (i := 79) rfl
theorem o_t7 : (Jvm.Cond.initialized "java/lang/String") ∈ tables_1 := List.mem_of_getElem? (i := 7) rfl
theorem o_t81 : (Jvm.Cond.code ({ cls := "java/lang/String", name := "coder", desc := "()B" } : Jvm.MethodName) jdk_42_method_152_code (1 : Nat) (Option.some Jvm.ClassFile.FieldType.byte)) ∈ tables_1 := List.mem_of_getElem? (i := 81) rfl
theorem o_d16_9 : decode jdk_42_method_54_code 9 = .ok (.ishr, 1) := by decide +kernel
theorem o_d16_10 : decode jdk_42_method_54_code 10 = .ok (.ireturn, 1) := by decide +kernel
def o_f16_0 (q_n : Int32) : Int32 := (q_n >>> ((0 : Int32) &&& 31))
def o_Q16_0 (r0 : Addr) (t : Addr) (q_n : Int32) (q_F : Int32 → Int32) (z_cs : Int32) (h0 : Heap) (n0 : Nat) (v : Option Value) (h : Heap) (L : List Loc) : Prop := v = some (.int (o_f16_0 q_n)) ∧ Fr n0 L ∧ h = h0
abbrev o_R16_0 : Room := { frames := 1, cells := 0, slots := 0, locals := 13 }
theorem o_ef16_0 (m : MethodId) (z0 : Addr) : entryFrame m #[(.ref z0)] 1 = mkF m 0 #[.val (.ref z0)] [] := by first | (simp [entryFrame, mkF, argsToLocals, Value.category]; done) | rfl
set_option maxRecDepth 65536 in
set_option maxHeartbeats 40000000 in
theorem rm16_0 (l : Launch) (Z : State) (a0 : Array Value) (hw : ∀ d ∈ tables_1, d.before a0 Z = true) (ws : List Jvm.Cond) (r0 : Addr) (t : Addr) (q_n : Int32) (q_F : Int32 → Int32) (z_cs : Int32) (h0 : Heap) (n0 : Nat) (O0 : Old Z n0 h0) (z_CS : ¬ z_cs = 0) (E_r0 : Exa Z h0 r0 "java/lang/String") (F_v : Fld Z h0 r0 "java/lang/String" "value" "[B" (.ref t)) (F_c : Fld Z h0 r0 "java/lang/String" "coder" "B" (.int 0)) (T_t : o_Tb Z h0 t .byte q_n q_F) (S_z_cs : Sta Z Z.heap "java/lang/String" "COMPACT_STRINGS" "Z" (.int z_cs)) : o_Met l Z (⟨"java/lang/String", "length", "()I"⟩ : MethodName) jdk_42_method_54_code 1 (some .int) ws o_R16_0 #[(.ref r0)] h0 (o_Q16_0 r0 t q_n q_F z_cs h0 n0) := by
 refine o_met (plainFor_of_name o_pn4) ?_
 intro p e s m below meth c s₁ hx hby hml hown hnm hret hlk hZ e0 X0
 have N0 := Fr.nil n0
 have hml : c.maxLocals = 1 := hml
 have hown : s.vm.findClass "java/lang/String" = some m.cls := hown
 have hret : meth.sig.returnType = (some .int) := hret
 have hby : c.code = jdk_42_method_54_code := hby
 have hnm : meth.name = "length" := hnm
 rw [o_ef16_0]
 refine o_gi (XS.aloadN X0.here hx rfl (hb hby o_d16_0) rfl rfl) ?_
 show o_Gs p e below _ s₁ m 1 #[.val (.ref r0)] [(.ref r0)]
 obtain ⟨T52, X52, e52, st52⟩ := getF X0 hx hZ hown (host := "") (Or.inl (hw _ o_t32)) Via.refl e0 F_v (g := (mkF m 1 #[.val (.ref r0)] [(.ref r0)])) rfl rfl (hb hby o_d16_1)
 refine o_go st52 ?_
 show o_Gs p e below _ T52 m 4 #[.val (.ref r0)] [(.ref t)]
 obtain ⟨cl53, Ar53, sa53, na53, ha53⟩ := id T_t
 refine o_go (X52.arraylength hx (by rw [e52]; exact Ar53.1) (State.isArrayOf_alike hZ.alike Ar53.2.1) (g := (mkF m 4 #[.val (.ref r0)] [(.ref t)])) rfl rfl (hb hby o_d16_4)) ?_
 rw [len_of sa53 na53]
 refine o_gi (XS.aloadN X52.here hx rfl (hb hby o_d16_5) rfl rfl) ?_
 show o_Gs p e below _ T52 m 6 #[.val (.ref r0)] [(.ref r0), (.int q_n)]
 obtain ⟨_, T54, L54, X54, ⟨rfl, N54q, e54⟩, st54⟩ := o_callV X52 hx hZ hown (hw _ o_t77) (hw _ o_t78) (hw _ o_t80) (hw _ o_t79) (hw _ o_t7) (hw _ o_t81) (by decide) (b := r0) (as := []) (rm17_0 l Z a0 hw [] r0 z_cs h0 n0 O0 z_CS F_c S_z_cs) e52 E_r0 o_pd4 rfl (pc := 6) (Ls := #[.val (.ref r0)]) (rest := [(.int q_n)]) (W := 1) (by rw [hml]; rfl) (Nat.le_of_eq rfl) (by decide) (by decide) (hb hby o_d16_6) (by decide) (by decide)
 have N54 := Fr.app N0 N54q
 refine o_go st54 ?_
 show o_Gs p e below _ T54 m 9 #[.val (.ref r0)] [(.int 0), (.int q_n)]
 refine o_gi (XS.ishr X54.here hx rfl (hb hby o_d16_9) rfl) ?_
 show o_Gs p e below _ T54 m 10 #[.val (.ref r0)] [(.int (q_n >>> ((0 : Int32) &&& 31)))]
 exact o_retI X54 hx hlk hret (hb hby o_d16_10) (by decide) (by decide) ⟨by rw [o_f16_0], N54, e54⟩
def o_Q16_130 (r0 : Addr) (t : Addr) (q_F : Int32 → Int32) (z_cs : Int32) (h0 : Heap) (n0 : Nat) (v : Option Value) (h : Heap) (L : List Loc) : Prop := v = some (.int 65) ∧ Fr n0 L ∧ h = h0
abbrev o_R16_130 : Room := { frames := 1, cells := 0, slots := 0, locals := 13 }
theorem o_ef16_130 (m : MethodId) (z0 : Addr) : entryFrame m #[(.ref z0)] 1 = mkF m 0 #[.val (.ref z0)] [] := by first | (simp [entryFrame, mkF, argsToLocals, Value.category]; done) | rfl
set_option maxRecDepth 65536 in
set_option maxHeartbeats 40000000 in
theorem rm16_130 (l : Launch) (Z : State) (a0 : Array Value) (hw : ∀ d ∈ tables_1, d.before a0 Z = true) (ws : List Jvm.Cond) (r0 : Addr) (t : Addr) (q_F : Int32 → Int32) (z_cs : Int32) (h0 : Heap) (n0 : Nat) (O0 : Old Z n0 h0) (z_CS : ¬ z_cs = 0) (E_r0 : Exa Z h0 r0 "java/lang/String") (F_v : Fld Z h0 r0 "java/lang/String" "value" "[B" (.ref t)) (F_c : Fld Z h0 r0 "java/lang/String" "coder" "B" (.int 1)) (T_t : o_Tb Z h0 t .byte (130 : Int32) q_F) (S_z_cs : Sta Z Z.heap "java/lang/String" "COMPACT_STRINGS" "Z" (.int z_cs)) : o_Met l Z (⟨"java/lang/String", "length", "()I"⟩ : MethodName) jdk_42_method_54_code 1 (some .int) ws o_R16_130 #[(.ref r0)] h0 (o_Q16_130 r0 t q_F z_cs h0 n0) := by
 refine o_met (plainFor_of_name o_pn4) ?_
 intro p e s m below meth c s₁ hx hby hml hown hnm hret hlk hZ e0 X0
 have N0 := Fr.nil n0
 have hml : c.maxLocals = 1 := hml
 have hown : s.vm.findClass "java/lang/String" = some m.cls := hown
 have hret : meth.sig.returnType = (some .int) := hret
 have hby : c.code = jdk_42_method_54_code := hby
 have hnm : meth.name = "length" := hnm
 rw [o_ef16_130]
 refine o_gi (XS.aloadN X0.here hx rfl (hb hby o_d16_0) rfl rfl) ?_
 show o_Gs p e below _ s₁ m 1 #[.val (.ref r0)] [(.ref r0)]
 obtain ⟨T55, X55, e55, st55⟩ := getF X0 hx hZ hown (host := "") (Or.inl (hw _ o_t32)) Via.refl e0 F_v (g := (mkF m 1 #[.val (.ref r0)] [(.ref r0)])) rfl rfl (hb hby o_d16_1)
 refine o_go st55 ?_
 show o_Gs p e below _ T55 m 4 #[.val (.ref r0)] [(.ref t)]
 obtain ⟨cl56, Ar56, sa56, na56, ha56⟩ := id T_t
 refine o_go (X55.arraylength hx (by rw [e55]; exact Ar56.1) (State.isArrayOf_alike hZ.alike Ar56.2.1) (g := (mkF m 4 #[.val (.ref r0)] [(.ref t)])) rfl rfl (hb hby o_d16_4)) ?_
 rw [len_of sa56 na56]
 refine o_gi (XS.aloadN X55.here hx rfl (hb hby o_d16_5) rfl rfl) ?_
 show o_Gs p e below _ T55 m 6 #[.val (.ref r0)] [(.ref r0), (.int 130)]
 obtain ⟨_, T57, L57, X57, ⟨rfl, N57q, e57⟩, st57⟩ := o_callV X55 hx hZ hown (hw _ o_t77) (hw _ o_t78) (hw _ o_t80) (hw _ o_t79) (hw _ o_t7) (hw _ o_t81) (by decide) (b := r0) (as := []) (rm17_1 l Z a0 hw [] r0 z_cs h0 n0 O0 z_CS F_c S_z_cs) e55 E_r0 o_pd4 rfl (pc := 6) (Ls := #[.val (.ref r0)]) (rest := [(.int 130)]) (W := 1) (by rw [hml]; rfl) (Nat.le_of_eq rfl) (by decide) (by decide) (hb hby o_d16_6) (by decide) (by decide)
 have N57 := Fr.app N0 N57q
 refine o_go st57 ?_
 show o_Gs p e below _ T57 m 9 #[.val (.ref r0)] [(.int 1), (.int 130)]
 refine o_gi (XS.ishr X57.here hx rfl (hb hby o_d16_9) rfl) ?_
 show o_Gs p e below _ T57 m 10 #[.val (.ref r0)] [(.int ((130 : Int32) >>> ((1 : Int32) &&& 31)))]
 rw [show ((130 : Int32) >>> ((1 : Int32) &&& 31)) = (65 : Int32) from by decide]
 show o_Gs p e below _ T57 m 10 #[.val (.ref r0)] [(.int 65)]
 exact o_retI X57 hx hlk hret (hb hby o_d16_10) (by decide) (by decide) ⟨rfl, N57, e57⟩
def o_Q16_512 (r0 : Addr) (t : Addr) (q_F : Int32 → Int32) (z_cs : Int32) (h0 : Heap) (n0 : Nat) (v : Option Value) (h : Heap) (L : List Loc) : Prop := v = some (.int 256) ∧ Fr n0 L ∧ h = h0
abbrev o_R16_512 : Room := { frames := 1, cells := 0, slots := 0, locals := 13 }
theorem o_ef16_512 (m : MethodId) (z0 : Addr) : entryFrame m #[(.ref z0)] 1 = mkF m 0 #[.val (.ref z0)] [] := by first | (simp [entryFrame, mkF, argsToLocals, Value.category]; done) | rfl
set_option maxRecDepth 65536 in
set_option maxHeartbeats 40000000 in
theorem rm16_512 (l : Launch) (Z : State) (a0 : Array Value) (hw : ∀ d ∈ tables_1, d.before a0 Z = true) (ws : List Jvm.Cond) (r0 : Addr) (t : Addr) (q_F : Int32 → Int32) (z_cs : Int32) (h0 : Heap) (n0 : Nat) (O0 : Old Z n0 h0) (z_CS : ¬ z_cs = 0) (E_r0 : Exa Z h0 r0 "java/lang/String") (F_v : Fld Z h0 r0 "java/lang/String" "value" "[B" (.ref t)) (F_c : Fld Z h0 r0 "java/lang/String" "coder" "B" (.int 1)) (T_t : o_Tb Z h0 t .byte (512 : Int32) q_F) (S_z_cs : Sta Z Z.heap "java/lang/String" "COMPACT_STRINGS" "Z" (.int z_cs)) : o_Met l Z (⟨"java/lang/String", "length", "()I"⟩ : MethodName) jdk_42_method_54_code 1 (some .int) ws o_R16_512 #[(.ref r0)] h0 (o_Q16_512 r0 t q_F z_cs h0 n0) := by
 refine o_met (plainFor_of_name o_pn4) ?_
 intro p e s m below meth c s₁ hx hby hml hown hnm hret hlk hZ e0 X0
 have N0 := Fr.nil n0
 have hml : c.maxLocals = 1 := hml
 have hown : s.vm.findClass "java/lang/String" = some m.cls := hown
 have hret : meth.sig.returnType = (some .int) := hret
 have hby : c.code = jdk_42_method_54_code := hby
 have hnm : meth.name = "length" := hnm
 rw [o_ef16_512]
 refine o_gi (XS.aloadN X0.here hx rfl (hb hby o_d16_0) rfl rfl) ?_
 show o_Gs p e below _ s₁ m 1 #[.val (.ref r0)] [(.ref r0)]
 obtain ⟨T58, X58, e58, st58⟩ := getF X0 hx hZ hown (host := "") (Or.inl (hw _ o_t32)) Via.refl e0 F_v (g := (mkF m 1 #[.val (.ref r0)] [(.ref r0)])) rfl rfl (hb hby o_d16_1)
 refine o_go st58 ?_
 show o_Gs p e below _ T58 m 4 #[.val (.ref r0)] [(.ref t)]
 obtain ⟨cl59, Ar59, sa59, na59, ha59⟩ := id T_t
 refine o_go (X58.arraylength hx (by rw [e58]; exact Ar59.1) (State.isArrayOf_alike hZ.alike Ar59.2.1) (g := (mkF m 4 #[.val (.ref r0)] [(.ref t)])) rfl rfl (hb hby o_d16_4)) ?_
 rw [len_of sa59 na59]
 refine o_gi (XS.aloadN X58.here hx rfl (hb hby o_d16_5) rfl rfl) ?_
 show o_Gs p e below _ T58 m 6 #[.val (.ref r0)] [(.ref r0), (.int 512)]
 obtain ⟨_, T60, L60, X60, ⟨rfl, N60q, e60⟩, st60⟩ := o_callV X58 hx hZ hown (hw _ o_t77) (hw _ o_t78) (hw _ o_t80) (hw _ o_t79) (hw _ o_t7) (hw _ o_t81) (by decide) (b := r0) (as := []) (rm17_1 l Z a0 hw [] r0 z_cs h0 n0 O0 z_CS F_c S_z_cs) e58 E_r0 o_pd4 rfl (pc := 6) (Ls := #[.val (.ref r0)]) (rest := [(.int 512)]) (W := 1) (by rw [hml]; rfl) (Nat.le_of_eq rfl) (by decide) (by decide) (hb hby o_d16_6) (by decide) (by decide)
 have N60 := Fr.app N0 N60q
 refine o_go st60 ?_
 show o_Gs p e below _ T60 m 9 #[.val (.ref r0)] [(.int 1), (.int 512)]
 refine o_gi (XS.ishr X60.here hx rfl (hb hby o_d16_9) rfl) ?_
 show o_Gs p e below _ T60 m 10 #[.val (.ref r0)] [(.int ((512 : Int32) >>> ((1 : Int32) &&& 31)))]
 rw [show ((512 : Int32) >>> ((1 : Int32) &&& 31)) = (256 : Int32) from by decide]
 show o_Gs p e below _ T60 m 10 #[.val (.ref r0)] [(.int 256)]
 exact o_retI X60 hx hlk hret (hb hby o_d16_10) (by decide) (by decide) ⟨rfl, N60, e60⟩
theorem o_d18_0 : decode jdk_42_method_59_code 0 = .ok (.iload_n 1, 1) := by decide +kernel
theorem o_d18_1 : decode jdk_42_method_59_code 1 = .ok (.iload_n 2, 1) := by decide +kernel
theorem o_d18_2 : decode jdk_42_method_59_code 2 = .ok (.aload_n 0, 1) := by decide +kernel
theorem o_d18_3 : decode jdk_42_method_59_code 3 = .ok (.invokevirtual 505, 3) := by decide +kernel
theorem o_t87 : (Jvm.Cond.methodLink "java/lang/String" (505 : Nat) ({ cls := "java/lang/String", name := "length", desc := "()I" } : Jvm.MethodName)) ∈ tables_1 := List.mem_of_getElem? (i := 87) rfl
theorem o_pd5 : parseMethodDescriptor "()I" = some ⟨[], some .int⟩ := by decide +kernel
theorem o_t73 : (Jvm.Cond.declares ({ cls := "java/lang/String", name := "length", desc := "()I" } : Jvm.MethodName)) ∈ tables_1 := List.mem_of_getElem? (i := 73) rfl
theorem o_t75 : (Jvm.Cond.selects "java/lang/String" ({ cls := "java/lang/String", name := "length", desc := "()I" } : Jvm.MethodName) ({ cls := "java/lang/String", name := "length", desc := "()I" } : Jvm.MethodName)) ∈ tables_1 := List.mem_of_getElem? (i := 75) rfl
theorem o_t74 : (Jvm.Cond.instanceMethod ({ cls := "java/lang/String", name := "length", desc := "()I" } : Jvm.MethodName)) ∈ tables_1 := List.mem_of_getElem? (i := 74) rfl
theorem o_t76 : (Jvm.Cond.code ({ cls := "java/lang/String", name := "length", desc := "()I" } : Jvm.MethodName) jdk_42_method_54_code (1 : Nat) (Option.some Jvm.ClassFile.FieldType.int)) ∈ tables_1 := List.mem_of_getElem? (i := 76) rfl
theorem o_d18_6 : decode jdk_42_method_59_code 6 = .ok (.invokestatic 511, 3) := by decide +kernel
theorem o_t88 : (Jvm.Cond.methodLink "java/lang/String" (511 : Nat) ({ cls := "java/util/Objects", name := "checkFromToIndex", desc := "(III)I" } : Jvm.MethodName)) ∈ tables_1 := List.mem_of_getElem? (i := 88) rfl
theorem o_pd6 : parseMethodDescriptor "(III)I" = some ⟨[.int, .int, .int], some .int⟩ := by decide +kernel
theorem o_t89 : (Jvm.Cond.static ({ cls := "java/util/Objects", name := "checkFromToIndex", desc := "(III)I" } : Jvm.MethodName)) ∈ tables_1 := List.mem_of_getElem? (i := 89) rfl
theorem o_t90 : (Jvm.Cond.initialized "java/util/Objects") ∈ tables_1 := List.mem_of_getElem? (i := 90) rfl
theorem o_t91 : (Jvm.Cond.code ({ cls := "java/util/Objects", name := "checkFromToIndex", desc := "(III)I" } : Jvm.MethodName) jdk_31_method_18_code (3 : Nat) (Option.some Jvm.ClassFile.FieldType.int)) ∈ tables_1 := List.mem_of_getElem? (i := 91) rfl
theorem o_d18_9 : decode jdk_42_method_59_code 9 = .ok (.pop, 1) := by decide +kernel
theorem o_d18_10 : decode jdk_42_method_59_code 10 = .ok (.aload_n 0, 1) := by decide +kernel
theorem o_d18_11 : decode jdk_42_method_59_code 11 = .ok (.invokevirtual 492, 3) := by decide +kernel
theorem o_t96 : (Jvm.Cond.methodLink "java/lang/String" (492 : Nat) ({ cls := "java/lang/String", name := "isLatin1", desc := "()Z" } : Jvm.MethodName)) ∈ tables_1 := List.mem_of_getElem? (i := 96) rfl
theorem o_pd7 : parseMethodDescriptor "()Z" = some ⟨[], some .boolean⟩ := by decide +kernel
theorem o_t97 : (Jvm.Cond.declares ({ cls := "java/lang/String", name := "isLatin1", desc := "()Z" } : Jvm.MethodName)) ∈ tables_1 := List.mem_of_getElem? (i := 97) rfl
theorem o_t99 : (Jvm.Cond.selects "java/lang/String" ({ cls := "java/lang/String", name := "isLatin1", desc := "()Z" } : Jvm.MethodName) ({ cls := "java/lang/String", name := "isLatin1", desc := "()Z" } : Jvm.MethodName)) ∈ tables_1 := List.mem_of_getElem? (i := 99) rfl
theorem o_t98 : (Jvm.Cond.instanceMethod ({ cls := "java/lang/String", name := "isLatin1", desc := "()Z" } : Jvm.MethodName)) ∈ tables_1 := List.mem_of_getElem? (i := 98) rfl
theorem o_t100 : (Jvm.Cond.code ({ cls := "java/lang/String", name := "isLatin1", desc := "()Z" } : Jvm.MethodName) jdk_42_method_154_code (1 : Nat) (Option.some Jvm.ClassFile.FieldType.boolean)) ∈ tables_1 := List.mem_of_getElem? (i := 100) rfl
theorem o_d18_14 : decode jdk_42_method_59_code 14 = .ok (.ifCond .eq 7, 3) := by decide +kernel
theorem o_d18_17 : decode jdk_42_method_59_code 17 = .ok (.iload_n 2, 1) := by decide +kernel
theorem o_d18_18 : decode jdk_42_method_59_code 18 = .ok (.iload_n 1, 1) := by decide +kernel
theorem o_d18_19 : decode jdk_42_method_59_code 19 = .ok (.isub, 1) := by decide +kernel
theorem o_d18_20 : decode jdk_42_method_59_code 20 = .ok (.ireturn, 1) := by decide +kernel
def o_f18_0 (x2 : Int32) : Int32 := (x2 - (0 : Int32))
def o_Q18_0 (r0 : Addr) (x2 : Int32) (t : Addr) (q_n : Int32) (q_F : Int32 → Int32) (z_cs : Int32) (h0 : Heap) (n0 : Nat) (v : Option Value) (h : Heap) (L : List Loc) : Prop := v = some (.int (o_f18_0 x2)) ∧ Fr n0 L ∧ h = h0
abbrev o_R18_0 : Room := { frames := 2, cells := 0, slots := 0, locals := 29 }
theorem o_ef18_0 (m : MethodId) (z0 : Addr) (z2 : Int32) : entryFrame m #[(.ref z0), (.int 0), (.int z2)] 3 = mkF m 0 #[.val (.ref z0), .val (.int 0), .val (.int z2)] [] := by first | (simp [entryFrame, mkF, argsToLocals, Value.category]; done) | rfl
set_option maxRecDepth 65536 in
set_option maxHeartbeats 40000000 in
theorem rm18_0 (l : Launch) (Z : State) (a0 : Array Value) (hw : ∀ d ∈ tables_1, d.before a0 Z = true) (ws : List Jvm.Cond) (r0 : Addr) (x2 : Int32) (t : Addr) (q_n : Int32) (q_F : Int32 → Int32) (z_cs : Int32) (h0 : Heap) (n0 : Nat) (O0 : Old Z n0 h0) (z_CS : ¬ z_cs = 0) (E_r0 : Exa Z h0 r0 "java/lang/String") (F_v : Fld Z h0 r0 "java/lang/String" "value" "[B" (.ref t)) (F_c : Fld Z h0 r0 "java/lang/String" "coder" "B" (.int 0)) (T_t : o_Tb Z h0 t .byte q_n q_F) (h2 : ¬ (x2 < (0 : Int32))) (h3 : ¬ ((o_f16_0 q_n) < x2)) (S_z_cs : Sta Z Z.heap "java/lang/String" "COMPACT_STRINGS" "Z" (.int z_cs)) : o_Met l Z (⟨"java/lang/String", "codePointCount", "(II)I"⟩ : MethodName) jdk_42_method_59_code 3 (some .int) ws o_R18_0 #[(.ref r0), (.int 0), (.int x2)] h0 (o_Q18_0 r0 x2 t q_n q_F z_cs h0 n0) := by
 refine o_met (plainFor_of_name o_pn4) ?_
 intro p e s m below meth c s₁ hx hby hml hown hnm hret hlk hZ e0 X0
 have N0 := Fr.nil n0
 have hml : c.maxLocals = 3 := hml
 have hown : s.vm.findClass "java/lang/String" = some m.cls := hown
 have hret : meth.sig.returnType = (some .int) := hret
 have hby : c.code = jdk_42_method_59_code := hby
 have hnm : meth.name = "codePointCount" := hnm
 rw [o_ef18_0]
 refine o_gi (XS.iloadN X0.here hx rfl (hb hby o_d18_0) rfl) ?_
 refine o_gi (XS.iloadN X0.here hx rfl (hb hby o_d18_1) rfl) ?_
 refine o_gi (XS.aloadN X0.here hx rfl (hb hby o_d18_2) rfl rfl) ?_
 show o_Gs p e below _ s₁ m 3 #[.val (.ref r0), .val (.int 0), .val (.int x2)] [(.ref r0), (.int x2), (.int 0)]
 obtain ⟨_, T61, L61, X61, ⟨rfl, N61q, e61⟩, st61⟩ := o_callV X0 hx hZ hown (hw _ o_t87) (hw _ o_t73) (hw _ o_t75) (hw _ o_t74) (hw _ o_t7) (hw _ o_t76) (by decide) (b := r0) (as := []) (rm16_0 l Z a0 hw [] r0 t q_n q_F z_cs h0 n0 O0 z_CS E_r0 F_v F_c T_t S_z_cs) e0 E_r0 o_pd5 rfl (pc := 3) (Ls := #[.val (.ref r0), .val (.int 0), .val (.int x2)]) (rest := [(.int x2), (.int 0)]) (W := 2) (by rw [hml]; rfl) (Nat.le_of_eq rfl) (by decide) (by decide) (hb hby o_d18_3) (by decide) (by decide)
 have N61 := Fr.app N0 N61q
 refine o_go st61 ?_
 show o_Gs p e below _ T61 m 6 #[.val (.ref r0), .val (.int 0), .val (.int x2)] [(.int (o_f16_0 q_n)), (.int x2), (.int 0)]
 obtain ⟨_, T62, L62, X62, ⟨rfl, N62q, e62⟩, st62⟩ := o_callS X61 hx hZ hown (hw _ o_t88) (hw _ o_t89) (hw _ o_t90) (hw _ o_t91) (by decide) (as := [(.int 0), (.int x2), (.int (o_f16_0 q_n))]) (rm19 l Z a0 hw [] (0 : Int32) x2 (o_f16_0 q_n) h0 n0 (by decide) h2 h3) e61 o_pd6 rfl (pc := 6) (Ls := #[.val (.ref r0), .val (.int 0), .val (.int x2)]) (rest := []) (W := 0) (by rw [hml]; rfl) (Nat.le_of_eq rfl) (by decide) (by decide) (hb hby o_d18_6) (by decide) (by decide)
 have N62 := Fr.app N61 N62q
 refine o_go st62 ?_
 refine o_gi (XS.pop X62.here hx rfl (hb hby o_d18_9) rfl rfl) ?_
 refine o_gi (XS.aloadN X62.here hx rfl (hb hby o_d18_10) rfl rfl) ?_
 show o_Gs p e below _ T62 m 11 #[.val (.ref r0), .val (.int 0), .val (.int x2)] [(.ref r0)]
 obtain ⟨_, T63, L63, X63, ⟨rfl, N63q, e63⟩, st63⟩ := o_callV X62 hx hZ hown (hw _ o_t96) (hw _ o_t97) (hw _ o_t99) (hw _ o_t98) (hw _ o_t7) (hw _ o_t100) (by decide) (b := r0) (as := []) (rm21_0 l Z a0 hw [] r0 z_cs h0 n0 O0 z_CS F_c S_z_cs) e62 E_r0 o_pd7 rfl (pc := 11) (Ls := #[.val (.ref r0), .val (.int 0), .val (.int x2)]) (rest := []) (W := 0) (by rw [hml]; rfl) (Nat.le_of_eq rfl) (by decide) (by decide) (hb hby o_d18_11) (by decide) (by decide)
 have N63 := Fr.app N62 N63q
 refine o_go st63 ?_
 show o_Gs p e below _ T63 m 14 #[.val (.ref r0), .val (.int 0), .val (.int x2)] [(.int 1)]
 have hd64 : ¬ ((1 : Int32) = (0 : Int32)) := (by decide)
 refine o_gi (XS.ifNo X63.here hx rfl (hb hby o_d18_14) rfl ((if0 _ _).trans (feq hd64).1)) ?_
 refine o_gi (XS.iloadN X63.here hx rfl (hb hby o_d18_17) rfl) ?_
 refine o_gi (XS.iloadN X63.here hx rfl (hb hby o_d18_18) rfl) ?_
 show o_Gs p e below _ T63 m 19 #[.val (.ref r0), .val (.int 0), .val (.int x2)] [(.int 0), (.int x2)]
 refine o_gi (XS.isub X63.here hx rfl (hb hby o_d18_19) rfl) ?_
 show o_Gs p e below _ T63 m 20 #[.val (.ref r0), .val (.int 0), .val (.int x2)] [(.int (x2 - (0 : Int32)))]
 exact o_retI X63 hx hlk hret (hb hby o_d18_20) (by decide) (by decide) ⟨by rw [o_f18_0], N63, e63⟩
theorem o_d18_21 : decode jdk_42_method_59_code 21 = .ok (.aload_n 0, 1) := by decide +kernel
theorem o_d18_22 : decode jdk_42_method_59_code 22 = .ok (.getfield 9, 3) := by decide +kernel
theorem o_d18_25 : decode jdk_42_method_59_code 25 = .ok (.iload_n 1, 1) := by decide +kernel
theorem o_d18_26 : decode jdk_42_method_59_code 26 = .ok (.iload_n 2, 1) := by decide +kernel
theorem o_d18_27 : decode jdk_42_method_59_code 27 = .ok (.invokestatic 514, 3) := by decide +kernel
theorem o_t102 : (Jvm.Cond.methodLink "java/lang/String" (514 : Nat) ({ cls := "java/lang/StringUTF16", name := "codePointCount", desc := "([BII)I" } : Jvm.MethodName)) ∈ tables_1 := List.mem_of_getElem? (i := 102) rfl
theorem o_pd8 : parseMethodDescriptor "([BII)I" = some ⟨[(.array .byte), .int, .int], some .int⟩ := by decide +kernel
theorem o_t103 : (Jvm.Cond.static ({ cls := "java/lang/StringUTF16", name := "codePointCount", desc := "([BII)I" } : Jvm.MethodName)) ∈ tables_1 := List.mem_of_getElem? (i := 103) rfl
theorem o_t104 : (Jvm.Cond.code ({ cls := "java/lang/StringUTF16", name := "codePointCount", desc := "([BII)I" } : Jvm.MethodName) jdk_52_method_12_code (3 : Nat) (Option.some Jvm.ClassFile.FieldType.int)) ∈ tables_1 := List.mem_of_getElem? (i := 104) rfl
theorem o_d18_30 : decode jdk_42_method_59_code 30 = .ok (.ireturn, 1) := by decide +kernel
def o_f18_130 (q_F : Int32 → Int32) : Int32 := (o_f22 (65 : Int32) q_F)
def o_Q18_130 (r0 : Addr) (t : Addr) (q_F : Int32 → Int32) (z_cs : Int32) (h0 : Heap) (n0 : Nat) (v : Option Value) (h : Heap) (L : List Loc) : Prop := v = some (.int (o_f18_130 q_F)) ∧ Fr n0 L ∧ h = h0
abbrev o_R18_130 : Room := { frames := 4, cells := 0, slots := 0, locals := 71 }
theorem o_ef18_130 (m : MethodId) (z0 : Addr) : entryFrame m #[(.ref z0), (.int 0), (.int 65)] 3 = mkF m 0 #[.val (.ref z0), .val (.int 0), .val (.int 65)] [] := by first | (simp [entryFrame, mkF, argsToLocals, Value.category]; done) | rfl
set_option maxRecDepth 65536 in
set_option maxHeartbeats 40000000 in
theorem rm18_130 (l : Launch) (Z : State) (a0 : Array Value) (hw : ∀ d ∈ tables_1, d.before a0 Z = true) (ws : List Jvm.Cond) (r0 : Addr) (t : Addr) (q_F : Int32 → Int32) (z_cs : Int32) (h0 : Heap) (n0 : Nat) (Z0 : n0 ≤ h0.size) (O0 : Old Z n0 h0) (z_CS : ¬ z_cs = 0) (E_r0 : Exa Z h0 r0 "java/lang/String") (F_v : Fld Z h0 r0 "java/lang/String" "value" "[B" (.ref t)) (F_c : Fld Z h0 r0 "java/lang/String" "coder" "B" (.int 1)) (T_t : o_Tb Z h0 t .byte (130 : Int32) q_F) (S_z_cs : Sta Z Z.heap "java/lang/String" "COMPACT_STRINGS" "Z" (.int z_cs)) (S_ad : Sta Z Z.heap "java/lang/StringUTF16" "$assertionsDisabled" "Z" (.int 1)) (S_hi : Sta Z Z.heap "java/lang/StringUTF16" "HI_BYTE_SHIFT" "I" (.int 0)) (S_lo : Sta Z Z.heap "java/lang/StringUTF16" "LO_BYTE_SHIFT" "I" (.int 8)) : o_Met l Z (⟨"java/lang/String", "codePointCount", "(II)I"⟩ : MethodName) jdk_42_method_59_code 3 (some .int) ws o_R18_130 #[(.ref r0), (.int 0), (.int 65)] h0 (o_Q18_130 r0 t q_F z_cs h0 n0) := by
 refine o_met (plainFor_of_name o_pn4) ?_
 intro p e s m below meth c s₁ hx hby hml hown hnm hret hlk hZ e0 X0
 have N0 := Fr.nil n0
 have hml : c.maxLocals = 3 := hml
 have hown : s.vm.findClass "java/lang/String" = some m.cls := hown
 have hret : meth.sig.returnType = (some .int) := hret
 have hby : c.code = jdk_42_method_59_code := hby
 have hnm : meth.name = "codePointCount" := hnm
 rw [o_ef18_130]
 refine o_gi (XS.iloadN X0.here hx rfl (hb hby o_d18_0) rfl) ?_
 refine o_gi (XS.iloadN X0.here hx rfl (hb hby o_d18_1) rfl) ?_
 refine o_gi (XS.aloadN X0.here hx rfl (hb hby o_d18_2) rfl rfl) ?_
 show o_Gs p e below _ s₁ m 3 #[.val (.ref r0), .val (.int 0), .val (.int 65)] [(.ref r0), (.int 65), (.int 0)]
 obtain ⟨_, T65, L65, X65, ⟨rfl, N65q, e65⟩, st65⟩ := o_callV X0 hx hZ hown (hw _ o_t87) (hw _ o_t73) (hw _ o_t75) (hw _ o_t74) (hw _ o_t7) (hw _ o_t76) (by decide) (b := r0) (as := []) (rm16_130 l Z a0 hw [] r0 t q_F z_cs h0 n0 O0 z_CS E_r0 F_v F_c T_t S_z_cs) e0 E_r0 o_pd5 rfl (pc := 3) (Ls := #[.val (.ref r0), .val (.int 0), .val (.int 65)]) (rest := [(.int 65), (.int 0)]) (W := 2) (by rw [hml]; rfl) (Nat.le_of_eq rfl) (by decide) (by decide) (hb hby o_d18_3) (by decide) (by decide)
 have N65 := Fr.app N0 N65q
 refine o_go st65 ?_
 show o_Gs p e below _ T65 m 6 #[.val (.ref r0), .val (.int 0), .val (.int 65)] [(.int 65), (.int 65), (.int 0)]
 obtain ⟨_, T66, L66, X66, ⟨rfl, N66q, e66⟩, st66⟩ := o_callS X65 hx hZ hown (hw _ o_t88) (hw _ o_t89) (hw _ o_t90) (hw _ o_t91) (by decide) (as := [(.int 0), (.int 65), (.int 65)]) (rm19 l Z a0 hw [] (0 : Int32) (65 : Int32) (65 : Int32) h0 n0 (by decide) (by decide) (by decide)) e65 o_pd6 rfl (pc := 6) (Ls := #[.val (.ref r0), .val (.int 0), .val (.int 65)]) (rest := []) (W := 0) (by rw [hml]; rfl) (Nat.le_of_eq rfl) (by decide) (by decide) (hb hby o_d18_6) (by decide) (by decide)
 have N66 := Fr.app N65 N66q
 refine o_go st66 ?_
 refine o_gi (XS.pop X66.here hx rfl (hb hby o_d18_9) rfl rfl) ?_
 refine o_gi (XS.aloadN X66.here hx rfl (hb hby o_d18_10) rfl rfl) ?_
 show o_Gs p e below _ T66 m 11 #[.val (.ref r0), .val (.int 0), .val (.int 65)] [(.ref r0)]
 obtain ⟨_, T67, L67, X67, ⟨rfl, N67q, e67⟩, st67⟩ := o_callV X66 hx hZ hown (hw _ o_t96) (hw _ o_t97) (hw _ o_t99) (hw _ o_t98) (hw _ o_t7) (hw _ o_t100) (by decide) (b := r0) (as := []) (rm21_1 l Z a0 hw [] r0 z_cs h0 n0 O0 z_CS F_c S_z_cs) e66 E_r0 o_pd7 rfl (pc := 11) (Ls := #[.val (.ref r0), .val (.int 0), .val (.int 65)]) (rest := []) (W := 0) (by rw [hml]; rfl) (Nat.le_of_eq rfl) (by decide) (by decide) (hb hby o_d18_11) (by decide) (by decide)
 have N67 := Fr.app N66 N67q
 refine o_go st67 ?_
 show o_Gs p e below _ T67 m 14 #[.val (.ref r0), .val (.int 0), .val (.int 65)] [(.int 0)]
 have hd68 : (0 : Int32) = (0 : Int32) := (by decide)
 refine o_gi (XS.ifYes X67.here hx rfl (pc0 := 14) (pc' := 21) rfl (hb hby o_d18_14) rfl ((if0 _ _).trans (teq hd68).1) (by decide) (by decide)) ?_
 refine o_gi (XS.aloadN X67.here hx rfl (hb hby o_d18_21) rfl rfl) ?_
 show o_Gs p e below _ T67 m 22 #[.val (.ref r0), .val (.int 0), .val (.int 65)] [(.ref r0)]
 obtain ⟨T69, X69, e69, st69⟩ := getF X67 hx hZ hown (host := "") (Or.inl (hw _ o_t32)) Via.refl e67 F_v (g := (mkF m 22 #[.val (.ref r0), .val (.int 0), .val (.int 65)] [(.ref r0)])) rfl rfl (hb hby o_d18_22)
 refine o_go st69 ?_
 refine o_gi (XS.iloadN X69.here hx rfl (hb hby o_d18_25) rfl) ?_
 refine o_gi (XS.iloadN X69.here hx rfl (hb hby o_d18_26) rfl) ?_
 show o_Gs p e below _ T69 m 27 #[.val (.ref r0), .val (.int 0), .val (.int 65)] [(.int 65), (.int 0), (.ref t)]
 obtain ⟨_, T70, L70, X70, ⟨rfl, N70q, e70⟩, st70⟩ := o_callS X69 hx hZ hown (hw _ o_t102) (hw _ o_t103) (hw _ o_t21) (hw _ o_t104) (by decide) (as := [(.ref t), (.int 0), (.int 65)]) (rm22 l Z a0 hw [] t (65 : Int32) (130 : Int32) q_F h0 n0 Z0 O0 T_t (by decide) S_ad S_hi S_lo) e69 o_pd8 rfl (pc := 27) (Ls := #[.val (.ref r0), .val (.int 0), .val (.int 65)]) (rest := []) (W := 0) (by rw [hml]; rfl) (Nat.le_of_eq rfl) (by decide) (by decide) (hb hby o_d18_27) (by decide) (by decide)
 have N70 := Fr.app N67 N70q
 refine o_go st70 ?_
 show o_Gs p e below _ T70 m 30 #[.val (.ref r0), .val (.int 0), .val (.int 65)] [(.int (o_f22 (65 : Int32) q_F))]
 exact o_retI X70 hx hlk hret (hb hby o_d18_30) (by decide) (by decide) ⟨by rw [o_f18_130], N70, e70⟩
def o_f18_512 (q_F : Int32 → Int32) : Int32 := (o_f22 (256 : Int32) q_F)
def o_Q18_512 (r0 : Addr) (t : Addr) (q_F : Int32 → Int32) (z_cs : Int32) (h0 : Heap) (n0 : Nat) (v : Option Value) (h : Heap) (L : List Loc) : Prop := v = some (.int (o_f18_512 q_F)) ∧ Fr n0 L ∧ h = h0
abbrev o_R18_512 : Room := { frames := 4, cells := 0, slots := 0, locals := 71 }
theorem o_ef18_512 (m : MethodId) (z0 : Addr) : entryFrame m #[(.ref z0), (.int 0), (.int 256)] 3 = mkF m 0 #[.val (.ref z0), .val (.int 0), .val (.int 256)] [] := by first | (simp [entryFrame, mkF, argsToLocals, Value.category]; done) | rfl
set_option maxRecDepth 65536 in
set_option maxHeartbeats 40000000 in
theorem rm18_512 (l : Launch) (Z : State) (a0 : Array Value) (hw : ∀ d ∈ tables_1, d.before a0 Z = true) (ws : List Jvm.Cond) (r0 : Addr) (t : Addr) (q_F : Int32 → Int32) (z_cs : Int32) (h0 : Heap) (n0 : Nat) (Z0 : n0 ≤ h0.size) (O0 : Old Z n0 h0) (z_CS : ¬ z_cs = 0) (E_r0 : Exa Z h0 r0 "java/lang/String") (F_v : Fld Z h0 r0 "java/lang/String" "value" "[B" (.ref t)) (F_c : Fld Z h0 r0 "java/lang/String" "coder" "B" (.int 1)) (T_t : o_Tb Z h0 t .byte (512 : Int32) q_F) (S_z_cs : Sta Z Z.heap "java/lang/String" "COMPACT_STRINGS" "Z" (.int z_cs)) (S_ad : Sta Z Z.heap "java/lang/StringUTF16" "$assertionsDisabled" "Z" (.int 1)) (S_hi : Sta Z Z.heap "java/lang/StringUTF16" "HI_BYTE_SHIFT" "I" (.int 0)) (S_lo : Sta Z Z.heap "java/lang/StringUTF16" "LO_BYTE_SHIFT" "I" (.int 8)) : o_Met l Z (⟨"java/lang/String", "codePointCount", "(II)I"⟩ : MethodName) jdk_42_method_59_code 3 (some .int) ws o_R18_512 #[(.ref r0), (.int 0), (.int 256)] h0 (o_Q18_512 r0 t q_F z_cs h0 n0) := by
 refine o_met (plainFor_of_name o_pn4) ?_
 intro p e s m below meth c s₁ hx hby hml hown hnm hret hlk hZ e0 X0
 have N0 := Fr.nil n0
 have hml : c.maxLocals = 3 := hml
 have hown : s.vm.findClass "java/lang/String" = some m.cls := hown
 have hret : meth.sig.returnType = (some .int) := hret
 have hby : c.code = jdk_42_method_59_code := hby
 have hnm : meth.name = "codePointCount" := hnm
 rw [o_ef18_512]
 refine o_gi (XS.iloadN X0.here hx rfl (hb hby o_d18_0) rfl) ?_
 refine o_gi (XS.iloadN X0.here hx rfl (hb hby o_d18_1) rfl) ?_
 refine o_gi (XS.aloadN X0.here hx rfl (hb hby o_d18_2) rfl rfl) ?_
 show o_Gs p e below _ s₁ m 3 #[.val (.ref r0), .val (.int 0), .val (.int 256)] [(.ref r0), (.int 256), (.int 0)]
 obtain ⟨_, T71, L71, X71, ⟨rfl, N71q, e71⟩, st71⟩ := o_callV X0 hx hZ hown (hw _ o_t87) (hw _ o_t73) (hw _ o_t75) (hw _ o_t74) (hw _ o_t7) (hw _ o_t76) (by decide) (b := r0) (as := []) (rm16_512 l Z a0 hw [] r0 t q_F z_cs h0 n0 O0 z_CS E_r0 F_v F_c T_t S_z_cs) e0 E_r0 o_pd5 rfl (pc := 3) (Ls := #[.val (.ref r0), .val (.int 0), .val (.int 256)]) (rest := [(.int 256), (.int 0)]) (W := 2) (by rw [hml]; rfl) (Nat.le_of_eq rfl) (by decide) (by decide) (hb hby o_d18_3) (by decide) (by decide)
 have N71 := Fr.app N0 N71q
 refine o_go st71 ?_
 show o_Gs p e below _ T71 m 6 #[.val (.ref r0), .val (.int 0), .val (.int 256)] [(.int 256), (.int 256), (.int 0)]
 obtain ⟨_, T72, L72, X72, ⟨rfl, N72q, e72⟩, st72⟩ := o_callS X71 hx hZ hown (hw _ o_t88) (hw _ o_t89) (hw _ o_t90) (hw _ o_t91) (by decide) (as := [(.int 0), (.int 256), (.int 256)]) (rm19 l Z a0 hw [] (0 : Int32) (256 : Int32) (256 : Int32) h0 n0 (by decide) (by decide) (by decide)) e71 o_pd6 rfl (pc := 6) (Ls := #[.val (.ref r0), .val (.int 0), .val (.int 256)]) (rest := []) (W := 0) (by rw [hml]; rfl) (Nat.le_of_eq rfl) (by decide) (by decide) (hb hby o_d18_6) (by decide) (by decide)
 have N72 := Fr.app N71 N72q
 refine o_go st72 ?_
 refine o_gi (XS.pop X72.here hx rfl (hb hby o_d18_9) rfl rfl) ?_
 refine o_gi (XS.aloadN X72.here hx rfl (hb hby o_d18_10) rfl rfl) ?_
 show o_Gs p e below _ T72 m 11 #[.val (.ref r0), .val (.int 0), .val (.int 256)] [(.ref r0)]
 obtain ⟨_, T73, L73, X73, ⟨rfl, N73q, e73⟩, st73⟩ := o_callV X72 hx hZ hown (hw _ o_t96) (hw _ o_t97) (hw _ o_t99) (hw _ o_t98) (hw _ o_t7) (hw _ o_t100) (by decide) (b := r0) (as := []) (rm21_1 l Z a0 hw [] r0 z_cs h0 n0 O0 z_CS F_c S_z_cs) e72 E_r0 o_pd7 rfl (pc := 11) (Ls := #[.val (.ref r0), .val (.int 0), .val (.int 256)]) (rest := []) (W := 0) (by rw [hml]; rfl) (Nat.le_of_eq rfl) (by decide) (by decide) (hb hby o_d18_11) (by decide) (by decide)
 have N73 := Fr.app N72 N73q
 refine o_go st73 ?_
 show o_Gs p e below _ T73 m 14 #[.val (.ref r0), .val (.int 0), .val (.int 256)] [(.int 0)]
 have hd74 : (0 : Int32) = (0 : Int32) := (by decide)
 refine o_gi (XS.ifYes X73.here hx rfl (pc0 := 14) (pc' := 21) rfl (hb hby o_d18_14) rfl ((if0 _ _).trans (teq hd74).1) (by decide) (by decide)) ?_
 refine o_gi (XS.aloadN X73.here hx rfl (hb hby o_d18_21) rfl rfl) ?_
 show o_Gs p e below _ T73 m 22 #[.val (.ref r0), .val (.int 0), .val (.int 256)] [(.ref r0)]
 obtain ⟨T75, X75, e75, st75⟩ := getF X73 hx hZ hown (host := "") (Or.inl (hw _ o_t32)) Via.refl e73 F_v (g := (mkF m 22 #[.val (.ref r0), .val (.int 0), .val (.int 256)] [(.ref r0)])) rfl rfl (hb hby o_d18_22)
 refine o_go st75 ?_
 refine o_gi (XS.iloadN X75.here hx rfl (hb hby o_d18_25) rfl) ?_
 refine o_gi (XS.iloadN X75.here hx rfl (hb hby o_d18_26) rfl) ?_
 show o_Gs p e below _ T75 m 27 #[.val (.ref r0), .val (.int 0), .val (.int 256)] [(.int 256), (.int 0), (.ref t)]
 obtain ⟨_, T76, L76, X76, ⟨rfl, N76q, e76⟩, st76⟩ := o_callS X75 hx hZ hown (hw _ o_t102) (hw _ o_t103) (hw _ o_t21) (hw _ o_t104) (by decide) (as := [(.ref t), (.int 0), (.int 256)]) (rm22 l Z a0 hw [] t (256 : Int32) (512 : Int32) q_F h0 n0 Z0 O0 T_t (by decide) S_ad S_hi S_lo) e75 o_pd8 rfl (pc := 27) (Ls := #[.val (.ref r0), .val (.int 0), .val (.int 256)]) (rest := []) (W := 0) (by rw [hml]; rfl) (Nat.le_of_eq rfl) (by decide) (by decide) (hb hby o_d18_27) (by decide) (by decide)
 have N76 := Fr.app N73 N76q
 refine o_go st76 ?_
 show o_Gs p e below _ T76 m 30 #[.val (.ref r0), .val (.int 0), .val (.int 256)] [(.int (o_f22 (256 : Int32) q_F))]
 exact o_retI X76 hx hlk hret (hb hby o_d18_30) (by decide) (by decide) ⟨by rw [o_f18_512], N76, e76⟩
theorem o_f16e (n : Int32) : o_f16_0 n = n := by
 rw [← Int32.toInt_inj]
 have e := c_ishr n 0 0 (by decide)
 show (n >>> ((0 : Int32) &&& 31)).toInt = _
 omega
theorem o_ge0 {n : Int32} (h : ¬ n < 0) : ¬ ((o_f16_0 n) < (0 : Int32)) := by rw [o_f16e]; exact h
theorem o_le0 {n x : Int32} (h : ¬ x < n) : ¬ (x < (o_f18_0 (o_f16_0 n))) := by
 rw [o_f16e]
 show ¬ (x < (n - (0 : Int32)))
 rw [Int32.sub_zero]
 exact h
theorem o_d14_0 : decode prog_12_method_4_code 0 = .ok (.aload_n 1, 1) := by decide +kernel
theorem o_d14_1 : decode prog_12_method_4_code 1 = .ok (.ifnull 10, 3) := by decide +kernel
theorem o_d14_4 : decode prog_12_method_4_code 4 = .ok (.aload_n 1, 1) := by decide +kernel
theorem o_d14_5 : decode prog_12_method_4_code 5 = .ok (.invokevirtual 74, 3) := by decide +kernel
theorem o_t67 : (Jvm.Cond.methodLink "com/example/quittance/quittance/dialect/Claim" (74 : Nat) ({ cls := "java/lang/String", name := "isEmpty", desc := "()Z" } : Jvm.MethodName)) ∈ tables_1 := List.mem_of_getElem? (i := 67) rfl
theorem o_t68 : (Jvm.Cond.declares ({ cls := "java/lang/String", name := "isEmpty", desc := "()Z" } : Jvm.MethodName)) ∈ tables_1 := List.mem_of_getElem? (i := 68) rfl
theorem o_t70 : (Jvm.Cond.selects "java/lang/String" ({ cls := "java/lang/String", name := "isEmpty", desc := "()Z" } : Jvm.MethodName) ({ cls := "java/lang/String", name := "isEmpty", desc := "()Z" } : Jvm.MethodName)) ∈ tables_1 := List.mem_of_getElem? (i := 70) rfl
theorem o_t69 : (Jvm.Cond.instanceMethod ({ cls := "java/lang/String", name := "isEmpty", desc := "()Z" } : Jvm.MethodName)) ∈ tables_1 := List.mem_of_getElem? (i := 69) rfl
theorem o_t71 : (Jvm.Cond.code ({ cls := "java/lang/String", name := "isEmpty", desc := "()Z" } : Jvm.MethodName) jdk_42_method_55_code (1 : Nat) (Option.some Jvm.ClassFile.FieldType.boolean)) ∈ tables_1 := List.mem_of_getElem? (i := 71) rfl
theorem o_d14_8 : decode prog_12_method_4_code 8 = .ok (.ifCond .eq 17, 3) := by decide +kernel
theorem o_d14_25 : decode prog_12_method_4_code 25 = .ok (.aload_n 1, 1) := by decide +kernel
theorem o_d14_26 : decode prog_12_method_4_code 26 = .ok (.iconst 0, 1) := by decide +kernel
theorem o_d14_27 : decode prog_12_method_4_code 27 = .ok (.aload_n 1, 1) := by decide +kernel
theorem o_d14_28 : decode prog_12_method_4_code 28 = .ok (.invokevirtual 58, 3) := by decide +kernel
theorem o_t72 : (Jvm.Cond.methodLink "com/example/quittance/quittance/dialect/Claim" (58 : Nat) ({ cls := "java/lang/String", name := "length", desc := "()I" } : Jvm.MethodName)) ∈ tables_1 := List.mem_of_getElem? (i := 72) rfl
theorem o_d14_31 : decode prog_12_method_4_code 31 = .ok (.invokevirtual 82, 3) := by decide +kernel
theorem o_t82 : (Jvm.Cond.methodLink "com/example/quittance/quittance/dialect/Claim" (82 : Nat) ({ cls := "java/lang/String", name := "codePointCount", desc := "(II)I" } : Jvm.MethodName)) ∈ tables_1 := List.mem_of_getElem? (i := 82) rfl
theorem o_pd9 : parseMethodDescriptor "(II)I" = some ⟨[.int, .int], some .int⟩ := by decide +kernel
theorem o_t83 : (Jvm.Cond.declares ({ cls := "java/lang/String", name := "codePointCount", desc := "(II)I" } : Jvm.MethodName)) ∈ tables_1 := List.mem_of_getElem? (i := 83) rfl
theorem o_t85 : (Jvm.Cond.selects "java/lang/String" ({ cls := "java/lang/String", name := "codePointCount", desc := "(II)I" } : Jvm.MethodName) ({ cls := "java/lang/String", name := "codePointCount", desc := "(II)I" } : Jvm.MethodName)) ∈ tables_1 := List.mem_of_getElem? (i := 85) rfl
theorem o_t84 : (Jvm.Cond.instanceMethod ({ cls := "java/lang/String", name := "codePointCount", desc := "(II)I" } : Jvm.MethodName)) ∈ tables_1 := List.mem_of_getElem? (i := 84) rfl
theorem o_t86 : (Jvm.Cond.code ({ cls := "java/lang/String", name := "codePointCount", desc := "(II)I" } : Jvm.MethodName) jdk_42_method_59_code (3 : Nat) (Option.some Jvm.ClassFile.FieldType.int)) ∈ tables_1 := List.mem_of_getElem? (i := 86) rfl
theorem o_d14_34 : decode prog_12_method_4_code 34 = .ok (.iload_n 2, 1) := by decide +kernel
theorem o_d14_35 : decode prog_12_method_4_code 35 = .ok (.if_icmp .le 17, 3) := by decide +kernel
theorem o_pn5 : plainName "com/example/quittance/quittance/dialect/Claim" = true := by first | (simp [plainName, overriddenIn]; done) | decide +kernel
theorem o_d14_52 : decode prog_12_method_4_code 52 = .ok (.return_, 1) := by decide +kernel
def o_Q14_0 (r0 : Addr) (r1 : Addr) (x2 : Int32) (t : Addr) (q_n : Int32) (q_F : Int32 → Int32) (z_cs : Int32) (h0 : Heap) (n0 : Nat) (v : Option Value) (h : Heap) (L : List Loc) : Prop := v = none ∧ Fr n0 L ∧ h = h0
abbrev o_R14_0 : Room := { frames := 6, cells := 0, slots := 0, locals := 110 }
theorem o_ef14_0 (m : MethodId) (z0 : Addr) (z1 : Addr) (z2 : Int32) : entryFrame m #[(.ref z0), (.ref z1), (.int z2)] 3 = mkF m 0 #[.val (.ref z0), .val (.ref z1), .val (.int z2)] [] := by first | (simp [entryFrame, mkF, argsToLocals, Value.category]; done) | rfl
set_option maxRecDepth 65536 in
set_option maxHeartbeats 40000000 in
theorem rm14_0 (l : Launch) (Z : State) (a0 : Array Value) (hw : ∀ d ∈ tables_1, d.before a0 Z = true) (ws : List Jvm.Cond) (r0 : Addr) (r1 : Addr) (x2 : Int32) (t : Addr) (q_n : Int32) (q_F : Int32 → Int32) (z_cs : Int32) (h0 : Heap) (n0 : Nat) (Z0 : n0 ≤ h0.size) (O0 : Old Z n0 h0) (z_CS : ¬ z_cs = 0) (E_r1 : Exa Z h0 r1 "java/lang/String") (F_v : Fld Z h0 r1 "java/lang/String" "value" "[B" (.ref t)) (F_c : Fld Z h0 r1 "java/lang/String" "coder" "B" (.int 0)) (T_t : o_Tb Z h0 t .byte q_n q_F) (hN : ¬ q_n = (0 : Int32)) (hN1 : ¬ q_n < 0) (hN2 : ¬ x2 < q_n) (S_z_cs : Sta Z Z.heap "java/lang/String" "COMPACT_STRINGS" "Z" (.int z_cs)) (S_ad : Sta Z Z.heap "java/lang/StringUTF16" "$assertionsDisabled" "Z" (.int 1)) (S_hi : Sta Z Z.heap "java/lang/StringUTF16" "HI_BYTE_SHIFT" "I" (.int 0)) (S_lo : Sta Z Z.heap "java/lang/StringUTF16" "LO_BYTE_SHIFT" "I" (.int 8)) : o_Met l Z (⟨"com/example/quittance/quittance/dialect/Claim", "checkId", "(Ljava/lang/String;Ljava/lang/String;I)V"⟩ : MethodName) prog_12_method_4_code 3 none ws o_R14_0 #[(.ref r0), (.ref r1), (.int x2)] h0 (o_Q14_0 r0 r1 x2 t q_n q_F z_cs h0 n0) := by
 refine o_met (plainFor_of_name o_pn5) ?_
 intro p e s m below meth c s₁ hx hby hml hown hnm hret hlk hZ e0 X0
 have N0 := Fr.nil n0
 have hml : c.maxLocals = 3 := hml
 have hown : s.vm.findClass "com/example/quittance/quittance/dialect/Claim" = some m.cls := hown
 have hret : meth.sig.returnType = none := hret
 have hby : c.code = prog_12_method_4_code := hby
 have hnm : meth.name = "checkId" := hnm
 rw [o_ef14_0]
 refine o_gi (XS.aloadN X0.here hx rfl (hb hby o_d14_0) rfl rfl) ?_
 show o_Gs p e below _ s₁ m 1 #[.val (.ref r0), .val (.ref r1), .val (.int x2)] [(.ref r1)]
 refine o_gi (XS.ifnullNo X0.here hx rfl (hb hby o_d14_1) rfl) ?_
 refine o_gi (XS.aloadN X0.here hx rfl (hb hby o_d14_4) rfl rfl) ?_
 show o_Gs p e below _ s₁ m 5 #[.val (.ref r0), .val (.ref r1), .val (.int x2)] [(.ref r1)]
 obtain ⟨_, T77, L77, X77, ⟨rfl, N77q, e77⟩, st77⟩ := o_callV X0 hx hZ hown (hw _ o_t67) (hw _ o_t68) (hw _ o_t70) (hw _ o_t69) (hw _ o_t7) (hw _ o_t71) (by decide) (b := r1) (as := []) (rm15 l Z a0 hw [] r1 t q_n q_F h0 n0 F_v T_t hN) e0 E_r1 o_pd7 rfl (pc := 5) (Ls := #[.val (.ref r0), .val (.ref r1), .val (.int x2)]) (rest := []) (W := 0) (by rw [hml]; rfl) (Nat.le_of_eq rfl) (by decide) (by decide) (hb hby o_d14_5) (by decide) (by decide)
 have N77 := Fr.app N0 N77q
 refine o_go st77 ?_
 show o_Gs p e below _ T77 m 8 #[.val (.ref r0), .val (.ref r1), .val (.int x2)] [(.int 0)]
 have hd78 : (0 : Int32) = (0 : Int32) := (by decide)
 refine o_gi (XS.ifYes X77.here hx rfl (pc0 := 8) (pc' := 25) rfl (hb hby o_d14_8) rfl ((if0 _ _).trans (teq hd78).1) (by decide) (by decide)) ?_
 refine o_gi (XS.aloadN X77.here hx rfl (hb hby o_d14_25) rfl rfl) ?_
 refine o_gi (XS.iconst X77.here hx rfl (hb hby o_d14_26)) ?_
 refine o_gi (XS.aloadN X77.here hx rfl (hb hby o_d14_27) rfl rfl) ?_
 show o_Gs p e below _ T77 m 28 #[.val (.ref r0), .val (.ref r1), .val (.int x2)] [(.ref r1), (.int 0), (.ref r1)]
 obtain ⟨_, T79, L79, X79, ⟨rfl, N79q, e79⟩, st79⟩ := o_callV X77 hx hZ hown (hw _ o_t72) (hw _ o_t73) (hw _ o_t75) (hw _ o_t74) (hw _ o_t7) (hw _ o_t76) (by decide) (b := r1) (as := []) (rm16_0 l Z a0 hw [] r1 t q_n q_F z_cs h0 n0 O0 z_CS E_r1 F_v F_c T_t S_z_cs) e77 E_r1 o_pd5 rfl (pc := 28) (Ls := #[.val (.ref r0), .val (.ref r1), .val (.int x2)]) (rest := [(.int 0), (.ref r1)]) (W := 2) (by rw [hml]; rfl) (Nat.le_of_eq rfl) (by decide) (by decide) (hb hby o_d14_28) (by decide) (by decide)
 have N79 := Fr.app N77 N79q
 refine o_go st79 ?_
 show o_Gs p e below _ T79 m 31 #[.val (.ref r0), .val (.ref r1), .val (.int x2)] [(.int (o_f16_0 q_n)), (.int 0), (.ref r1)]
 obtain ⟨_, T80, L80, X80, ⟨rfl, N80q, e80⟩, st80⟩ := o_callV X79 hx hZ hown (hw _ o_t82) (hw _ o_t83) (hw _ o_t85) (hw _ o_t84) (hw _ o_t7) (hw _ o_t86) (by decide) (b := r1) (as := [(.int 0), (.int (o_f16_0 q_n))]) (rm18_0 l Z a0 hw [] r1 (o_f16_0 q_n) t q_n q_F z_cs h0 n0 O0 z_CS E_r1 F_v F_c T_t (o_ge0 hN1) Int32.lt_irrefl S_z_cs) e79 E_r1 o_pd9 rfl (pc := 31) (Ls := #[.val (.ref r0), .val (.ref r1), .val (.int x2)]) (rest := []) (W := 0) (by rw [hml]; rfl) (Nat.le_of_eq rfl) (by decide) (by decide) (hb hby o_d14_31) (by decide) (by decide)
 have N80 := Fr.app N79 N80q
 refine o_go st80 ?_
 refine o_gi (XS.iloadN X80.here hx rfl (hb hby o_d14_34) rfl) ?_
 show o_Gs p e below _ T80 m 35 #[.val (.ref r0), .val (.ref r1), .val (.int x2)] [(.int x2), (.int (o_f18_0 (o_f16_0 q_n)))]
 have hd81 : ¬ (x2 < (o_f18_0 (o_f16_0 q_n))) := (o_le0 hN2)
 refine o_gi (XS.icmpYes X80.here hx rfl (pc0 := 35) (pc' := 52) rfl (hb hby o_d14_35) rfl (flt hd81).2.2.2 (by decide) (by decide)) ?_
 show o_Gs p e below _ T80 m 52 #[.val (.ref r0), .val (.ref r1), .val (.int x2)] []
 exact o_ret0 X80 hx hlk hret (hb hby o_d14_52) (by decide) (by decide) ⟨rfl, N80, e80⟩
def o_Q14_64 (r0 : Addr) (r1 : Addr) (t : Addr) (q_F : Int32 → Int32) (z_cs : Int32) (h0 : Heap) (n0 : Nat) (v : Option Value) (h : Heap) (L : List Loc) : Prop := v = none ∧ Fr n0 L ∧ h = h0
abbrev o_R14_64 : Room := { frames := 6, cells := 0, slots := 0, locals := 110 }
theorem o_ef14_64 (m : MethodId) (z0 : Addr) (z1 : Addr) : entryFrame m #[(.ref z0), (.ref z1), (.int 64)] 3 = mkF m 0 #[.val (.ref z0), .val (.ref z1), .val (.int 64)] [] := by first | (simp [entryFrame, mkF, argsToLocals, Value.category]; done) | rfl
set_option maxRecDepth 65536 in
set_option maxHeartbeats 40000000 in
theorem rm14_64 (l : Launch) (Z : State) (a0 : Array Value) (hw : ∀ d ∈ tables_1, d.before a0 Z = true) (ws : List Jvm.Cond) (r0 : Addr) (r1 : Addr) (t : Addr) (q_F : Int32 → Int32) (z_cs : Int32) (h0 : Heap) (n0 : Nat) (Z0 : n0 ≤ h0.size) (O0 : Old Z n0 h0) (z_CS : ¬ z_cs = 0) (E_r1 : Exa Z h0 r1 "java/lang/String") (F_v : Fld Z h0 r1 "java/lang/String" "value" "[B" (.ref t)) (F_c : Fld Z h0 r1 "java/lang/String" "coder" "B" (.int 1)) (T_t : o_Tb Z h0 t .byte (130 : Int32) q_F) (hHL : o_HL q_F) (S_z_cs : Sta Z Z.heap "java/lang/String" "COMPACT_STRINGS" "Z" (.int z_cs)) (S_ad : Sta Z Z.heap "java/lang/StringUTF16" "$assertionsDisabled" "Z" (.int 1)) (S_hi : Sta Z Z.heap "java/lang/StringUTF16" "HI_BYTE_SHIFT" "I" (.int 0)) (S_lo : Sta Z Z.heap "java/lang/StringUTF16" "LO_BYTE_SHIFT" "I" (.int 8)) : o_Met l Z (⟨"com/example/quittance/quittance/dialect/Claim", "checkId", "(Ljava/lang/String;Ljava/lang/String;I)V"⟩ : MethodName) prog_12_method_4_code 3 none ws o_R14_64 #[(.ref r0), (.ref r1), (.int 64)] h0 (o_Q14_64 r0 r1 t q_F z_cs h0 n0) := by
 refine o_met (plainFor_of_name o_pn5) ?_
 intro p e s m below meth c s₁ hx hby hml hown hnm hret hlk hZ e0 X0
 have N0 := Fr.nil n0
 have hml : c.maxLocals = 3 := hml
 have hown : s.vm.findClass "com/example/quittance/quittance/dialect/Claim" = some m.cls := hown
 have hret : meth.sig.returnType = none := hret
 have hby : c.code = prog_12_method_4_code := hby
 have hnm : meth.name = "checkId" := hnm
 rw [o_ef14_64]
 refine o_gi (XS.aloadN X0.here hx rfl (hb hby o_d14_0) rfl rfl) ?_
 show o_Gs p e below _ s₁ m 1 #[.val (.ref r0), .val (.ref r1), .val (.int 64)] [(.ref r1)]
 refine o_gi (XS.ifnullNo X0.here hx rfl (hb hby o_d14_1) rfl) ?_
 refine o_gi (XS.aloadN X0.here hx rfl (hb hby o_d14_4) rfl rfl) ?_
 show o_Gs p e below _ s₁ m 5 #[.val (.ref r0), .val (.ref r1), .val (.int 64)] [(.ref r1)]
 obtain ⟨_, T82, L82, X82, ⟨rfl, N82q, e82⟩, st82⟩ := o_callV X0 hx hZ hown (hw _ o_t67) (hw _ o_t68) (hw _ o_t70) (hw _ o_t69) (hw _ o_t7) (hw _ o_t71) (by decide) (b := r1) (as := []) (rm15 l Z a0 hw [] r1 t (130 : Int32) q_F h0 n0 F_v T_t (by decide)) e0 E_r1 o_pd7 rfl (pc := 5) (Ls := #[.val (.ref r0), .val (.ref r1), .val (.int 64)]) (rest := []) (W := 0) (by rw [hml]; rfl) (Nat.le_of_eq rfl) (by decide) (by decide) (hb hby o_d14_5) (by decide) (by decide)
 have N82 := Fr.app N0 N82q
 refine o_go st82 ?_
 show o_Gs p e below _ T82 m 8 #[.val (.ref r0), .val (.ref r1), .val (.int 64)] [(.int 0)]
 have hd83 : (0 : Int32) = (0 : Int32) := (by decide)
 refine o_gi (XS.ifYes X82.here hx rfl (pc0 := 8) (pc' := 25) rfl (hb hby o_d14_8) rfl ((if0 _ _).trans (teq hd83).1) (by decide) (by decide)) ?_
 refine o_gi (XS.aloadN X82.here hx rfl (hb hby o_d14_25) rfl rfl) ?_
 refine o_gi (XS.iconst X82.here hx rfl (hb hby o_d14_26)) ?_
 refine o_gi (XS.aloadN X82.here hx rfl (hb hby o_d14_27) rfl rfl) ?_
 show o_Gs p e below _ T82 m 28 #[.val (.ref r0), .val (.ref r1), .val (.int 64)] [(.ref r1), (.int 0), (.ref r1)]
 obtain ⟨_, T84, L84, X84, ⟨rfl, N84q, e84⟩, st84⟩ := o_callV X82 hx hZ hown (hw _ o_t72) (hw _ o_t73) (hw _ o_t75) (hw _ o_t74) (hw _ o_t7) (hw _ o_t76) (by decide) (b := r1) (as := []) (rm16_130 l Z a0 hw [] r1 t q_F z_cs h0 n0 O0 z_CS E_r1 F_v F_c T_t S_z_cs) e82 E_r1 o_pd5 rfl (pc := 28) (Ls := #[.val (.ref r0), .val (.ref r1), .val (.int 64)]) (rest := [(.int 0), (.ref r1)]) (W := 2) (by rw [hml]; rfl) (Nat.le_of_eq rfl) (by decide) (by decide) (hb hby o_d14_28) (by decide) (by decide)
 have N84 := Fr.app N82 N84q
 refine o_go st84 ?_
 show o_Gs p e below _ T84 m 31 #[.val (.ref r0), .val (.ref r1), .val (.int 64)] [(.int 65), (.int 0), (.ref r1)]
 obtain ⟨_, T85, L85, X85, ⟨rfl, N85q, e85⟩, st85⟩ := o_callV X84 hx hZ hown (hw _ o_t82) (hw _ o_t83) (hw _ o_t85) (hw _ o_t84) (hw _ o_t7) (hw _ o_t86) (by decide) (b := r1) (as := [(.int 0), (.int 65)]) (rm18_130 l Z a0 hw [] r1 t q_F z_cs h0 n0 Z0 O0 z_CS E_r1 F_v F_c T_t S_z_cs S_ad S_hi S_lo) e84 E_r1 o_pd9 rfl (pc := 31) (Ls := #[.val (.ref r0), .val (.ref r1), .val (.int 64)]) (rest := []) (W := 0) (by rw [hml]; rfl) (Nat.le_of_eq rfl) (by decide) (by decide) (hb hby o_d14_31) (by decide) (by decide)
 have N85 := Fr.app N84 N85q
 refine o_go st85 ?_
 refine o_gi (XS.iloadN X85.here hx rfl (hb hby o_d14_34) rfl) ?_
 show o_Gs p e below _ T85 m 35 #[.val (.ref r0), .val (.ref r1), .val (.int 64)] [(.int 64), (.int (o_f18_130 q_F))]
 have hd86 : ¬ ((64 : Int32) < (o_f18_130 q_F)) := (o_le64 hHL)
 refine o_gi (XS.icmpYes X85.here hx rfl (pc0 := 35) (pc' := 52) rfl (hb hby o_d14_35) rfl (flt hd86).2.2.2 (by decide) (by decide)) ?_
 show o_Gs p e below _ T85 m 52 #[.val (.ref r0), .val (.ref r1), .val (.int 64)] []
 exact o_ret0 X85 hx hlk hret (hb hby o_d14_52) (by decide) (by decide) ⟨rfl, N85, e85⟩
def o_Q14_255 (r0 : Addr) (r1 : Addr) (t : Addr) (q_F : Int32 → Int32) (z_cs : Int32) (h0 : Heap) (n0 : Nat) (v : Option Value) (h : Heap) (L : List Loc) : Prop := v = none ∧ Fr n0 L ∧ h = h0
abbrev o_R14_255 : Room := { frames := 6, cells := 0, slots := 0, locals := 110 }
theorem o_ef14_255 (m : MethodId) (z0 : Addr) (z1 : Addr) : entryFrame m #[(.ref z0), (.ref z1), (.int 255)] 3 = mkF m 0 #[.val (.ref z0), .val (.ref z1), .val (.int 255)] [] := by first | (simp [entryFrame, mkF, argsToLocals, Value.category]; done) | rfl
set_option maxRecDepth 65536 in
set_option maxHeartbeats 40000000 in
theorem rm14_255 (l : Launch) (Z : State) (a0 : Array Value) (hw : ∀ d ∈ tables_1, d.before a0 Z = true) (ws : List Jvm.Cond) (r0 : Addr) (r1 : Addr) (t : Addr) (q_F : Int32 → Int32) (z_cs : Int32) (h0 : Heap) (n0 : Nat) (Z0 : n0 ≤ h0.size) (O0 : Old Z n0 h0) (z_CS : ¬ z_cs = 0) (E_r1 : Exa Z h0 r1 "java/lang/String") (F_v : Fld Z h0 r1 "java/lang/String" "value" "[B" (.ref t)) (F_c : Fld Z h0 r1 "java/lang/String" "coder" "B" (.int 1)) (T_t : o_Tb Z h0 t .byte (512 : Int32) q_F) (hHL : o_HL q_F) (S_z_cs : Sta Z Z.heap "java/lang/String" "COMPACT_STRINGS" "Z" (.int z_cs)) (S_ad : Sta Z Z.heap "java/lang/StringUTF16" "$assertionsDisabled" "Z" (.int 1)) (S_hi : Sta Z Z.heap "java/lang/StringUTF16" "HI_BYTE_SHIFT" "I" (.int 0)) (S_lo : Sta Z Z.heap "java/lang/StringUTF16" "LO_BYTE_SHIFT" "I" (.int 8)) : o_Met l Z (⟨"com/example/quittance/quittance/dialect/Claim", "checkId", "(Ljava/lang/String;Ljava/lang/String;I)V"⟩ : MethodName) prog_12_method_4_code 3 none ws o_R14_255 #[(.ref r0), (.ref r1), (.int 255)] h0 (o_Q14_255 r0 r1 t q_F z_cs h0 n0) := by
 refine o_met (plainFor_of_name o_pn5) ?_
 intro p e s m below meth c s₁ hx hby hml hown hnm hret hlk hZ e0 X0
 have N0 := Fr.nil n0
 have hml : c.maxLocals = 3 := hml
 have hown : s.vm.findClass "com/example/quittance/quittance/dialect/Claim" = some m.cls := hown
 have hret : meth.sig.returnType = none := hret
 have hby : c.code = prog_12_method_4_code := hby
 have hnm : meth.name = "checkId" := hnm
 rw [o_ef14_255]
 refine o_gi (XS.aloadN X0.here hx rfl (hb hby o_d14_0) rfl rfl) ?_
 show o_Gs p e below _ s₁ m 1 #[.val (.ref r0), .val (.ref r1), .val (.int 255)] [(.ref r1)]
 refine o_gi (XS.ifnullNo X0.here hx rfl (hb hby o_d14_1) rfl) ?_
 refine o_gi (XS.aloadN X0.here hx rfl (hb hby o_d14_4) rfl rfl) ?_
 show o_Gs p e below _ s₁ m 5 #[.val (.ref r0), .val (.ref r1), .val (.int 255)] [(.ref r1)]
 obtain ⟨_, T87, L87, X87, ⟨rfl, N87q, e87⟩, st87⟩ := o_callV X0 hx hZ hown (hw _ o_t67) (hw _ o_t68) (hw _ o_t70) (hw _ o_t69) (hw _ o_t7) (hw _ o_t71) (by decide) (b := r1) (as := []) (rm15 l Z a0 hw [] r1 t (512 : Int32) q_F h0 n0 F_v T_t (by decide)) e0 E_r1 o_pd7 rfl (pc := 5) (Ls := #[.val (.ref r0), .val (.ref r1), .val (.int 255)]) (rest := []) (W := 0) (by rw [hml]; rfl) (Nat.le_of_eq rfl) (by decide) (by decide) (hb hby o_d14_5) (by decide) (by decide)
 have N87 := Fr.app N0 N87q
 refine o_go st87 ?_
 show o_Gs p e below _ T87 m 8 #[.val (.ref r0), .val (.ref r1), .val (.int 255)] [(.int 0)]
 have hd88 : (0 : Int32) = (0 : Int32) := (by decide)
 refine o_gi (XS.ifYes X87.here hx rfl (pc0 := 8) (pc' := 25) rfl (hb hby o_d14_8) rfl ((if0 _ _).trans (teq hd88).1) (by decide) (by decide)) ?_
 refine o_gi (XS.aloadN X87.here hx rfl (hb hby o_d14_25) rfl rfl) ?_
 refine o_gi (XS.iconst X87.here hx rfl (hb hby o_d14_26)) ?_
 refine o_gi (XS.aloadN X87.here hx rfl (hb hby o_d14_27) rfl rfl) ?_
 show o_Gs p e below _ T87 m 28 #[.val (.ref r0), .val (.ref r1), .val (.int 255)] [(.ref r1), (.int 0), (.ref r1)]
 obtain ⟨_, T89, L89, X89, ⟨rfl, N89q, e89⟩, st89⟩ := o_callV X87 hx hZ hown (hw _ o_t72) (hw _ o_t73) (hw _ o_t75) (hw _ o_t74) (hw _ o_t7) (hw _ o_t76) (by decide) (b := r1) (as := []) (rm16_512 l Z a0 hw [] r1 t q_F z_cs h0 n0 O0 z_CS E_r1 F_v F_c T_t S_z_cs) e87 E_r1 o_pd5 rfl (pc := 28) (Ls := #[.val (.ref r0), .val (.ref r1), .val (.int 255)]) (rest := [(.int 0), (.ref r1)]) (W := 2) (by rw [hml]; rfl) (Nat.le_of_eq rfl) (by decide) (by decide) (hb hby o_d14_28) (by decide) (by decide)
 have N89 := Fr.app N87 N89q
 refine o_go st89 ?_
 show o_Gs p e below _ T89 m 31 #[.val (.ref r0), .val (.ref r1), .val (.int 255)] [(.int 256), (.int 0), (.ref r1)]
 obtain ⟨_, T90, L90, X90, ⟨rfl, N90q, e90⟩, st90⟩ := o_callV X89 hx hZ hown (hw _ o_t82) (hw _ o_t83) (hw _ o_t85) (hw _ o_t84) (hw _ o_t7) (hw _ o_t86) (by decide) (b := r1) (as := [(.int 0), (.int 256)]) (rm18_512 l Z a0 hw [] r1 t q_F z_cs h0 n0 Z0 O0 z_CS E_r1 F_v F_c T_t S_z_cs S_ad S_hi S_lo) e89 E_r1 o_pd9 rfl (pc := 31) (Ls := #[.val (.ref r0), .val (.ref r1), .val (.int 255)]) (rest := []) (W := 0) (by rw [hml]; rfl) (Nat.le_of_eq rfl) (by decide) (by decide) (hb hby o_d14_31) (by decide) (by decide)
 have N90 := Fr.app N89 N90q
 refine o_go st90 ?_
 refine o_gi (XS.iloadN X90.here hx rfl (hb hby o_d14_34) rfl) ?_
 show o_Gs p e below _ T90 m 35 #[.val (.ref r0), .val (.ref r1), .val (.int 255)] [(.int 255), (.int (o_f18_512 q_F))]
 have hd91 : ¬ ((255 : Int32) < (o_f18_512 q_F)) := (o_le255 hHL)
 refine o_gi (XS.icmpYes X90.here hx rfl (pc0 := 35) (pc' := 52) rfl (hb hby o_d14_35) rfl (flt hd91).2.2.2 (by decide) (by decide)) ?_
 show o_Gs p e below _ T90 m 52 #[.val (.ref r0), .val (.ref r1), .val (.int 255)] []
 exact o_ret0 X90 hx hlk hret (hb hby o_d14_52) (by decide) (by decide) ⟨rfl, N90, e90⟩
def o_Q14 (h0 : Heap) (n0 : Nat) (v : Option Value) (h : Heap) (L : List Loc) : Prop := v = none ∧ Fr n0 L ∧ h = h0
abbrev o_R14 : Room := o_R14_0
set_option maxRecDepth 65536 in
set_option maxHeartbeats 40000000 in
theorem rm14 (l : Launch) (Z : State) (a0 : Array Value) (hw : ∀ d ∈ tables_1, d.before a0 Z = true) (ws : List Jvm.Cond) (r0 : Addr) (r1 : Addr) (x2 : Int32) (z_cs : Int32) (h0 : Heap) (n0 : Nat) (Z0 : n0 ≤ h0.size) (O0 : Old Z n0 h0) (z_CS : ¬ z_cs = 0) (I_r1 : o_Id Z h0 r1 x2) (S_z_cs : Sta Z Z.heap "java/lang/String" "COMPACT_STRINGS" "Z" (.int z_cs)) (S_ad : Sta Z Z.heap "java/lang/StringUTF16" "$assertionsDisabled" "Z" (.int 1)) (S_hi : Sta Z Z.heap "java/lang/StringUTF16" "HI_BYTE_SHIFT" "I" (.int 0)) (S_lo : Sta Z Z.heap "java/lang/StringUTF16" "LO_BYTE_SHIFT" "I" (.int 8)) : o_Met l Z (⟨"com/example/quittance/quittance/dialect/Claim", "checkId", "(Ljava/lang/String;Ljava/lang/String;I)V"⟩ : MethodName) prog_12_method_4_code 3 none ws o_R14 #[.ref r0, .ref r1, .int x2] h0 (o_Q14 h0 n0) := by
 obtain ⟨t, cd, N, q_F, E, V, C, T, ⟨rfl, hN, hN1, hN2⟩ | ⟨rfl, ⟨rfl, rfl⟩ | ⟨rfl, rfl⟩, hHL⟩⟩ := I_r1
 ·exact rm14_0 l Z a0 hw ws r0 r1 x2 t N q_F z_cs h0 n0 Z0 O0 z_CS E V C T hN hN1 hN2 S_z_cs S_ad S_hi S_lo
 ·exact rm14_64 l Z a0 hw ws r0 r1 t q_F z_cs h0 n0 Z0 O0 z_CS E V C T hHL S_z_cs S_ad S_hi S_lo
 ·exact rm14_255 l Z a0 hw ws r0 r1 t q_F z_cs h0 n0 Z0 O0 z_CS E V C T hHL S_z_cs S_ad S_hi S_lo
theorem o_d10_0 : decode jdk_52_method_3_code 0 = .ok (.iload_n 0, 1) := by decide +kernel
theorem o_d10_1 : decode jdk_52_method_3_code 1 = .ok (.ifCond .ge 11, 3) := by decide +kernel
theorem o_d10_12 : decode jdk_52_method_3_code 12 = .ok (.iload_n 0, 1) := by decide +kernel
theorem o_d10_13 : decode jdk_52_method_3_code 13 = .ok (.ldc 20, 2) := by decide +kernel
theorem o_t45 : (Jvm.Cond.constant "java/lang/StringUTF16" (20 : Nat) (1073741823 : Int32)) ∈ tables_1 := List.mem_of_getElem? (i := 45) rfl
theorem o_d10_15 : decode jdk_52_method_3_code 15 = .ok (.if_icmp .lt 40, 3) := by decide +kernel
theorem o_d10_55 : decode jdk_52_method_3_code 55 = .ok (.iload_n 0, 1) := by decide +kernel
theorem o_d10_56 : decode jdk_52_method_3_code 56 = .ok (.iconst 1, 1) := by decide +kernel
theorem o_d10_57 : decode jdk_52_method_3_code 57 = .ok (.ishl, 1) := by decide +kernel
theorem o_d10_58 : decode jdk_52_method_3_code 58 = .ok (.ireturn, 1) := by decide +kernel
def o_Q10_65  (h0 : Heap) (n0 : Nat) (v : Option Value) (h : Heap) (L : List Loc) : Prop := v = some (.int 130) ∧ Fr n0 L ∧ h = h0
abbrev o_R10_65 : Room := { frames := 0, cells := 0, slots := 0, locals := 0 }
theorem o_ef10_65 (m : MethodId)  : entryFrame m #[(.int 65)] 1 = mkF m 0 #[.val (.int 65)] [] := by first | (simp [entryFrame, mkF, argsToLocals, Value.category]; done) | rfl
set_option maxRecDepth 65536 in
set_option maxHeartbeats 40000000 in
theorem rm10_65 (l : Launch) (Z : State) (a0 : Array Value) (hw : ∀ d ∈ tables_1, d.before a0 Z = true) (ws : List Jvm.Cond)  (h0 : Heap) (n0 : Nat) : o_Met l Z (⟨"java/lang/StringUTF16", "newBytesLength", "(I)I"⟩ : MethodName) jdk_52_method_3_code 1 (some .int) ws o_R10_65 #[(.int 65)] h0 (o_Q10_65 h0 n0) := by
 refine o_met (plainFor_of_name o_pn0) ?_
 intro p e s m below meth c s₁ hx hby hml hown hnm hret hlk hZ e0 X0
 have N0 := Fr.nil n0
 have hml : c.maxLocals = 1 := hml
 have hown : s.vm.findClass "java/lang/StringUTF16" = some m.cls := hown
 have hret : meth.sig.returnType = (some .int) := hret
 have hby : c.code = jdk_52_method_3_code := hby
 have hnm : meth.name = "newBytesLength" := hnm
 rw [o_ef10_65]
 refine o_gi (XS.iloadN X0.here hx rfl (hb hby o_d10_0) rfl) ?_
 show o_Gs p e below _ s₁ m 1 #[.val (.int 65)] [(.int 65)]
 have hd92 : ¬ ((65 : Int32) < (0 : Int32)) := (by decide)
 refine o_gi (XS.ifYes X0.here hx rfl (pc0 := 1) (pc' := 12) rfl (hb hby o_d10_1) rfl ((if0 _ _).trans (flt hd92).2.1) (by decide) (by decide)) ?_
 refine o_gi (XS.iloadN X0.here hx rfl (hb hby o_d10_12) rfl) ?_
 show o_Gs p e below _ s₁ m 13 #[.val (.int 65)] [(.int 65)]
 refine o_go (X0.ldcInt hx hown (mvT hZ (hw _ o_t45)) (g := (mkF m 13 #[.val (.int 65)] [(.int 65)])) rfl (hb hby o_d10_13)) ?_
 show o_Gs p e below _ s₁ m 15 #[.val (.int 65)] [(.int 1073741823), (.int 65)]
 have hd93 : (65 : Int32) < (1073741823 : Int32) := (by decide)
 refine o_gi (XS.icmpYes X0.here hx rfl (pc0 := 15) (pc' := 55) rfl (hb hby o_d10_15) rfl (tlt hd93).1 (by decide) (by decide)) ?_
 refine o_gi (XS.iloadN X0.here hx rfl (hb hby o_d10_55) rfl) ?_
 refine o_gi (XS.iconst X0.here hx rfl (hb hby o_d10_56)) ?_
 show o_Gs p e below _ s₁ m 57 #[.val (.int 65)] [(.int 1), (.int 65)]
 refine o_gi (XS.ishl X0.here hx rfl (hb hby o_d10_57) rfl) ?_
 show o_Gs p e below _ s₁ m 58 #[.val (.int 65)] [(.int ((65 : Int32) <<< ((1 : Int32) &&& 31)))]
 rw [show ((65 : Int32) <<< ((1 : Int32) &&& 31)) = (130 : Int32) from by decide]
 show o_Gs p e below _ s₁ m 58 #[.val (.int 65)] [(.int 130)]
 exact o_retI X0 hx hlk hret (hb hby o_d10_58) (by decide) (by decide) ⟨rfl, N0, e0⟩
theorem o_d9_0 : decode jdk_52_method_2_code 0 = .ok (.iload_n 0, 1) := by decide +kernel
theorem o_d9_1 : decode jdk_52_method_2_code 1 = .ok (.invokestatic 11, 3) := by decide +kernel
theorem o_t42 : (Jvm.Cond.methodLink "java/lang/StringUTF16" (11 : Nat) ({ cls := "java/lang/StringUTF16", name := "newBytesLength", desc := "(I)I" } : Jvm.MethodName)) ∈ tables_1 := List.mem_of_getElem? (i := 42) rfl
theorem o_pd10 : parseMethodDescriptor "(I)I" = some ⟨[.int], some .int⟩ := by decide +kernel
theorem o_t43 : (Jvm.Cond.static ({ cls := "java/lang/StringUTF16", name := "newBytesLength", desc := "(I)I" } : Jvm.MethodName)) ∈ tables_1 := List.mem_of_getElem? (i := 43) rfl
theorem o_t44 : (Jvm.Cond.code ({ cls := "java/lang/StringUTF16", name := "newBytesLength", desc := "(I)I" } : Jvm.MethodName) jdk_52_method_3_code (1 : Nat) (Option.some Jvm.ClassFile.FieldType.int)) ∈ tables_1 := List.mem_of_getElem? (i := 44) rfl
theorem o_d9_4 : decode jdk_52_method_2_code 4 = .ok (.newarray .byte, 2) := by decide +kernel
theorem o_t23 : (Jvm.Cond.arrayClass Jvm.ClassFile.FieldType.byte) ∈ tables_1 := List.mem_of_getElem? (i := 23) rfl
theorem o_d9_6 : decode jdk_52_method_2_code 6 = .ok (.areturn, 1) := by decide +kernel
def o_Q9_65 (Z : State)  (h0 : Heap) (n0 : Nat) (v : Option Value) (h : Heap) (L : List Loc) : Prop := ∃ b : Addr, v = some (.ref b) ∧ Fr n0 L ∧ Keep h0 h [] ∧ h0.size ≤ b ∧ o_Tb Z h b .byte (130 : Int32) (fun _ => 0)
abbrev o_R9_65 : Room := { frames := 1, cells := 1, slots := 130, locals := 12 }
theorem o_ef9_65 (m : MethodId)  : entryFrame m #[(.int 65)] 1 = mkF m 0 #[.val (.int 65)] [] := by first | (simp [entryFrame, mkF, argsToLocals, Value.category]; done) | rfl
set_option maxRecDepth 65536 in
set_option maxHeartbeats 40000000 in
theorem rm9_65 (l : Launch) (Z : State) (a0 : Array Value) (hw : ∀ d ∈ tables_1, d.before a0 Z = true) (ws : List Jvm.Cond)  (h0 : Heap) (n0 : Nat) (Z0 : n0 ≤ h0.size) : o_Met l Z (⟨"java/lang/StringUTF16", "newBytesFor", "(I)[B"⟩ : MethodName) jdk_52_method_2_code 1 (some (.array .byte)) ws o_R9_65 #[(.int 65)] h0 (o_Q9_65 Z h0 n0) := by
 refine o_met (plainFor_of_name o_pn0) ?_
 intro p e s m below meth c s₁ hx hby hml hown hnm hret hlk hZ e0 X0
 have N0 := Fr.nil n0
 have hml : c.maxLocals = 1 := hml
 have hown : s.vm.findClass "java/lang/StringUTF16" = some m.cls := hown
 have hret : meth.sig.returnType = (some (.array .byte)) := hret
 have hby : c.code = jdk_52_method_2_code := hby
 have hnm : meth.name = "newBytesFor" := hnm
 rw [o_ef9_65]
 refine o_gi (XS.iloadN X0.here hx rfl (hb hby o_d9_0) rfl) ?_
 show o_Gs p e below _ s₁ m 1 #[.val (.int 65)] [(.int 65)]
 obtain ⟨_, T94, L94, X94, ⟨rfl, N94q, e94⟩, st94⟩ := o_callS X0 hx hZ hown (hw _ o_t42) (hw _ o_t43) (hw _ o_t21) (hw _ o_t44) (by decide) (as := [(.int 65)]) (rm10_65 l Z a0 hw []  h0 n0) e0 o_pd10 rfl (pc := 1) (Ls := #[.val (.int 65)]) (rest := []) (W := 0) (by rw [hml]; rfl) (Nat.le_of_eq rfl) (by decide) (by decide) (hb hby o_d9_1) (by decide) (by decide)
 have N94 := Fr.app N0 N94q
 refine o_go st94 ?_
 show o_Gs p e below _ T94 m 4 #[.val (.int 65)] [(.int 130)]
 obtain ⟨T95, h95, k95, X95, e95, E95, A95, st95⟩ := newP X94 hx hZ (aty := .byte) (hw _ o_t23) e94 (g := (mkF m 4 #[.val (.int 65)] [(.int 130)])) rfl (hb hby o_d9_4) rfl (by decide) (cap := 130) (by decide) (by decide) (by decide) (by decide)
 obtain ⟨b95, q95⟩ : ∃ z, z = h0.size := ⟨_, rfl⟩
 rw [← q95] at A95 st95
 have lt_b95 : h0.size ≤ b95 := Nat.le_of_eq q95.symm
 have g_b95 : n0 ≤ b95 := Nat.le_trans Z0 lt_b95
 have sz_b95 : h0.size ≤ b95 := Nat.le_trans (Keep.refl h0 ([] : List Addr)).1 lt_b95
 have V95 : o_Tb Z h95 b95 .byte (130 : Int32) (fun _ => 0) := o_Tb.new A95 (by decide) rfl
 refine o_go st95 ?_
 show o_Gs p e below _ T95 m 6 #[.val (.int 65)] [(.ref b95)]
 exact o_retR X95 hx hlk hret rfl rfl (hb hby o_d9_6) (by decide) (by decide) (by show o_Q9_65 Z  h0 n0 _ T95.heap _; rw [e95]; exact ⟨_, rfl, N94, ((Keep.refl h0 ([] : List Addr)).ext E95), sz_b95, V95⟩)
def o_Q8_65 (Z : State) (r0 : Addr) (q_G : Int32 → Int32) (h0 : Heap) (n0 : Nat) (v : Option Value) (h : Heap) (L : List Loc) : Prop := ∃ b : Addr, ∃ kb : Int32 → Int32, v = some (.ref b) ∧ Fr n0 L ∧ Keep h0 h [] ∧ h0.size ≤ b ∧ o_Tb Z h b .byte (130 : Int32) kb ∧ o_Hd q_G kb
abbrev o_R8_65 : Room := { frames := 2, cells := 1, slots := 130, locals := 40 }
theorem o_d8_8 : decode jdk_52_method_14_code 8 = .ok (.iload 4, 2) := by decide +kernel
theorem o_d8_10 : decode jdk_52_method_14_code 10 = .ok (.iload_n 2, 1) := by decide +kernel
theorem o_d8_11 : decode jdk_52_method_14_code 11 = .ok (.if_icmp .ge 21, 3) := by decide +kernel
theorem o_d8_32 : decode jdk_52_method_14_code 32 = .ok (.aload_n 3, 1) := by decide +kernel
theorem o_d8_33 : decode jdk_52_method_14_code 33 = .ok (.areturn, 1) := by decide +kernel
theorem o_d8_14 : decode jdk_52_method_14_code 14 = .ok (.aload_n 3, 1) := by decide +kernel
theorem o_d8_15 : decode jdk_52_method_14_code 15 = .ok (.iload 4, 2) := by decide +kernel
theorem o_d8_17 : decode jdk_52_method_14_code 17 = .ok (.aload_n 0, 1) := by decide +kernel
theorem o_d8_18 : decode jdk_52_method_14_code 18 = .ok (.iload_n 1, 1) := by decide +kernel
theorem o_d8_19 : decode jdk_52_method_14_code 19 = .ok (.caload, 1) := by decide +kernel
theorem o_d8_20 : decode jdk_52_method_14_code 20 = .ok (.invokestatic 111, 3) := by decide +kernel
theorem o_t46 : (Jvm.Cond.methodLink "java/lang/StringUTF16" (111 : Nat) ({ cls := "java/lang/StringUTF16", name := "putChar", desc := "([BII)V" } : Jvm.MethodName)) ∈ tables_1 := List.mem_of_getElem? (i := 46) rfl
theorem o_pd11 : parseMethodDescriptor "([BII)V" = some ⟨[(.array .byte), .int, .int], none⟩ := by decide +kernel
theorem o_t47 : (Jvm.Cond.static ({ cls := "java/lang/StringUTF16", name := "putChar", desc := "([BII)V" } : Jvm.MethodName)) ∈ tables_1 := List.mem_of_getElem? (i := 47) rfl
theorem o_t48 : (Jvm.Cond.code ({ cls := "java/lang/StringUTF16", name := "putChar", desc := "([BII)V" } : Jvm.MethodName) jdk_52_method_4_code (3 : Nat) (Option.none : Option Jvm.ClassFile.FieldType)) ∈ tables_1 := List.mem_of_getElem? (i := 48) rfl
theorem o_d8_23 : decode jdk_52_method_14_code 23 = .ok (.iinc 1 1, 3) := by decide +kernel
theorem o_d8_26 : decode jdk_52_method_14_code 26 = .ok (.iinc 4 1, 3) := by decide +kernel
theorem o_d8_29 : decode jdk_52_method_14_code 29 = .ok (.goto (-21), 3) := by decide +kernel
set_option maxRecDepth 65536 in
set_option maxHeartbeats 40000000 in
theorem o_p8_65 (l : Launch) (Z : State) (a0 : Array Value) (hw : ∀ d ∈ tables_1, d.before a0 Z = true) (r0 : Addr) (q_G : Int32 → Int32) (h0 : Heap) (n0 : Nat) (Z0 : n0 ≤ h0.size) (O0 : Old Z n0 h0) (T_c : o_Tb Z h0 r0 .char (65 : Int32) q_G) (S_ad : Sta Z Z.heap "java/lang/StringUTF16" "$assertionsDisabled" "Z" (.int 1)) (S_hi : Sta Z Z.heap "java/lang/StringUTF16" "HI_BYTE_SHIFT" "I" (.int 0)) (S_lo : Sta Z Z.heap "java/lang/StringUTF16" "LO_BYTE_SHIFT" "I" (.int 8)) (p : Program) (e : Env) (s : State) (m : MethodId) (below : List Frame) (meth : Method) (c : Code) (hx : p.tables.exec = Jvm.exec) (hby : c.code = jdk_52_method_14_code) (hml : c.maxLocals = 5) (hown : s.vm.findClass "java/lang/StringUTF16" = some m.cls) (hret : meth.sig.returnType = (some (.array .byte))) (hlk : meth.locks = false) (hZ : Z.Warmed39 s.vm) (k : Nat) : ∀ (T0 : State) (L0 : List Loc) (hh : Heap) (b : Addr) (i : Int32) (q_F : Int32 → Int32) (X0 : Stand p l e o_R8_65 s m #[(.ref r0), (.int 0), (.int 65)] below meth c T0 L0 1 130) (e0 : T0.heap = hh) (N0 : Fr n0 L0) (Z1 : n0 ≤ hh.size) (O1 : Old Z n0 hh) (KK : Keep h0 hh []) (g_b : n0 ≤ b) (sz_b : h0.size ≤ b) (ne_r0_b : r0 ≠ b) (hi : 2 ≤ i.toInt ∧ i.toInt + k = 65) (V_c : o_Tb Z hh r0 .char (65 : Int32) q_G) (V_b : o_Tb Z hh b .byte (130 : Int32) q_F) (hH : o_Hd q_G q_F), o_Goes p e below (o_End s o_R8_65 (o_Q8_65 Z r0 q_G h0 n0)) (T0.setTop (mkF m 8 #[.val (.ref r0), .val (.int i), .val (.int 65), .val (.ref b), .val (.int i)] [])) := by
 induction k with
 | zero =>
  intro T0 L0 hh b i q_F X0 e0 N0 Z1 O1 KK g_b sz_b ne_r0_b hi V_c V_b hH
  refine o_gi (XS.iload X0.here hx rfl (hb hby o_d8_8) rfl) ?_
  refine o_gi (XS.iloadN X0.here hx rfl (hb hby o_d8_10) rfl) ?_
  show o_Gs p e below _ T0 m 11 #[.val (.ref r0), .val (.int i), .val (.int 65), .val (.ref b), .val (.int i)] [(.int 65), (.int i)]
  have hd96 : ¬ (i < (65 : Int32)) := (o_i8n hi (by decide))
  refine o_gi (XS.icmpYes X0.here hx rfl (pc0 := 11) (pc' := 32) rfl (hb hby o_d8_11) rfl (flt hd96).2.1 (by decide) (by decide)) ?_
  refine o_gi (XS.aloadN X0.here hx rfl (hb hby o_d8_32) rfl rfl) ?_
  show o_Gs p e below _ T0 m 33 #[.val (.ref r0), .val (.int i), .val (.int 65), .val (.ref b), .val (.int i)] [(.ref b)]
  exact o_retR X0 hx hlk hret rfl rfl (hb hby o_d8_33) (by decide) (by decide) (by rw [e0]; exact ⟨_, _, rfl, N0, KK, sz_b, V_b, hH⟩)
 | succ k ih =>
  intro T0 L0 hh b i q_F X0 e0 N0 Z1 O1 KK g_b sz_b ne_r0_b hi V_c V_b hH
  refine o_gi (XS.iload X0.here hx rfl (hb hby o_d8_8) rfl) ?_
  refine o_gi (XS.iloadN X0.here hx rfl (hb hby o_d8_10) rfl) ?_
  show o_Gs p e below _ T0 m 11 #[.val (.ref r0), .val (.int i), .val (.int 65), .val (.ref b), .val (.int i)] [(.int 65), (.int i)]
  have hd97 : i < (65 : Int32) := (o_i8l hi (by decide))
  refine o_gi (XS.icmpNo X0.here hx rfl (hb hby o_d8_11) rfl (tlt hd97).2.1) ?_
  refine o_gi (XS.aloadN X0.here hx rfl (hb hby o_d8_14) rfl rfl) ?_
  refine o_gi (XS.iload X0.here hx rfl (hb hby o_d8_15) rfl) ?_
  refine o_gi (XS.aloadN X0.here hx rfl (hb hby o_d8_17) rfl rfl) ?_
  refine o_gi (XS.iloadN X0.here hx rfl (hb hby o_d8_18) rfl) ?_
  show o_Gs p e below _ T0 m 19 #[.val (.ref r0), .val (.int i), .val (.int 65), .val (.ref b), .val (.int i)] [(.int i), (.ref r0), (.int i), (.ref b)]
  obtain ⟨cl98, Ar98, sa98, na98, ha98⟩ := id V_c
  have ix98 : ¬ i < 0 ∧ i < (65 : Int32) := (o_i8 (z := (65 : Int32)) hi (by decide))
  refine o_go (X0.caload hx (j := i) (v := (.int (q_G i))) (by rw [e0]; exact Ar98.1) (State.isArrayOf_alike hZ.alike Ar98.2.1) Ar98.2.2 (inb_of sa98 ix98) (ha98 _ ix98.1 ix98.2) (g := (mkF m 19 #[.val (.ref r0), .val (.int i), .val (.int 65), .val (.ref b), .val (.int i)] [(.int i), (.ref r0), (.int i), (.ref b)])) rfl rfl (hb hby o_d8_19)) ?_
  show o_Gs p e below _ T0 m 20 #[.val (.ref r0), .val (.int i), .val (.int 65), .val (.ref b), .val (.int i)] [(.int (q_G i)), (.int i), (.ref b)]
  obtain ⟨_, T99, L99, X99, ⟨rfl, N99q, K99, G99_0⟩, st99⟩ := o_callS X0 hx hZ hown (hw _ o_t46) (hw _ o_t47) (hw _ o_t21) (hw _ o_t48) (by decide) (as := [(.ref b), (.int i), (.int (q_G i))]) (rm11 l Z a0 hw [] b i (q_G i) (130 : Int32) q_F hh n0 Z1 g_b O1 V_b (o_i8x (z := (65 : Int32)) hi (by decide) (by decide)) S_ad S_hi S_lo) e0 o_pd11 rfl (pc := 20) (Ls := #[.val (.ref r0), .val (.int i), .val (.int 65), .val (.ref b), .val (.int i)]) (rest := []) (W := 0) (by rw [hml]; rfl) (Nat.le_of_eq rfl) (by decide) (by decide) (hb hby o_d8_20) (by decide) (by decide)
  have N99 := Fr.app N0 N99q
  refine o_go st99 ?_
  show o_Gs p e below _ T99 m 23 #[.val (.ref r0), .val (.int i), .val (.int 65), .val (.ref b), .val (.int i)] []
  refine o_gi (XS.iinc X99.here hx rfl (hb hby o_d8_23) rfl (l' := #[.val (.ref r0), .val (.int (i + (1 : Int32))), .val (.int 65), .val (.ref b), .val (.int i)]) rfl) ?_
  show o_Gs p e below _ T99 m 26 #[.val (.ref r0), .val (.int (i + (1 : Int32))), .val (.int 65), .val (.ref b), .val (.int i)] []
  refine o_gi (XS.iinc X99.here hx rfl (hb hby o_d8_26) rfl (l' := #[.val (.ref r0), .val (.int (i + (1 : Int32))), .val (.int 65), .val (.ref b), .val (.int (i + (1 : Int32)))]) rfl) ?_
  refine o_gi (XS.goto X99.here hx rfl (pc0 := 29) (pc' := 8) rfl (hb hby o_d8_29) (by decide) (by decide)) ?_
  have ff100 : o_Tb Z T99.heap r0 .char (65 : Int32) q_G := (V_c.keep K99 (fun z => ne_r0_b (List.mem_singleton.mp z)))
  have oo101 : Old Z n0 T99.heap := (O1.keep K99 (allS g_b all0))
  exact ih _ _ _ b _ _ X99 rfl N99 (Nat.le_trans Z1 K99.1) oo101 (KK.trans K99 (fun x hx => by cases List.mem_singleton.mp hx; exact Or.inr sz_b)) g_b sz_b ne_r0_b (o_i8s hi (by decide)) ff100 G99_0 (o_HdS (o_i8h hi (by decide)) hH)
theorem o_d8_0 : decode jdk_52_method_14_code 0 = .ok (.iload_n 2, 1) := by decide +kernel
theorem o_d8_1 : decode jdk_52_method_14_code 1 = .ok (.invokestatic 107, 3) := by decide +kernel
theorem o_t39 : (Jvm.Cond.methodLink "java/lang/StringUTF16" (107 : Nat) ({ cls := "java/lang/StringUTF16", name := "newBytesFor", desc := "(I)[B" } : Jvm.MethodName)) ∈ tables_1 := List.mem_of_getElem? (i := 39) rfl
theorem o_pd12 : parseMethodDescriptor "(I)[B" = some ⟨[.int], some (.array .byte)⟩ := by decide +kernel
theorem o_t40 : (Jvm.Cond.static ({ cls := "java/lang/StringUTF16", name := "newBytesFor", desc := "(I)[B" } : Jvm.MethodName)) ∈ tables_1 := List.mem_of_getElem? (i := 40) rfl
theorem o_t41 : (Jvm.Cond.code ({ cls := "java/lang/StringUTF16", name := "newBytesFor", desc := "(I)[B" } : Jvm.MethodName) jdk_52_method_2_code (1 : Nat) (Option.some (Jvm.ClassFile.FieldType.array Jvm.ClassFile.FieldType.byte))) ∈ tables_1 := List.mem_of_getElem? (i := 41) rfl
theorem o_d8_4 : decode jdk_52_method_14_code 4 = .ok (.astore_n 3, 1) := by decide +kernel
theorem o_d8_5 : decode jdk_52_method_14_code 5 = .ok (.iconst 0, 1) := by decide +kernel
theorem o_d8_6 : decode jdk_52_method_14_code 6 = .ok (.istore 4, 2) := by decide +kernel
theorem o_ef8_65 (m : MethodId) (z0 : Addr) : entryFrame m #[(.ref z0), (.int 0), (.int 65)] 5 = mkF m 0 #[.val (.ref z0), .val (.int 0), .val (.int 65), .unset, .unset] [] := by first | (simp [entryFrame, mkF, argsToLocals, Value.category]; done) | rfl
set_option maxRecDepth 65536 in
set_option maxHeartbeats 40000000 in
theorem rm8_65 (l : Launch) (Z : State) (a0 : Array Value) (hw : ∀ d ∈ tables_1, d.before a0 Z = true) (ws : List Jvm.Cond) (r0 : Addr) (q_G : Int32 → Int32) (h0 : Heap) (n0 : Nat) (Z0 : n0 ≤ h0.size) (O0 : Old Z n0 h0) (T_c : o_Tb Z h0 r0 .char (65 : Int32) q_G) (S_ad : Sta Z Z.heap "java/lang/StringUTF16" "$assertionsDisabled" "Z" (.int 1)) (S_hi : Sta Z Z.heap "java/lang/StringUTF16" "HI_BYTE_SHIFT" "I" (.int 0)) (S_lo : Sta Z Z.heap "java/lang/StringUTF16" "LO_BYTE_SHIFT" "I" (.int 8)) : o_Met l Z (⟨"java/lang/StringUTF16", "toBytes", "([CII)[B"⟩ : MethodName) jdk_52_method_14_code 5 (some (.array .byte)) ws o_R8_65 #[(.ref r0), (.int 0), (.int 65)] h0 (o_Q8_65 Z r0 q_G h0 n0) := by
 refine o_met (plainFor_of_name o_pn0) ?_
 intro p e s m below meth c s₁ hx hby hml hown hnm hret hlk hZ e0 X0
 have N0 := Fr.nil n0
 have hml : c.maxLocals = 5 := hml
 have hown : s.vm.findClass "java/lang/StringUTF16" = some m.cls := hown
 have hret : meth.sig.returnType = (some (.array .byte)) := hret
 have hby : c.code = jdk_52_method_14_code := hby
 have hnm : meth.name = "toBytes" := hnm
 rw [o_ef8_65]
 refine o_gi (XS.iloadN X0.here hx rfl (hb hby o_d8_0) rfl) ?_
 show o_Gs p e below _ s₁ m 1 #[.val (.ref r0), .val (.int 0), .val (.int 65), .unset, .unset] [(.int 65)]
 obtain ⟨_, T102, L102, X102, ⟨b102, rfl, N102q, K102, lt_b102, G102_0⟩, st102⟩ := o_callS X0 hx hZ hown (hw _ o_t39) (hw _ o_t40) (hw _ o_t21) (hw _ o_t41) (by decide) (as := [(.int 65)]) (rm9_65 l Z a0 hw []  h0 n0 Z0) e0 o_pd12 rfl (pc := 1) (Ls := #[.val (.ref r0), .val (.int 0), .val (.int 65), .unset, .unset]) (rest := []) (W := 0) (by rw [hml]; rfl) (Nat.le_of_eq rfl) (by decide) (by decide) (hb hby o_d8_1) (by decide) (by decide)
 have N102 := Fr.app N0 N102q
 have ne_r0_b102 : r0 ≠ b102 := Nat.ne_of_lt (Nat.lt_of_lt_of_le T_c.lt lt_b102)
 have g_b102 : n0 ≤ b102 := Nat.le_trans Z0 lt_b102
 have sz_b102 : h0.size ≤ b102 := Nat.le_trans (Keep.refl h0 ([] : List Addr)).1 lt_b102
 refine o_go st102 ?_
 refine o_gi (XS.astoreN X102.here hx rfl (hb hby o_d8_4) rfl rfl (l' := #[.val (.ref r0), .val (.int 0), .val (.int 65), .val (.ref b102), .unset]) rfl) ?_
 refine o_gi (XS.iconst X102.here hx rfl (hb hby o_d8_5)) ?_
 refine o_gi (XS.istore X102.here hx rfl (hb hby o_d8_6) rfl (l' := #[.val (.ref r0), .val (.int 0), .val (.int 65), .val (.ref b102), .val (.int 0)]) rfl) ?_
 refine o_gi (XS.iload X102.here hx rfl (hb hby o_d8_8) rfl) ?_
 refine o_gi (XS.iloadN X102.here hx rfl (hb hby o_d8_10) rfl) ?_
 show o_Gs p e below _ T102 m 11 #[.val (.ref r0), .val (.int 0), .val (.int 65), .val (.ref b102), .val (.int 0)] [(.int 65), (.int 0)]
 have hd103 : (0 : Int32) < (65 : Int32) := (by decide)
 refine o_gi (XS.icmpNo X102.here hx rfl (hb hby o_d8_11) rfl (tlt hd103).2.1) ?_
 refine o_gi (XS.aloadN X102.here hx rfl (hb hby o_d8_14) rfl rfl) ?_
 refine o_gi (XS.iload X102.here hx rfl (hb hby o_d8_15) rfl) ?_
 refine o_gi (XS.aloadN X102.here hx rfl (hb hby o_d8_17) rfl rfl) ?_
 refine o_gi (XS.iloadN X102.here hx rfl (hb hby o_d8_18) rfl) ?_
 show o_Gs p e below _ T102 m 19 #[.val (.ref r0), .val (.int 0), .val (.int 65), .val (.ref b102), .val (.int 0)] [(.int 0), (.ref r0), (.int 0), (.ref b102)]
 have ff104 : o_Tb Z T102.heap r0 .char (65 : Int32) q_G := (T_c.keep K102 List.not_mem_nil)
 obtain ⟨cl105, Ar105, sa105, na105, ha105⟩ := id ff104
 have ix105 : ¬ (0 : Int32) < 0 ∧ (0 : Int32) < (65 : Int32) := ⟨by decide, by decide⟩
 refine o_go (X102.caload hx (j := (0 : Int32)) (v := (.int (q_G (0 : Int32)))) Ar105.1 (State.isArrayOf_alike hZ.alike Ar105.2.1) Ar105.2.2 (inb_of sa105 ix105) (ha105 _ ix105.1 ix105.2) (g := (mkF m 19 #[.val (.ref r0), .val (.int 0), .val (.int 65), .val (.ref b102), .val (.int 0)] [(.int 0), (.ref r0), (.int 0), (.ref b102)])) rfl rfl (hb hby o_d8_19)) ?_
 show o_Gs p e below _ T102 m 20 #[.val (.ref r0), .val (.int 0), .val (.int 65), .val (.ref b102), .val (.int 0)] [(.int (q_G (0 : Int32))), (.int 0), (.ref b102)]
 obtain ⟨_, T106, L106, X106, ⟨rfl, N106q, K106, G106_0⟩, st106⟩ := o_callS X102 hx hZ hown (hw _ o_t46) (hw _ o_t47) (hw _ o_t21) (hw _ o_t48) (by decide) (as := [(.ref b102), (.int 0), (.int (q_G (0 : Int32)))]) (rm11 l Z a0 hw [] b102 (0 : Int32) (q_G (0 : Int32)) (130 : Int32) (fun _ => 0) T102.heap n0 (Nat.le_trans Z0 K102.1) g_b102 (O0.keep K102 all0) G102_0 (by decide) S_ad S_hi S_lo) rfl o_pd11 rfl (pc := 20) (Ls := #[.val (.ref r0), .val (.int 0), .val (.int 65), .val (.ref b102), .val (.int 0)]) (rest := []) (W := 0) (by rw [hml]; rfl) (Nat.le_of_eq rfl) (by decide) (by decide) (hb hby o_d8_20) (by decide) (by decide)
 have N106 := Fr.app N102 N106q
 refine o_go st106 ?_
 show o_Gs p e below _ T106 m 23 #[.val (.ref r0), .val (.int 0), .val (.int 65), .val (.ref b102), .val (.int 0)] []
 refine o_gi (XS.iinc X106.here hx rfl (hb hby o_d8_23) rfl (l' := #[.val (.ref r0), .val (.int ((0 : Int32) + (1 : Int32))), .val (.int 65), .val (.ref b102), .val (.int 0)]) rfl) ?_
 show o_Gs p e below _ T106 m 26 #[.val (.ref r0), .val (.int ((0 : Int32) + (1 : Int32))), .val (.int 65), .val (.ref b102), .val (.int 0)] []
 rw [show ((0 : Int32) + (1 : Int32)) = (1 : Int32) from by decide]
 show o_Gs p e below _ T106 m 26 #[.val (.ref r0), .val (.int 1), .val (.int 65), .val (.ref b102), .val (.int 0)] []
 refine o_gi (XS.iinc X106.here hx rfl (hb hby o_d8_26) rfl (l' := #[.val (.ref r0), .val (.int 1), .val (.int 65), .val (.ref b102), .val (.int ((0 : Int32) + (1 : Int32)))]) rfl) ?_
 show o_Gs p e below _ T106 m 29 #[.val (.ref r0), .val (.int 1), .val (.int 65), .val (.ref b102), .val (.int ((0 : Int32) + (1 : Int32)))] []
 rw [show ((0 : Int32) + (1 : Int32)) = (1 : Int32) from by decide]
 refine o_gi (XS.goto X106.here hx rfl (pc0 := 29) (pc' := 8) rfl (hb hby o_d8_29) (by decide) (by decide)) ?_
 refine o_gi (XS.iload X106.here hx rfl (hb hby o_d8_8) rfl) ?_
 refine o_gi (XS.iloadN X106.here hx rfl (hb hby o_d8_10) rfl) ?_
 show o_Gs p e below _ T106 m 11 #[.val (.ref r0), .val (.int 1), .val (.int 65), .val (.ref b102), .val (.int 1)] [(.int 65), (.int 1)]
 have hd107 : (1 : Int32) < (65 : Int32) := (by decide)
 refine o_gi (XS.icmpNo X106.here hx rfl (hb hby o_d8_11) rfl (tlt hd107).2.1) ?_
 refine o_gi (XS.aloadN X106.here hx rfl (hb hby o_d8_14) rfl rfl) ?_
 refine o_gi (XS.iload X106.here hx rfl (hb hby o_d8_15) rfl) ?_
 refine o_gi (XS.aloadN X106.here hx rfl (hb hby o_d8_17) rfl rfl) ?_
 refine o_gi (XS.iloadN X106.here hx rfl (hb hby o_d8_18) rfl) ?_
 show o_Gs p e below _ T106 m 19 #[.val (.ref r0), .val (.int 1), .val (.int 65), .val (.ref b102), .val (.int 1)] [(.int 1), (.ref r0), (.int 1), (.ref b102)]
 have ff108 : o_Tb Z T106.heap r0 .char (65 : Int32) q_G := (ff104.keep K106 (fun z => ne_r0_b102 (List.mem_singleton.mp z)))
 obtain ⟨cl109, Ar109, sa109, na109, ha109⟩ := id ff108
 have ix109 : ¬ (1 : Int32) < 0 ∧ (1 : Int32) < (65 : Int32) := ⟨by decide, by decide⟩
 refine o_go (X106.caload hx (j := (1 : Int32)) (v := (.int (q_G (1 : Int32)))) Ar109.1 (State.isArrayOf_alike hZ.alike Ar109.2.1) Ar109.2.2 (inb_of sa109 ix109) (ha109 _ ix109.1 ix109.2) (g := (mkF m 19 #[.val (.ref r0), .val (.int 1), .val (.int 65), .val (.ref b102), .val (.int 1)] [(.int 1), (.ref r0), (.int 1), (.ref b102)])) rfl rfl (hb hby o_d8_19)) ?_
 show o_Gs p e below _ T106 m 20 #[.val (.ref r0), .val (.int 1), .val (.int 65), .val (.ref b102), .val (.int 1)] [(.int (q_G (1 : Int32))), (.int 1), (.ref b102)]
 obtain ⟨_, T110, L110, X110, ⟨rfl, N110q, K110, G110_0⟩, st110⟩ := o_callS X106 hx hZ hown (hw _ o_t46) (hw _ o_t47) (hw _ o_t21) (hw _ o_t48) (by decide) (as := [(.ref b102), (.int 1), (.int (q_G (1 : Int32)))]) (rm11 l Z a0 hw [] b102 (1 : Int32) (q_G (1 : Int32)) (130 : Int32) (o_G11_2 (0 : Int32) (q_G (0 : Int32)) (fun _ => 0)) T106.heap n0 (Nat.le_trans (Nat.le_trans Z0 K102.1) K106.1) g_b102 ((O0.keep K102 all0).keep K106 (allS g_b102 all0)) G106_0 (by decide) S_ad S_hi S_lo) rfl o_pd11 rfl (pc := 20) (Ls := #[.val (.ref r0), .val (.int 1), .val (.int 65), .val (.ref b102), .val (.int 1)]) (rest := []) (W := 0) (by rw [hml]; rfl) (Nat.le_of_eq rfl) (by decide) (by decide) (hb hby o_d8_20) (by decide) (by decide)
 have N110 := Fr.app N106 N110q
 refine o_go st110 ?_
 show o_Gs p e below _ T110 m 23 #[.val (.ref r0), .val (.int 1), .val (.int 65), .val (.ref b102), .val (.int 1)] []
 refine o_gi (XS.iinc X110.here hx rfl (hb hby o_d8_23) rfl (l' := #[.val (.ref r0), .val (.int ((1 : Int32) + (1 : Int32))), .val (.int 65), .val (.ref b102), .val (.int 1)]) rfl) ?_
 show o_Gs p e below _ T110 m 26 #[.val (.ref r0), .val (.int ((1 : Int32) + (1 : Int32))), .val (.int 65), .val (.ref b102), .val (.int 1)] []
 rw [show ((1 : Int32) + (1 : Int32)) = (2 : Int32) from by decide]
 show o_Gs p e below _ T110 m 26 #[.val (.ref r0), .val (.int 2), .val (.int 65), .val (.ref b102), .val (.int 1)] []
 refine o_gi (XS.iinc X110.here hx rfl (hb hby o_d8_26) rfl (l' := #[.val (.ref r0), .val (.int 2), .val (.int 65), .val (.ref b102), .val (.int ((1 : Int32) + (1 : Int32)))]) rfl) ?_
 show o_Gs p e below _ T110 m 29 #[.val (.ref r0), .val (.int 2), .val (.int 65), .val (.ref b102), .val (.int ((1 : Int32) + (1 : Int32)))] []
 rw [show ((1 : Int32) + (1 : Int32)) = (2 : Int32) from by decide]
 refine o_gi (XS.goto X110.here hx rfl (pc0 := 29) (pc' := 8) rfl (hb hby o_d8_29) (by decide) (by decide)) ?_
 have ff111 : o_Tb Z T110.heap r0 .char (65 : Int32) q_G := (ff108.keep K110 (fun z => ne_r0_b102 (List.mem_singleton.mp z)))
 have oo112 : Old Z n0 T110.heap := (((O0.keep K102 all0).keep K106 (allS g_b102 all0)).keep K110 (allS g_b102 all0))
 exact o_p8_65 l Z a0 hw r0 q_G h0 n0 Z0 O0 T_c S_ad S_hi S_lo p e s m below meth c hx hby hml hown hret hlk hZ 63 _ _ _ b102 _ _ X110 rfl N110 (Nat.le_trans (Nat.le_trans (Nat.le_trans Z0 K102.1) K106.1) K110.1) oo112 ((((Keep.refl h0 ([] : List Addr)).trans K102 (fun x hx => nomatch hx)).trans K106 (fun x hx => by cases List.mem_singleton.mp hx; exact Or.inr sz_b102)).trans K110 (fun x hx => by cases List.mem_singleton.mp hx; exact Or.inr sz_b102)) g_b102 sz_b102 ne_r0_b102 (by decide) ff111 G110_0 (o_Hd0 q_G _)
theorem o_d6_0 : decode jdk_52_method_21_code 0 = .ok (.iconst 0, 1) := by decide +kernel
theorem o_d6_1 : decode jdk_52_method_21_code 1 = .ok (.istore 5, 2) := by decide +kernel
theorem o_d6_3 : decode jdk_52_method_21_code 3 = .ok (.iload 5, 2) := by decide +kernel
theorem o_d6_5 : decode jdk_52_method_21_code 5 = .ok (.iload 4, 2) := by decide +kernel
theorem o_d6_7 : decode jdk_52_method_21_code 7 = .ok (.if_icmp .ge 37, 3) := by decide +kernel
theorem o_d6_10 : decode jdk_52_method_21_code 10 = .ok (.aload_n 0, 1) := by decide +kernel
theorem o_d6_11 : decode jdk_52_method_21_code 11 = .ok (.iload_n 1, 1) := by decide +kernel
theorem o_d6_12 : decode jdk_52_method_21_code 12 = .ok (.caload, 1) := by decide +kernel
theorem o_d6_13 : decode jdk_52_method_21_code 13 = .ok (.istore 6, 2) := by decide +kernel
theorem o_d6_15 : decode jdk_52_method_21_code 15 = .ok (.iload 6, 2) := by decide +kernel
theorem o_d6_17 : decode jdk_52_method_21_code 17 = .ok (.sipush 255, 3) := by decide +kernel
theorem o_d6_20 : decode jdk_52_method_21_code 20 = .ok (.if_icmp .le 6, 3) := by decide +kernel
theorem o_d6_23 : decode jdk_52_method_21_code 23 = .ok (.iload 5, 2) := by decide +kernel
theorem o_d6_25 : decode jdk_52_method_21_code 25 = .ok (.ireturn, 1) := by decide +kernel
def o_Q6_65 (r0 : Addr) (r2 : Addr) (q_G : Int32 → Int32) (h0 : Heap) (n0 : Nat) (v : Option Value) (h : Heap) (L : List Loc) : Prop := v = some (.int 0) ∧ Fr n0 L ∧ h = h0
abbrev o_R6_65 : Room := { frames := 0, cells := 0, slots := 0, locals := 0 }
theorem o_ef6_65 (m : MethodId) (z0 : Addr) (z2 : Addr) : entryFrame m #[(.ref z0), (.int 0), (.ref z2), (.int 0), (.int 65)] 7 = mkF m 0 #[.val (.ref z0), .val (.int 0), .val (.ref z2), .val (.int 0), .val (.int 65), .unset, .unset] [] := by first | (simp [entryFrame, mkF, argsToLocals, Value.category]; done) | rfl
set_option maxRecDepth 65536 in
set_option maxHeartbeats 40000000 in
theorem rm6_65 (l : Launch) (Z : State) (a0 : Array Value) (hw : ∀ d ∈ tables_1, d.before a0 Z = true) (ws : List Jvm.Cond) (r0 : Addr) (r2 : Addr) (q_G : Int32 → Int32) (h0 : Heap) (n0 : Nat) (T_c : o_Tb Z h0 r0 .char (65 : Int32) q_G) (hG : (255 : Int32) < q_G (0 : Int32)) : o_Met l Z (⟨"java/lang/StringUTF16", "compress", "([CI[BII)I"⟩ : MethodName) jdk_52_method_21_code 7 (some .int) ws o_R6_65 #[(.ref r0), (.int 0), (.ref r2), (.int 0), (.int 65)] h0 (o_Q6_65 r0 r2 q_G h0 n0) := by
 refine o_met (plainFor_of_name o_pn0) ?_
 intro p e s m below meth c s₁ hx hby hml hown hnm hret hlk hZ e0 X0
 have N0 := Fr.nil n0
 have hml : c.maxLocals = 7 := hml
 have hown : s.vm.findClass "java/lang/StringUTF16" = some m.cls := hown
 have hret : meth.sig.returnType = (some .int) := hret
 have hby : c.code = jdk_52_method_21_code := hby
 have hnm : meth.name = "compress" := hnm
 rw [o_ef6_65]
 refine o_gi (XS.iconst X0.here hx rfl (hb hby o_d6_0)) ?_
 refine o_gi (XS.istore X0.here hx rfl (hb hby o_d6_1) rfl (l' := #[.val (.ref r0), .val (.int 0), .val (.ref r2), .val (.int 0), .val (.int 65), .val (.int 0), .unset]) rfl) ?_
 refine o_gi (XS.iload X0.here hx rfl (hb hby o_d6_3) rfl) ?_
 refine o_gi (XS.iload X0.here hx rfl (hb hby o_d6_5) rfl) ?_
 show o_Gs p e below _ s₁ m 7 #[.val (.ref r0), .val (.int 0), .val (.ref r2), .val (.int 0), .val (.int 65), .val (.int 0), .unset] [(.int 65), (.int 0)]
 have hd113 : (0 : Int32) < (65 : Int32) := (by decide)
 refine o_gi (XS.icmpNo X0.here hx rfl (hb hby o_d6_7) rfl (tlt hd113).2.1) ?_
 refine o_gi (XS.aloadN X0.here hx rfl (hb hby o_d6_10) rfl rfl) ?_
 refine o_gi (XS.iloadN X0.here hx rfl (hb hby o_d6_11) rfl) ?_
 show o_Gs p e below _ s₁ m 12 #[.val (.ref r0), .val (.int 0), .val (.ref r2), .val (.int 0), .val (.int 65), .val (.int 0), .unset] [(.int 0), (.ref r0)]
 obtain ⟨cl114, Ar114, sa114, na114, ha114⟩ := id T_c
 have ix114 : ¬ (0 : Int32) < 0 ∧ (0 : Int32) < (65 : Int32) := ⟨by decide, by decide⟩
 refine o_go (X0.caload hx (j := (0 : Int32)) (v := (.int (q_G (0 : Int32)))) (by rw [e0]; exact Ar114.1) (State.isArrayOf_alike hZ.alike Ar114.2.1) Ar114.2.2 (inb_of sa114 ix114) (ha114 _ ix114.1 ix114.2) (g := (mkF m 12 #[.val (.ref r0), .val (.int 0), .val (.ref r2), .val (.int 0), .val (.int 65), .val (.int 0), .unset] [(.int 0), (.ref r0)])) rfl rfl (hb hby o_d6_12)) ?_
 refine o_gi (XS.istore X0.here hx rfl (hb hby o_d6_13) rfl (l' := #[.val (.ref r0), .val (.int 0), .val (.ref r2), .val (.int 0), .val (.int 65), .val (.int 0), .val (.int (q_G (0 : Int32)))]) rfl) ?_
 refine o_gi (XS.iload X0.here hx rfl (hb hby o_d6_15) rfl) ?_
 refine o_gi (XS.sipush X0.here hx rfl (hb hby o_d6_17)) ?_
 show o_Gs p e below _ s₁ m 20 #[.val (.ref r0), .val (.int 0), .val (.ref r2), .val (.int 0), .val (.int 65), .val (.int 0), .val (.int (q_G (0 : Int32)))] [(.int 255), (.int (q_G (0 : Int32)))]
 have hd115 : (255 : Int32) < (q_G (0 : Int32)) := hG
 refine o_gi (XS.icmpNo X0.here hx rfl (hb hby o_d6_20) rfl (tlt hd115).2.2.2) ?_
 refine o_gi (XS.iload X0.here hx rfl (hb hby o_d6_23) rfl) ?_
 show o_Gs p e below _ s₁ m 25 #[.val (.ref r0), .val (.int 0), .val (.ref r2), .val (.int 0), .val (.int 65), .val (.int 0), .val (.int (q_G (0 : Int32)))] [(.int 0)]
 exact o_retI X0 hx hlk hret (hb hby o_d6_25) (by decide) (by decide) ⟨rfl, N0, e0⟩
theorem o_d5_0 : decode jdk_52_method_16_code 0 = .ok (.iload_n 2, 1) := by decide +kernel
theorem o_d5_1 : decode jdk_52_method_16_code 1 = .ok (.newarray .byte, 2) := by decide +kernel
theorem o_d5_3 : decode jdk_52_method_16_code 3 = .ok (.astore_n 3, 1) := by decide +kernel
theorem o_d5_4 : decode jdk_52_method_16_code 4 = .ok (.aload_n 0, 1) := by decide +kernel
theorem o_d5_5 : decode jdk_52_method_16_code 5 = .ok (.iload_n 1, 1) := by decide +kernel
theorem o_d5_6 : decode jdk_52_method_16_code 6 = .ok (.aload_n 3, 1) := by decide +kernel
theorem o_d5_7 : decode jdk_52_method_16_code 7 = .ok (.iconst 0, 1) := by decide +kernel
theorem o_d5_8 : decode jdk_52_method_16_code 8 = .ok (.iload_n 2, 1) := by decide +kernel
theorem o_d5_9 : decode jdk_52_method_16_code 9 = .ok (.invokestatic 115, 3) := by decide +kernel
theorem o_t24 : (Jvm.Cond.methodLink "java/lang/StringUTF16" (115 : Nat) ({ cls := "java/lang/StringUTF16", name := "compress", desc := "([CI[BII)I" } : Jvm.MethodName)) ∈ tables_1 := List.mem_of_getElem? (i := 24) rfl
theorem o_pd13 : parseMethodDescriptor "([CI[BII)I" = some ⟨[(.array .char), .int, (.array .byte), .int, .int], some .int⟩ := by decide +kernel
theorem o_t25 : (Jvm.Cond.static ({ cls := "java/lang/StringUTF16", name := "compress", desc := "([CI[BII)I" } : Jvm.MethodName)) ∈ tables_1 := List.mem_of_getElem? (i := 25) rfl
theorem o_t26 : (Jvm.Cond.code ({ cls := "java/lang/StringUTF16", name := "compress", desc := "([CI[BII)I" } : Jvm.MethodName) jdk_52_method_21_code (7 : Nat) (Option.some Jvm.ClassFile.FieldType.int)) ∈ tables_1 := List.mem_of_getElem? (i := 26) rfl
theorem o_d5_12 : decode jdk_52_method_16_code 12 = .ok (.istore 4, 2) := by decide +kernel
theorem o_d5_14 : decode jdk_52_method_16_code 14 = .ok (.iload 4, 2) := by decide +kernel
theorem o_d5_16 : decode jdk_52_method_16_code 16 = .ok (.iload_n 2, 1) := by decide +kernel
theorem o_d5_17 : decode jdk_52_method_16_code 17 = .ok (.if_icmp .eq 40, 3) := by decide +kernel
theorem o_d5_20 : decode jdk_52_method_16_code 20 = .ok (.aload_n 0, 1) := by decide +kernel
theorem o_d5_21 : decode jdk_52_method_16_code 21 = .ok (.iload_n 1, 1) := by decide +kernel
theorem o_d5_22 : decode jdk_52_method_16_code 22 = .ok (.iload_n 2, 1) := by decide +kernel
theorem o_d5_23 : decode jdk_52_method_16_code 23 = .ok (.invokestatic 119, 3) := by decide +kernel
theorem o_t36 : (Jvm.Cond.methodLink "java/lang/StringUTF16" (119 : Nat) ({ cls := "java/lang/StringUTF16", name := "toBytes", desc := "([CII)[B" } : Jvm.MethodName)) ∈ tables_1 := List.mem_of_getElem? (i := 36) rfl
theorem o_pd14 : parseMethodDescriptor "([CII)[B" = some ⟨[(.array .char), .int, .int], some (.array .byte)⟩ := by decide +kernel
theorem o_t37 : (Jvm.Cond.static ({ cls := "java/lang/StringUTF16", name := "toBytes", desc := "([CII)[B" } : Jvm.MethodName)) ∈ tables_1 := List.mem_of_getElem? (i := 37) rfl
theorem o_t38 : (Jvm.Cond.code ({ cls := "java/lang/StringUTF16", name := "toBytes", desc := "([CII)[B" } : Jvm.MethodName) jdk_52_method_14_code (5 : Nat) (Option.some (Jvm.ClassFile.FieldType.array Jvm.ClassFile.FieldType.byte))) ∈ tables_1 := List.mem_of_getElem? (i := 38) rfl
theorem o_d5_26 : decode jdk_52_method_16_code 26 = .ok (.astore 5, 2) := by decide +kernel
theorem o_d5_28 : decode jdk_52_method_16_code 28 = .ok (.aload 5, 2) := by decide +kernel
theorem o_d5_30 : decode jdk_52_method_16_code 30 = .ok (.iload 4, 2) := by decide +kernel
theorem o_d5_32 : decode jdk_52_method_16_code 32 = .ok (.invokestatic 71, 3) := by decide +kernel
theorem o_d5_35 : decode jdk_52_method_16_code 35 = .ok (.sipush 255, 3) := by decide +kernel
theorem o_d5_38 : decode jdk_52_method_16_code 38 = .ok (.if_icmp .gt 16, 3) := by decide +kernel
theorem o_d5_54 : decode jdk_52_method_16_code 54 = .ok (.aload 5, 2) := by decide +kernel
theorem o_d5_56 : decode jdk_52_method_16_code 56 = .ok (.areturn, 1) := by decide +kernel
def o_Q5_65 (Z : State) (r0 : Addr) (q_G : Int32 → Int32) (h0 : Heap) (n0 : Nat) (v : Option Value) (h : Heap) (L : List Loc) : Prop := ∃ b : Addr, ∃ kb : Int32 → Int32, v = some (.ref b) ∧ Fr n0 L ∧ Keep h0 h [] ∧ h0.size ≤ b ∧ o_Tb Z h b .byte (130 : Int32) kb ∧ o_Hd q_G kb
abbrev o_R5_65 : Room := { frames := 3, cells := 2, slots := 195, locals := 56 }
theorem o_ef5_65 (m : MethodId) (z0 : Addr) : entryFrame m #[(.ref z0), (.int 0), (.int 65)] 6 = mkF m 0 #[.val (.ref z0), .val (.int 0), .val (.int 65), .unset, .unset, .unset] [] := by first | (simp [entryFrame, mkF, argsToLocals, Value.category]; done) | rfl
set_option maxRecDepth 65536 in
set_option maxHeartbeats 40000000 in
theorem rm5_65 (l : Launch) (Z : State) (a0 : Array Value) (hw : ∀ d ∈ tables_1, d.before a0 Z = true) (ws : List Jvm.Cond) (r0 : Addr) (q_G : Int32 → Int32) (h0 : Heap) (n0 : Nat) (Z0 : n0 ≤ h0.size) (O0 : Old Z n0 h0) (T_c : o_Tb Z h0 r0 .char (65 : Int32) q_G) (hG : o_HS q_G) (S_ad : Sta Z Z.heap "java/lang/StringUTF16" "$assertionsDisabled" "Z" (.int 1)) (S_hi : Sta Z Z.heap "java/lang/StringUTF16" "HI_BYTE_SHIFT" "I" (.int 0)) (S_lo : Sta Z Z.heap "java/lang/StringUTF16" "LO_BYTE_SHIFT" "I" (.int 8)) : o_Met l Z (⟨"java/lang/StringUTF16", "compress", "([CII)[B"⟩ : MethodName) jdk_52_method_16_code 6 (some (.array .byte)) ws o_R5_65 #[(.ref r0), (.int 0), (.int 65)] h0 (o_Q5_65 Z r0 q_G h0 n0) := by
 refine o_met (plainFor_of_name o_pn0) ?_
 intro p e s m below meth c s₁ hx hby hml hown hnm hret hlk hZ e0 X0
 have N0 := Fr.nil n0
 have hml : c.maxLocals = 6 := hml
 have hown : s.vm.findClass "java/lang/StringUTF16" = some m.cls := hown
 have hret : meth.sig.returnType = (some (.array .byte)) := hret
 have hby : c.code = jdk_52_method_16_code := hby
 have hnm : meth.name = "compress" := hnm
 rw [o_ef5_65]
 refine o_gi (XS.iloadN X0.here hx rfl (hb hby o_d5_0) rfl) ?_
 show o_Gs p e below _ s₁ m 1 #[.val (.ref r0), .val (.int 0), .val (.int 65), .unset, .unset, .unset] [(.int 65)]
 obtain ⟨T116, h116, k116, X116, e116, E116, A116, st116⟩ := newP X0 hx hZ (aty := .byte) (hw _ o_t23) e0 (g := (mkF m 1 #[.val (.ref r0), .val (.int 0), .val (.int 65), .unset, .unset, .unset] [(.int 65)])) rfl (hb hby o_d5_1) rfl (by decide) (cap := 65) (by decide) (by decide) (by decide) (by decide)
 obtain ⟨b116, q116⟩ : ∃ z, z = h0.size := ⟨_, rfl⟩
 rw [← q116] at A116 st116
 have lt_b116 : h0.size ≤ b116 := Nat.le_of_eq q116.symm
 have ne_r0_b116 : r0 ≠ b116 := Nat.ne_of_lt (Nat.lt_of_lt_of_le T_c.lt lt_b116)
 have g_b116 : n0 ≤ b116 := Nat.le_trans Z0 lt_b116
 have sz_b116 : h0.size ≤ b116 := Nat.le_trans (Keep.refl h0 ([] : List Addr)).1 lt_b116
 have V116 : o_Tb Z h116 b116 .byte (65 : Int32) (fun _ => 0) := o_Tb.new A116 (by decide) rfl
 refine o_go st116 ?_
 refine o_gi (XS.astoreN X116.here hx rfl (hb hby o_d5_3) rfl rfl (l' := #[.val (.ref r0), .val (.int 0), .val (.int 65), .val (.ref b116), .unset, .unset]) rfl) ?_
 refine o_gi (XS.aloadN X116.here hx rfl (hb hby o_d5_4) rfl rfl) ?_
 refine o_gi (XS.iloadN X116.here hx rfl (hb hby o_d5_5) rfl) ?_
 refine o_gi (XS.aloadN X116.here hx rfl (hb hby o_d5_6) rfl rfl) ?_
 refine o_gi (XS.iconst X116.here hx rfl (hb hby o_d5_7)) ?_
 refine o_gi (XS.iloadN X116.here hx rfl (hb hby o_d5_8) rfl) ?_
 show o_Gs p e below _ T116 m 9 #[.val (.ref r0), .val (.int 0), .val (.int 65), .val (.ref b116), .unset, .unset] [(.int 65), (.int 0), (.ref b116), (.int 0), (.ref r0)]
 obtain ⟨_, T117, L117, X117, ⟨rfl, N117q, e117⟩, st117⟩ := o_callS X116 hx hZ hown (hw _ o_t24) (hw _ o_t25) (hw _ o_t21) (hw _ o_t26) (by decide) (as := [(.ref r0), (.int 0), (.ref b116), (.int 0), (.int 65)]) (rm6_65 l Z a0 hw [] r0 b116 q_G h116 n0 (T_c.ext E116) (o_HS0 hG)) e116 o_pd13 rfl (pc := 9) (Ls := #[.val (.ref r0), .val (.int 0), .val (.int 65), .val (.ref b116), .unset, .unset]) (rest := []) (W := 0) (by rw [hml]; rfl) (Nat.le_of_eq rfl) (by decide) (by decide) (hb hby o_d5_9) (by decide) (by decide)
 have N117 := Fr.app N0 N117q
 refine o_go st117 ?_
 refine o_gi (XS.istore X117.here hx rfl (hb hby o_d5_12) rfl (l' := #[.val (.ref r0), .val (.int 0), .val (.int 65), .val (.ref b116), .val (.int 0), .unset]) rfl) ?_
 refine o_gi (XS.iload X117.here hx rfl (hb hby o_d5_14) rfl) ?_
 refine o_gi (XS.iloadN X117.here hx rfl (hb hby o_d5_16) rfl) ?_
 show o_Gs p e below _ T117 m 17 #[.val (.ref r0), .val (.int 0), .val (.int 65), .val (.ref b116), .val (.int 0), .unset] [(.int 65), (.int 0)]
 have hd118 : ¬ ((0 : Int32) = (65 : Int32)) := (by decide)
 refine o_gi (XS.icmpNo X117.here hx rfl (hb hby o_d5_17) rfl (feq hd118).1) ?_
 refine o_gi (XS.aloadN X117.here hx rfl (hb hby o_d5_20) rfl rfl) ?_
 refine o_gi (XS.iloadN X117.here hx rfl (hb hby o_d5_21) rfl) ?_
 refine o_gi (XS.iloadN X117.here hx rfl (hb hby o_d5_22) rfl) ?_
 show o_Gs p e below _ T117 m 23 #[.val (.ref r0), .val (.int 0), .val (.int 65), .val (.ref b116), .val (.int 0), .unset] [(.int 65), (.int 0), (.ref r0)]
 obtain ⟨_, T119, L119, X119, ⟨b119, kb119, rfl, N119q, K119, lt_b119, G119_0, G119_1⟩, st119⟩ := o_callS X117 hx hZ hown (hw _ o_t36) (hw _ o_t37) (hw _ o_t21) (hw _ o_t38) (by decide) (as := [(.ref r0), (.int 0), (.int 65)]) (rm8_65 l Z a0 hw [] r0 q_G h116 n0 (Nat.le_trans Z0 E116.1) (O0.ext E116) (T_c.ext E116) S_ad S_hi S_lo) e117 o_pd14 rfl (pc := 23) (Ls := #[.val (.ref r0), .val (.int 0), .val (.int 65), .val (.ref b116), .val (.int 0), .unset]) (rest := []) (W := 0) (by rw [hml]; rfl) (Nat.le_of_eq rfl) (by decide) (by decide) (hb hby o_d5_23) (by decide) (by decide)
 have N119 := Fr.app N117 N119q
 have ne_r0_b119 : r0 ≠ b119 := Nat.ne_of_lt (Nat.lt_of_lt_of_le (T_c.ext E116).lt lt_b119)
 have ne_b116_b119 : b116 ≠ b119 := Nat.ne_of_lt (Nat.lt_of_lt_of_le V116.lt lt_b119)
 have g_b119 : n0 ≤ b119 := Nat.le_trans (Nat.le_trans Z0 E116.1) lt_b119
 have sz_b119 : h0.size ≤ b119 := Nat.le_trans ((Keep.refl h0 ([] : List Addr)).ext E116).1 lt_b119
 refine o_go st119 ?_
 refine o_gi (XS.astore X119.here hx rfl (hb hby o_d5_26) rfl rfl (l' := #[.val (.ref r0), .val (.int 0), .val (.int 65), .val (.ref b116), .val (.int 0), .val (.ref b119)]) rfl) ?_
 refine o_gi (XS.aload X119.here hx rfl (hb hby o_d5_28) rfl rfl) ?_
 refine o_gi (XS.iload X119.here hx rfl (hb hby o_d5_30) rfl) ?_
 show o_Gs p e below _ T119 m 32 #[.val (.ref r0), .val (.int 0), .val (.int 65), .val (.ref b116), .val (.int 0), .val (.ref b119)] [(.int 0), (.ref b119)]
 obtain ⟨_, T120, L120, X120, ⟨rfl, N120q, e120⟩, st120⟩ := o_callS X119 hx hZ hown (hw _ o_t52) (hw _ o_t53) (hw _ o_t21) (hw _ o_t54) (by decide) (as := [(.ref b119), (.int 0)]) (rm12 l Z a0 hw [] b119 (0 : Int32) (130 : Int32) kb119 T119.heap n0 ((O0.ext E116).keep K119 all0) G119_0 (by decide) S_ad S_hi S_lo) rfl o_pd0 rfl (pc := 32) (Ls := #[.val (.ref r0), .val (.int 0), .val (.int 65), .val (.ref b116), .val (.int 0), .val (.ref b119)]) (rest := []) (W := 0) (by rw [hml]; rfl) (Nat.le_of_eq rfl) (by decide) (by decide) (hb hby o_d5_32) (by decide) (by decide)
 have N120 := Fr.app N119 N120q
 refine o_go st120 ?_
 refine o_gi (XS.sipush X120.here hx rfl (hb hby o_d5_35)) ?_
 show o_Gs p e below _ T120 m 38 #[.val (.ref r0), .val (.int 0), .val (.int 65), .val (.ref b116), .val (.int 0), .val (.ref b119)] [(.int 255), (.int (o_f12 (0 : Int32) kb119))]
 have hd121 : (255 : Int32) < (o_f12 (0 : Int32) kb119) := (o_g0 hG G119_1)
 refine o_gi (XS.icmpYes X120.here hx rfl (pc0 := 38) (pc' := 54) rfl (hb hby o_d5_38) rfl (tlt hd121).2.2.1 (by decide) (by decide)) ?_
 refine o_gi (XS.aload X120.here hx rfl (hb hby o_d5_54) rfl rfl) ?_
 show o_Gs p e below _ T120 m 56 #[.val (.ref r0), .val (.int 0), .val (.int 65), .val (.ref b116), .val (.int 0), .val (.ref b119)] [(.ref b119)]
 exact o_retR X120 hx hlk hret rfl rfl (hb hby o_d5_56) (by decide) (by decide) (by show o_Q5_65 Z r0 q_G h0 n0 _ T120.heap _; rw [e120]; exact ⟨_, _, rfl, N120, (((Keep.refl h0 ([] : List Addr)).ext E116).trans K119 (fun x hx => nomatch hx)), sz_b119, G119_0, G119_1⟩)
theorem o_d7_0 : decode jdk_52_method_15_code 0 = .ok (.iload_n 1, 1) := by decide +kernel
theorem o_d7_1 : decode jdk_52_method_15_code 1 = .ok (.aload_n 0, 1) := by decide +kernel
theorem o_d7_2 : decode jdk_52_method_15_code 2 = .ok (.arraylength, 1) := by decide +kernel
theorem o_d7_3 : decode jdk_52_method_15_code 3 = .ok (.isub, 1) := by decide +kernel
theorem o_d7_4 : decode jdk_52_method_15_code 4 = .ok (.bipush 31, 2) := by decide +kernel
theorem o_d7_6 : decode jdk_52_method_15_code 6 = .ok (.iushr, 1) := by decide +kernel
theorem o_d7_7 : decode jdk_52_method_15_code 7 = .ok (.i2b, 1) := by decide +kernel
theorem o_d7_8 : decode jdk_52_method_15_code 8 = .ok (.ireturn, 1) := by decide +kernel
def o_Q7_65 (r0 : Addr) (q_F : Int32 → Int32) (h0 : Heap) (n0 : Nat) (v : Option Value) (h : Heap) (L : List Loc) : Prop := v = some (.int 1) ∧ Fr n0 L ∧ h = h0
abbrev o_R7_65 : Room := { frames := 0, cells := 0, slots := 0, locals := 0 }
theorem o_ef7_65 (m : MethodId) (z0 : Addr) : entryFrame m #[(.ref z0), (.int 65)] 2 = mkF m 0 #[.val (.ref z0), .val (.int 65)] [] := by first | (simp [entryFrame, mkF, argsToLocals, Value.category]; done) | rfl
set_option maxRecDepth 65536 in
set_option maxHeartbeats 40000000 in
theorem rm7_65 (l : Launch) (Z : State) (a0 : Array Value) (hw : ∀ d ∈ tables_1, d.before a0 Z = true) (ws : List Jvm.Cond) (r0 : Addr) (q_F : Int32 → Int32) (h0 : Heap) (n0 : Nat) (T_b : o_Tb Z h0 r0 .byte (130 : Int32) q_F) : o_Met l Z (⟨"java/lang/StringUTF16", "coderFromArrayLen", "([BI)B"⟩ : MethodName) jdk_52_method_15_code 2 (some .byte) ws o_R7_65 #[(.ref r0), (.int 65)] h0 (o_Q7_65 r0 q_F h0 n0) := by
 refine o_met (plainFor_of_name o_pn0) ?_
 intro p e s m below meth c s₁ hx hby hml hown hnm hret hlk hZ e0 X0
 have N0 := Fr.nil n0
 have hml : c.maxLocals = 2 := hml
 have hown : s.vm.findClass "java/lang/StringUTF16" = some m.cls := hown
 have hret : meth.sig.returnType = (some .byte) := hret
 have hby : c.code = jdk_52_method_15_code := hby
 have hnm : meth.name = "coderFromArrayLen" := hnm
 rw [o_ef7_65]
 refine o_gi (XS.iloadN X0.here hx rfl (hb hby o_d7_0) rfl) ?_
 refine o_gi (XS.aloadN X0.here hx rfl (hb hby o_d7_1) rfl rfl) ?_
 show o_Gs p e below _ s₁ m 2 #[.val (.ref r0), .val (.int 65)] [(.ref r0), (.int 65)]
 obtain ⟨cl122, Ar122, sa122, na122, ha122⟩ := id T_b
 refine o_go (X0.arraylength hx (by rw [e0]; exact Ar122.1) (State.isArrayOf_alike hZ.alike Ar122.2.1) (g := (mkF m 2 #[.val (.ref r0), .val (.int 65)] [(.ref r0), (.int 65)])) rfl rfl (hb hby o_d7_2)) ?_
 rw [len_of sa122 na122]
 show o_Gs p e below _ s₁ m 3 #[.val (.ref r0), .val (.int 65)] [(.int 130), (.int 65)]
 refine o_gi (XS.isub X0.here hx rfl (hb hby o_d7_3) rfl) ?_
 show o_Gs p e below _ s₁ m 4 #[.val (.ref r0), .val (.int 65)] [(.int ((65 : Int32) - (130 : Int32)))]
 rw [show ((65 : Int32) - (130 : Int32)) = (-65 : Int32) from by decide]
 refine o_gi (XS.bipush X0.here hx rfl (hb hby o_d7_4)) ?_
 show o_Gs p e below _ s₁ m 6 #[.val (.ref r0), .val (.int 65)] [(.int 31), (.int (-65 : Int32))]
 refine o_gi (XS.iushr X0.here hx rfl (hb hby o_d7_6) rfl) ?_
 show o_Gs p e below _ s₁ m 7 #[.val (.ref r0), .val (.int 65)] [(.int (((-65 : Int32).toUInt32 >>> ((31 : Int32) &&& 31).toUInt32).toInt32))]
 rw [show (((-65 : Int32).toUInt32 >>> ((31 : Int32) &&& 31).toUInt32).toInt32) = (1 : Int32) from by decide]
 show o_Gs p e below _ s₁ m 7 #[.val (.ref r0), .val (.int 65)] [(.int 1)]
 refine o_gi (XS.i2b X0.here hx rfl (hb hby o_d7_7) rfl) ?_
 show o_Gs p e below _ s₁ m 8 #[.val (.ref r0), .val (.int 65)] [(.int ((1 : Int32).toInt8.toInt32))]
 rw [show ((1 : Int32).toInt8.toInt32) = (1 : Int32) from by decide]
 show o_Gs p e below _ s₁ m 8 #[.val (.ref r0), .val (.int 65)] [(.int 1)]
 exact o_retN X0 hx hlk hret (by simp) (z' := (1 : Int32)) rfl (hb hby o_d7_8) (by decide) (by decide) ⟨rfl, N0, e0⟩
theorem o_d3_0 : decode jdk_42_method_149_code 0 = .ok (.aload_n 0, 1) := by decide +kernel
theorem o_d3_1 : decode jdk_42_method_149_code 1 = .ok (.invokespecial 1, 3) := by decide +kernel
theorem o_t15 : (Jvm.Cond.methodLink "java/lang/String" (1 : Nat) ({ cls := "java/lang/Object", name := "<init>", desc := "()V" } : Jvm.MethodName)) ∈ tables_1 := List.mem_of_getElem? (i := 15) rfl
theorem o_t16 : (Jvm.Cond.instanceMethod ({ cls := "java/lang/Object", name := "<init>", desc := "()V" } : Jvm.MethodName)) ∈ tables_1 := List.mem_of_getElem? (i := 16) rfl
theorem o_t17 : (Jvm.Cond.code ({ cls := "java/lang/Object", name := "<init>", desc := "()V" } : Jvm.MethodName) object_method_1_code (1 : Nat) (Option.none : Option Jvm.ClassFile.FieldType)) ∈ tables_1 := List.mem_of_getElem? (i := 17) rfl
theorem o_d3_4 : decode jdk_42_method_149_code 4 = .ok (.iload_n 3, 1) := by decide +kernel
theorem o_d3_5 : decode jdk_42_method_149_code 5 = .ok (.ifCond .ne 22, 3) := by decide +kernel
theorem o_d3_27 : decode jdk_42_method_149_code 27 = .ok (.getstatic 38, 3) := by decide +kernel
theorem o_d3_30 : decode jdk_42_method_149_code 30 = .ok (.ifCond .eq 28, 3) := by decide +kernel
theorem o_d3_33 : decode jdk_42_method_149_code 33 = .ok (.aload_n 1, 1) := by decide +kernel
theorem o_d3_34 : decode jdk_42_method_149_code 34 = .ok (.iload_n 2, 1) := by decide +kernel
theorem o_d3_35 : decode jdk_42_method_149_code 35 = .ok (.iload_n 3, 1) := by decide +kernel
theorem o_d3_36 : decode jdk_42_method_149_code 36 = .ok (.invokestatic 177, 3) := by decide +kernel
theorem o_t19 : (Jvm.Cond.methodLink "java/lang/String" (177 : Nat) ({ cls := "java/lang/StringUTF16", name := "compress", desc := "([CII)[B" } : Jvm.MethodName)) ∈ tables_1 := List.mem_of_getElem? (i := 19) rfl
theorem o_t20 : (Jvm.Cond.static ({ cls := "java/lang/StringUTF16", name := "compress", desc := "([CII)[B" } : Jvm.MethodName)) ∈ tables_1 := List.mem_of_getElem? (i := 20) rfl
theorem o_t22 : (Jvm.Cond.code ({ cls := "java/lang/StringUTF16", name := "compress", desc := "([CII)[B" } : Jvm.MethodName) jdk_52_method_16_code (6 : Nat) (Option.some (Jvm.ClassFile.FieldType.array Jvm.ClassFile.FieldType.byte))) ∈ tables_1 := List.mem_of_getElem? (i := 22) rfl
theorem o_d3_39 : decode jdk_42_method_149_code 39 = .ok (.astore 5, 2) := by decide +kernel
theorem o_d3_41 : decode jdk_42_method_149_code 41 = .ok (.aload_n 0, 1) := by decide +kernel
theorem o_d3_42 : decode jdk_42_method_149_code 42 = .ok (.aload 5, 2) := by decide +kernel
theorem o_d3_44 : decode jdk_42_method_149_code 44 = .ok (.iload_n 3, 1) := by decide +kernel
theorem o_d3_45 : decode jdk_42_method_149_code 45 = .ok (.invokestatic 47, 3) := by decide +kernel
theorem o_t27 : (Jvm.Cond.methodLink "java/lang/String" (47 : Nat) ({ cls := "java/lang/StringUTF16", name := "coderFromArrayLen", desc := "([BI)B" } : Jvm.MethodName)) ∈ tables_1 := List.mem_of_getElem? (i := 27) rfl
theorem o_pd15 : parseMethodDescriptor "([BI)B" = some ⟨[(.array .byte), .int], some .byte⟩ := by decide +kernel
theorem o_t28 : (Jvm.Cond.static ({ cls := "java/lang/StringUTF16", name := "coderFromArrayLen", desc := "([BI)B" } : Jvm.MethodName)) ∈ tables_1 := List.mem_of_getElem? (i := 28) rfl
theorem o_t29 : (Jvm.Cond.code ({ cls := "java/lang/StringUTF16", name := "coderFromArrayLen", desc := "([BI)B" } : Jvm.MethodName) jdk_52_method_15_code (2 : Nat) (Option.some Jvm.ClassFile.FieldType.byte)) ∈ tables_1 := List.mem_of_getElem? (i := 29) rfl
theorem o_d3_48 : decode jdk_42_method_149_code 48 = .ok (.putfield 15, 3) := by decide +kernel
theorem o_t31 : (Jvm.Cond.laysFinal "java/lang/String" "java/lang/String" "coder" "B") ∈ tables_1 := List.mem_of_getElem? (i := 31) rfl
theorem o_t6 : (Jvm.Cond.instantiable "java/lang/String" (4 : Nat)) ∈ tables_1 := List.mem_of_getElem? (i := 6) rfl
theorem o_d3_51 : decode jdk_42_method_149_code 51 = .ok (.aload_n 0, 1) := by decide +kernel
theorem o_d3_52 : decode jdk_42_method_149_code 52 = .ok (.aload 5, 2) := by decide +kernel
theorem o_d3_54 : decode jdk_42_method_149_code 54 = .ok (.putfield 9, 3) := by decide +kernel
theorem o_t33 : (Jvm.Cond.laysFinal "java/lang/String" "java/lang/String" "value" "[B") ∈ tables_1 := List.mem_of_getElem? (i := 33) rfl
theorem o_d3_57 : decode jdk_42_method_149_code 57 = .ok (.return_, 1) := by decide +kernel
def o_Q3_65 (Z : State) (r0 : Addr) (r1 : Addr) (q_G : Int32 → Int32) (z_cs : Int32) (h0 : Heap) (n0 : Nat) (v : Option Value) (h : Heap) (L : List Loc) : Prop := ∃ b : Addr, ∃ kb : Int32 → Int32, v = none ∧ Fr n0 L ∧ Keep h0 h [r0] ∧ h0.size ≤ b ∧ Exa Z h r0 "java/lang/String" ∧ Fld Z h r0 "java/lang/String" "coder" "B" (.int 1) ∧ Fld Z h r0 "java/lang/String" "value" "[B" (.ref b) ∧ o_Tb Z h b .byte (130 : Int32) kb ∧ o_Hd q_G kb
abbrev o_R3_65 : Room := { frames := 4, cells := 2, slots := 195, locals := 73 }
theorem o_ef3_65 (m : MethodId) (z0 : Addr) (z1 : Addr) : entryFrame m #[(.ref z0), (.ref z1), (.int 0), (.int 65), .null] 6 = mkF m 0 #[.val (.ref z0), .val (.ref z1), .val (.int 0), .val (.int 65), .val .null, .unset] [] := by first | (simp [entryFrame, mkF, argsToLocals, Value.category]; done) | rfl
set_option maxRecDepth 65536 in
set_option maxHeartbeats 40000000 in
theorem rm3_65 (l : Launch) (Z : State) (a0 : Array Value) (hw : ∀ d ∈ tables_1, d.before a0 Z = true) (ws : List Jvm.Cond) (r0 : Addr) (r1 : Addr) (q_G : Int32 → Int32) (z_cs : Int32) (h0 : Heap) (n0 : Nat) (Z0 : n0 ≤ h0.size) (g_r0 : n0 ≤ r0) (O0 : Old Z n0 h0) (z_CS : ¬ z_cs = 0) (E_r0 : Exa Z h0 r0 "java/lang/String") (F_v : Fld Z h0 r0 "java/lang/String" "value" "[B" .null) (F_c : Fld Z h0 r0 "java/lang/String" "coder" "B" (.int 0)) (T_c : o_Tb Z h0 r1 .char (65 : Int32) q_G) (hG : o_HS q_G) (ne_r0_r1 : r0 ≠ r1) (S_z_cs : Sta Z Z.heap "java/lang/String" "COMPACT_STRINGS" "Z" (.int z_cs)) (S_ad : Sta Z Z.heap "java/lang/StringUTF16" "$assertionsDisabled" "Z" (.int 1)) (S_hi : Sta Z Z.heap "java/lang/StringUTF16" "HI_BYTE_SHIFT" "I" (.int 0)) (S_lo : Sta Z Z.heap "java/lang/StringUTF16" "LO_BYTE_SHIFT" "I" (.int 8)) : o_Met l Z (⟨"java/lang/String", "<init>", "([CIILjava/lang/Void;)V"⟩ : MethodName) jdk_42_method_149_code 6 none ws o_R3_65 #[(.ref r0), (.ref r1), (.int 0), (.int 65), .null] h0 (o_Q3_65 Z r0 r1 q_G z_cs h0 n0) := by
 refine o_met (plainFor_of_name o_pn4) ?_
 intro p e s m below meth c s₁ hx hby hml hown hnm hret hlk hZ e0 X0
 have N0 := Fr.nil n0
 have hml : c.maxLocals = 6 := hml
 have hown : s.vm.findClass "java/lang/String" = some m.cls := hown
 have hret : meth.sig.returnType = none := hret
 have hby : c.code = jdk_42_method_149_code := hby
 have hnm : meth.name = "<init>" := hnm
 rw [o_ef3_65]
 refine o_gi (XS.aloadN X0.here hx rfl (hb hby o_d3_0) rfl rfl) ?_
 show o_Gs p e below _ s₁ m 1 #[.val (.ref r0), .val (.ref r1), .val (.int 0), .val (.int 65), .val .null, .unset] [(.ref r0)]
 obtain ⟨T123, X123, e123, st123⟩ := initO X0 hx hZ hown (hw _ o_t15) (hw _ o_t16) (hw _ o_t17) e0 (g := (mkF m 1 #[.val (.ref r0), .val (.ref r1), .val (.int 0), .val (.int 65), .val .null, .unset] [(.ref r0)])) rfl (by rw [hml]; rfl) rfl (hb hby o_d3_1) (by decide) (W := 0) (by show 2 * 0 + _ ≤ _; exact Nat.le_of_eq rfl) (by decide)
 refine o_go st123 ?_
 refine o_gi (XS.iloadN X123.here hx rfl (hb hby o_d3_4) rfl) ?_
 show o_Gs p e below _ T123 m 5 #[.val (.ref r0), .val (.ref r1), .val (.int 0), .val (.int 65), .val .null, .unset] [(.int 65)]
 have hd124 : ¬ ((65 : Int32) = (0 : Int32)) := (by decide)
 refine o_gi (XS.ifYes X123.here hx rfl (pc0 := 5) (pc' := 27) rfl (hb hby o_d3_5) rfl ((if0 _ _).trans (feq hd124).2) (by decide) (by decide)) ?_
 show o_Gs p e below _ T123 m 27 #[.val (.ref r0), .val (.ref r1), .val (.int 0), .val (.int 65), .val .null, .unset] []
 obtain ⟨T125, X125, e125, st125⟩ := getS2 X123 hx hZ hown (host := "") (Or.inl (hw _ o_t18)) Via.refl e123 (S_z_cs.ext O0.2) (g := (mkF m 27 #[.val (.ref r0), .val (.ref r1), .val (.int 0), .val (.int 65), .val .null, .unset] [])) rfl (hb hby o_d3_27)
 refine o_go st125 ?_
 show o_Gs p e below _ T125 m 30 #[.val (.ref r0), .val (.ref r1), .val (.int 0), .val (.int 65), .val .null, .unset] [(.int z_cs)]
 have hd126 : ¬ (z_cs = (0 : Int32)) := z_CS
 refine o_gi (XS.ifNo X125.here hx rfl (hb hby o_d3_30) rfl ((if0 _ _).trans (feq hd126).1)) ?_
 refine o_gi (XS.aloadN X125.here hx rfl (hb hby o_d3_33) rfl rfl) ?_
 refine o_gi (XS.iloadN X125.here hx rfl (hb hby o_d3_34) rfl) ?_
 refine o_gi (XS.iloadN X125.here hx rfl (hb hby o_d3_35) rfl) ?_
 show o_Gs p e below _ T125 m 36 #[.val (.ref r0), .val (.ref r1), .val (.int 0), .val (.int 65), .val .null, .unset] [(.int 65), (.int 0), (.ref r1)]
 obtain ⟨_, T127, L127, X127, ⟨b127, kb127, rfl, N127q, K127, lt_b127, G127_0, G127_1⟩, st127⟩ := o_callS X125 hx hZ hown (hw _ o_t19) (hw _ o_t20) (hw _ o_t21) (hw _ o_t22) (by decide) (as := [(.ref r1), (.int 0), (.int 65)]) (rm5_65 l Z a0 hw [] r1 q_G h0 n0 Z0 O0 T_c hG S_ad S_hi S_lo) e125 o_pd14 rfl (pc := 36) (Ls := #[.val (.ref r0), .val (.ref r1), .val (.int 0), .val (.int 65), .val .null, .unset]) (rest := []) (W := 0) (by rw [hml]; rfl) (Nat.le_of_eq rfl) (by decide) (by decide) (hb hby o_d3_36) (by decide) (by decide)
 have N127 := Fr.app N0 N127q
 have ne_r0_b127 : r0 ≠ b127 := Nat.ne_of_lt (Nat.lt_of_lt_of_le E_r0.lt lt_b127)
 have ne_r1_b127 : r1 ≠ b127 := Nat.ne_of_lt (Nat.lt_of_lt_of_le T_c.lt lt_b127)
 have g_b127 : n0 ≤ b127 := Nat.le_trans Z0 lt_b127
 have sz_b127 : h0.size ≤ b127 := Nat.le_trans (Keep.refl h0 ([r0] : List Addr)).1 lt_b127
 refine o_go st127 ?_
 refine o_gi (XS.astore X127.here hx rfl (hb hby o_d3_39) rfl rfl (l' := #[.val (.ref r0), .val (.ref r1), .val (.int 0), .val (.int 65), .val .null, .val (.ref b127)]) rfl) ?_
 refine o_gi (XS.aloadN X127.here hx rfl (hb hby o_d3_41) rfl rfl) ?_
 refine o_gi (XS.aload X127.here hx rfl (hb hby o_d3_42) rfl rfl) ?_
 refine o_gi (XS.iloadN X127.here hx rfl (hb hby o_d3_44) rfl) ?_
 show o_Gs p e below _ T127 m 45 #[.val (.ref r0), .val (.ref r1), .val (.int 0), .val (.int 65), .val .null, .val (.ref b127)] [(.int 65), (.ref b127), (.ref r0)]
 obtain ⟨_, T128, L128, X128, ⟨rfl, N128q, e128⟩, st128⟩ := o_callS X127 hx hZ hown (hw _ o_t27) (hw _ o_t28) (hw _ o_t21) (hw _ o_t29) (by decide) (as := [(.ref b127), (.int 65)]) (rm7_65 l Z a0 hw [] b127 kb127 T127.heap n0 G127_0) rfl o_pd15 rfl (pc := 45) (Ls := #[.val (.ref r0), .val (.ref r1), .val (.int 0), .val (.int 65), .val .null, .val (.ref b127)]) (rest := [(.ref r0)]) (W := 1) (by rw [hml]; rfl) (Nat.le_of_eq rfl) (by decide) (by decide) (hb hby o_d3_45) (by decide) (by decide)
 have N128 := Fr.app N127 N128q
 refine o_go st128 ?_
 show o_Gs p e below _ T128 m 48 #[.val (.ref r0), .val (.ref r1), .val (.int 0), .val (.int 65), .val .null, .val (.ref b127)] [(.int 1), (.ref r0)]
 have ff130 : Fld Z T127.heap r0 "java/lang/String" "coder" "B" (.int 0) := (F_c.keep K127 List.not_mem_nil)
 obtain ⟨T129, h129, X129, e129, W129, st129⟩ := putFN X128 hx hZ hown (hw _ o_t30) Via.refl e128 ff130 (E_r0.keep K127) (Or.inr ⟨(hw _ o_t31), rfl, hnm⟩) (hw _ o_t6) (ty := .byte) (v' := .int 1) (by decide) rfl (by decide) (g := (mkF m 48 #[.val (.ref r0), .val (.ref r1), .val (.int 0), .val (.int 65), .val .null, .val (.ref b127)] [(.int 1), (.ref r0)])) rfl rfl (hb hby o_d3_48)
 have N129 := Fr.snoc X129 N128 g_r0
 have Fw129 := ff130.same W129
 refine o_go st129 ?_
 refine o_gi (XS.aloadN X129.here hx rfl (hb hby o_d3_51) rfl rfl) ?_
 refine o_gi (XS.aload X129.here hx rfl (hb hby o_d3_52) rfl rfl) ?_
 show o_Gs p e below _ T129 m 54 #[.val (.ref r0), .val (.ref r1), .val (.int 0), .val (.int 65), .val .null, .val (.ref b127)] [(.ref b127), (.ref r0)]
 have ff132 : Fld Z h129 r0 "java/lang/String" "value" "[B" .null := ((F_v.keep K127 List.not_mem_nil).other W129 (Or.inr (slot_ne (Or.inr (hw _ o_t33)) (Or.inr (hw _ o_t31)) (by decide) (t := (.array .byte)) (t' := .byte) (by decide) (by decide))))
 obtain ⟨T131, h131, X131, e131, W131, st131⟩ := putF X129 hx hZ hown (host := "") (Or.inl (hw _ o_t32)) Via.refl e129 ff132 ((E_r0.keep K127).wr W129) (Or.inr ⟨(hw _ o_t33), rfl, hnm⟩) (hw _ o_t6) (ty := (.array .byte)) (by decide) rfl rfl (g := (mkF m 54 #[.val (.ref r0), .val (.ref r1), .val (.int 0), .val (.int 65), .val .null, .val (.ref b127)] [(.ref b127), (.ref r0)])) rfl rfl (hb hby o_d3_54)
 have N131 := Fr.snoc X131 N129 g_r0
 have Fw131 := ff132.same W131
 refine o_go st131 ?_
 show o_Gs p e below _ T131 m 57 #[.val (.ref r0), .val (.ref r1), .val (.int 0), .val (.int 65), .val .null, .val (.ref b127)] []
 have ff133 : Exa Z h131 r0 "java/lang/String" := (((E_r0.keep K127).wr W129).wr W131)
 have ff134 : Fld Z h131 r0 "java/lang/String" "coder" "B" (.int 1) := (Fw129.other W131 (Or.inr (slot_ne (Or.inr (hw _ o_t31)) (Or.inr (hw _ o_t33)) (by decide) (t := .byte) (t' := (.array .byte)) (by decide) (by decide))))
 have ff135 : o_Tb Z h131 b127 .byte (130 : Int32) kb127 := ((G127_0.other W129 (Ne.symm ne_r0_b127)).other W131 (Ne.symm ne_r0_b127))
 exact o_ret0 X131 hx hlk hret (hb hby o_d3_57) (by decide) (by decide) (by show o_Q3_65 Z r0 r1 q_G z_cs h0 n0 _ T131.heap _; rw [e131]; exact ⟨_, _, rfl, N131, ((((Keep.refl h0 ([r0] : List Addr)).trans K127 (fun x hx => nomatch hx)).wr W129 (Or.inl (List.mem_of_getElem? (i := 0) rfl))).wr W131 (Or.inl (List.mem_of_getElem? (i := 0) rfl))), sz_b127, ff133, ff134, Fw131, ff135, G127_1⟩)
theorem o_d2_0 : decode jdk_42_method_3_code 0 = .ok (.aload_n 0, 1) := by decide +kernel
theorem o_d2_1 : decode jdk_42_method_3_code 1 = .ok (.aload_n 1, 1) := by decide +kernel
theorem o_d2_2 : decode jdk_42_method_3_code 2 = .ok (.iconst 0, 1) := by decide +kernel
theorem o_d2_3 : decode jdk_42_method_3_code 3 = .ok (.aload_n 1, 1) := by decide +kernel
theorem o_d2_4 : decode jdk_42_method_3_code 4 = .ok (.arraylength, 1) := by decide +kernel
theorem o_d2_5 : decode jdk_42_method_3_code 5 = .ok (.aconst_null, 1) := by decide +kernel
theorem o_d2_6 : decode jdk_42_method_3_code 6 = .ok (.invokespecial 27, 3) := by decide +kernel
theorem o_t11 : (Jvm.Cond.methodLink "java/lang/String" (27 : Nat) ({ cls := "java/lang/String", name := "<init>", desc := "([CIILjava/lang/Void;)V" } : Jvm.MethodName)) ∈ tables_1 := List.mem_of_getElem? (i := 11) rfl
theorem o_pd16 : parseMethodDescriptor "([CIILjava/lang/Void;)V" = some ⟨[(.array .char), .int, .int, (.object "java/lang/Void")], none⟩ := by decide +kernel
theorem o_t12 : (Jvm.Cond.instanceMethod ({ cls := "java/lang/String", name := "<init>", desc := "([CIILjava/lang/Void;)V" } : Jvm.MethodName)) ∈ tables_1 := List.mem_of_getElem? (i := 12) rfl
theorem o_t14 : (Jvm.Cond.code ({ cls := "java/lang/String", name := "<init>", desc := "([CIILjava/lang/Void;)V" } : Jvm.MethodName) jdk_42_method_149_code (6 : Nat) (Option.none : Option Jvm.ClassFile.FieldType)) ∈ tables_1 := List.mem_of_getElem? (i := 14) rfl
theorem o_d2_9 : decode jdk_42_method_3_code 9 = .ok (.return_, 1) := by decide +kernel
def o_Q2_65 (Z : State) (r0 : Addr) (r1 : Addr) (q_G : Int32 → Int32) (z_cs : Int32) (h0 : Heap) (n0 : Nat) (v : Option Value) (h : Heap) (L : List Loc) : Prop := ∃ b : Addr, ∃ kb : Int32 → Int32, v = none ∧ Fr n0 L ∧ Keep h0 h [r0] ∧ h0.size ≤ b ∧ Exa Z h r0 "java/lang/String" ∧ Fld Z h r0 "java/lang/String" "coder" "B" (.int 1) ∧ Fld Z h r0 "java/lang/String" "value" "[B" (.ref b) ∧ o_Tb Z h b .byte (130 : Int32) kb ∧ o_Hd q_G kb
abbrev o_R2_65 : Room := { frames := 5, cells := 2, slots := 195, locals := 90 }
theorem o_ef2_65 (m : MethodId) (z0 : Addr) (z1 : Addr) : entryFrame m #[(.ref z0), (.ref z1)] 2 = mkF m 0 #[.val (.ref z0), .val (.ref z1)] [] := by first | (simp [entryFrame, mkF, argsToLocals, Value.category]; done) | rfl
set_option maxRecDepth 65536 in
set_option maxHeartbeats 40000000 in
theorem rm2_65 (l : Launch) (Z : State) (a0 : Array Value) (hw : ∀ d ∈ tables_1, d.before a0 Z = true) (ws : List Jvm.Cond) (r0 : Addr) (r1 : Addr) (q_G : Int32 → Int32) (z_cs : Int32) (h0 : Heap) (n0 : Nat) (Z0 : n0 ≤ h0.size) (g_r0 : n0 ≤ r0) (O0 : Old Z n0 h0) (z_CS : ¬ z_cs = 0) (E_r0 : Exa Z h0 r0 "java/lang/String") (F_v : Fld Z h0 r0 "java/lang/String" "value" "[B" .null) (F_c : Fld Z h0 r0 "java/lang/String" "coder" "B" (.int 0)) (T_c : o_Tb Z h0 r1 .char (65 : Int32) q_G) (hG : o_HS q_G) (ne_r0_r1 : r0 ≠ r1) (S_z_cs : Sta Z Z.heap "java/lang/String" "COMPACT_STRINGS" "Z" (.int z_cs)) (S_ad : Sta Z Z.heap "java/lang/StringUTF16" "$assertionsDisabled" "Z" (.int 1)) (S_hi : Sta Z Z.heap "java/lang/StringUTF16" "HI_BYTE_SHIFT" "I" (.int 0)) (S_lo : Sta Z Z.heap "java/lang/StringUTF16" "LO_BYTE_SHIFT" "I" (.int 8)) : o_Met l Z (⟨"java/lang/String", "<init>", "([C)V"⟩ : MethodName) jdk_42_method_3_code 2 none ws o_R2_65 #[(.ref r0), (.ref r1)] h0 (o_Q2_65 Z r0 r1 q_G z_cs h0 n0) := by
 refine o_met (plainFor_of_name o_pn4) ?_
 intro p e s m below meth c s₁ hx hby hml hown hnm hret hlk hZ e0 X0
 have N0 := Fr.nil n0
 have hml : c.maxLocals = 2 := hml
 have hown : s.vm.findClass "java/lang/String" = some m.cls := hown
 have hret : meth.sig.returnType = none := hret
 have hby : c.code = jdk_42_method_3_code := hby
 have hnm : meth.name = "<init>" := hnm
 rw [o_ef2_65]
 refine o_gi (XS.aloadN X0.here hx rfl (hb hby o_d2_0) rfl rfl) ?_
 refine o_gi (XS.aloadN X0.here hx rfl (hb hby o_d2_1) rfl rfl) ?_
 refine o_gi (XS.iconst X0.here hx rfl (hb hby o_d2_2)) ?_
 refine o_gi (XS.aloadN X0.here hx rfl (hb hby o_d2_3) rfl rfl) ?_
 show o_Gs p e below _ s₁ m 4 #[.val (.ref r0), .val (.ref r1)] [(.ref r1), (.int 0), (.ref r1), (.ref r0)]
 obtain ⟨cl136, Ar136, sa136, na136, ha136⟩ := id T_c
 refine o_go (X0.arraylength hx (by rw [e0]; exact Ar136.1) (State.isArrayOf_alike hZ.alike Ar136.2.1) (g := (mkF m 4 #[.val (.ref r0), .val (.ref r1)] [(.ref r1), (.int 0), (.ref r1), (.ref r0)])) rfl rfl (hb hby o_d2_4)) ?_
 rw [len_of sa136 na136]
 refine o_gi (XS.aconstNull X0.here hx rfl (hb hby o_d2_5)) ?_
 show o_Gs p e below _ s₁ m 6 #[.val (.ref r0), .val (.ref r1)] [.null, (.int 65), (.int 0), (.ref r1), (.ref r0)]
 obtain ⟨_, T137, L137, X137, ⟨b137, kb137, rfl, N137q, K137, lt_b137, G137_0, G137_1, G137_2, G137_3, G137_4⟩, st137⟩ := o_callI X0 hx hZ rfl hown (hw _ o_t11) (hw _ o_t12) (hw _ o_t7) (hw _ o_t14) (by decide) (b := r0) (as := [(.ref r1), (.int 0), (.int 65), .null]) (rm3_65 l Z a0 hw [] r0 r1 q_G z_cs h0 n0 Z0 g_r0 O0 z_CS E_r0 F_v F_c T_c hG ne_r0_r1 S_z_cs S_ad S_hi S_lo) e0 o_pd16 rfl (pc := 6) (Ls := #[.val (.ref r0), .val (.ref r1)]) (rest := []) (W := 0) (by rw [hml]; rfl) (Nat.le_of_eq rfl) (by decide) (by decide) (hb hby o_d2_6) (by decide) (by decide)
 have N137 := Fr.app N0 N137q
 have ne_r0_b137 : r0 ≠ b137 := Nat.ne_of_lt (Nat.lt_of_lt_of_le E_r0.lt lt_b137)
 have ne_r1_b137 : r1 ≠ b137 := Nat.ne_of_lt (Nat.lt_of_lt_of_le T_c.lt lt_b137)
 have g_b137 : n0 ≤ b137 := Nat.le_trans Z0 lt_b137
 have sz_b137 : h0.size ≤ b137 := Nat.le_trans (Keep.refl h0 ([r0] : List Addr)).1 lt_b137
 refine o_go st137 ?_
 show o_Gs p e below _ T137 m 9 #[.val (.ref r0), .val (.ref r1)] []
 exact o_ret0 X137 hx hlk hret (hb hby o_d2_9) (by decide) (by decide) (⟨_, _, rfl, N137, ((Keep.refl h0 ([r0] : List Addr)).trans K137 (fun x hx => by cases List.mem_singleton.mp hx; exact Or.inl (List.mem_of_getElem? (i := 0) rfl))), sz_b137, G137_0, G137_1, G137_2, G137_3, G137_4⟩)
def o_Q10_256  (h0 : Heap) (n0 : Nat) (v : Option Value) (h : Heap) (L : List Loc) : Prop := v = some (.int 512) ∧ Fr n0 L ∧ h = h0
abbrev o_R10_256 : Room := { frames := 0, cells := 0, slots := 0, locals := 0 }
theorem o_ef10_256 (m : MethodId)  : entryFrame m #[(.int 256)] 1 = mkF m 0 #[.val (.int 256)] [] := by first | (simp [entryFrame, mkF, argsToLocals, Value.category]; done) | rfl
set_option maxRecDepth 65536 in
set_option maxHeartbeats 40000000 in
theorem rm10_256 (l : Launch) (Z : State) (a0 : Array Value) (hw : ∀ d ∈ tables_1, d.before a0 Z = true) (ws : List Jvm.Cond)  (h0 : Heap) (n0 : Nat) : o_Met l Z (⟨"java/lang/StringUTF16", "newBytesLength", "(I)I"⟩ : MethodName) jdk_52_method_3_code 1 (some .int) ws o_R10_256 #[(.int 256)] h0 (o_Q10_256 h0 n0) := by
 refine o_met (plainFor_of_name o_pn0) ?_
 intro p e s m below meth c s₁ hx hby hml hown hnm hret hlk hZ e0 X0
 have N0 := Fr.nil n0
 have hml : c.maxLocals = 1 := hml
 have hown : s.vm.findClass "java/lang/StringUTF16" = some m.cls := hown
 have hret : meth.sig.returnType = (some .int) := hret
 have hby : c.code = jdk_52_method_3_code := hby
 have hnm : meth.name = "newBytesLength" := hnm
 rw [o_ef10_256]
 refine o_gi (XS.iloadN X0.here hx rfl (hb hby o_d10_0) rfl) ?_
 show o_Gs p e below _ s₁ m 1 #[.val (.int 256)] [(.int 256)]
 have hd138 : ¬ ((256 : Int32) < (0 : Int32)) := (by decide)
 refine o_gi (XS.ifYes X0.here hx rfl (pc0 := 1) (pc' := 12) rfl (hb hby o_d10_1) rfl ((if0 _ _).trans (flt hd138).2.1) (by decide) (by decide)) ?_
 refine o_gi (XS.iloadN X0.here hx rfl (hb hby o_d10_12) rfl) ?_
 show o_Gs p e below _ s₁ m 13 #[.val (.int 256)] [(.int 256)]
 refine o_go (X0.ldcInt hx hown (mvT hZ (hw _ o_t45)) (g := (mkF m 13 #[.val (.int 256)] [(.int 256)])) rfl (hb hby o_d10_13)) ?_
 show o_Gs p e below _ s₁ m 15 #[.val (.int 256)] [(.int 1073741823), (.int 256)]
 have hd139 : (256 : Int32) < (1073741823 : Int32) := (by decide)
 refine o_gi (XS.icmpYes X0.here hx rfl (pc0 := 15) (pc' := 55) rfl (hb hby o_d10_15) rfl (tlt hd139).1 (by decide) (by decide)) ?_
 refine o_gi (XS.iloadN X0.here hx rfl (hb hby o_d10_55) rfl) ?_
 refine o_gi (XS.iconst X0.here hx rfl (hb hby o_d10_56)) ?_
 show o_Gs p e below _ s₁ m 57 #[.val (.int 256)] [(.int 1), (.int 256)]
 refine o_gi (XS.ishl X0.here hx rfl (hb hby o_d10_57) rfl) ?_
 show o_Gs p e below _ s₁ m 58 #[.val (.int 256)] [(.int ((256 : Int32) <<< ((1 : Int32) &&& 31)))]
 rw [show ((256 : Int32) <<< ((1 : Int32) &&& 31)) = (512 : Int32) from by decide]
 show o_Gs p e below _ s₁ m 58 #[.val (.int 256)] [(.int 512)]
 exact o_retI X0 hx hlk hret (hb hby o_d10_58) (by decide) (by decide) ⟨rfl, N0, e0⟩
def o_Q9_256 (Z : State)  (h0 : Heap) (n0 : Nat) (v : Option Value) (h : Heap) (L : List Loc) : Prop := ∃ b : Addr, v = some (.ref b) ∧ Fr n0 L ∧ Keep h0 h [] ∧ h0.size ≤ b ∧ o_Tb Z h b .byte (512 : Int32) (fun _ => 0)
abbrev o_R9_256 : Room := { frames := 1, cells := 1, slots := 512, locals := 12 }
theorem o_ef9_256 (m : MethodId)  : entryFrame m #[(.int 256)] 1 = mkF m 0 #[.val (.int 256)] [] := by first | (simp [entryFrame, mkF, argsToLocals, Value.category]; done) | rfl
set_option maxRecDepth 65536 in
set_option maxHeartbeats 40000000 in
theorem rm9_256 (l : Launch) (Z : State) (a0 : Array Value) (hw : ∀ d ∈ tables_1, d.before a0 Z = true) (ws : List Jvm.Cond)  (h0 : Heap) (n0 : Nat) (Z0 : n0 ≤ h0.size) : o_Met l Z (⟨"java/lang/StringUTF16", "newBytesFor", "(I)[B"⟩ : MethodName) jdk_52_method_2_code 1 (some (.array .byte)) ws o_R9_256 #[(.int 256)] h0 (o_Q9_256 Z h0 n0) := by
 refine o_met (plainFor_of_name o_pn0) ?_
 intro p e s m below meth c s₁ hx hby hml hown hnm hret hlk hZ e0 X0
 have N0 := Fr.nil n0
 have hml : c.maxLocals = 1 := hml
 have hown : s.vm.findClass "java/lang/StringUTF16" = some m.cls := hown
 have hret : meth.sig.returnType = (some (.array .byte)) := hret
 have hby : c.code = jdk_52_method_2_code := hby
 have hnm : meth.name = "newBytesFor" := hnm
 rw [o_ef9_256]
 refine o_gi (XS.iloadN X0.here hx rfl (hb hby o_d9_0) rfl) ?_
 show o_Gs p e below _ s₁ m 1 #[.val (.int 256)] [(.int 256)]
 obtain ⟨_, T140, L140, X140, ⟨rfl, N140q, e140⟩, st140⟩ := o_callS X0 hx hZ hown (hw _ o_t42) (hw _ o_t43) (hw _ o_t21) (hw _ o_t44) (by decide) (as := [(.int 256)]) (rm10_256 l Z a0 hw []  h0 n0) e0 o_pd10 rfl (pc := 1) (Ls := #[.val (.int 256)]) (rest := []) (W := 0) (by rw [hml]; rfl) (Nat.le_of_eq rfl) (by decide) (by decide) (hb hby o_d9_1) (by decide) (by decide)
 have N140 := Fr.app N0 N140q
 refine o_go st140 ?_
 show o_Gs p e below _ T140 m 4 #[.val (.int 256)] [(.int 512)]
 obtain ⟨T141, h141, k141, X141, e141, E141, A141, st141⟩ := newP X140 hx hZ (aty := .byte) (hw _ o_t23) e140 (g := (mkF m 4 #[.val (.int 256)] [(.int 512)])) rfl (hb hby o_d9_4) rfl (by decide) (cap := 512) (by decide) (by decide) (by decide) (by decide)
 obtain ⟨b141, q141⟩ : ∃ z, z = h0.size := ⟨_, rfl⟩
 rw [← q141] at A141 st141
 have lt_b141 : h0.size ≤ b141 := Nat.le_of_eq q141.symm
 have g_b141 : n0 ≤ b141 := Nat.le_trans Z0 lt_b141
 have sz_b141 : h0.size ≤ b141 := Nat.le_trans (Keep.refl h0 ([] : List Addr)).1 lt_b141
 have V141 : o_Tb Z h141 b141 .byte (512 : Int32) (fun _ => 0) := o_Tb.new A141 (by decide) rfl
 refine o_go st141 ?_
 show o_Gs p e below _ T141 m 6 #[.val (.int 256)] [(.ref b141)]
 exact o_retR X141 hx hlk hret rfl rfl (hb hby o_d9_6) (by decide) (by decide) (by show o_Q9_256 Z  h0 n0 _ T141.heap _; rw [e141]; exact ⟨_, rfl, N140, ((Keep.refl h0 ([] : List Addr)).ext E141), sz_b141, V141⟩)
def o_Q8_256 (Z : State) (r0 : Addr) (q_G : Int32 → Int32) (h0 : Heap) (n0 : Nat) (v : Option Value) (h : Heap) (L : List Loc) : Prop := ∃ b : Addr, ∃ kb : Int32 → Int32, v = some (.ref b) ∧ Fr n0 L ∧ Keep h0 h [] ∧ h0.size ≤ b ∧ o_Tb Z h b .byte (512 : Int32) kb ∧ o_Hd q_G kb
abbrev o_R8_256 : Room := { frames := 2, cells := 1, slots := 512, locals := 40 }
set_option maxRecDepth 65536 in
set_option maxHeartbeats 40000000 in
theorem o_p8_256 (l : Launch) (Z : State) (a0 : Array Value) (hw : ∀ d ∈ tables_1, d.before a0 Z = true) (r0 : Addr) (q_G : Int32 → Int32) (h0 : Heap) (n0 : Nat) (Z0 : n0 ≤ h0.size) (O0 : Old Z n0 h0) (T_c : o_Tb Z h0 r0 .char (256 : Int32) q_G) (S_ad : Sta Z Z.heap "java/lang/StringUTF16" "$assertionsDisabled" "Z" (.int 1)) (S_hi : Sta Z Z.heap "java/lang/StringUTF16" "HI_BYTE_SHIFT" "I" (.int 0)) (S_lo : Sta Z Z.heap "java/lang/StringUTF16" "LO_BYTE_SHIFT" "I" (.int 8)) (p : Program) (e : Env) (s : State) (m : MethodId) (below : List Frame) (meth : Method) (c : Code) (hx : p.tables.exec = Jvm.exec) (hby : c.code = jdk_52_method_14_code) (hml : c.maxLocals = 5) (hown : s.vm.findClass "java/lang/StringUTF16" = some m.cls) (hret : meth.sig.returnType = (some (.array .byte))) (hlk : meth.locks = false) (hZ : Z.Warmed39 s.vm) (k : Nat) : ∀ (T0 : State) (L0 : List Loc) (hh : Heap) (b : Addr) (i : Int32) (q_F : Int32 → Int32) (X0 : Stand p l e o_R8_256 s m #[(.ref r0), (.int 0), (.int 256)] below meth c T0 L0 1 512) (e0 : T0.heap = hh) (N0 : Fr n0 L0) (Z1 : n0 ≤ hh.size) (O1 : Old Z n0 hh) (KK : Keep h0 hh []) (g_b : n0 ≤ b) (sz_b : h0.size ≤ b) (ne_r0_b : r0 ≠ b) (hi : 2 ≤ i.toInt ∧ i.toInt + k = 256) (V_c : o_Tb Z hh r0 .char (256 : Int32) q_G) (V_b : o_Tb Z hh b .byte (512 : Int32) q_F) (hH : o_Hd q_G q_F), o_Goes p e below (o_End s o_R8_256 (o_Q8_256 Z r0 q_G h0 n0)) (T0.setTop (mkF m 8 #[.val (.ref r0), .val (.int i), .val (.int 256), .val (.ref b), .val (.int i)] [])) := by
 induction k with
 | zero =>
  intro T0 L0 hh b i q_F X0 e0 N0 Z1 O1 KK g_b sz_b ne_r0_b hi V_c V_b hH
  refine o_gi (XS.iload X0.here hx rfl (hb hby o_d8_8) rfl) ?_
  refine o_gi (XS.iloadN X0.here hx rfl (hb hby o_d8_10) rfl) ?_
  show o_Gs p e below _ T0 m 11 #[.val (.ref r0), .val (.int i), .val (.int 256), .val (.ref b), .val (.int i)] [(.int 256), (.int i)]
  have hd142 : ¬ (i < (256 : Int32)) := (o_i8n hi (by decide))
  refine o_gi (XS.icmpYes X0.here hx rfl (pc0 := 11) (pc' := 32) rfl (hb hby o_d8_11) rfl (flt hd142).2.1 (by decide) (by decide)) ?_
  refine o_gi (XS.aloadN X0.here hx rfl (hb hby o_d8_32) rfl rfl) ?_
  show o_Gs p e below _ T0 m 33 #[.val (.ref r0), .val (.int i), .val (.int 256), .val (.ref b), .val (.int i)] [(.ref b)]
  exact o_retR X0 hx hlk hret rfl rfl (hb hby o_d8_33) (by decide) (by decide) (by rw [e0]; exact ⟨_, _, rfl, N0, KK, sz_b, V_b, hH⟩)
 | succ k ih =>
  intro T0 L0 hh b i q_F X0 e0 N0 Z1 O1 KK g_b sz_b ne_r0_b hi V_c V_b hH
  refine o_gi (XS.iload X0.here hx rfl (hb hby o_d8_8) rfl) ?_
  refine o_gi (XS.iloadN X0.here hx rfl (hb hby o_d8_10) rfl) ?_
  show o_Gs p e below _ T0 m 11 #[.val (.ref r0), .val (.int i), .val (.int 256), .val (.ref b), .val (.int i)] [(.int 256), (.int i)]
  have hd143 : i < (256 : Int32) := (o_i8l hi (by decide))
  refine o_gi (XS.icmpNo X0.here hx rfl (hb hby o_d8_11) rfl (tlt hd143).2.1) ?_
  refine o_gi (XS.aloadN X0.here hx rfl (hb hby o_d8_14) rfl rfl) ?_
  refine o_gi (XS.iload X0.here hx rfl (hb hby o_d8_15) rfl) ?_
  refine o_gi (XS.aloadN X0.here hx rfl (hb hby o_d8_17) rfl rfl) ?_
  refine o_gi (XS.iloadN X0.here hx rfl (hb hby o_d8_18) rfl) ?_
  show o_Gs p e below _ T0 m 19 #[.val (.ref r0), .val (.int i), .val (.int 256), .val (.ref b), .val (.int i)] [(.int i), (.ref r0), (.int i), (.ref b)]
  obtain ⟨cl144, Ar144, sa144, na144, ha144⟩ := id V_c
  have ix144 : ¬ i < 0 ∧ i < (256 : Int32) := (o_i8 (z := (256 : Int32)) hi (by decide))
  refine o_go (X0.caload hx (j := i) (v := (.int (q_G i))) (by rw [e0]; exact Ar144.1) (State.isArrayOf_alike hZ.alike Ar144.2.1) Ar144.2.2 (inb_of sa144 ix144) (ha144 _ ix144.1 ix144.2) (g := (mkF m 19 #[.val (.ref r0), .val (.int i), .val (.int 256), .val (.ref b), .val (.int i)] [(.int i), (.ref r0), (.int i), (.ref b)])) rfl rfl (hb hby o_d8_19)) ?_
  show o_Gs p e below _ T0 m 20 #[.val (.ref r0), .val (.int i), .val (.int 256), .val (.ref b), .val (.int i)] [(.int (q_G i)), (.int i), (.ref b)]
  obtain ⟨_, T145, L145, X145, ⟨rfl, N145q, K145, G145_0⟩, st145⟩ := o_callS X0 hx hZ hown (hw _ o_t46) (hw _ o_t47) (hw _ o_t21) (hw _ o_t48) (by decide) (as := [(.ref b), (.int i), (.int (q_G i))]) (rm11 l Z a0 hw [] b i (q_G i) (512 : Int32) q_F hh n0 Z1 g_b O1 V_b (o_i8x (z := (256 : Int32)) hi (by decide) (by decide)) S_ad S_hi S_lo) e0 o_pd11 rfl (pc := 20) (Ls := #[.val (.ref r0), .val (.int i), .val (.int 256), .val (.ref b), .val (.int i)]) (rest := []) (W := 0) (by rw [hml]; rfl) (Nat.le_of_eq rfl) (by decide) (by decide) (hb hby o_d8_20) (by decide) (by decide)
  have N145 := Fr.app N0 N145q
  refine o_go st145 ?_
  show o_Gs p e below _ T145 m 23 #[.val (.ref r0), .val (.int i), .val (.int 256), .val (.ref b), .val (.int i)] []
  refine o_gi (XS.iinc X145.here hx rfl (hb hby o_d8_23) rfl (l' := #[.val (.ref r0), .val (.int (i + (1 : Int32))), .val (.int 256), .val (.ref b), .val (.int i)]) rfl) ?_
  show o_Gs p e below _ T145 m 26 #[.val (.ref r0), .val (.int (i + (1 : Int32))), .val (.int 256), .val (.ref b), .val (.int i)] []
  refine o_gi (XS.iinc X145.here hx rfl (hb hby o_d8_26) rfl (l' := #[.val (.ref r0), .val (.int (i + (1 : Int32))), .val (.int 256), .val (.ref b), .val (.int (i + (1 : Int32)))]) rfl) ?_
  refine o_gi (XS.goto X145.here hx rfl (pc0 := 29) (pc' := 8) rfl (hb hby o_d8_29) (by decide) (by decide)) ?_
  have ff146 : o_Tb Z T145.heap r0 .char (256 : Int32) q_G := (V_c.keep K145 (fun z => ne_r0_b (List.mem_singleton.mp z)))
  have oo147 : Old Z n0 T145.heap := (O1.keep K145 (allS g_b all0))
  exact ih _ _ _ b _ _ X145 rfl N145 (Nat.le_trans Z1 K145.1) oo147 (KK.trans K145 (fun x hx => by cases List.mem_singleton.mp hx; exact Or.inr sz_b)) g_b sz_b ne_r0_b (o_i8s hi (by decide)) ff146 G145_0 (o_HdS (o_i8h hi (by decide)) hH)
theorem o_ef8_256 (m : MethodId) (z0 : Addr) : entryFrame m #[(.ref z0), (.int 0), (.int 256)] 5 = mkF m 0 #[.val (.ref z0), .val (.int 0), .val (.int 256), .unset, .unset] [] := by first | (simp [entryFrame, mkF, argsToLocals, Value.category]; done) | rfl
set_option maxRecDepth 65536 in
set_option maxHeartbeats 40000000 in
theorem rm8_256 (l : Launch) (Z : State) (a0 : Array Value) (hw : ∀ d ∈ tables_1, d.before a0 Z = true) (ws : List Jvm.Cond) (r0 : Addr) (q_G : Int32 → Int32) (h0 : Heap) (n0 : Nat) (Z0 : n0 ≤ h0.size) (O0 : Old Z n0 h0) (T_c : o_Tb Z h0 r0 .char (256 : Int32) q_G) (S_ad : Sta Z Z.heap "java/lang/StringUTF16" "$assertionsDisabled" "Z" (.int 1)) (S_hi : Sta Z Z.heap "java/lang/StringUTF16" "HI_BYTE_SHIFT" "I" (.int 0)) (S_lo : Sta Z Z.heap "java/lang/StringUTF16" "LO_BYTE_SHIFT" "I" (.int 8)) : o_Met l Z (⟨"java/lang/StringUTF16", "toBytes", "([CII)[B"⟩ : MethodName) jdk_52_method_14_code 5 (some (.array .byte)) ws o_R8_256 #[(.ref r0), (.int 0), (.int 256)] h0 (o_Q8_256 Z r0 q_G h0 n0) := by
 refine o_met (plainFor_of_name o_pn0) ?_
 intro p e s m below meth c s₁ hx hby hml hown hnm hret hlk hZ e0 X0
 have N0 := Fr.nil n0
 have hml : c.maxLocals = 5 := hml
 have hown : s.vm.findClass "java/lang/StringUTF16" = some m.cls := hown
 have hret : meth.sig.returnType = (some (.array .byte)) := hret
 have hby : c.code = jdk_52_method_14_code := hby
 have hnm : meth.name = "toBytes" := hnm
 rw [o_ef8_256]
 refine o_gi (XS.iloadN X0.here hx rfl (hb hby o_d8_0) rfl) ?_
 show o_Gs p e below _ s₁ m 1 #[.val (.ref r0), .val (.int 0), .val (.int 256), .unset, .unset] [(.int 256)]
 obtain ⟨_, T148, L148, X148, ⟨b148, rfl, N148q, K148, lt_b148, G148_0⟩, st148⟩ := o_callS X0 hx hZ hown (hw _ o_t39) (hw _ o_t40) (hw _ o_t21) (hw _ o_t41) (by decide) (as := [(.int 256)]) (rm9_256 l Z a0 hw []  h0 n0 Z0) e0 o_pd12 rfl (pc := 1) (Ls := #[.val (.ref r0), .val (.int 0), .val (.int 256), .unset, .unset]) (rest := []) (W := 0) (by rw [hml]; rfl) (Nat.le_of_eq rfl) (by decide) (by decide) (hb hby o_d8_1) (by decide) (by decide)
 have N148 := Fr.app N0 N148q
 have ne_r0_b148 : r0 ≠ b148 := Nat.ne_of_lt (Nat.lt_of_lt_of_le T_c.lt lt_b148)
 have g_b148 : n0 ≤ b148 := Nat.le_trans Z0 lt_b148
 have sz_b148 : h0.size ≤ b148 := Nat.le_trans (Keep.refl h0 ([] : List Addr)).1 lt_b148
 refine o_go st148 ?_
 refine o_gi (XS.astoreN X148.here hx rfl (hb hby o_d8_4) rfl rfl (l' := #[.val (.ref r0), .val (.int 0), .val (.int 256), .val (.ref b148), .unset]) rfl) ?_
 refine o_gi (XS.iconst X148.here hx rfl (hb hby o_d8_5)) ?_
 refine o_gi (XS.istore X148.here hx rfl (hb hby o_d8_6) rfl (l' := #[.val (.ref r0), .val (.int 0), .val (.int 256), .val (.ref b148), .val (.int 0)]) rfl) ?_
 refine o_gi (XS.iload X148.here hx rfl (hb hby o_d8_8) rfl) ?_
 refine o_gi (XS.iloadN X148.here hx rfl (hb hby o_d8_10) rfl) ?_
 show o_Gs p e below _ T148 m 11 #[.val (.ref r0), .val (.int 0), .val (.int 256), .val (.ref b148), .val (.int 0)] [(.int 256), (.int 0)]
 have hd149 : (0 : Int32) < (256 : Int32) := (by decide)
 refine o_gi (XS.icmpNo X148.here hx rfl (hb hby o_d8_11) rfl (tlt hd149).2.1) ?_
 refine o_gi (XS.aloadN X148.here hx rfl (hb hby o_d8_14) rfl rfl) ?_
 refine o_gi (XS.iload X148.here hx rfl (hb hby o_d8_15) rfl) ?_
 refine o_gi (XS.aloadN X148.here hx rfl (hb hby o_d8_17) rfl rfl) ?_
 refine o_gi (XS.iloadN X148.here hx rfl (hb hby o_d8_18) rfl) ?_
 show o_Gs p e below _ T148 m 19 #[.val (.ref r0), .val (.int 0), .val (.int 256), .val (.ref b148), .val (.int 0)] [(.int 0), (.ref r0), (.int 0), (.ref b148)]
 have ff150 : o_Tb Z T148.heap r0 .char (256 : Int32) q_G := (T_c.keep K148 List.not_mem_nil)
 obtain ⟨cl151, Ar151, sa151, na151, ha151⟩ := id ff150
 have ix151 : ¬ (0 : Int32) < 0 ∧ (0 : Int32) < (256 : Int32) := ⟨by decide, by decide⟩
 refine o_go (X148.caload hx (j := (0 : Int32)) (v := (.int (q_G (0 : Int32)))) Ar151.1 (State.isArrayOf_alike hZ.alike Ar151.2.1) Ar151.2.2 (inb_of sa151 ix151) (ha151 _ ix151.1 ix151.2) (g := (mkF m 19 #[.val (.ref r0), .val (.int 0), .val (.int 256), .val (.ref b148), .val (.int 0)] [(.int 0), (.ref r0), (.int 0), (.ref b148)])) rfl rfl (hb hby o_d8_19)) ?_
 show o_Gs p e below _ T148 m 20 #[.val (.ref r0), .val (.int 0), .val (.int 256), .val (.ref b148), .val (.int 0)] [(.int (q_G (0 : Int32))), (.int 0), (.ref b148)]
 obtain ⟨_, T152, L152, X152, ⟨rfl, N152q, K152, G152_0⟩, st152⟩ := o_callS X148 hx hZ hown (hw _ o_t46) (hw _ o_t47) (hw _ o_t21) (hw _ o_t48) (by decide) (as := [(.ref b148), (.int 0), (.int (q_G (0 : Int32)))]) (rm11 l Z a0 hw [] b148 (0 : Int32) (q_G (0 : Int32)) (512 : Int32) (fun _ => 0) T148.heap n0 (Nat.le_trans Z0 K148.1) g_b148 (O0.keep K148 all0) G148_0 (by decide) S_ad S_hi S_lo) rfl o_pd11 rfl (pc := 20) (Ls := #[.val (.ref r0), .val (.int 0), .val (.int 256), .val (.ref b148), .val (.int 0)]) (rest := []) (W := 0) (by rw [hml]; rfl) (Nat.le_of_eq rfl) (by decide) (by decide) (hb hby o_d8_20) (by decide) (by decide)
 have N152 := Fr.app N148 N152q
 refine o_go st152 ?_
 show o_Gs p e below _ T152 m 23 #[.val (.ref r0), .val (.int 0), .val (.int 256), .val (.ref b148), .val (.int 0)] []
 refine o_gi (XS.iinc X152.here hx rfl (hb hby o_d8_23) rfl (l' := #[.val (.ref r0), .val (.int ((0 : Int32) + (1 : Int32))), .val (.int 256), .val (.ref b148), .val (.int 0)]) rfl) ?_
 show o_Gs p e below _ T152 m 26 #[.val (.ref r0), .val (.int ((0 : Int32) + (1 : Int32))), .val (.int 256), .val (.ref b148), .val (.int 0)] []
 rw [show ((0 : Int32) + (1 : Int32)) = (1 : Int32) from by decide]
 show o_Gs p e below _ T152 m 26 #[.val (.ref r0), .val (.int 1), .val (.int 256), .val (.ref b148), .val (.int 0)] []
 refine o_gi (XS.iinc X152.here hx rfl (hb hby o_d8_26) rfl (l' := #[.val (.ref r0), .val (.int 1), .val (.int 256), .val (.ref b148), .val (.int ((0 : Int32) + (1 : Int32)))]) rfl) ?_
 show o_Gs p e below _ T152 m 29 #[.val (.ref r0), .val (.int 1), .val (.int 256), .val (.ref b148), .val (.int ((0 : Int32) + (1 : Int32)))] []
 rw [show ((0 : Int32) + (1 : Int32)) = (1 : Int32) from by decide]
 refine o_gi (XS.goto X152.here hx rfl (pc0 := 29) (pc' := 8) rfl (hb hby o_d8_29) (by decide) (by decide)) ?_
 refine o_gi (XS.iload X152.here hx rfl (hb hby o_d8_8) rfl) ?_
 refine o_gi (XS.iloadN X152.here hx rfl (hb hby o_d8_10) rfl) ?_
 show o_Gs p e below _ T152 m 11 #[.val (.ref r0), .val (.int 1), .val (.int 256), .val (.ref b148), .val (.int 1)] [(.int 256), (.int 1)]
 have hd153 : (1 : Int32) < (256 : Int32) := (by decide)
 refine o_gi (XS.icmpNo X152.here hx rfl (hb hby o_d8_11) rfl (tlt hd153).2.1) ?_
 refine o_gi (XS.aloadN X152.here hx rfl (hb hby o_d8_14) rfl rfl) ?_
 refine o_gi (XS.iload X152.here hx rfl (hb hby o_d8_15) rfl) ?_
 refine o_gi (XS.aloadN X152.here hx rfl (hb hby o_d8_17) rfl rfl) ?_
 refine o_gi (XS.iloadN X152.here hx rfl (hb hby o_d8_18) rfl) ?_
 show o_Gs p e below _ T152 m 19 #[.val (.ref r0), .val (.int 1), .val (.int 256), .val (.ref b148), .val (.int 1)] [(.int 1), (.ref r0), (.int 1), (.ref b148)]
 have ff154 : o_Tb Z T152.heap r0 .char (256 : Int32) q_G := (ff150.keep K152 (fun z => ne_r0_b148 (List.mem_singleton.mp z)))
 obtain ⟨cl155, Ar155, sa155, na155, ha155⟩ := id ff154
 have ix155 : ¬ (1 : Int32) < 0 ∧ (1 : Int32) < (256 : Int32) := ⟨by decide, by decide⟩
 refine o_go (X152.caload hx (j := (1 : Int32)) (v := (.int (q_G (1 : Int32)))) Ar155.1 (State.isArrayOf_alike hZ.alike Ar155.2.1) Ar155.2.2 (inb_of sa155 ix155) (ha155 _ ix155.1 ix155.2) (g := (mkF m 19 #[.val (.ref r0), .val (.int 1), .val (.int 256), .val (.ref b148), .val (.int 1)] [(.int 1), (.ref r0), (.int 1), (.ref b148)])) rfl rfl (hb hby o_d8_19)) ?_
 show o_Gs p e below _ T152 m 20 #[.val (.ref r0), .val (.int 1), .val (.int 256), .val (.ref b148), .val (.int 1)] [(.int (q_G (1 : Int32))), (.int 1), (.ref b148)]
 obtain ⟨_, T156, L156, X156, ⟨rfl, N156q, K156, G156_0⟩, st156⟩ := o_callS X152 hx hZ hown (hw _ o_t46) (hw _ o_t47) (hw _ o_t21) (hw _ o_t48) (by decide) (as := [(.ref b148), (.int 1), (.int (q_G (1 : Int32)))]) (rm11 l Z a0 hw [] b148 (1 : Int32) (q_G (1 : Int32)) (512 : Int32) (o_G11_2 (0 : Int32) (q_G (0 : Int32)) (fun _ => 0)) T152.heap n0 (Nat.le_trans (Nat.le_trans Z0 K148.1) K152.1) g_b148 ((O0.keep K148 all0).keep K152 (allS g_b148 all0)) G152_0 (by decide) S_ad S_hi S_lo) rfl o_pd11 rfl (pc := 20) (Ls := #[.val (.ref r0), .val (.int 1), .val (.int 256), .val (.ref b148), .val (.int 1)]) (rest := []) (W := 0) (by rw [hml]; rfl) (Nat.le_of_eq rfl) (by decide) (by decide) (hb hby o_d8_20) (by decide) (by decide)
 have N156 := Fr.app N152 N156q
 refine o_go st156 ?_
 show o_Gs p e below _ T156 m 23 #[.val (.ref r0), .val (.int 1), .val (.int 256), .val (.ref b148), .val (.int 1)] []
 refine o_gi (XS.iinc X156.here hx rfl (hb hby o_d8_23) rfl (l' := #[.val (.ref r0), .val (.int ((1 : Int32) + (1 : Int32))), .val (.int 256), .val (.ref b148), .val (.int 1)]) rfl) ?_
 show o_Gs p e below _ T156 m 26 #[.val (.ref r0), .val (.int ((1 : Int32) + (1 : Int32))), .val (.int 256), .val (.ref b148), .val (.int 1)] []
 rw [show ((1 : Int32) + (1 : Int32)) = (2 : Int32) from by decide]
 show o_Gs p e below _ T156 m 26 #[.val (.ref r0), .val (.int 2), .val (.int 256), .val (.ref b148), .val (.int 1)] []
 refine o_gi (XS.iinc X156.here hx rfl (hb hby o_d8_26) rfl (l' := #[.val (.ref r0), .val (.int 2), .val (.int 256), .val (.ref b148), .val (.int ((1 : Int32) + (1 : Int32)))]) rfl) ?_
 show o_Gs p e below _ T156 m 29 #[.val (.ref r0), .val (.int 2), .val (.int 256), .val (.ref b148), .val (.int ((1 : Int32) + (1 : Int32)))] []
 rw [show ((1 : Int32) + (1 : Int32)) = (2 : Int32) from by decide]
 refine o_gi (XS.goto X156.here hx rfl (pc0 := 29) (pc' := 8) rfl (hb hby o_d8_29) (by decide) (by decide)) ?_
 have ff157 : o_Tb Z T156.heap r0 .char (256 : Int32) q_G := (ff154.keep K156 (fun z => ne_r0_b148 (List.mem_singleton.mp z)))
 have oo158 : Old Z n0 T156.heap := (((O0.keep K148 all0).keep K152 (allS g_b148 all0)).keep K156 (allS g_b148 all0))
 exact o_p8_256 l Z a0 hw r0 q_G h0 n0 Z0 O0 T_c S_ad S_hi S_lo p e s m below meth c hx hby hml hown hret hlk hZ 254 _ _ _ b148 _ _ X156 rfl N156 (Nat.le_trans (Nat.le_trans (Nat.le_trans Z0 K148.1) K152.1) K156.1) oo158 ((((Keep.refl h0 ([] : List Addr)).trans K148 (fun x hx => nomatch hx)).trans K152 (fun x hx => by cases List.mem_singleton.mp hx; exact Or.inr sz_b148)).trans K156 (fun x hx => by cases List.mem_singleton.mp hx; exact Or.inr sz_b148)) g_b148 sz_b148 ne_r0_b148 (by decide) ff157 G156_0 (o_Hd0 q_G _)
def o_Q6_256 (r0 : Addr) (r2 : Addr) (q_G : Int32 → Int32) (h0 : Heap) (n0 : Nat) (v : Option Value) (h : Heap) (L : List Loc) : Prop := v = some (.int 0) ∧ Fr n0 L ∧ h = h0
abbrev o_R6_256 : Room := { frames := 0, cells := 0, slots := 0, locals := 0 }
theorem o_ef6_256 (m : MethodId) (z0 : Addr) (z2 : Addr) : entryFrame m #[(.ref z0), (.int 0), (.ref z2), (.int 0), (.int 256)] 7 = mkF m 0 #[.val (.ref z0), .val (.int 0), .val (.ref z2), .val (.int 0), .val (.int 256), .unset, .unset] [] := by first | (simp [entryFrame, mkF, argsToLocals, Value.category]; done) | rfl
set_option maxRecDepth 65536 in
set_option maxHeartbeats 40000000 in
theorem rm6_256 (l : Launch) (Z : State) (a0 : Array Value) (hw : ∀ d ∈ tables_1, d.before a0 Z = true) (ws : List Jvm.Cond) (r0 : Addr) (r2 : Addr) (q_G : Int32 → Int32) (h0 : Heap) (n0 : Nat) (T_c : o_Tb Z h0 r0 .char (256 : Int32) q_G) (hG : (255 : Int32) < q_G (0 : Int32)) : o_Met l Z (⟨"java/lang/StringUTF16", "compress", "([CI[BII)I"⟩ : MethodName) jdk_52_method_21_code 7 (some .int) ws o_R6_256 #[(.ref r0), (.int 0), (.ref r2), (.int 0), (.int 256)] h0 (o_Q6_256 r0 r2 q_G h0 n0) := by
 refine o_met (plainFor_of_name o_pn0) ?_
 intro p e s m below meth c s₁ hx hby hml hown hnm hret hlk hZ e0 X0
 have N0 := Fr.nil n0
 have hml : c.maxLocals = 7 := hml
 have hown : s.vm.findClass "java/lang/StringUTF16" = some m.cls := hown
 have hret : meth.sig.returnType = (some .int) := hret
 have hby : c.code = jdk_52_method_21_code := hby
 have hnm : meth.name = "compress" := hnm
 rw [o_ef6_256]
 refine o_gi (XS.iconst X0.here hx rfl (hb hby o_d6_0)) ?_
 refine o_gi (XS.istore X0.here hx rfl (hb hby o_d6_1) rfl (l' := #[.val (.ref r0), .val (.int 0), .val (.ref r2), .val (.int 0), .val (.int 256), .val (.int 0), .unset]) rfl) ?_
 refine o_gi (XS.iload X0.here hx rfl (hb hby o_d6_3) rfl) ?_
 refine o_gi (XS.iload X0.here hx rfl (hb hby o_d6_5) rfl) ?_
 show o_Gs p e below _ s₁ m 7 #[.val (.ref r0), .val (.int 0), .val (.ref r2), .val (.int 0), .val (.int 256), .val (.int 0), .unset] [(.int 256), (.int 0)]
 have hd159 : (0 : Int32) < (256 : Int32) := (by decide)
 refine o_gi (XS.icmpNo X0.here hx rfl (hb hby o_d6_7) rfl (tlt hd159).2.1) ?_
 refine o_gi (XS.aloadN X0.here hx rfl (hb hby o_d6_10) rfl rfl) ?_
 refine o_gi (XS.iloadN X0.here hx rfl (hb hby o_d6_11) rfl) ?_
 show o_Gs p e below _ s₁ m 12 #[.val (.ref r0), .val (.int 0), .val (.ref r2), .val (.int 0), .val (.int 256), .val (.int 0), .unset] [(.int 0), (.ref r0)]
 obtain ⟨cl160, Ar160, sa160, na160, ha160⟩ := id T_c
 have ix160 : ¬ (0 : Int32) < 0 ∧ (0 : Int32) < (256 : Int32) := ⟨by decide, by decide⟩
 refine o_go (X0.caload hx (j := (0 : Int32)) (v := (.int (q_G (0 : Int32)))) (by rw [e0]; exact Ar160.1) (State.isArrayOf_alike hZ.alike Ar160.2.1) Ar160.2.2 (inb_of sa160 ix160) (ha160 _ ix160.1 ix160.2) (g := (mkF m 12 #[.val (.ref r0), .val (.int 0), .val (.ref r2), .val (.int 0), .val (.int 256), .val (.int 0), .unset] [(.int 0), (.ref r0)])) rfl rfl (hb hby o_d6_12)) ?_
 refine o_gi (XS.istore X0.here hx rfl (hb hby o_d6_13) rfl (l' := #[.val (.ref r0), .val (.int 0), .val (.ref r2), .val (.int 0), .val (.int 256), .val (.int 0), .val (.int (q_G (0 : Int32)))]) rfl) ?_
 refine o_gi (XS.iload X0.here hx rfl (hb hby o_d6_15) rfl) ?_
 refine o_gi (XS.sipush X0.here hx rfl (hb hby o_d6_17)) ?_
 show o_Gs p e below _ s₁ m 20 #[.val (.ref r0), .val (.int 0), .val (.ref r2), .val (.int 0), .val (.int 256), .val (.int 0), .val (.int (q_G (0 : Int32)))] [(.int 255), (.int (q_G (0 : Int32)))]
 have hd161 : (255 : Int32) < (q_G (0 : Int32)) := hG
 refine o_gi (XS.icmpNo X0.here hx rfl (hb hby o_d6_20) rfl (tlt hd161).2.2.2) ?_
 refine o_gi (XS.iload X0.here hx rfl (hb hby o_d6_23) rfl) ?_
 show o_Gs p e below _ s₁ m 25 #[.val (.ref r0), .val (.int 0), .val (.ref r2), .val (.int 0), .val (.int 256), .val (.int 0), .val (.int (q_G (0 : Int32)))] [(.int 0)]
 exact o_retI X0 hx hlk hret (hb hby o_d6_25) (by decide) (by decide) ⟨rfl, N0, e0⟩
def o_Q5_256 (Z : State) (r0 : Addr) (q_G : Int32 → Int32) (h0 : Heap) (n0 : Nat) (v : Option Value) (h : Heap) (L : List Loc) : Prop := ∃ b : Addr, ∃ kb : Int32 → Int32, v = some (.ref b) ∧ Fr n0 L ∧ Keep h0 h [] ∧ h0.size ≤ b ∧ o_Tb Z h b .byte (512 : Int32) kb ∧ o_Hd q_G kb
abbrev o_R5_256 : Room := { frames := 3, cells := 2, slots := 768, locals := 56 }
theorem o_ef5_256 (m : MethodId) (z0 : Addr) : entryFrame m #[(.ref z0), (.int 0), (.int 256)] 6 = mkF m 0 #[.val (.ref z0), .val (.int 0), .val (.int 256), .unset, .unset, .unset] [] := by first | (simp [entryFrame, mkF, argsToLocals, Value.category]; done) | rfl
set_option maxRecDepth 65536 in
set_option maxHeartbeats 40000000 in
theorem rm5_256 (l : Launch) (Z : State) (a0 : Array Value) (hw : ∀ d ∈ tables_1, d.before a0 Z = true) (ws : List Jvm.Cond) (r0 : Addr) (q_G : Int32 → Int32) (h0 : Heap) (n0 : Nat) (Z0 : n0 ≤ h0.size) (O0 : Old Z n0 h0) (T_c : o_Tb Z h0 r0 .char (256 : Int32) q_G) (hG : o_HS q_G) (S_ad : Sta Z Z.heap "java/lang/StringUTF16" "$assertionsDisabled" "Z" (.int 1)) (S_hi : Sta Z Z.heap "java/lang/StringUTF16" "HI_BYTE_SHIFT" "I" (.int 0)) (S_lo : Sta Z Z.heap "java/lang/StringUTF16" "LO_BYTE_SHIFT" "I" (.int 8)) : o_Met l Z (⟨"java/lang/StringUTF16", "compress", "([CII)[B"⟩ : MethodName) jdk_52_method_16_code 6 (some (.array .byte)) ws o_R5_256 #[(.ref r0), (.int 0), (.int 256)] h0 (o_Q5_256 Z r0 q_G h0 n0) := by
 refine o_met (plainFor_of_name o_pn0) ?_
 intro p e s m below meth c s₁ hx hby hml hown hnm hret hlk hZ e0 X0
 have N0 := Fr.nil n0
 have hml : c.maxLocals = 6 := hml
 have hown : s.vm.findClass "java/lang/StringUTF16" = some m.cls := hown
 have hret : meth.sig.returnType = (some (.array .byte)) := hret
 have hby : c.code = jdk_52_method_16_code := hby
 have hnm : meth.name = "compress" := hnm
 rw [o_ef5_256]
 refine o_gi (XS.iloadN X0.here hx rfl (hb hby o_d5_0) rfl) ?_
 show o_Gs p e below _ s₁ m 1 #[.val (.ref r0), .val (.int 0), .val (.int 256), .unset, .unset, .unset] [(.int 256)]
 obtain ⟨T162, h162, k162, X162, e162, E162, A162, st162⟩ := newP X0 hx hZ (aty := .byte) (hw _ o_t23) e0 (g := (mkF m 1 #[.val (.ref r0), .val (.int 0), .val (.int 256), .unset, .unset, .unset] [(.int 256)])) rfl (hb hby o_d5_1) rfl (by decide) (cap := 256) (by decide) (by decide) (by decide) (by decide)
 obtain ⟨b162, q162⟩ : ∃ z, z = h0.size := ⟨_, rfl⟩
 rw [← q162] at A162 st162
 have lt_b162 : h0.size ≤ b162 := Nat.le_of_eq q162.symm
 have ne_r0_b162 : r0 ≠ b162 := Nat.ne_of_lt (Nat.lt_of_lt_of_le T_c.lt lt_b162)
 have g_b162 : n0 ≤ b162 := Nat.le_trans Z0 lt_b162
 have sz_b162 : h0.size ≤ b162 := Nat.le_trans (Keep.refl h0 ([] : List Addr)).1 lt_b162
 have V162 : o_Tb Z h162 b162 .byte (256 : Int32) (fun _ => 0) := o_Tb.new A162 (by decide) rfl
 refine o_go st162 ?_
 refine o_gi (XS.astoreN X162.here hx rfl (hb hby o_d5_3) rfl rfl (l' := #[.val (.ref r0), .val (.int 0), .val (.int 256), .val (.ref b162), .unset, .unset]) rfl) ?_
 refine o_gi (XS.aloadN X162.here hx rfl (hb hby o_d5_4) rfl rfl) ?_
 refine o_gi (XS.iloadN X162.here hx rfl (hb hby o_d5_5) rfl) ?_
 refine o_gi (XS.aloadN X162.here hx rfl (hb hby o_d5_6) rfl rfl) ?_
 refine o_gi (XS.iconst X162.here hx rfl (hb hby o_d5_7)) ?_
 refine o_gi (XS.iloadN X162.here hx rfl (hb hby o_d5_8) rfl) ?_
 show o_Gs p e below _ T162 m 9 #[.val (.ref r0), .val (.int 0), .val (.int 256), .val (.ref b162), .unset, .unset] [(.int 256), (.int 0), (.ref b162), (.int 0), (.ref r0)]
 obtain ⟨_, T163, L163, X163, ⟨rfl, N163q, e163⟩, st163⟩ := o_callS X162 hx hZ hown (hw _ o_t24) (hw _ o_t25) (hw _ o_t21) (hw _ o_t26) (by decide) (as := [(.ref r0), (.int 0), (.ref b162), (.int 0), (.int 256)]) (rm6_256 l Z a0 hw [] r0 b162 q_G h162 n0 (T_c.ext E162) (o_HS0 hG)) e162 o_pd13 rfl (pc := 9) (Ls := #[.val (.ref r0), .val (.int 0), .val (.int 256), .val (.ref b162), .unset, .unset]) (rest := []) (W := 0) (by rw [hml]; rfl) (Nat.le_of_eq rfl) (by decide) (by decide) (hb hby o_d5_9) (by decide) (by decide)
 have N163 := Fr.app N0 N163q
 refine o_go st163 ?_
 refine o_gi (XS.istore X163.here hx rfl (hb hby o_d5_12) rfl (l' := #[.val (.ref r0), .val (.int 0), .val (.int 256), .val (.ref b162), .val (.int 0), .unset]) rfl) ?_
 refine o_gi (XS.iload X163.here hx rfl (hb hby o_d5_14) rfl) ?_
 refine o_gi (XS.iloadN X163.here hx rfl (hb hby o_d5_16) rfl) ?_
 show o_Gs p e below _ T163 m 17 #[.val (.ref r0), .val (.int 0), .val (.int 256), .val (.ref b162), .val (.int 0), .unset] [(.int 256), (.int 0)]
 have hd164 : ¬ ((0 : Int32) = (256 : Int32)) := (by decide)
 refine o_gi (XS.icmpNo X163.here hx rfl (hb hby o_d5_17) rfl (feq hd164).1) ?_
 refine o_gi (XS.aloadN X163.here hx rfl (hb hby o_d5_20) rfl rfl) ?_
 refine o_gi (XS.iloadN X163.here hx rfl (hb hby o_d5_21) rfl) ?_
 refine o_gi (XS.iloadN X163.here hx rfl (hb hby o_d5_22) rfl) ?_
 show o_Gs p e below _ T163 m 23 #[.val (.ref r0), .val (.int 0), .val (.int 256), .val (.ref b162), .val (.int 0), .unset] [(.int 256), (.int 0), (.ref r0)]
 obtain ⟨_, T165, L165, X165, ⟨b165, kb165, rfl, N165q, K165, lt_b165, G165_0, G165_1⟩, st165⟩ := o_callS X163 hx hZ hown (hw _ o_t36) (hw _ o_t37) (hw _ o_t21) (hw _ o_t38) (by decide) (as := [(.ref r0), (.int 0), (.int 256)]) (rm8_256 l Z a0 hw [] r0 q_G h162 n0 (Nat.le_trans Z0 E162.1) (O0.ext E162) (T_c.ext E162) S_ad S_hi S_lo) e163 o_pd14 rfl (pc := 23) (Ls := #[.val (.ref r0), .val (.int 0), .val (.int 256), .val (.ref b162), .val (.int 0), .unset]) (rest := []) (W := 0) (by rw [hml]; rfl) (Nat.le_of_eq rfl) (by decide) (by decide) (hb hby o_d5_23) (by decide) (by decide)
 have N165 := Fr.app N163 N165q
 have ne_r0_b165 : r0 ≠ b165 := Nat.ne_of_lt (Nat.lt_of_lt_of_le (T_c.ext E162).lt lt_b165)
 have ne_b162_b165 : b162 ≠ b165 := Nat.ne_of_lt (Nat.lt_of_lt_of_le V162.lt lt_b165)
 have g_b165 : n0 ≤ b165 := Nat.le_trans (Nat.le_trans Z0 E162.1) lt_b165
 have sz_b165 : h0.size ≤ b165 := Nat.le_trans ((Keep.refl h0 ([] : List Addr)).ext E162).1 lt_b165
 refine o_go st165 ?_
 refine o_gi (XS.astore X165.here hx rfl (hb hby o_d5_26) rfl rfl (l' := #[.val (.ref r0), .val (.int 0), .val (.int 256), .val (.ref b162), .val (.int 0), .val (.ref b165)]) rfl) ?_
 refine o_gi (XS.aload X165.here hx rfl (hb hby o_d5_28) rfl rfl) ?_
 refine o_gi (XS.iload X165.here hx rfl (hb hby o_d5_30) rfl) ?_
 show o_Gs p e below _ T165 m 32 #[.val (.ref r0), .val (.int 0), .val (.int 256), .val (.ref b162), .val (.int 0), .val (.ref b165)] [(.int 0), (.ref b165)]
 obtain ⟨_, T166, L166, X166, ⟨rfl, N166q, e166⟩, st166⟩ := o_callS X165 hx hZ hown (hw _ o_t52) (hw _ o_t53) (hw _ o_t21) (hw _ o_t54) (by decide) (as := [(.ref b165), (.int 0)]) (rm12 l Z a0 hw [] b165 (0 : Int32) (512 : Int32) kb165 T165.heap n0 ((O0.ext E162).keep K165 all0) G165_0 (by decide) S_ad S_hi S_lo) rfl o_pd0 rfl (pc := 32) (Ls := #[.val (.ref r0), .val (.int 0), .val (.int 256), .val (.ref b162), .val (.int 0), .val (.ref b165)]) (rest := []) (W := 0) (by rw [hml]; rfl) (Nat.le_of_eq rfl) (by decide) (by decide) (hb hby o_d5_32) (by decide) (by decide)
 have N166 := Fr.app N165 N166q
 refine o_go st166 ?_
 refine o_gi (XS.sipush X166.here hx rfl (hb hby o_d5_35)) ?_
 show o_Gs p e below _ T166 m 38 #[.val (.ref r0), .val (.int 0), .val (.int 256), .val (.ref b162), .val (.int 0), .val (.ref b165)] [(.int 255), (.int (o_f12 (0 : Int32) kb165))]
 have hd167 : (255 : Int32) < (o_f12 (0 : Int32) kb165) := (o_g0 hG G165_1)
 refine o_gi (XS.icmpYes X166.here hx rfl (pc0 := 38) (pc' := 54) rfl (hb hby o_d5_38) rfl (tlt hd167).2.2.1 (by decide) (by decide)) ?_
 refine o_gi (XS.aload X166.here hx rfl (hb hby o_d5_54) rfl rfl) ?_
 show o_Gs p e below _ T166 m 56 #[.val (.ref r0), .val (.int 0), .val (.int 256), .val (.ref b162), .val (.int 0), .val (.ref b165)] [(.ref b165)]
 exact o_retR X166 hx hlk hret rfl rfl (hb hby o_d5_56) (by decide) (by decide) (by show o_Q5_256 Z r0 q_G h0 n0 _ T166.heap _; rw [e166]; exact ⟨_, _, rfl, N166, (((Keep.refl h0 ([] : List Addr)).ext E162).trans K165 (fun x hx => nomatch hx)), sz_b165, G165_0, G165_1⟩)
def o_Q7_256 (r0 : Addr) (q_F : Int32 → Int32) (h0 : Heap) (n0 : Nat) (v : Option Value) (h : Heap) (L : List Loc) : Prop := v = some (.int 1) ∧ Fr n0 L ∧ h = h0
abbrev o_R7_256 : Room := { frames := 0, cells := 0, slots := 0, locals := 0 }
theorem o_ef7_256 (m : MethodId) (z0 : Addr) : entryFrame m #[(.ref z0), (.int 256)] 2 = mkF m 0 #[.val (.ref z0), .val (.int 256)] [] := by first | (simp [entryFrame, mkF, argsToLocals, Value.category]; done) | rfl
set_option maxRecDepth 65536 in
set_option maxHeartbeats 40000000 in
theorem rm7_256 (l : Launch) (Z : State) (a0 : Array Value) (hw : ∀ d ∈ tables_1, d.before a0 Z = true) (ws : List Jvm.Cond) (r0 : Addr) (q_F : Int32 → Int32) (h0 : Heap) (n0 : Nat) (T_b : o_Tb Z h0 r0 .byte (512 : Int32) q_F) : o_Met l Z (⟨"java/lang/StringUTF16", "coderFromArrayLen", "([BI)B"⟩ : MethodName) jdk_52_method_15_code 2 (some .byte) ws o_R7_256 #[(.ref r0), (.int 256)] h0 (o_Q7_256 r0 q_F h0 n0) := by
 refine o_met (plainFor_of_name o_pn0) ?_
 intro p e s m below meth c s₁ hx hby hml hown hnm hret hlk hZ e0 X0
 have N0 := Fr.nil n0
 have hml : c.maxLocals = 2 := hml
 have hown : s.vm.findClass "java/lang/StringUTF16" = some m.cls := hown
 have hret : meth.sig.returnType = (some .byte) := hret
 have hby : c.code = jdk_52_method_15_code := hby
 have hnm : meth.name = "coderFromArrayLen" := hnm
 rw [o_ef7_256]
 refine o_gi (XS.iloadN X0.here hx rfl (hb hby o_d7_0) rfl) ?_
 refine o_gi (XS.aloadN X0.here hx rfl (hb hby o_d7_1) rfl rfl) ?_
 show o_Gs p e below _ s₁ m 2 #[.val (.ref r0), .val (.int 256)] [(.ref r0), (.int 256)]
 obtain ⟨cl168, Ar168, sa168, na168, ha168⟩ := id T_b
 refine o_go (X0.arraylength hx (by rw [e0]; exact Ar168.1) (State.isArrayOf_alike hZ.alike Ar168.2.1) (g := (mkF m 2 #[.val (.ref r0), .val (.int 256)] [(.ref r0), (.int 256)])) rfl rfl (hb hby o_d7_2)) ?_
 rw [len_of sa168 na168]
 show o_Gs p e below _ s₁ m 3 #[.val (.ref r0), .val (.int 256)] [(.int 512), (.int 256)]
 refine o_gi (XS.isub X0.here hx rfl (hb hby o_d7_3) rfl) ?_
 show o_Gs p e below _ s₁ m 4 #[.val (.ref r0), .val (.int 256)] [(.int ((256 : Int32) - (512 : Int32)))]
 rw [show ((256 : Int32) - (512 : Int32)) = (-256 : Int32) from by decide]
 refine o_gi (XS.bipush X0.here hx rfl (hb hby o_d7_4)) ?_
 show o_Gs p e below _ s₁ m 6 #[.val (.ref r0), .val (.int 256)] [(.int 31), (.int (-256 : Int32))]
 refine o_gi (XS.iushr X0.here hx rfl (hb hby o_d7_6) rfl) ?_
 show o_Gs p e below _ s₁ m 7 #[.val (.ref r0), .val (.int 256)] [(.int (((-256 : Int32).toUInt32 >>> ((31 : Int32) &&& 31).toUInt32).toInt32))]
 rw [show (((-256 : Int32).toUInt32 >>> ((31 : Int32) &&& 31).toUInt32).toInt32) = (1 : Int32) from by decide]
 show o_Gs p e below _ s₁ m 7 #[.val (.ref r0), .val (.int 256)] [(.int 1)]
 refine o_gi (XS.i2b X0.here hx rfl (hb hby o_d7_7) rfl) ?_
 show o_Gs p e below _ s₁ m 8 #[.val (.ref r0), .val (.int 256)] [(.int ((1 : Int32).toInt8.toInt32))]
 rw [show ((1 : Int32).toInt8.toInt32) = (1 : Int32) from by decide]
 show o_Gs p e below _ s₁ m 8 #[.val (.ref r0), .val (.int 256)] [(.int 1)]
 exact o_retN X0 hx hlk hret (by simp) (z' := (1 : Int32)) rfl (hb hby o_d7_8) (by decide) (by decide) ⟨rfl, N0, e0⟩
def o_Q3_256 (Z : State) (r0 : Addr) (r1 : Addr) (q_G : Int32 → Int32) (z_cs : Int32) (h0 : Heap) (n0 : Nat) (v : Option Value) (h : Heap) (L : List Loc) : Prop := ∃ b : Addr, ∃ kb : Int32 → Int32, v = none ∧ Fr n0 L ∧ Keep h0 h [r0] ∧ h0.size ≤ b ∧ Exa Z h r0 "java/lang/String" ∧ Fld Z h r0 "java/lang/String" "coder" "B" (.int 1) ∧ Fld Z h r0 "java/lang/String" "value" "[B" (.ref b) ∧ o_Tb Z h b .byte (512 : Int32) kb ∧ o_Hd q_G kb
abbrev o_R3_256 : Room := { frames := 4, cells := 2, slots := 768, locals := 73 }
theorem o_ef3_256 (m : MethodId) (z0 : Addr) (z1 : Addr) : entryFrame m #[(.ref z0), (.ref z1), (.int 0), (.int 256), .null] 6 = mkF m 0 #[.val (.ref z0), .val (.ref z1), .val (.int 0), .val (.int 256), .val .null, .unset] [] := by first | (simp [entryFrame, mkF, argsToLocals, Value.category]; done) | rfl
set_option maxRecDepth 65536 in
set_option maxHeartbeats 40000000 in
theorem rm3_256 (l : Launch) (Z : State) (a0 : Array Value) (hw : ∀ d ∈ tables_1, d.before a0 Z = true) (ws : List Jvm.Cond) (r0 : Addr) (r1 : Addr) (q_G : Int32 → Int32) (z_cs : Int32) (h0 : Heap) (n0 : Nat) (Z0 : n0 ≤ h0.size) (g_r0 : n0 ≤ r0) (O0 : Old Z n0 h0) (z_CS : ¬ z_cs = 0) (E_r0 : Exa Z h0 r0 "java/lang/String") (F_v : Fld Z h0 r0 "java/lang/String" "value" "[B" .null) (F_c : Fld Z h0 r0 "java/lang/String" "coder" "B" (.int 0)) (T_c : o_Tb Z h0 r1 .char (256 : Int32) q_G) (hG : o_HS q_G) (ne_r0_r1 : r0 ≠ r1) (S_z_cs : Sta Z Z.heap "java/lang/String" "COMPACT_STRINGS" "Z" (.int z_cs)) (S_ad : Sta Z Z.heap "java/lang/StringUTF16" "$assertionsDisabled" "Z" (.int 1)) (S_hi : Sta Z Z.heap "java/lang/StringUTF16" "HI_BYTE_SHIFT" "I" (.int 0)) (S_lo : Sta Z Z.heap "java/lang/StringUTF16" "LO_BYTE_SHIFT" "I" (.int 8)) : o_Met l Z (⟨"java/lang/String", "<init>", "([CIILjava/lang/Void;)V"⟩ : MethodName) jdk_42_method_149_code 6 none ws o_R3_256 #[(.ref r0), (.ref r1), (.int 0), (.int 256), .null] h0 (o_Q3_256 Z r0 r1 q_G z_cs h0 n0) := by
 refine o_met (plainFor_of_name o_pn4) ?_
 intro p e s m below meth c s₁ hx hby hml hown hnm hret hlk hZ e0 X0
 have N0 := Fr.nil n0
 have hml : c.maxLocals = 6 := hml
 have hown : s.vm.findClass "java/lang/String" = some m.cls := hown
 have hret : meth.sig.returnType = none := hret
 have hby : c.code = jdk_42_method_149_code := hby
 have hnm : meth.name = "<init>" := hnm
 rw [o_ef3_256]
 refine o_gi (XS.aloadN X0.here hx rfl (hb hby o_d3_0) rfl rfl) ?_
 show o_Gs p e below _ s₁ m 1 #[.val (.ref r0), .val (.ref r1), .val (.int 0), .val (.int 256), .val .null, .unset] [(.ref r0)]
 obtain ⟨T169, X169, e169, st169⟩ := initO X0 hx hZ hown (hw _ o_t15) (hw _ o_t16) (hw _ o_t17) e0 (g := (mkF m 1 #[.val (.ref r0), .val (.ref r1), .val (.int 0), .val (.int 256), .val .null, .unset] [(.ref r0)])) rfl (by rw [hml]; rfl) rfl (hb hby o_d3_1) (by decide) (W := 0) (by show 2 * 0 + _ ≤ _; exact Nat.le_of_eq rfl) (by decide)
 refine o_go st169 ?_
 refine o_gi (XS.iloadN X169.here hx rfl (hb hby o_d3_4) rfl) ?_
 show o_Gs p e below _ T169 m 5 #[.val (.ref r0), .val (.ref r1), .val (.int 0), .val (.int 256), .val .null, .unset] [(.int 256)]
 have hd170 : ¬ ((256 : Int32) = (0 : Int32)) := (by decide)
 refine o_gi (XS.ifYes X169.here hx rfl (pc0 := 5) (pc' := 27) rfl (hb hby o_d3_5) rfl ((if0 _ _).trans (feq hd170).2) (by decide) (by decide)) ?_
 show o_Gs p e below _ T169 m 27 #[.val (.ref r0), .val (.ref r1), .val (.int 0), .val (.int 256), .val .null, .unset] []
 obtain ⟨T171, X171, e171, st171⟩ := getS2 X169 hx hZ hown (host := "") (Or.inl (hw _ o_t18)) Via.refl e169 (S_z_cs.ext O0.2) (g := (mkF m 27 #[.val (.ref r0), .val (.ref r1), .val (.int 0), .val (.int 256), .val .null, .unset] [])) rfl (hb hby o_d3_27)
 refine o_go st171 ?_
 show o_Gs p e below _ T171 m 30 #[.val (.ref r0), .val (.ref r1), .val (.int 0), .val (.int 256), .val .null, .unset] [(.int z_cs)]
 have hd172 : ¬ (z_cs = (0 : Int32)) := z_CS
 refine o_gi (XS.ifNo X171.here hx rfl (hb hby o_d3_30) rfl ((if0 _ _).trans (feq hd172).1)) ?_
 refine o_gi (XS.aloadN X171.here hx rfl (hb hby o_d3_33) rfl rfl) ?_
 refine o_gi (XS.iloadN X171.here hx rfl (hb hby o_d3_34) rfl) ?_
 refine o_gi (XS.iloadN X171.here hx rfl (hb hby o_d3_35) rfl) ?_
 show o_Gs p e below _ T171 m 36 #[.val (.ref r0), .val (.ref r1), .val (.int 0), .val (.int 256), .val .null, .unset] [(.int 256), (.int 0), (.ref r1)]
 obtain ⟨_, T173, L173, X173, ⟨b173, kb173, rfl, N173q, K173, lt_b173, G173_0, G173_1⟩, st173⟩ := o_callS X171 hx hZ hown (hw _ o_t19) (hw _ o_t20) (hw _ o_t21) (hw _ o_t22) (by decide) (as := [(.ref r1), (.int 0), (.int 256)]) (rm5_256 l Z a0 hw [] r1 q_G h0 n0 Z0 O0 T_c hG S_ad S_hi S_lo) e171 o_pd14 rfl (pc := 36) (Ls := #[.val (.ref r0), .val (.ref r1), .val (.int 0), .val (.int 256), .val .null, .unset]) (rest := []) (W := 0) (by rw [hml]; rfl) (Nat.le_of_eq rfl) (by decide) (by decide) (hb hby o_d3_36) (by decide) (by decide)
 have N173 := Fr.app N0 N173q
 have ne_r0_b173 : r0 ≠ b173 := Nat.ne_of_lt (Nat.lt_of_lt_of_le E_r0.lt lt_b173)
 have ne_r1_b173 : r1 ≠ b173 := Nat.ne_of_lt (Nat.lt_of_lt_of_le T_c.lt lt_b173)
 have g_b173 : n0 ≤ b173 := Nat.le_trans Z0 lt_b173
 have sz_b173 : h0.size ≤ b173 := Nat.le_trans (Keep.refl h0 ([r0] : List Addr)).1 lt_b173
 refine o_go st173 ?_
 refine o_gi (XS.astore X173.here hx rfl (hb hby o_d3_39) rfl rfl (l' := #[.val (.ref r0), .val (.ref r1), .val (.int 0), .val (.int 256), .val .null, .val (.ref b173)]) rfl) ?_
 refine o_gi (XS.aloadN X173.here hx rfl (hb hby o_d3_41) rfl rfl) ?_
 refine o_gi (XS.aload X173.here hx rfl (hb hby o_d3_42) rfl rfl) ?_
 refine o_gi (XS.iloadN X173.here hx rfl (hb hby o_d3_44) rfl) ?_
 show o_Gs p e below _ T173 m 45 #[.val (.ref r0), .val (.ref r1), .val (.int 0), .val (.int 256), .val .null, .val (.ref b173)] [(.int 256), (.ref b173), (.ref r0)]
 obtain ⟨_, T174, L174, X174, ⟨rfl, N174q, e174⟩, st174⟩ := o_callS X173 hx hZ hown (hw _ o_t27) (hw _ o_t28) (hw _ o_t21) (hw _ o_t29) (by decide) (as := [(.ref b173), (.int 256)]) (rm7_256 l Z a0 hw [] b173 kb173 T173.heap n0 G173_0) rfl o_pd15 rfl (pc := 45) (Ls := #[.val (.ref r0), .val (.ref r1), .val (.int 0), .val (.int 256), .val .null, .val (.ref b173)]) (rest := [(.ref r0)]) (W := 1) (by rw [hml]; rfl) (Nat.le_of_eq rfl) (by decide) (by decide) (hb hby o_d3_45) (by decide) (by decide)
 have N174 := Fr.app N173 N174q
 refine o_go st174 ?_
 show o_Gs p e below _ T174 m 48 #[.val (.ref r0), .val (.ref r1), .val (.int 0), .val (.int 256), .val .null, .val (.ref b173)] [(.int 1), (.ref r0)]
 have ff176 : Fld Z T173.heap r0 "java/lang/String" "coder" "B" (.int 0) := (F_c.keep K173 List.not_mem_nil)
 obtain ⟨T175, h175, X175, e175, W175, st175⟩ := putFN X174 hx hZ hown (hw _ o_t30) Via.refl e174 ff176 (E_r0.keep K173) (Or.inr ⟨(hw _ o_t31), rfl, hnm⟩) (hw _ o_t6) (ty := .byte) (v' := .int 1) (by decide) rfl (by decide) (g := (mkF m 48 #[.val (.ref r0), .val (.ref r1), .val (.int 0), .val (.int 256), .val .null, .val (.ref b173)] [(.int 1), (.ref r0)])) rfl rfl (hb hby o_d3_48)
 have N175 := Fr.snoc X175 N174 g_r0
 have Fw175 := ff176.same W175
 refine o_go st175 ?_
 refine o_gi (XS.aloadN X175.here hx rfl (hb hby o_d3_51) rfl rfl) ?_
 refine o_gi (XS.aload X175.here hx rfl (hb hby o_d3_52) rfl rfl) ?_
 show o_Gs p e below _ T175 m 54 #[.val (.ref r0), .val (.ref r1), .val (.int 0), .val (.int 256), .val .null, .val (.ref b173)] [(.ref b173), (.ref r0)]
 have ff178 : Fld Z h175 r0 "java/lang/String" "value" "[B" .null := ((F_v.keep K173 List.not_mem_nil).other W175 (Or.inr (slot_ne (Or.inr (hw _ o_t33)) (Or.inr (hw _ o_t31)) (by decide) (t := (.array .byte)) (t' := .byte) (by decide) (by decide))))
 obtain ⟨T177, h177, X177, e177, W177, st177⟩ := putF X175 hx hZ hown (host := "") (Or.inl (hw _ o_t32)) Via.refl e175 ff178 ((E_r0.keep K173).wr W175) (Or.inr ⟨(hw _ o_t33), rfl, hnm⟩) (hw _ o_t6) (ty := (.array .byte)) (by decide) rfl rfl (g := (mkF m 54 #[.val (.ref r0), .val (.ref r1), .val (.int 0), .val (.int 256), .val .null, .val (.ref b173)] [(.ref b173), (.ref r0)])) rfl rfl (hb hby o_d3_54)
 have N177 := Fr.snoc X177 N175 g_r0
 have Fw177 := ff178.same W177
 refine o_go st177 ?_
 show o_Gs p e below _ T177 m 57 #[.val (.ref r0), .val (.ref r1), .val (.int 0), .val (.int 256), .val .null, .val (.ref b173)] []
 have ff179 : Exa Z h177 r0 "java/lang/String" := (((E_r0.keep K173).wr W175).wr W177)
 have ff180 : Fld Z h177 r0 "java/lang/String" "coder" "B" (.int 1) := (Fw175.other W177 (Or.inr (slot_ne (Or.inr (hw _ o_t31)) (Or.inr (hw _ o_t33)) (by decide) (t := .byte) (t' := (.array .byte)) (by decide) (by decide))))
 have ff181 : o_Tb Z h177 b173 .byte (512 : Int32) kb173 := ((G173_0.other W175 (Ne.symm ne_r0_b173)).other W177 (Ne.symm ne_r0_b173))
 exact o_ret0 X177 hx hlk hret (hb hby o_d3_57) (by decide) (by decide) (by show o_Q3_256 Z r0 r1 q_G z_cs h0 n0 _ T177.heap _; rw [e177]; exact ⟨_, _, rfl, N177, ((((Keep.refl h0 ([r0] : List Addr)).trans K173 (fun x hx => nomatch hx)).wr W175 (Or.inl (List.mem_of_getElem? (i := 0) rfl))).wr W177 (Or.inl (List.mem_of_getElem? (i := 0) rfl))), sz_b173, ff179, ff180, Fw177, ff181, G173_1⟩)
def o_Q2_256 (Z : State) (r0 : Addr) (r1 : Addr) (q_G : Int32 → Int32) (z_cs : Int32) (h0 : Heap) (n0 : Nat) (v : Option Value) (h : Heap) (L : List Loc) : Prop := ∃ b : Addr, ∃ kb : Int32 → Int32, v = none ∧ Fr n0 L ∧ Keep h0 h [r0] ∧ h0.size ≤ b ∧ Exa Z h r0 "java/lang/String" ∧ Fld Z h r0 "java/lang/String" "coder" "B" (.int 1) ∧ Fld Z h r0 "java/lang/String" "value" "[B" (.ref b) ∧ o_Tb Z h b .byte (512 : Int32) kb ∧ o_Hd q_G kb
abbrev o_R2_256 : Room := { frames := 5, cells := 2, slots := 768, locals := 90 }
theorem o_ef2_256 (m : MethodId) (z0 : Addr) (z1 : Addr) : entryFrame m #[(.ref z0), (.ref z1)] 2 = mkF m 0 #[.val (.ref z0), .val (.ref z1)] [] := by first | (simp [entryFrame, mkF, argsToLocals, Value.category]; done) | rfl
set_option maxRecDepth 65536 in
set_option maxHeartbeats 40000000 in
theorem rm2_256 (l : Launch) (Z : State) (a0 : Array Value) (hw : ∀ d ∈ tables_1, d.before a0 Z = true) (ws : List Jvm.Cond) (r0 : Addr) (r1 : Addr) (q_G : Int32 → Int32) (z_cs : Int32) (h0 : Heap) (n0 : Nat) (Z0 : n0 ≤ h0.size) (g_r0 : n0 ≤ r0) (O0 : Old Z n0 h0) (z_CS : ¬ z_cs = 0) (E_r0 : Exa Z h0 r0 "java/lang/String") (F_v : Fld Z h0 r0 "java/lang/String" "value" "[B" .null) (F_c : Fld Z h0 r0 "java/lang/String" "coder" "B" (.int 0)) (T_c : o_Tb Z h0 r1 .char (256 : Int32) q_G) (hG : o_HS q_G) (ne_r0_r1 : r0 ≠ r1) (S_z_cs : Sta Z Z.heap "java/lang/String" "COMPACT_STRINGS" "Z" (.int z_cs)) (S_ad : Sta Z Z.heap "java/lang/StringUTF16" "$assertionsDisabled" "Z" (.int 1)) (S_hi : Sta Z Z.heap "java/lang/StringUTF16" "HI_BYTE_SHIFT" "I" (.int 0)) (S_lo : Sta Z Z.heap "java/lang/StringUTF16" "LO_BYTE_SHIFT" "I" (.int 8)) : o_Met l Z (⟨"java/lang/String", "<init>", "([C)V"⟩ : MethodName) jdk_42_method_3_code 2 none ws o_R2_256 #[(.ref r0), (.ref r1)] h0 (o_Q2_256 Z r0 r1 q_G z_cs h0 n0) := by
 refine o_met (plainFor_of_name o_pn4) ?_
 intro p e s m below meth c s₁ hx hby hml hown hnm hret hlk hZ e0 X0
 have N0 := Fr.nil n0
 have hml : c.maxLocals = 2 := hml
 have hown : s.vm.findClass "java/lang/String" = some m.cls := hown
 have hret : meth.sig.returnType = none := hret
 have hby : c.code = jdk_42_method_3_code := hby
 have hnm : meth.name = "<init>" := hnm
 rw [o_ef2_256]
 refine o_gi (XS.aloadN X0.here hx rfl (hb hby o_d2_0) rfl rfl) ?_
 refine o_gi (XS.aloadN X0.here hx rfl (hb hby o_d2_1) rfl rfl) ?_
 refine o_gi (XS.iconst X0.here hx rfl (hb hby o_d2_2)) ?_
 refine o_gi (XS.aloadN X0.here hx rfl (hb hby o_d2_3) rfl rfl) ?_
 show o_Gs p e below _ s₁ m 4 #[.val (.ref r0), .val (.ref r1)] [(.ref r1), (.int 0), (.ref r1), (.ref r0)]
 obtain ⟨cl182, Ar182, sa182, na182, ha182⟩ := id T_c
 refine o_go (X0.arraylength hx (by rw [e0]; exact Ar182.1) (State.isArrayOf_alike hZ.alike Ar182.2.1) (g := (mkF m 4 #[.val (.ref r0), .val (.ref r1)] [(.ref r1), (.int 0), (.ref r1), (.ref r0)])) rfl rfl (hb hby o_d2_4)) ?_
 rw [len_of sa182 na182]
 refine o_gi (XS.aconstNull X0.here hx rfl (hb hby o_d2_5)) ?_
 show o_Gs p e below _ s₁ m 6 #[.val (.ref r0), .val (.ref r1)] [.null, (.int 256), (.int 0), (.ref r1), (.ref r0)]
 obtain ⟨_, T183, L183, X183, ⟨b183, kb183, rfl, N183q, K183, lt_b183, G183_0, G183_1, G183_2, G183_3, G183_4⟩, st183⟩ := o_callI X0 hx hZ rfl hown (hw _ o_t11) (hw _ o_t12) (hw _ o_t7) (hw _ o_t14) (by decide) (b := r0) (as := [(.ref r1), (.int 0), (.int 256), .null]) (rm3_256 l Z a0 hw [] r0 r1 q_G z_cs h0 n0 Z0 g_r0 O0 z_CS E_r0 F_v F_c T_c hG ne_r0_r1 S_z_cs S_ad S_hi S_lo) e0 o_pd16 rfl (pc := 6) (Ls := #[.val (.ref r0), .val (.ref r1)]) (rest := []) (W := 0) (by rw [hml]; rfl) (Nat.le_of_eq rfl) (by decide) (by decide) (hb hby o_d2_6) (by decide) (by decide)
 have N183 := Fr.app N0 N183q
 have ne_r0_b183 : r0 ≠ b183 := Nat.ne_of_lt (Nat.lt_of_lt_of_le E_r0.lt lt_b183)
 have ne_r1_b183 : r1 ≠ b183 := Nat.ne_of_lt (Nat.lt_of_lt_of_le T_c.lt lt_b183)
 have g_b183 : n0 ≤ b183 := Nat.le_trans Z0 lt_b183
 have sz_b183 : h0.size ≤ b183 := Nat.le_trans (Keep.refl h0 ([r0] : List Addr)).1 lt_b183
 refine o_go st183 ?_
 show o_Gs p e below _ T183 m 9 #[.val (.ref r0), .val (.ref r1)] []
 exact o_ret0 X183 hx hlk hret (hb hby o_d2_9) (by decide) (by decide) (⟨_, _, rfl, N183, ((Keep.refl h0 ([r0] : List Addr)).trans K183 (fun x hx => by cases List.mem_singleton.mp hx; exact Or.inl (List.mem_of_getElem? (i := 0) rfl))), sz_b183, G183_0, G183_1, G183_2, G183_3, G183_4⟩)
theorem o_d1_0 : decode method_2_code 0 = .ok (.iload_n 1, 1) := by decide +kernel
theorem o_d1_1 : decode method_2_code 1 = .ok (.iconst 2, 1) := by decide +kernel
theorem o_d1_2 : decode method_2_code 2 = .ok (.iushr, 1) := by decide +kernel
theorem o_d1_3 : decode method_2_code 3 = .ok (.sipush 255, 3) := by decide +kernel
theorem o_d1_6 : decode method_2_code 6 = .ok (.iand, 1) := by decide +kernel
theorem o_d1_7 : decode method_2_code 7 = .ok (.i2c, 1) := by decide +kernel
theorem o_d1_8 : decode method_2_code 8 = .ok (.istore_n 3, 1) := by decide +kernel
theorem o_d1_9 : decode method_2_code 9 = .ok (.iload_n 1, 1) := by decide +kernel
theorem o_d1_10 : decode method_2_code 10 = .ok (.bipush 10, 2) := by decide +kernel
theorem o_d1_12 : decode method_2_code 12 = .ok (.iushr, 1) := by decide +kernel
theorem o_d1_13 : decode method_2_code 13 = .ok (.sipush 255, 3) := by decide +kernel
theorem o_d1_16 : decode method_2_code 16 = .ok (.iand, 1) := by decide +kernel
theorem o_d1_17 : decode method_2_code 17 = .ok (.i2c, 1) := by decide +kernel
theorem o_d1_18 : decode method_2_code 18 = .ok (.istore 4, 2) := by decide +kernel
theorem o_d1_20 : decode method_2_code 20 = .ok (.iload_n 0, 1) := by decide +kernel
theorem o_d1_21 : decode method_2_code 21 = .ok (.ifCond .ne 23, 3) := by decide +kernel
theorem o_d1_44 : decode method_2_code 44 = .ok (.iload_n 0, 1) := by decide +kernel
theorem o_d1_45 : decode method_2_code 45 = .ok (.iconst 1, 1) := by decide +kernel
theorem o_d1_46 : decode method_2_code 46 = .ok (.if_icmp .ne 29, 3) := by decide +kernel
theorem o_d1_75 : decode method_2_code 75 = .ok (.iload_n 0, 1) := by decide +kernel
theorem o_d1_76 : decode method_2_code 76 = .ok (.iconst 2, 1) := by decide +kernel
theorem o_d1_77 : decode method_2_code 77 = .ok (.if_icmp .ne 31, 3) := by decide +kernel
theorem o_d1_108 : decode method_2_code 108 = .ok (.iload_n 2, 1) := by decide +kernel
theorem o_d1_109 : decode method_2_code 109 = .ok (.iconst 1, 1) := by decide +kernel
theorem o_d1_110 : decode method_2_code 110 = .ok (.iadd, 1) := by decide +kernel
theorem o_d1_111 : decode method_2_code 111 = .ok (.newarray .char, 2) := by decide +kernel
theorem o_t4 : (Jvm.Cond.arrayClass Jvm.ClassFile.FieldType.char) ∈ tables_1 := List.mem_of_getElem? (i := 4) rfl
theorem o_d1_113 : decode method_2_code 113 = .ok (.astore 5, 2) := by decide +kernel
theorem o_d1_115 : decode method_2_code 115 = .ok (.aload 5, 2) := by decide +kernel
theorem o_d1_117 : decode method_2_code 117 = .ok (.iconst 0, 1) := by decide +kernel
theorem o_d1_118 : decode method_2_code 118 = .ok (.ldc 12, 2) := by decide +kernel
theorem o_t34 : (Jvm.Cond.constant "com/example/quittance/quittance/dialect/ClaimOfPinLaw" (12 : Nat) (55296 : Int32)) ∈ tables_1 := List.mem_of_getElem? (i := 34) rfl
theorem o_d1_120 : decode method_2_code 120 = .ok (.iload_n 1, 1) := by decide +kernel
theorem o_d1_121 : decode method_2_code 121 = .ok (.iconst 2, 1) := by decide +kernel
theorem o_d1_122 : decode method_2_code 122 = .ok (.iushr, 1) := by decide +kernel
theorem o_d1_123 : decode method_2_code 123 = .ok (.sipush 1023, 3) := by decide +kernel
theorem o_d1_126 : decode method_2_code 126 = .ok (.iand, 1) := by decide +kernel
theorem o_d1_127 : decode method_2_code 127 = .ok (.ior, 1) := by decide +kernel
theorem o_d1_128 : decode method_2_code 128 = .ok (.i2c, 1) := by decide +kernel
theorem o_d1_129 : decode method_2_code 129 = .ok (.castore, 1) := by decide +kernel
theorem o_d1_130 : decode method_2_code 130 = .ok (.aload 5, 2) := by decide +kernel
theorem o_d1_132 : decode method_2_code 132 = .ok (.iconst 1, 1) := by decide +kernel
theorem o_d1_133 : decode method_2_code 133 = .ok (.ldc 13, 2) := by decide +kernel
theorem o_t35 : (Jvm.Cond.constant "com/example/quittance/quittance/dialect/ClaimOfPinLaw" (13 : Nat) (56320 : Int32)) ∈ tables_1 := List.mem_of_getElem? (i := 35) rfl
theorem o_d1_135 : decode method_2_code 135 = .ok (.iload_n 1, 1) := by decide +kernel
theorem o_d1_136 : decode method_2_code 136 = .ok (.bipush 12, 2) := by decide +kernel
theorem o_d1_138 : decode method_2_code 138 = .ok (.iushr, 1) := by decide +kernel
theorem o_d1_139 : decode method_2_code 139 = .ok (.sipush 1023, 3) := by decide +kernel
theorem o_d1_142 : decode method_2_code 142 = .ok (.iand, 1) := by decide +kernel
theorem o_d1_143 : decode method_2_code 143 = .ok (.ior, 1) := by decide +kernel
theorem o_d1_144 : decode method_2_code 144 = .ok (.i2c, 1) := by decide +kernel
theorem o_d1_145 : decode method_2_code 145 = .ok (.castore, 1) := by decide +kernel
theorem o_d1_146 : decode method_2_code 146 = .ok (.aload 5, 2) := by decide +kernel
theorem o_d1_148 : decode method_2_code 148 = .ok (.iload_n 2, 1) := by decide +kernel
theorem o_d1_149 : decode method_2_code 149 = .ok (.iload 4, 2) := by decide +kernel
theorem o_d1_151 : decode method_2_code 151 = .ok (.castore, 1) := by decide +kernel
theorem o_d1_152 : decode method_2_code 152 = .ok (.new 7, 3) := by decide +kernel
theorem o_t5 : (Jvm.Cond.classLink "com/example/quittance/quittance/dialect/ClaimOfPinLaw" (7 : Nat) "java/lang/String") ∈ tables_1 := List.mem_of_getElem? (i := 5) rfl
theorem o_d1_155 : decode method_2_code 155 = .ok (.dup, 1) := by decide +kernel
theorem o_d1_156 : decode method_2_code 156 = .ok (.aload 5, 2) := by decide +kernel
theorem o_d1_158 : decode method_2_code 158 = .ok (.invokespecial 9, 3) := by decide +kernel
theorem o_t8 : (Jvm.Cond.methodLink "com/example/quittance/quittance/dialect/ClaimOfPinLaw" (9 : Nat) ({ cls := "java/lang/String", name := "<init>", desc := "([C)V" } : Jvm.MethodName)) ∈ tables_1 := List.mem_of_getElem? (i := 8) rfl
theorem o_pd17 : parseMethodDescriptor "([C)V" = some ⟨[(.array .char)], none⟩ := by decide +kernel
theorem o_t9 : (Jvm.Cond.instanceMethod ({ cls := "java/lang/String", name := "<init>", desc := "([C)V" } : Jvm.MethodName)) ∈ tables_1 := List.mem_of_getElem? (i := 9) rfl
theorem o_t10 : (Jvm.Cond.code ({ cls := "java/lang/String", name := "<init>", desc := "([C)V" } : Jvm.MethodName) jdk_42_method_3_code (2 : Nat) (Option.none : Option Jvm.ClassFile.FieldType)) ∈ tables_1 := List.mem_of_getElem? (i := 10) rfl
theorem o_pn6 : plainName "com/example/quittance/quittance/dialect/ClaimOfPinLaw" = true := by first | (simp [plainName, overriddenIn]; done) | decide +kernel
theorem o_d1_161 : decode method_2_code 161 = .ok (.areturn, 1) := by decide +kernel
def o_G1_64_3_1 (x1 : Int32) : Int32 → Int32 := fun k => if k = (0 : Int32) then (nar .char (((55296 : Int32) ||| (((x1.toUInt32 >>> ((2 : Int32) &&& 31).toUInt32).toInt32) &&& (1023 : Int32))).toUInt32.toUInt16.toUInt32.toInt32)) else (fun _ => 0) k
def o_G1_64_3_2 (x1 : Int32) : Int32 → Int32 := fun k => if k = (1 : Int32) then (nar .char (((56320 : Int32) ||| (((x1.toUInt32 >>> ((12 : Int32) &&& 31).toUInt32).toInt32) &&& (1023 : Int32))).toUInt32.toUInt16.toUInt32.toInt32)) else (o_G1_64_3_1 x1) k
def o_G1_64_3_3 (x1 : Int32) : Int32 → Int32 := fun k => if k = (64 : Int32) then (nar .char ((((x1.toUInt32 >>> ((10 : Int32) &&& 31).toUInt32).toInt32) &&& (255 : Int32)).toUInt32.toUInt16.toUInt32.toInt32)) else (o_G1_64_3_2 x1) k
def o_Q1_64_3 (Z : State) (x1 : Int32) (z_cs : Int32) (h0 : Heap) (n0 : Nat) (v : Option Value) (h : Heap) (L : List Loc) : Prop := ∃ b : Addr, v = some (.ref b) ∧ Fr n0 L ∧ Keep h0 h [] ∧ h0.size ≤ b ∧ o_Id Z h b (64 : Int32)
abbrev o_R1_64_3 : Room := { frames := 6, cells := 4, slots := 1028, locals := 125 }
theorem o_ef1_64_3 (m : MethodId) (z1 : Int32) : entryFrame m #[(.int 3), (.int z1), (.int 64)] 6 = mkF m 0 #[.val (.int 3), .val (.int z1), .val (.int 64), .unset, .unset, .unset] [] := by first | (simp [entryFrame, mkF, argsToLocals, Value.category]; done) | rfl
set_option maxRecDepth 65536 in
set_option maxHeartbeats 40000000 in
theorem rm1_64_3 (l : Launch) (Z : State) (a0 : Array Value) (hw : ∀ d ∈ tables_1, d.before a0 Z = true) (ws : List Jvm.Cond) (x1 : Int32) (z_cs : Int32) (h0 : Heap) (n0 : Nat) (Z0 : n0 ≤ h0.size) (O0 : Old Z n0 h0) (z_CS : ¬ z_cs = 0) (S_z_cs : Sta Z Z.heap "java/lang/String" "COMPACT_STRINGS" "Z" (.int z_cs)) (S_ad : Sta Z Z.heap "java/lang/StringUTF16" "$assertionsDisabled" "Z" (.int 1)) (S_hi : Sta Z Z.heap "java/lang/StringUTF16" "HI_BYTE_SHIFT" "I" (.int 0)) (S_lo : Sta Z Z.heap "java/lang/StringUTF16" "LO_BYTE_SHIFT" "I" (.int 8)) : o_Met l Z (⟨"com/example/quittance/quittance/dialect/ClaimOfPinLaw", "id", "(III)Ljava/lang/String;"⟩ : MethodName) method_2_code 6 (some (.object "java/lang/String")) ws o_R1_64_3 #[(.int 3), (.int x1), (.int 64)] h0 (o_Q1_64_3 Z x1 z_cs h0 n0) := by
 refine o_met (plainFor_of_name o_pn6) ?_
 intro p e s m below meth c s₁ hx hby hml hown hnm hret hlk hZ e0 X0
 have N0 := Fr.nil n0
 have hml : c.maxLocals = 6 := hml
 have hown : s.vm.findClass "com/example/quittance/quittance/dialect/ClaimOfPinLaw" = some m.cls := hown
 have hret : meth.sig.returnType = (some (.object "java/lang/String")) := hret
 have hby : c.code = method_2_code := hby
 have hnm : meth.name = "id" := hnm
 rw [o_ef1_64_3]
 refine o_gi (XS.iloadN X0.here hx rfl (hb hby o_d1_0) rfl) ?_
 refine o_gi (XS.iconst X0.here hx rfl (hb hby o_d1_1)) ?_
 show o_Gs p e below _ s₁ m 2 #[.val (.int 3), .val (.int x1), .val (.int 64), .unset, .unset, .unset] [(.int 2), (.int x1)]
 refine o_gi (XS.iushr X0.here hx rfl (hb hby o_d1_2) rfl) ?_
 refine o_gi (XS.sipush X0.here hx rfl (hb hby o_d1_3)) ?_
 show o_Gs p e below _ s₁ m 6 #[.val (.int 3), .val (.int x1), .val (.int 64), .unset, .unset, .unset] [(.int 255), (.int ((x1.toUInt32 >>> ((2 : Int32) &&& 31).toUInt32).toInt32))]
 refine o_gi (XS.iand X0.here hx rfl (hb hby o_d1_6) rfl) ?_
 show o_Gs p e below _ s₁ m 7 #[.val (.int 3), .val (.int x1), .val (.int 64), .unset, .unset, .unset] [(.int (((x1.toUInt32 >>> ((2 : Int32) &&& 31).toUInt32).toInt32) &&& (255 : Int32)))]
 refine o_gi (XS.i2c X0.here hx rfl (hb hby o_d1_7) rfl) ?_
 refine o_gi (XS.istoreN X0.here hx rfl (hb hby o_d1_8) rfl (l' := #[.val (.int 3), .val (.int x1), .val (.int 64), .val (.int ((((x1.toUInt32 >>> ((2 : Int32) &&& 31).toUInt32).toInt32) &&& (255 : Int32)).toUInt32.toUInt16.toUInt32.toInt32)), .unset, .unset]) rfl) ?_
 refine o_gi (XS.iloadN X0.here hx rfl (hb hby o_d1_9) rfl) ?_
 refine o_gi (XS.bipush X0.here hx rfl (hb hby o_d1_10)) ?_
 show o_Gs p e below _ s₁ m 12 #[.val (.int 3), .val (.int x1), .val (.int 64), .val (.int ((((x1.toUInt32 >>> ((2 : Int32) &&& 31).toUInt32).toInt32) &&& (255 : Int32)).toUInt32.toUInt16.toUInt32.toInt32)), .unset, .unset] [(.int 10), (.int x1)]
 refine o_gi (XS.iushr X0.here hx rfl (hb hby o_d1_12) rfl) ?_
 refine o_gi (XS.sipush X0.here hx rfl (hb hby o_d1_13)) ?_
 show o_Gs p e below _ s₁ m 16 #[.val (.int 3), .val (.int x1), .val (.int 64), .val (.int ((((x1.toUInt32 >>> ((2 : Int32) &&& 31).toUInt32).toInt32) &&& (255 : Int32)).toUInt32.toUInt16.toUInt32.toInt32)), .unset, .unset] [(.int 255), (.int ((x1.toUInt32 >>> ((10 : Int32) &&& 31).toUInt32).toInt32))]
 refine o_gi (XS.iand X0.here hx rfl (hb hby o_d1_16) rfl) ?_
 show o_Gs p e below _ s₁ m 17 #[.val (.int 3), .val (.int x1), .val (.int 64), .val (.int ((((x1.toUInt32 >>> ((2 : Int32) &&& 31).toUInt32).toInt32) &&& (255 : Int32)).toUInt32.toUInt16.toUInt32.toInt32)), .unset, .unset] [(.int (((x1.toUInt32 >>> ((10 : Int32) &&& 31).toUInt32).toInt32) &&& (255 : Int32)))]
 refine o_gi (XS.i2c X0.here hx rfl (hb hby o_d1_17) rfl) ?_
 refine o_gi (XS.istore X0.here hx rfl (hb hby o_d1_18) rfl (l' := #[.val (.int 3), .val (.int x1), .val (.int 64), .val (.int ((((x1.toUInt32 >>> ((2 : Int32) &&& 31).toUInt32).toInt32) &&& (255 : Int32)).toUInt32.toUInt16.toUInt32.toInt32)), .val (.int ((((x1.toUInt32 >>> ((10 : Int32) &&& 31).toUInt32).toInt32) &&& (255 : Int32)).toUInt32.toUInt16.toUInt32.toInt32)), .unset]) rfl) ?_
 refine o_gi (XS.iloadN X0.here hx rfl (hb hby o_d1_20) rfl) ?_
 show o_Gs p e below _ s₁ m 21 #[.val (.int 3), .val (.int x1), .val (.int 64), .val (.int ((((x1.toUInt32 >>> ((2 : Int32) &&& 31).toUInt32).toInt32) &&& (255 : Int32)).toUInt32.toUInt16.toUInt32.toInt32)), .val (.int ((((x1.toUInt32 >>> ((10 : Int32) &&& 31).toUInt32).toInt32) &&& (255 : Int32)).toUInt32.toUInt16.toUInt32.toInt32)), .unset] [(.int 3)]
 have hd184 : ¬ ((3 : Int32) = (0 : Int32)) := (by decide)
 refine o_gi (XS.ifYes X0.here hx rfl (pc0 := 21) (pc' := 44) rfl (hb hby o_d1_21) rfl ((if0 _ _).trans (feq hd184).2) (by decide) (by decide)) ?_
 refine o_gi (XS.iloadN X0.here hx rfl (hb hby o_d1_44) rfl) ?_
 refine o_gi (XS.iconst X0.here hx rfl (hb hby o_d1_45)) ?_
 show o_Gs p e below _ s₁ m 46 #[.val (.int 3), .val (.int x1), .val (.int 64), .val (.int ((((x1.toUInt32 >>> ((2 : Int32) &&& 31).toUInt32).toInt32) &&& (255 : Int32)).toUInt32.toUInt16.toUInt32.toInt32)), .val (.int ((((x1.toUInt32 >>> ((10 : Int32) &&& 31).toUInt32).toInt32) &&& (255 : Int32)).toUInt32.toUInt16.toUInt32.toInt32)), .unset] [(.int 1), (.int 3)]
 have hd185 : ¬ ((3 : Int32) = (1 : Int32)) := (by decide)
 refine o_gi (XS.icmpYes X0.here hx rfl (pc0 := 46) (pc' := 75) rfl (hb hby o_d1_46) rfl (feq hd185).2 (by decide) (by decide)) ?_
 refine o_gi (XS.iloadN X0.here hx rfl (hb hby o_d1_75) rfl) ?_
 refine o_gi (XS.iconst X0.here hx rfl (hb hby o_d1_76)) ?_
 show o_Gs p e below _ s₁ m 77 #[.val (.int 3), .val (.int x1), .val (.int 64), .val (.int ((((x1.toUInt32 >>> ((2 : Int32) &&& 31).toUInt32).toInt32) &&& (255 : Int32)).toUInt32.toUInt16.toUInt32.toInt32)), .val (.int ((((x1.toUInt32 >>> ((10 : Int32) &&& 31).toUInt32).toInt32) &&& (255 : Int32)).toUInt32.toUInt16.toUInt32.toInt32)), .unset] [(.int 2), (.int 3)]
 have hd186 : ¬ ((3 : Int32) = (2 : Int32)) := (by decide)
 refine o_gi (XS.icmpYes X0.here hx rfl (pc0 := 77) (pc' := 108) rfl (hb hby o_d1_77) rfl (feq hd186).2 (by decide) (by decide)) ?_
 refine o_gi (XS.iloadN X0.here hx rfl (hb hby o_d1_108) rfl) ?_
 refine o_gi (XS.iconst X0.here hx rfl (hb hby o_d1_109)) ?_
 show o_Gs p e below _ s₁ m 110 #[.val (.int 3), .val (.int x1), .val (.int 64), .val (.int ((((x1.toUInt32 >>> ((2 : Int32) &&& 31).toUInt32).toInt32) &&& (255 : Int32)).toUInt32.toUInt16.toUInt32.toInt32)), .val (.int ((((x1.toUInt32 >>> ((10 : Int32) &&& 31).toUInt32).toInt32) &&& (255 : Int32)).toUInt32.toUInt16.toUInt32.toInt32)), .unset] [(.int 1), (.int 64)]
 refine o_gi (XS.iadd X0.here hx rfl (hb hby o_d1_110) rfl) ?_
 show o_Gs p e below _ s₁ m 111 #[.val (.int 3), .val (.int x1), .val (.int 64), .val (.int ((((x1.toUInt32 >>> ((2 : Int32) &&& 31).toUInt32).toInt32) &&& (255 : Int32)).toUInt32.toUInt16.toUInt32.toInt32)), .val (.int ((((x1.toUInt32 >>> ((10 : Int32) &&& 31).toUInt32).toInt32) &&& (255 : Int32)).toUInt32.toUInt16.toUInt32.toInt32)), .unset] [(.int ((64 : Int32) + (1 : Int32)))]
 rw [show ((64 : Int32) + (1 : Int32)) = (65 : Int32) from by decide]
 show o_Gs p e below _ s₁ m 111 #[.val (.int 3), .val (.int x1), .val (.int 64), .val (.int ((((x1.toUInt32 >>> ((2 : Int32) &&& 31).toUInt32).toInt32) &&& (255 : Int32)).toUInt32.toUInt16.toUInt32.toInt32)), .val (.int ((((x1.toUInt32 >>> ((10 : Int32) &&& 31).toUInt32).toInt32) &&& (255 : Int32)).toUInt32.toUInt16.toUInt32.toInt32)), .unset] [(.int 65)]
 obtain ⟨T187, h187, k187, X187, e187, E187, A187, st187⟩ := newP X0 hx hZ (aty := .char) (hw _ o_t4) e0 (g := (mkF m 111 #[.val (.int 3), .val (.int x1), .val (.int 64), .val (.int ((((x1.toUInt32 >>> ((2 : Int32) &&& 31).toUInt32).toInt32) &&& (255 : Int32)).toUInt32.toUInt16.toUInt32.toInt32)), .val (.int ((((x1.toUInt32 >>> ((10 : Int32) &&& 31).toUInt32).toInt32) &&& (255 : Int32)).toUInt32.toUInt16.toUInt32.toInt32)), .unset] [(.int 65)])) rfl (hb hby o_d1_111) rfl (by decide) (cap := 65) (by decide) (by decide) (by decide) (by decide)
 obtain ⟨b187, q187⟩ : ∃ z, z = h0.size := ⟨_, rfl⟩
 rw [← q187] at A187 st187
 have lt_b187 : h0.size ≤ b187 := Nat.le_of_eq q187.symm
 have g_b187 : n0 ≤ b187 := Nat.le_trans Z0 lt_b187
 have sz_b187 : h0.size ≤ b187 := Nat.le_trans (Keep.refl h0 ([] : List Addr)).1 lt_b187
 have V187 : o_Tb Z h187 b187 .char (65 : Int32) (fun _ => 0) := o_Tb.new A187 (by decide) rfl
 refine o_go st187 ?_
 refine o_gi (XS.astore X187.here hx rfl (hb hby o_d1_113) rfl rfl (l' := #[.val (.int 3), .val (.int x1), .val (.int 64), .val (.int ((((x1.toUInt32 >>> ((2 : Int32) &&& 31).toUInt32).toInt32) &&& (255 : Int32)).toUInt32.toUInt16.toUInt32.toInt32)), .val (.int ((((x1.toUInt32 >>> ((10 : Int32) &&& 31).toUInt32).toInt32) &&& (255 : Int32)).toUInt32.toUInt16.toUInt32.toInt32)), .val (.ref b187)]) rfl) ?_
 refine o_gi (XS.aload X187.here hx rfl (hb hby o_d1_115) rfl rfl) ?_
 refine o_gi (XS.iconst X187.here hx rfl (hb hby o_d1_117)) ?_
 show o_Gs p e below _ T187 m 118 #[.val (.int 3), .val (.int x1), .val (.int 64), .val (.int ((((x1.toUInt32 >>> ((2 : Int32) &&& 31).toUInt32).toInt32) &&& (255 : Int32)).toUInt32.toUInt16.toUInt32.toInt32)), .val (.int ((((x1.toUInt32 >>> ((10 : Int32) &&& 31).toUInt32).toInt32) &&& (255 : Int32)).toUInt32.toUInt16.toUInt32.toInt32)), .val (.ref b187)] [(.int 0), (.ref b187)]
 refine o_go (X187.ldcInt hx hown (mvT hZ (hw _ o_t34)) (g := (mkF m 118 #[.val (.int 3), .val (.int x1), .val (.int 64), .val (.int ((((x1.toUInt32 >>> ((2 : Int32) &&& 31).toUInt32).toInt32) &&& (255 : Int32)).toUInt32.toUInt16.toUInt32.toInt32)), .val (.int ((((x1.toUInt32 >>> ((10 : Int32) &&& 31).toUInt32).toInt32) &&& (255 : Int32)).toUInt32.toUInt16.toUInt32.toInt32)), .val (.ref b187)] [(.int 0), (.ref b187)])) rfl (hb hby o_d1_118)) ?_
 refine o_gi (XS.iloadN X187.here hx rfl (hb hby o_d1_120) rfl) ?_
 refine o_gi (XS.iconst X187.here hx rfl (hb hby o_d1_121)) ?_
 show o_Gs p e below _ T187 m 122 #[.val (.int 3), .val (.int x1), .val (.int 64), .val (.int ((((x1.toUInt32 >>> ((2 : Int32) &&& 31).toUInt32).toInt32) &&& (255 : Int32)).toUInt32.toUInt16.toUInt32.toInt32)), .val (.int ((((x1.toUInt32 >>> ((10 : Int32) &&& 31).toUInt32).toInt32) &&& (255 : Int32)).toUInt32.toUInt16.toUInt32.toInt32)), .val (.ref b187)] [(.int 2), (.int x1), (.int 55296), (.int 0), (.ref b187)]
 refine o_gi (XS.iushr X187.here hx rfl (hb hby o_d1_122) rfl) ?_
 refine o_gi (XS.sipush X187.here hx rfl (hb hby o_d1_123)) ?_
 show o_Gs p e below _ T187 m 126 #[.val (.int 3), .val (.int x1), .val (.int 64), .val (.int ((((x1.toUInt32 >>> ((2 : Int32) &&& 31).toUInt32).toInt32) &&& (255 : Int32)).toUInt32.toUInt16.toUInt32.toInt32)), .val (.int ((((x1.toUInt32 >>> ((10 : Int32) &&& 31).toUInt32).toInt32) &&& (255 : Int32)).toUInt32.toUInt16.toUInt32.toInt32)), .val (.ref b187)] [(.int 1023), (.int ((x1.toUInt32 >>> ((2 : Int32) &&& 31).toUInt32).toInt32)), (.int 55296), (.int 0), (.ref b187)]
 refine o_gi (XS.iand X187.here hx rfl (hb hby o_d1_126) rfl) ?_
 show o_Gs p e below _ T187 m 127 #[.val (.int 3), .val (.int x1), .val (.int 64), .val (.int ((((x1.toUInt32 >>> ((2 : Int32) &&& 31).toUInt32).toInt32) &&& (255 : Int32)).toUInt32.toUInt16.toUInt32.toInt32)), .val (.int ((((x1.toUInt32 >>> ((10 : Int32) &&& 31).toUInt32).toInt32) &&& (255 : Int32)).toUInt32.toUInt16.toUInt32.toInt32)), .val (.ref b187)] [(.int (((x1.toUInt32 >>> ((2 : Int32) &&& 31).toUInt32).toInt32) &&& (1023 : Int32))), (.int 55296), (.int 0), (.ref b187)]
 refine o_gi (XS.ior X187.here hx rfl (hb hby o_d1_127) rfl) ?_
 show o_Gs p e below _ T187 m 128 #[.val (.int 3), .val (.int x1), .val (.int 64), .val (.int ((((x1.toUInt32 >>> ((2 : Int32) &&& 31).toUInt32).toInt32) &&& (255 : Int32)).toUInt32.toUInt16.toUInt32.toInt32)), .val (.int ((((x1.toUInt32 >>> ((10 : Int32) &&& 31).toUInt32).toInt32) &&& (255 : Int32)).toUInt32.toUInt16.toUInt32.toInt32)), .val (.ref b187)] [(.int ((55296 : Int32) ||| (((x1.toUInt32 >>> ((2 : Int32) &&& 31).toUInt32).toInt32) &&& (1023 : Int32)))), (.int 0), (.ref b187)]
 refine o_gi (XS.i2c X187.here hx rfl (hb hby o_d1_128) rfl) ?_
 show o_Gs p e below _ T187 m 129 #[.val (.int 3), .val (.int x1), .val (.int 64), .val (.int ((((x1.toUInt32 >>> ((2 : Int32) &&& 31).toUInt32).toInt32) &&& (255 : Int32)).toUInt32.toUInt16.toUInt32.toInt32)), .val (.int ((((x1.toUInt32 >>> ((10 : Int32) &&& 31).toUInt32).toInt32) &&& (255 : Int32)).toUInt32.toUInt16.toUInt32.toInt32)), .val (.ref b187)] [(.int (((55296 : Int32) ||| (((x1.toUInt32 >>> ((2 : Int32) &&& 31).toUInt32).toInt32) &&& (1023 : Int32))).toUInt32.toUInt16.toUInt32.toInt32)), (.int 0), (.ref b187)]
 obtain ⟨cl188, Ar188, sa188, na188, ha188⟩ := id V187
 obtain ⟨T188, h188, X188, e188, W188, st188⟩ := stC X187 hx hZ e187 Ar188 (j := (0 : Int32)) (inb_of sa188 ⟨by decide, by decide⟩) (g := (mkF m 129 #[.val (.int 3), .val (.int x1), .val (.int 64), .val (.int ((((x1.toUInt32 >>> ((2 : Int32) &&& 31).toUInt32).toInt32) &&& (255 : Int32)).toUInt32.toUInt16.toUInt32.toInt32)), .val (.int ((((x1.toUInt32 >>> ((10 : Int32) &&& 31).toUInt32).toInt32) &&& (255 : Int32)).toUInt32.toUInt16.toUInt32.toInt32)), .val (.ref b187)] [(.int (((55296 : Int32) ||| (((x1.toUInt32 >>> ((2 : Int32) &&& 31).toUInt32).toInt32) &&& (1023 : Int32))).toUInt32.toUInt16.toUInt32.toInt32)), (.int 0), (.ref b187)])) rfl rfl (hb hby o_d1_129)
 have V188 : o_Tb Z h188 b187 .char (65 : Int32) (o_G1_64_3_1 x1) := o_Tb.set Ar188 sa188 na188 ha188 W188 ⟨by decide, by decide⟩
 have N188 := Fr.snoc X188 N0 g_b187
 refine o_go st188 ?_
 refine o_gi (XS.aload X188.here hx rfl (hb hby o_d1_130) rfl rfl) ?_
 refine o_gi (XS.iconst X188.here hx rfl (hb hby o_d1_132)) ?_
 show o_Gs p e below _ T188 m 133 #[.val (.int 3), .val (.int x1), .val (.int 64), .val (.int ((((x1.toUInt32 >>> ((2 : Int32) &&& 31).toUInt32).toInt32) &&& (255 : Int32)).toUInt32.toUInt16.toUInt32.toInt32)), .val (.int ((((x1.toUInt32 >>> ((10 : Int32) &&& 31).toUInt32).toInt32) &&& (255 : Int32)).toUInt32.toUInt16.toUInt32.toInt32)), .val (.ref b187)] [(.int 1), (.ref b187)]
 refine o_go (X188.ldcInt hx hown (mvT hZ (hw _ o_t35)) (g := (mkF m 133 #[.val (.int 3), .val (.int x1), .val (.int 64), .val (.int ((((x1.toUInt32 >>> ((2 : Int32) &&& 31).toUInt32).toInt32) &&& (255 : Int32)).toUInt32.toUInt16.toUInt32.toInt32)), .val (.int ((((x1.toUInt32 >>> ((10 : Int32) &&& 31).toUInt32).toInt32) &&& (255 : Int32)).toUInt32.toUInt16.toUInt32.toInt32)), .val (.ref b187)] [(.int 1), (.ref b187)])) rfl (hb hby o_d1_133)) ?_
 refine o_gi (XS.iloadN X188.here hx rfl (hb hby o_d1_135) rfl) ?_
 refine o_gi (XS.bipush X188.here hx rfl (hb hby o_d1_136)) ?_
 show o_Gs p e below _ T188 m 138 #[.val (.int 3), .val (.int x1), .val (.int 64), .val (.int ((((x1.toUInt32 >>> ((2 : Int32) &&& 31).toUInt32).toInt32) &&& (255 : Int32)).toUInt32.toUInt16.toUInt32.toInt32)), .val (.int ((((x1.toUInt32 >>> ((10 : Int32) &&& 31).toUInt32).toInt32) &&& (255 : Int32)).toUInt32.toUInt16.toUInt32.toInt32)), .val (.ref b187)] [(.int 12), (.int x1), (.int 56320), (.int 1), (.ref b187)]
 refine o_gi (XS.iushr X188.here hx rfl (hb hby o_d1_138) rfl) ?_
 refine o_gi (XS.sipush X188.here hx rfl (hb hby o_d1_139)) ?_
 show o_Gs p e below _ T188 m 142 #[.val (.int 3), .val (.int x1), .val (.int 64), .val (.int ((((x1.toUInt32 >>> ((2 : Int32) &&& 31).toUInt32).toInt32) &&& (255 : Int32)).toUInt32.toUInt16.toUInt32.toInt32)), .val (.int ((((x1.toUInt32 >>> ((10 : Int32) &&& 31).toUInt32).toInt32) &&& (255 : Int32)).toUInt32.toUInt16.toUInt32.toInt32)), .val (.ref b187)] [(.int 1023), (.int ((x1.toUInt32 >>> ((12 : Int32) &&& 31).toUInt32).toInt32)), (.int 56320), (.int 1), (.ref b187)]
 refine o_gi (XS.iand X188.here hx rfl (hb hby o_d1_142) rfl) ?_
 show o_Gs p e below _ T188 m 143 #[.val (.int 3), .val (.int x1), .val (.int 64), .val (.int ((((x1.toUInt32 >>> ((2 : Int32) &&& 31).toUInt32).toInt32) &&& (255 : Int32)).toUInt32.toUInt16.toUInt32.toInt32)), .val (.int ((((x1.toUInt32 >>> ((10 : Int32) &&& 31).toUInt32).toInt32) &&& (255 : Int32)).toUInt32.toUInt16.toUInt32.toInt32)), .val (.ref b187)] [(.int (((x1.toUInt32 >>> ((12 : Int32) &&& 31).toUInt32).toInt32) &&& (1023 : Int32))), (.int 56320), (.int 1), (.ref b187)]
 refine o_gi (XS.ior X188.here hx rfl (hb hby o_d1_143) rfl) ?_
 show o_Gs p e below _ T188 m 144 #[.val (.int 3), .val (.int x1), .val (.int 64), .val (.int ((((x1.toUInt32 >>> ((2 : Int32) &&& 31).toUInt32).toInt32) &&& (255 : Int32)).toUInt32.toUInt16.toUInt32.toInt32)), .val (.int ((((x1.toUInt32 >>> ((10 : Int32) &&& 31).toUInt32).toInt32) &&& (255 : Int32)).toUInt32.toUInt16.toUInt32.toInt32)), .val (.ref b187)] [(.int ((56320 : Int32) ||| (((x1.toUInt32 >>> ((12 : Int32) &&& 31).toUInt32).toInt32) &&& (1023 : Int32)))), (.int 1), (.ref b187)]
 refine o_gi (XS.i2c X188.here hx rfl (hb hby o_d1_144) rfl) ?_
 show o_Gs p e below _ T188 m 145 #[.val (.int 3), .val (.int x1), .val (.int 64), .val (.int ((((x1.toUInt32 >>> ((2 : Int32) &&& 31).toUInt32).toInt32) &&& (255 : Int32)).toUInt32.toUInt16.toUInt32.toInt32)), .val (.int ((((x1.toUInt32 >>> ((10 : Int32) &&& 31).toUInt32).toInt32) &&& (255 : Int32)).toUInt32.toUInt16.toUInt32.toInt32)), .val (.ref b187)] [(.int (((56320 : Int32) ||| (((x1.toUInt32 >>> ((12 : Int32) &&& 31).toUInt32).toInt32) &&& (1023 : Int32))).toUInt32.toUInt16.toUInt32.toInt32)), (.int 1), (.ref b187)]
 obtain ⟨cl189, Ar189, sa189, na189, ha189⟩ := id V188
 obtain ⟨T189, h189, X189, e189, W189, st189⟩ := stC X188 hx hZ e188 Ar189 (j := (1 : Int32)) (inb_of sa189 ⟨by decide, by decide⟩) (g := (mkF m 145 #[.val (.int 3), .val (.int x1), .val (.int 64), .val (.int ((((x1.toUInt32 >>> ((2 : Int32) &&& 31).toUInt32).toInt32) &&& (255 : Int32)).toUInt32.toUInt16.toUInt32.toInt32)), .val (.int ((((x1.toUInt32 >>> ((10 : Int32) &&& 31).toUInt32).toInt32) &&& (255 : Int32)).toUInt32.toUInt16.toUInt32.toInt32)), .val (.ref b187)] [(.int (((56320 : Int32) ||| (((x1.toUInt32 >>> ((12 : Int32) &&& 31).toUInt32).toInt32) &&& (1023 : Int32))).toUInt32.toUInt16.toUInt32.toInt32)), (.int 1), (.ref b187)])) rfl rfl (hb hby o_d1_145)
 have V189 : o_Tb Z h189 b187 .char (65 : Int32) (o_G1_64_3_2 x1) := o_Tb.set Ar189 sa189 na189 ha189 W189 ⟨by decide, by decide⟩
 have N189 := Fr.snoc X189 N188 g_b187
 refine o_go st189 ?_
 refine o_gi (XS.aload X189.here hx rfl (hb hby o_d1_146) rfl rfl) ?_
 refine o_gi (XS.iloadN X189.here hx rfl (hb hby o_d1_148) rfl) ?_
 refine o_gi (XS.iload X189.here hx rfl (hb hby o_d1_149) rfl) ?_
 show o_Gs p e below _ T189 m 151 #[.val (.int 3), .val (.int x1), .val (.int 64), .val (.int ((((x1.toUInt32 >>> ((2 : Int32) &&& 31).toUInt32).toInt32) &&& (255 : Int32)).toUInt32.toUInt16.toUInt32.toInt32)), .val (.int ((((x1.toUInt32 >>> ((10 : Int32) &&& 31).toUInt32).toInt32) &&& (255 : Int32)).toUInt32.toUInt16.toUInt32.toInt32)), .val (.ref b187)] [(.int ((((x1.toUInt32 >>> ((10 : Int32) &&& 31).toUInt32).toInt32) &&& (255 : Int32)).toUInt32.toUInt16.toUInt32.toInt32)), (.int 64), (.ref b187)]
 obtain ⟨cl190, Ar190, sa190, na190, ha190⟩ := id V189
 obtain ⟨T190, h190, X190, e190, W190, st190⟩ := stC X189 hx hZ e189 Ar190 (j := (64 : Int32)) (inb_of sa190 ⟨by decide, by decide⟩) (g := (mkF m 151 #[.val (.int 3), .val (.int x1), .val (.int 64), .val (.int ((((x1.toUInt32 >>> ((2 : Int32) &&& 31).toUInt32).toInt32) &&& (255 : Int32)).toUInt32.toUInt16.toUInt32.toInt32)), .val (.int ((((x1.toUInt32 >>> ((10 : Int32) &&& 31).toUInt32).toInt32) &&& (255 : Int32)).toUInt32.toUInt16.toUInt32.toInt32)), .val (.ref b187)] [(.int ((((x1.toUInt32 >>> ((10 : Int32) &&& 31).toUInt32).toInt32) &&& (255 : Int32)).toUInt32.toUInt16.toUInt32.toInt32)), (.int 64), (.ref b187)])) rfl rfl (hb hby o_d1_151)
 have V190 : o_Tb Z h190 b187 .char (65 : Int32) (o_G1_64_3_3 x1) := o_Tb.set Ar190 sa190 na190 ha190 W190 ⟨by decide, by decide⟩
 have N190 := Fr.snoc X190 N189 g_b187
 refine o_go st190 ?_
 show o_Gs p e below _ T190 m 152 #[.val (.int 3), .val (.int x1), .val (.int 64), .val (.int ((((x1.toUInt32 >>> ((2 : Int32) &&& 31).toUInt32).toInt32) &&& (255 : Int32)).toUInt32.toUInt16.toUInt32.toInt32)), .val (.int ((((x1.toUInt32 >>> ((10 : Int32) &&& 31).toUInt32).toInt32) &&& (255 : Int32)).toUInt32.toUInt16.toUInt32.toInt32)), .val (.ref b187)] []
 obtain ⟨T191, h191, X191, e191, E191, A191, D191, -, st191⟩ := newO X190 hx hZ hown (hw _ o_t5) (hw _ o_t6) (hw _ o_t7) e190 (g := (mkF m 152 #[.val (.int 3), .val (.int x1), .val (.int 64), .val (.int ((((x1.toUInt32 >>> ((2 : Int32) &&& 31).toUInt32).toInt32) &&& (255 : Int32)).toUInt32.toUInt16.toUInt32.toInt32)), .val (.int ((((x1.toUInt32 >>> ((10 : Int32) &&& 31).toUInt32).toInt32) &&& (255 : Int32)).toUInt32.toUInt16.toUInt32.toInt32)), .val (.ref b187)] [])) rfl (hb hby o_d1_152) (by decide) (by decide)
 obtain ⟨b191, q191⟩ : ∃ z, z = h190.size := ⟨_, rfl⟩
 rw [← q191] at A191 D191 st191
 have lt_b191 : h190.size ≤ b191 := Nat.le_of_eq q191.symm
 have ne_b187_b191 : b187 ≠ b191 := Nat.ne_of_lt (Nat.lt_of_lt_of_le V190.lt lt_b191)
 have g_b191 : n0 ≤ b191 := Nat.le_trans (Nat.le_trans (Nat.le_trans (Nat.le_trans (Nat.le_trans Z0 E187.1) (Keep.of_wr W188).1) (Keep.of_wr W189).1) (Keep.of_wr W190).1) lt_b191
 have sz_b191 : h0.size ≤ b191 := Nat.le_trans (((((Keep.refl h0 ([] : List Addr)).ext E187).wr W188 (Or.inr sz_b187)).wr W189 (Or.inr sz_b187)).wr W190 (Or.inr sz_b187)).1 lt_b191
 have F191_coder : Fld Z h191 b191 "java/lang/String" "coder" "B" (.int 0) := D191 (Or.inr (hw _ o_t31)) (ty := .byte) (by decide)
 have F191_value : Fld Z h191 b191 "java/lang/String" "value" "[B" .null := D191 (Or.inr (hw _ o_t33)) (ty := (.array .byte)) (by decide)
 refine o_go st191 ?_
 refine o_gi (XS.dup X191.here hx rfl (hb hby o_d1_155) rfl rfl) ?_
 refine o_gi (XS.aload X191.here hx rfl (hb hby o_d1_156) rfl rfl) ?_
 show o_Gs p e below _ T191 m 158 #[.val (.int 3), .val (.int x1), .val (.int 64), .val (.int ((((x1.toUInt32 >>> ((2 : Int32) &&& 31).toUInt32).toInt32) &&& (255 : Int32)).toUInt32.toUInt16.toUInt32.toInt32)), .val (.int ((((x1.toUInt32 >>> ((10 : Int32) &&& 31).toUInt32).toInt32) &&& (255 : Int32)).toUInt32.toUInt16.toUInt32.toInt32)), .val (.ref b187)] [(.ref b187), (.ref b191), (.ref b191)]
 have hGG : o_HS (o_G1_64_3_3 x1) := ⟨(show ∃ k : Fin 1024, (if (0 : Int32) = (64 : Int32) then _ else if (0 : Int32) = (1 : Int32) then _ else if (0 : Int32) = (0 : Int32) then _ else _) = _ from by rw [if_neg (by decide), if_neg (by decide), if_pos rfl]; exact o_hiS _), (show ∃ k : Fin 1024, (if (1 : Int32) = (64 : Int32) then _ else if (1 : Int32) = (1 : Int32) then _ else _) = _ from by rw [if_neg (by decide), if_pos rfl]; exact o_loS _)⟩
 obtain ⟨_, T192, L192, X192, ⟨b192, kb192, rfl, N192q, K192, lt_b192, G192_0, G192_1, G192_2, G192_3, G192_4⟩, st192⟩ := o_callI X191 hx hZ rfl hown (hw _ o_t8) (hw _ o_t9) (hw _ o_t7) (hw _ o_t10) (by decide) (b := b191) (as := [(.ref b187)]) (rm2_65 l Z a0 hw [] b191 b187 (o_G1_64_3_3 x1) z_cs h191 n0 (Nat.le_trans (Nat.le_trans (Nat.le_trans (Nat.le_trans (Nat.le_trans Z0 E187.1) (Keep.of_wr W188).1) (Keep.of_wr W189).1) (Keep.of_wr W190).1) E191.1) g_b191 (((((O0.ext E187).wr W188 g_b187).wr W189 g_b187).wr W190 g_b187).ext E191) z_CS A191 F191_value F191_coder (V190.ext E191) hGG (Ne.symm ne_b187_b191) S_z_cs S_ad S_hi S_lo) e191 o_pd17 rfl (pc := 158) (Ls := #[.val (.int 3), .val (.int x1), .val (.int 64), .val (.int ((((x1.toUInt32 >>> ((2 : Int32) &&& 31).toUInt32).toInt32) &&& (255 : Int32)).toUInt32.toUInt16.toUInt32.toInt32)), .val (.int ((((x1.toUInt32 >>> ((10 : Int32) &&& 31).toUInt32).toInt32) &&& (255 : Int32)).toUInt32.toUInt16.toUInt32.toInt32)), .val (.ref b187)]) (rest := [(.ref b191)]) (W := 1) (by rw [hml]; rfl) (Nat.le_of_eq rfl) (by decide) (by decide) (hb hby o_d1_158) (by decide) (by decide)
 have N192 := Fr.app N190 N192q
 have ne_b187_b192 : b187 ≠ b192 := Nat.ne_of_lt (Nat.lt_of_lt_of_le (V190.ext E191).lt lt_b192)
 have ne_b191_b192 : b191 ≠ b192 := Nat.ne_of_lt (Nat.lt_of_lt_of_le A191.lt lt_b192)
 have g_b192 : n0 ≤ b192 := Nat.le_trans (Nat.le_trans (Nat.le_trans (Nat.le_trans (Nat.le_trans (Nat.le_trans Z0 E187.1) (Keep.of_wr W188).1) (Keep.of_wr W189).1) (Keep.of_wr W190).1) E191.1) lt_b192
 have sz_b192 : h0.size ≤ b192 := Nat.le_trans ((((((Keep.refl h0 ([] : List Addr)).ext E187).wr W188 (Or.inr sz_b187)).wr W189 (Or.inr sz_b187)).wr W190 (Or.inr sz_b187)).ext E191).1 lt_b192
 refine o_go st192 ?_
 show o_Gs p e below _ T192 m 161 #[.val (.int 3), .val (.int x1), .val (.int 64), .val (.int ((((x1.toUInt32 >>> ((2 : Int32) &&& 31).toUInt32).toInt32) &&& (255 : Int32)).toUInt32.toUInt16.toUInt32.toInt32)), .val (.int ((((x1.toUInt32 >>> ((10 : Int32) &&& 31).toUInt32).toInt32) &&& (255 : Int32)).toUInt32.toUInt16.toUInt32.toInt32)), .val (.ref b187)] [(.ref b191)]
 exact o_retR X192 hx hlk hret rfl rfl (hb hby o_d1_161) (by decide) (by decide) (⟨_, rfl, N192, (((((((Keep.refl h0 ([] : List Addr)).ext E187).wr W188 (Or.inr sz_b187)).wr W189 (Or.inr sz_b187)).wr W190 (Or.inr sz_b187)).ext E191).trans K192 (fun x hx => by cases List.mem_singleton.mp hx; exact Or.inr sz_b191)), sz_b191, ⟨b192, _, _, _, G192_0, G192_2, G192_1, G192_3, Or.inr ⟨rfl, Or.inl ⟨rfl, rfl⟩, o_HLof hGG G192_4⟩⟩⟩)
theorem o_d1_24 : decode method_2_code 24 = .ok (.iconst 1, 1) := by decide +kernel
theorem o_d1_25 : decode method_2_code 25 = .ok (.newarray .char, 2) := by decide +kernel
theorem o_d1_27 : decode method_2_code 27 = .ok (.astore 5, 2) := by decide +kernel
theorem o_d1_29 : decode method_2_code 29 = .ok (.aload 5, 2) := by decide +kernel
theorem o_d1_31 : decode method_2_code 31 = .ok (.iconst 0, 1) := by decide +kernel
theorem o_d1_32 : decode method_2_code 32 = .ok (.iload_n 3, 1) := by decide +kernel
theorem o_d1_33 : decode method_2_code 33 = .ok (.castore, 1) := by decide +kernel
theorem o_d1_34 : decode method_2_code 34 = .ok (.new 7, 3) := by decide +kernel
theorem o_d1_37 : decode method_2_code 37 = .ok (.dup, 1) := by decide +kernel
theorem o_d1_38 : decode method_2_code 38 = .ok (.aload 5, 2) := by decide +kernel
theorem o_d1_40 : decode method_2_code 40 = .ok (.invokespecial 9, 3) := by decide +kernel
theorem o_d1_43 : decode method_2_code 43 = .ok (.areturn, 1) := by decide +kernel
def o_G1_64_0_1 (x1 : Int32) : Int32 → Int32 := fun k => if k = (0 : Int32) then (nar .char ((((x1.toUInt32 >>> ((2 : Int32) &&& 31).toUInt32).toInt32) &&& (255 : Int32)).toUInt32.toUInt16.toUInt32.toInt32)) else (fun _ => 0) k
def o_Q1_64_0 (Z : State) (x1 : Int32) (z_cs : Int32) (h0 : Heap) (n0 : Nat) (v : Option Value) (h : Heap) (L : List Loc) : Prop := ∃ b : Addr, v = some (.ref b) ∧ Fr n0 L ∧ Keep h0 h [] ∧ h0.size ≤ b ∧ o_Id Z h b (64 : Int32)
abbrev o_R1_64_0 : Room := { frames := 6, cells := 4, slots := 1028, locals := 125 }
theorem o_ef1_64_0 (m : MethodId) (z1 : Int32) : entryFrame m #[(.int 0), (.int z1), (.int 64)] 6 = mkF m 0 #[.val (.int 0), .val (.int z1), .val (.int 64), .unset, .unset, .unset] [] := by first | (simp [entryFrame, mkF, argsToLocals, Value.category]; done) | rfl
set_option maxRecDepth 65536 in
set_option maxHeartbeats 40000000 in
theorem rm1_64_0 (l : Launch) (Z : State) (a0 : Array Value) (hw : ∀ d ∈ tables_1, d.before a0 Z = true) (ws : List Jvm.Cond) (x1 : Int32) (z_cs : Int32) (h0 : Heap) (n0 : Nat) (Z0 : n0 ≤ h0.size) (O0 : Old Z n0 h0) (z_CS : ¬ z_cs = 0) (S_z_cs : Sta Z Z.heap "java/lang/String" "COMPACT_STRINGS" "Z" (.int z_cs)) (S_ad : Sta Z Z.heap "java/lang/StringUTF16" "$assertionsDisabled" "Z" (.int 1)) (S_hi : Sta Z Z.heap "java/lang/StringUTF16" "HI_BYTE_SHIFT" "I" (.int 0)) (S_lo : Sta Z Z.heap "java/lang/StringUTF16" "LO_BYTE_SHIFT" "I" (.int 8)) : o_Met l Z (⟨"com/example/quittance/quittance/dialect/ClaimOfPinLaw", "id", "(III)Ljava/lang/String;"⟩ : MethodName) method_2_code 6 (some (.object "java/lang/String")) ws o_R1_64_0 #[(.int 0), (.int x1), (.int 64)] h0 (o_Q1_64_0 Z x1 z_cs h0 n0) := by
 refine o_met (plainFor_of_name o_pn6) ?_
 intro p e s m below meth c s₁ hx hby hml hown hnm hret hlk hZ e0 X0
 have N0 := Fr.nil n0
 have hml : c.maxLocals = 6 := hml
 have hown : s.vm.findClass "com/example/quittance/quittance/dialect/ClaimOfPinLaw" = some m.cls := hown
 have hret : meth.sig.returnType = (some (.object "java/lang/String")) := hret
 have hby : c.code = method_2_code := hby
 have hnm : meth.name = "id" := hnm
 rw [o_ef1_64_0]
 have hws : ∀ d ∈ StrChars.Road.words, d.before a0 Z = true := fun d hd => hw d ((by decide +kernel : ∀ d ∈ StrChars.Road.words, d ∈ tables_1) d hd)
 refine o_gi (XS.iloadN X0.here hx rfl (hb hby o_d1_0) rfl) ?_
 refine o_gi (XS.iconst X0.here hx rfl (hb hby o_d1_1)) ?_
 show o_Gs p e below _ s₁ m 2 #[.val (.int 0), .val (.int x1), .val (.int 64), .unset, .unset, .unset] [(.int 2), (.int x1)]
 refine o_gi (XS.iushr X0.here hx rfl (hb hby o_d1_2) rfl) ?_
 refine o_gi (XS.sipush X0.here hx rfl (hb hby o_d1_3)) ?_
 show o_Gs p e below _ s₁ m 6 #[.val (.int 0), .val (.int x1), .val (.int 64), .unset, .unset, .unset] [(.int 255), (.int ((x1.toUInt32 >>> ((2 : Int32) &&& 31).toUInt32).toInt32))]
 refine o_gi (XS.iand X0.here hx rfl (hb hby o_d1_6) rfl) ?_
 show o_Gs p e below _ s₁ m 7 #[.val (.int 0), .val (.int x1), .val (.int 64), .unset, .unset, .unset] [(.int (((x1.toUInt32 >>> ((2 : Int32) &&& 31).toUInt32).toInt32) &&& (255 : Int32)))]
 refine o_gi (XS.i2c X0.here hx rfl (hb hby o_d1_7) rfl) ?_
 refine o_gi (XS.istoreN X0.here hx rfl (hb hby o_d1_8) rfl (l' := #[.val (.int 0), .val (.int x1), .val (.int 64), .val (.int ((((x1.toUInt32 >>> ((2 : Int32) &&& 31).toUInt32).toInt32) &&& (255 : Int32)).toUInt32.toUInt16.toUInt32.toInt32)), .unset, .unset]) rfl) ?_
 refine o_gi (XS.iloadN X0.here hx rfl (hb hby o_d1_9) rfl) ?_
 refine o_gi (XS.bipush X0.here hx rfl (hb hby o_d1_10)) ?_
 show o_Gs p e below _ s₁ m 12 #[.val (.int 0), .val (.int x1), .val (.int 64), .val (.int ((((x1.toUInt32 >>> ((2 : Int32) &&& 31).toUInt32).toInt32) &&& (255 : Int32)).toUInt32.toUInt16.toUInt32.toInt32)), .unset, .unset] [(.int 10), (.int x1)]
 refine o_gi (XS.iushr X0.here hx rfl (hb hby o_d1_12) rfl) ?_
 refine o_gi (XS.sipush X0.here hx rfl (hb hby o_d1_13)) ?_
 show o_Gs p e below _ s₁ m 16 #[.val (.int 0), .val (.int x1), .val (.int 64), .val (.int ((((x1.toUInt32 >>> ((2 : Int32) &&& 31).toUInt32).toInt32) &&& (255 : Int32)).toUInt32.toUInt16.toUInt32.toInt32)), .unset, .unset] [(.int 255), (.int ((x1.toUInt32 >>> ((10 : Int32) &&& 31).toUInt32).toInt32))]
 refine o_gi (XS.iand X0.here hx rfl (hb hby o_d1_16) rfl) ?_
 show o_Gs p e below _ s₁ m 17 #[.val (.int 0), .val (.int x1), .val (.int 64), .val (.int ((((x1.toUInt32 >>> ((2 : Int32) &&& 31).toUInt32).toInt32) &&& (255 : Int32)).toUInt32.toUInt16.toUInt32.toInt32)), .unset, .unset] [(.int (((x1.toUInt32 >>> ((10 : Int32) &&& 31).toUInt32).toInt32) &&& (255 : Int32)))]
 refine o_gi (XS.i2c X0.here hx rfl (hb hby o_d1_17) rfl) ?_
 refine o_gi (XS.istore X0.here hx rfl (hb hby o_d1_18) rfl (l' := #[.val (.int 0), .val (.int x1), .val (.int 64), .val (.int ((((x1.toUInt32 >>> ((2 : Int32) &&& 31).toUInt32).toInt32) &&& (255 : Int32)).toUInt32.toUInt16.toUInt32.toInt32)), .val (.int ((((x1.toUInt32 >>> ((10 : Int32) &&& 31).toUInt32).toInt32) &&& (255 : Int32)).toUInt32.toUInt16.toUInt32.toInt32)), .unset]) rfl) ?_
 refine o_gi (XS.iloadN X0.here hx rfl (hb hby o_d1_20) rfl) ?_
 show o_Gs p e below _ s₁ m 21 #[.val (.int 0), .val (.int x1), .val (.int 64), .val (.int ((((x1.toUInt32 >>> ((2 : Int32) &&& 31).toUInt32).toInt32) &&& (255 : Int32)).toUInt32.toUInt16.toUInt32.toInt32)), .val (.int ((((x1.toUInt32 >>> ((10 : Int32) &&& 31).toUInt32).toInt32) &&& (255 : Int32)).toUInt32.toUInt16.toUInt32.toInt32)), .unset] [(.int 0)]
 have hd193 : (0 : Int32) = (0 : Int32) := (by decide)
 refine o_gi (XS.ifNo X0.here hx rfl (hb hby o_d1_21) rfl ((if0 _ _).trans (teq hd193).2)) ?_
 refine o_gi (XS.iconst X0.here hx rfl (hb hby o_d1_24)) ?_
 show o_Gs p e below _ s₁ m 25 #[.val (.int 0), .val (.int x1), .val (.int 64), .val (.int ((((x1.toUInt32 >>> ((2 : Int32) &&& 31).toUInt32).toInt32) &&& (255 : Int32)).toUInt32.toUInt16.toUInt32.toInt32)), .val (.int ((((x1.toUInt32 >>> ((10 : Int32) &&& 31).toUInt32).toInt32) &&& (255 : Int32)).toUInt32.toUInt16.toUInt32.toInt32)), .unset] [(.int 1)]
 obtain ⟨T194, h194, k194, X194, e194, E194, A194, st194⟩ := newP X0 hx hZ (aty := .char) (hw _ o_t4) e0 (g := (mkF m 25 #[.val (.int 0), .val (.int x1), .val (.int 64), .val (.int ((((x1.toUInt32 >>> ((2 : Int32) &&& 31).toUInt32).toInt32) &&& (255 : Int32)).toUInt32.toUInt16.toUInt32.toInt32)), .val (.int ((((x1.toUInt32 >>> ((10 : Int32) &&& 31).toUInt32).toInt32) &&& (255 : Int32)).toUInt32.toUInt16.toUInt32.toInt32)), .unset] [(.int 1)])) rfl (hb hby o_d1_25) rfl (by decide) (cap := 1) (by decide) (by decide) (by decide) (by decide)
 obtain ⟨b194, q194⟩ : ∃ z, z = h0.size := ⟨_, rfl⟩
 rw [← q194] at A194 st194
 have lt_b194 : h0.size ≤ b194 := Nat.le_of_eq q194.symm
 have g_b194 : n0 ≤ b194 := Nat.le_trans Z0 lt_b194
 have sz_b194 : h0.size ≤ b194 := Nat.le_trans (Keep.refl h0 ([] : List Addr)).1 lt_b194
 have V194 : o_Tb Z h194 b194 .char (1 : Int32) (fun _ => 0) := o_Tb.new A194 (by decide) rfl
 refine o_go st194 ?_
 refine o_gi (XS.astore X194.here hx rfl (hb hby o_d1_27) rfl rfl (l' := #[.val (.int 0), .val (.int x1), .val (.int 64), .val (.int ((((x1.toUInt32 >>> ((2 : Int32) &&& 31).toUInt32).toInt32) &&& (255 : Int32)).toUInt32.toUInt16.toUInt32.toInt32)), .val (.int ((((x1.toUInt32 >>> ((10 : Int32) &&& 31).toUInt32).toInt32) &&& (255 : Int32)).toUInt32.toUInt16.toUInt32.toInt32)), .val (.ref b194)]) rfl) ?_
 refine o_gi (XS.aload X194.here hx rfl (hb hby o_d1_29) rfl rfl) ?_
 refine o_gi (XS.iconst X194.here hx rfl (hb hby o_d1_31)) ?_
 refine o_gi (XS.iloadN X194.here hx rfl (hb hby o_d1_32) rfl) ?_
 show o_Gs p e below _ T194 m 33 #[.val (.int 0), .val (.int x1), .val (.int 64), .val (.int ((((x1.toUInt32 >>> ((2 : Int32) &&& 31).toUInt32).toInt32) &&& (255 : Int32)).toUInt32.toUInt16.toUInt32.toInt32)), .val (.int ((((x1.toUInt32 >>> ((10 : Int32) &&& 31).toUInt32).toInt32) &&& (255 : Int32)).toUInt32.toUInt16.toUInt32.toInt32)), .val (.ref b194)] [(.int ((((x1.toUInt32 >>> ((2 : Int32) &&& 31).toUInt32).toInt32) &&& (255 : Int32)).toUInt32.toUInt16.toUInt32.toInt32)), (.int 0), (.ref b194)]
 obtain ⟨cl195, Ar195, sa195, na195, ha195⟩ := id V194
 obtain ⟨T195, h195, X195, e195, W195, st195⟩ := stC X194 hx hZ e194 Ar195 (j := (0 : Int32)) (inb_of sa195 ⟨by decide, by decide⟩) (g := (mkF m 33 #[.val (.int 0), .val (.int x1), .val (.int 64), .val (.int ((((x1.toUInt32 >>> ((2 : Int32) &&& 31).toUInt32).toInt32) &&& (255 : Int32)).toUInt32.toUInt16.toUInt32.toInt32)), .val (.int ((((x1.toUInt32 >>> ((10 : Int32) &&& 31).toUInt32).toInt32) &&& (255 : Int32)).toUInt32.toUInt16.toUInt32.toInt32)), .val (.ref b194)] [(.int ((((x1.toUInt32 >>> ((2 : Int32) &&& 31).toUInt32).toInt32) &&& (255 : Int32)).toUInt32.toUInt16.toUInt32.toInt32)), (.int 0), (.ref b194)])) rfl rfl (hb hby o_d1_33)
 have V195 : o_Tb Z h195 b194 .char (1 : Int32) (o_G1_64_0_1 x1) := o_Tb.set Ar195 sa195 na195 ha195 W195 ⟨by decide, by decide⟩
 have N195 := Fr.snoc X195 N0 g_b194
 refine o_go st195 ?_
 show o_Gs p e below _ T195 m 34 #[.val (.int 0), .val (.int x1), .val (.int 64), .val (.int ((((x1.toUInt32 >>> ((2 : Int32) &&& 31).toUInt32).toInt32) &&& (255 : Int32)).toUInt32.toUInt16.toUInt32.toInt32)), .val (.int ((((x1.toUInt32 >>> ((10 : Int32) &&& 31).toUInt32).toInt32) &&& (255 : Int32)).toUInt32.toUInt16.toUInt32.toInt32)), .val (.ref b194)] []
 obtain ⟨T196, h196, X196, e196, E196, A196, D196, -, st196⟩ := newO X195 hx hZ hown (hw _ o_t5) (hw _ o_t6) (hw _ o_t7) e195 (g := (mkF m 34 #[.val (.int 0), .val (.int x1), .val (.int 64), .val (.int ((((x1.toUInt32 >>> ((2 : Int32) &&& 31).toUInt32).toInt32) &&& (255 : Int32)).toUInt32.toUInt16.toUInt32.toInt32)), .val (.int ((((x1.toUInt32 >>> ((10 : Int32) &&& 31).toUInt32).toInt32) &&& (255 : Int32)).toUInt32.toUInt16.toUInt32.toInt32)), .val (.ref b194)] [])) rfl (hb hby o_d1_34) (by decide) (by decide)
 obtain ⟨b196, q196⟩ : ∃ z, z = h195.size := ⟨_, rfl⟩
 rw [← q196] at A196 D196 st196
 have lt_b196 : h195.size ≤ b196 := Nat.le_of_eq q196.symm
 have ne_b194_b196 : b194 ≠ b196 := Nat.ne_of_lt (Nat.lt_of_lt_of_le V195.lt lt_b196)
 have g_b196 : n0 ≤ b196 := Nat.le_trans (Nat.le_trans (Nat.le_trans Z0 E194.1) (Keep.of_wr W195).1) lt_b196
 have sz_b196 : h0.size ≤ b196 := Nat.le_trans (((Keep.refl h0 ([] : List Addr)).ext E194).wr W195 (Or.inr sz_b194)).1 lt_b196
 have F196_coder : Fld Z h196 b196 "java/lang/String" "coder" "B" (.int 0) := D196 (Or.inr (hw _ o_t31)) (ty := .byte) (by decide)
 have F196_value : Fld Z h196 b196 "java/lang/String" "value" "[B" .null := D196 (Or.inr (hw _ o_t33)) (ty := (.array .byte)) (by decide)
 refine o_go st196 ?_
 refine o_gi (XS.dup X196.here hx rfl (hb hby o_d1_37) rfl rfl) ?_
 refine o_gi (XS.aload X196.here hx rfl (hb hby o_d1_38) rfl rfl) ?_
 show o_Gs p e below _ T196 m 40 #[.val (.int 0), .val (.int x1), .val (.int 64), .val (.int ((((x1.toUInt32 >>> ((2 : Int32) &&& 31).toUInt32).toInt32) &&& (255 : Int32)).toUInt32.toUInt16.toUInt32.toInt32)), .val (.int ((((x1.toUInt32 >>> ((10 : Int32) &&& 31).toUInt32).toInt32) &&& (255 : Int32)).toUInt32.toUInt16.toUInt32.toInt32)), .val (.ref b194)] [(.ref b194), (.ref b196), (.ref b196)]
 have oo198 : Old Z n0 h196 := (((O0.ext E194).wr W195 g_b194).ext E196)
 obtain ⟨T197, L197, X197, ⟨N197q, K197, G197_0, G197_1, t197, G197, lt_t197, G197_2, G197_3⟩, st197⟩ := o_newStrT X196 hx hZ hown (hw _ o_t8) (hw _ o_t9) (hw _ o_t10) (hw _ o_t6) hws (n := 1) g_b196 (Nat.le_trans (Nat.le_trans (Nat.le_trans Z0 E194.1) (Keep.of_wr W195).1) E196.1) A196 F196_value F196_coder (V195.ext E196) (S_z_cs.ext oo198.2) z_CS rfl (by decide) (by decide) (o_gset (o_g00) (o_ch _)) e196 (pc := 40) (Ls := #[.val (.int 0), .val (.int x1), .val (.int 64), .val (.int ((((x1.toUInt32 >>> ((2 : Int32) &&& 31).toUInt32).toInt32) &&& (255 : Int32)).toUInt32.toUInt16.toUInt32.toInt32)), .val (.int ((((x1.toUInt32 >>> ((10 : Int32) &&& 31).toUInt32).toInt32) &&& (255 : Int32)).toUInt32.toUInt16.toUInt32.toInt32)), .val (.ref b194)]) (rest := [(.ref b196)]) (W := 1) (by rw [hml]; rfl) (Nat.le_of_eq rfl) (by decide) (by decide) (hb hby o_d1_40) (by decide) (by decide)
 have ne_b194_t197 : b194 ≠ t197 := Nat.ne_of_lt (Nat.lt_of_lt_of_le (V195.ext E196).lt lt_t197)
 have ne_b196_t197 : b196 ≠ t197 := Nat.ne_of_lt (Nat.lt_of_lt_of_le A196.lt lt_t197)
 have N197 := Fr.app N195 N197q
 refine o_go st197 ?_
 show o_Gs p e below _ T197 m 43 #[.val (.int 0), .val (.int x1), .val (.int 64), .val (.int ((((x1.toUInt32 >>> ((2 : Int32) &&& 31).toUInt32).toInt32) &&& (255 : Int32)).toUInt32.toUInt16.toUInt32.toInt32)), .val (.int ((((x1.toUInt32 >>> ((10 : Int32) &&& 31).toUInt32).toInt32) &&& (255 : Int32)).toUInt32.toUInt16.toUInt32.toInt32)), .val (.ref b194)] [(.ref b196)]
 exact o_retR X197 hx hlk hret rfl rfl (hb hby o_d1_43) (by decide) (by decide) (⟨_, rfl, N197, (((((Keep.refl h0 ([] : List Addr)).ext E194).wr W195 (Or.inr sz_b194)).ext E196).trans K197 (fun x hx => by cases List.mem_singleton.mp hx; exact Or.inr sz_b196)), sz_b196, ⟨t197, _, _, _, G197_0, G197_2, G197_1, G197_3, Or.inl ⟨rfl, by decide, by decide, by decide⟩⟩⟩)
theorem o_d1_49 : decode method_2_code 49 = .ok (.iconst 2, 1) := by decide +kernel
theorem o_d1_50 : decode method_2_code 50 = .ok (.newarray .char, 2) := by decide +kernel
theorem o_d1_52 : decode method_2_code 52 = .ok (.astore 5, 2) := by decide +kernel
theorem o_d1_54 : decode method_2_code 54 = .ok (.aload 5, 2) := by decide +kernel
theorem o_d1_56 : decode method_2_code 56 = .ok (.iconst 0, 1) := by decide +kernel
theorem o_d1_57 : decode method_2_code 57 = .ok (.iload_n 3, 1) := by decide +kernel
theorem o_d1_58 : decode method_2_code 58 = .ok (.castore, 1) := by decide +kernel
theorem o_d1_59 : decode method_2_code 59 = .ok (.aload 5, 2) := by decide +kernel
theorem o_d1_61 : decode method_2_code 61 = .ok (.iconst 1, 1) := by decide +kernel
theorem o_d1_62 : decode method_2_code 62 = .ok (.iload 4, 2) := by decide +kernel
theorem o_d1_64 : decode method_2_code 64 = .ok (.castore, 1) := by decide +kernel
theorem o_d1_65 : decode method_2_code 65 = .ok (.new 7, 3) := by decide +kernel
theorem o_d1_68 : decode method_2_code 68 = .ok (.dup, 1) := by decide +kernel
theorem o_d1_69 : decode method_2_code 69 = .ok (.aload 5, 2) := by decide +kernel
theorem o_d1_71 : decode method_2_code 71 = .ok (.invokespecial 9, 3) := by decide +kernel
theorem o_d1_74 : decode method_2_code 74 = .ok (.areturn, 1) := by decide +kernel
def o_G1_64_1_1 (x1 : Int32) : Int32 → Int32 := fun k => if k = (0 : Int32) then (nar .char ((((x1.toUInt32 >>> ((2 : Int32) &&& 31).toUInt32).toInt32) &&& (255 : Int32)).toUInt32.toUInt16.toUInt32.toInt32)) else (fun _ => 0) k
def o_G1_64_1_2 (x1 : Int32) : Int32 → Int32 := fun k => if k = (1 : Int32) then (nar .char ((((x1.toUInt32 >>> ((10 : Int32) &&& 31).toUInt32).toInt32) &&& (255 : Int32)).toUInt32.toUInt16.toUInt32.toInt32)) else (o_G1_64_1_1 x1) k
def o_Q1_64_1 (Z : State) (x1 : Int32) (z_cs : Int32) (h0 : Heap) (n0 : Nat) (v : Option Value) (h : Heap) (L : List Loc) : Prop := ∃ b : Addr, v = some (.ref b) ∧ Fr n0 L ∧ Keep h0 h [] ∧ h0.size ≤ b ∧ o_Id Z h b (64 : Int32)
abbrev o_R1_64_1 : Room := { frames := 6, cells := 4, slots := 1028, locals := 125 }
theorem o_ef1_64_1 (m : MethodId) (z1 : Int32) : entryFrame m #[(.int 1), (.int z1), (.int 64)] 6 = mkF m 0 #[.val (.int 1), .val (.int z1), .val (.int 64), .unset, .unset, .unset] [] := by first | (simp [entryFrame, mkF, argsToLocals, Value.category]; done) | rfl
set_option maxRecDepth 65536 in
set_option maxHeartbeats 40000000 in
theorem rm1_64_1 (l : Launch) (Z : State) (a0 : Array Value) (hw : ∀ d ∈ tables_1, d.before a0 Z = true) (ws : List Jvm.Cond) (x1 : Int32) (z_cs : Int32) (h0 : Heap) (n0 : Nat) (Z0 : n0 ≤ h0.size) (O0 : Old Z n0 h0) (z_CS : ¬ z_cs = 0) (S_z_cs : Sta Z Z.heap "java/lang/String" "COMPACT_STRINGS" "Z" (.int z_cs)) (S_ad : Sta Z Z.heap "java/lang/StringUTF16" "$assertionsDisabled" "Z" (.int 1)) (S_hi : Sta Z Z.heap "java/lang/StringUTF16" "HI_BYTE_SHIFT" "I" (.int 0)) (S_lo : Sta Z Z.heap "java/lang/StringUTF16" "LO_BYTE_SHIFT" "I" (.int 8)) : o_Met l Z (⟨"com/example/quittance/quittance/dialect/ClaimOfPinLaw", "id", "(III)Ljava/lang/String;"⟩ : MethodName) method_2_code 6 (some (.object "java/lang/String")) ws o_R1_64_1 #[(.int 1), (.int x1), (.int 64)] h0 (o_Q1_64_1 Z x1 z_cs h0 n0) := by
 refine o_met (plainFor_of_name o_pn6) ?_
 intro p e s m below meth c s₁ hx hby hml hown hnm hret hlk hZ e0 X0
 have N0 := Fr.nil n0
 have hml : c.maxLocals = 6 := hml
 have hown : s.vm.findClass "com/example/quittance/quittance/dialect/ClaimOfPinLaw" = some m.cls := hown
 have hret : meth.sig.returnType = (some (.object "java/lang/String")) := hret
 have hby : c.code = method_2_code := hby
 have hnm : meth.name = "id" := hnm
 rw [o_ef1_64_1]
 have hws : ∀ d ∈ StrChars.Road.words, d.before a0 Z = true := fun d hd => hw d ((by decide +kernel : ∀ d ∈ StrChars.Road.words, d ∈ tables_1) d hd)
 refine o_gi (XS.iloadN X0.here hx rfl (hb hby o_d1_0) rfl) ?_
 refine o_gi (XS.iconst X0.here hx rfl (hb hby o_d1_1)) ?_
 show o_Gs p e below _ s₁ m 2 #[.val (.int 1), .val (.int x1), .val (.int 64), .unset, .unset, .unset] [(.int 2), (.int x1)]
 refine o_gi (XS.iushr X0.here hx rfl (hb hby o_d1_2) rfl) ?_
 refine o_gi (XS.sipush X0.here hx rfl (hb hby o_d1_3)) ?_
 show o_Gs p e below _ s₁ m 6 #[.val (.int 1), .val (.int x1), .val (.int 64), .unset, .unset, .unset] [(.int 255), (.int ((x1.toUInt32 >>> ((2 : Int32) &&& 31).toUInt32).toInt32))]
 refine o_gi (XS.iand X0.here hx rfl (hb hby o_d1_6) rfl) ?_
 show o_Gs p e below _ s₁ m 7 #[.val (.int 1), .val (.int x1), .val (.int 64), .unset, .unset, .unset] [(.int (((x1.toUInt32 >>> ((2 : Int32) &&& 31).toUInt32).toInt32) &&& (255 : Int32)))]
 refine o_gi (XS.i2c X0.here hx rfl (hb hby o_d1_7) rfl) ?_
 refine o_gi (XS.istoreN X0.here hx rfl (hb hby o_d1_8) rfl (l' := #[.val (.int 1), .val (.int x1), .val (.int 64), .val (.int ((((x1.toUInt32 >>> ((2 : Int32) &&& 31).toUInt32).toInt32) &&& (255 : Int32)).toUInt32.toUInt16.toUInt32.toInt32)), .unset, .unset]) rfl) ?_
 refine o_gi (XS.iloadN X0.here hx rfl (hb hby o_d1_9) rfl) ?_
 refine o_gi (XS.bipush X0.here hx rfl (hb hby o_d1_10)) ?_
 show o_Gs p e below _ s₁ m 12 #[.val (.int 1), .val (.int x1), .val (.int 64), .val (.int ((((x1.toUInt32 >>> ((2 : Int32) &&& 31).toUInt32).toInt32) &&& (255 : Int32)).toUInt32.toUInt16.toUInt32.toInt32)), .unset, .unset] [(.int 10), (.int x1)]
 refine o_gi (XS.iushr X0.here hx rfl (hb hby o_d1_12) rfl) ?_
 refine o_gi (XS.sipush X0.here hx rfl (hb hby o_d1_13)) ?_
 show o_Gs p e below _ s₁ m 16 #[.val (.int 1), .val (.int x1), .val (.int 64), .val (.int ((((x1.toUInt32 >>> ((2 : Int32) &&& 31).toUInt32).toInt32) &&& (255 : Int32)).toUInt32.toUInt16.toUInt32.toInt32)), .unset, .unset] [(.int 255), (.int ((x1.toUInt32 >>> ((10 : Int32) &&& 31).toUInt32).toInt32))]
 refine o_gi (XS.iand X0.here hx rfl (hb hby o_d1_16) rfl) ?_
 show o_Gs p e below _ s₁ m 17 #[.val (.int 1), .val (.int x1), .val (.int 64), .val (.int ((((x1.toUInt32 >>> ((2 : Int32) &&& 31).toUInt32).toInt32) &&& (255 : Int32)).toUInt32.toUInt16.toUInt32.toInt32)), .unset, .unset] [(.int (((x1.toUInt32 >>> ((10 : Int32) &&& 31).toUInt32).toInt32) &&& (255 : Int32)))]
 refine o_gi (XS.i2c X0.here hx rfl (hb hby o_d1_17) rfl) ?_
 refine o_gi (XS.istore X0.here hx rfl (hb hby o_d1_18) rfl (l' := #[.val (.int 1), .val (.int x1), .val (.int 64), .val (.int ((((x1.toUInt32 >>> ((2 : Int32) &&& 31).toUInt32).toInt32) &&& (255 : Int32)).toUInt32.toUInt16.toUInt32.toInt32)), .val (.int ((((x1.toUInt32 >>> ((10 : Int32) &&& 31).toUInt32).toInt32) &&& (255 : Int32)).toUInt32.toUInt16.toUInt32.toInt32)), .unset]) rfl) ?_
 refine o_gi (XS.iloadN X0.here hx rfl (hb hby o_d1_20) rfl) ?_
 show o_Gs p e below _ s₁ m 21 #[.val (.int 1), .val (.int x1), .val (.int 64), .val (.int ((((x1.toUInt32 >>> ((2 : Int32) &&& 31).toUInt32).toInt32) &&& (255 : Int32)).toUInt32.toUInt16.toUInt32.toInt32)), .val (.int ((((x1.toUInt32 >>> ((10 : Int32) &&& 31).toUInt32).toInt32) &&& (255 : Int32)).toUInt32.toUInt16.toUInt32.toInt32)), .unset] [(.int 1)]
 have hd199 : ¬ ((1 : Int32) = (0 : Int32)) := (by decide)
 refine o_gi (XS.ifYes X0.here hx rfl (pc0 := 21) (pc' := 44) rfl (hb hby o_d1_21) rfl ((if0 _ _).trans (feq hd199).2) (by decide) (by decide)) ?_
 refine o_gi (XS.iloadN X0.here hx rfl (hb hby o_d1_44) rfl) ?_
 refine o_gi (XS.iconst X0.here hx rfl (hb hby o_d1_45)) ?_
 show o_Gs p e below _ s₁ m 46 #[.val (.int 1), .val (.int x1), .val (.int 64), .val (.int ((((x1.toUInt32 >>> ((2 : Int32) &&& 31).toUInt32).toInt32) &&& (255 : Int32)).toUInt32.toUInt16.toUInt32.toInt32)), .val (.int ((((x1.toUInt32 >>> ((10 : Int32) &&& 31).toUInt32).toInt32) &&& (255 : Int32)).toUInt32.toUInt16.toUInt32.toInt32)), .unset] [(.int 1), (.int 1)]
 have hd200 : (1 : Int32) = (1 : Int32) := (by decide)
 refine o_gi (XS.icmpNo X0.here hx rfl (hb hby o_d1_46) rfl (teq hd200).2) ?_
 refine o_gi (XS.iconst X0.here hx rfl (hb hby o_d1_49)) ?_
 show o_Gs p e below _ s₁ m 50 #[.val (.int 1), .val (.int x1), .val (.int 64), .val (.int ((((x1.toUInt32 >>> ((2 : Int32) &&& 31).toUInt32).toInt32) &&& (255 : Int32)).toUInt32.toUInt16.toUInt32.toInt32)), .val (.int ((((x1.toUInt32 >>> ((10 : Int32) &&& 31).toUInt32).toInt32) &&& (255 : Int32)).toUInt32.toUInt16.toUInt32.toInt32)), .unset] [(.int 2)]
 obtain ⟨T201, h201, k201, X201, e201, E201, A201, st201⟩ := newP X0 hx hZ (aty := .char) (hw _ o_t4) e0 (g := (mkF m 50 #[.val (.int 1), .val (.int x1), .val (.int 64), .val (.int ((((x1.toUInt32 >>> ((2 : Int32) &&& 31).toUInt32).toInt32) &&& (255 : Int32)).toUInt32.toUInt16.toUInt32.toInt32)), .val (.int ((((x1.toUInt32 >>> ((10 : Int32) &&& 31).toUInt32).toInt32) &&& (255 : Int32)).toUInt32.toUInt16.toUInt32.toInt32)), .unset] [(.int 2)])) rfl (hb hby o_d1_50) rfl (by decide) (cap := 2) (by decide) (by decide) (by decide) (by decide)
 obtain ⟨b201, q201⟩ : ∃ z, z = h0.size := ⟨_, rfl⟩
 rw [← q201] at A201 st201
 have lt_b201 : h0.size ≤ b201 := Nat.le_of_eq q201.symm
 have g_b201 : n0 ≤ b201 := Nat.le_trans Z0 lt_b201
 have sz_b201 : h0.size ≤ b201 := Nat.le_trans (Keep.refl h0 ([] : List Addr)).1 lt_b201
 have V201 : o_Tb Z h201 b201 .char (2 : Int32) (fun _ => 0) := o_Tb.new A201 (by decide) rfl
 refine o_go st201 ?_
 refine o_gi (XS.astore X201.here hx rfl (hb hby o_d1_52) rfl rfl (l' := #[.val (.int 1), .val (.int x1), .val (.int 64), .val (.int ((((x1.toUInt32 >>> ((2 : Int32) &&& 31).toUInt32).toInt32) &&& (255 : Int32)).toUInt32.toUInt16.toUInt32.toInt32)), .val (.int ((((x1.toUInt32 >>> ((10 : Int32) &&& 31).toUInt32).toInt32) &&& (255 : Int32)).toUInt32.toUInt16.toUInt32.toInt32)), .val (.ref b201)]) rfl) ?_
 refine o_gi (XS.aload X201.here hx rfl (hb hby o_d1_54) rfl rfl) ?_
 refine o_gi (XS.iconst X201.here hx rfl (hb hby o_d1_56)) ?_
 refine o_gi (XS.iloadN X201.here hx rfl (hb hby o_d1_57) rfl) ?_
 show o_Gs p e below _ T201 m 58 #[.val (.int 1), .val (.int x1), .val (.int 64), .val (.int ((((x1.toUInt32 >>> ((2 : Int32) &&& 31).toUInt32).toInt32) &&& (255 : Int32)).toUInt32.toUInt16.toUInt32.toInt32)), .val (.int ((((x1.toUInt32 >>> ((10 : Int32) &&& 31).toUInt32).toInt32) &&& (255 : Int32)).toUInt32.toUInt16.toUInt32.toInt32)), .val (.ref b201)] [(.int ((((x1.toUInt32 >>> ((2 : Int32) &&& 31).toUInt32).toInt32) &&& (255 : Int32)).toUInt32.toUInt16.toUInt32.toInt32)), (.int 0), (.ref b201)]
 obtain ⟨cl202, Ar202, sa202, na202, ha202⟩ := id V201
 obtain ⟨T202, h202, X202, e202, W202, st202⟩ := stC X201 hx hZ e201 Ar202 (j := (0 : Int32)) (inb_of sa202 ⟨by decide, by decide⟩) (g := (mkF m 58 #[.val (.int 1), .val (.int x1), .val (.int 64), .val (.int ((((x1.toUInt32 >>> ((2 : Int32) &&& 31).toUInt32).toInt32) &&& (255 : Int32)).toUInt32.toUInt16.toUInt32.toInt32)), .val (.int ((((x1.toUInt32 >>> ((10 : Int32) &&& 31).toUInt32).toInt32) &&& (255 : Int32)).toUInt32.toUInt16.toUInt32.toInt32)), .val (.ref b201)] [(.int ((((x1.toUInt32 >>> ((2 : Int32) &&& 31).toUInt32).toInt32) &&& (255 : Int32)).toUInt32.toUInt16.toUInt32.toInt32)), (.int 0), (.ref b201)])) rfl rfl (hb hby o_d1_58)
 have V202 : o_Tb Z h202 b201 .char (2 : Int32) (o_G1_64_1_1 x1) := o_Tb.set Ar202 sa202 na202 ha202 W202 ⟨by decide, by decide⟩
 have N202 := Fr.snoc X202 N0 g_b201
 refine o_go st202 ?_
 refine o_gi (XS.aload X202.here hx rfl (hb hby o_d1_59) rfl rfl) ?_
 refine o_gi (XS.iconst X202.here hx rfl (hb hby o_d1_61)) ?_
 refine o_gi (XS.iload X202.here hx rfl (hb hby o_d1_62) rfl) ?_
 show o_Gs p e below _ T202 m 64 #[.val (.int 1), .val (.int x1), .val (.int 64), .val (.int ((((x1.toUInt32 >>> ((2 : Int32) &&& 31).toUInt32).toInt32) &&& (255 : Int32)).toUInt32.toUInt16.toUInt32.toInt32)), .val (.int ((((x1.toUInt32 >>> ((10 : Int32) &&& 31).toUInt32).toInt32) &&& (255 : Int32)).toUInt32.toUInt16.toUInt32.toInt32)), .val (.ref b201)] [(.int ((((x1.toUInt32 >>> ((10 : Int32) &&& 31).toUInt32).toInt32) &&& (255 : Int32)).toUInt32.toUInt16.toUInt32.toInt32)), (.int 1), (.ref b201)]
 obtain ⟨cl203, Ar203, sa203, na203, ha203⟩ := id V202
 obtain ⟨T203, h203, X203, e203, W203, st203⟩ := stC X202 hx hZ e202 Ar203 (j := (1 : Int32)) (inb_of sa203 ⟨by decide, by decide⟩) (g := (mkF m 64 #[.val (.int 1), .val (.int x1), .val (.int 64), .val (.int ((((x1.toUInt32 >>> ((2 : Int32) &&& 31).toUInt32).toInt32) &&& (255 : Int32)).toUInt32.toUInt16.toUInt32.toInt32)), .val (.int ((((x1.toUInt32 >>> ((10 : Int32) &&& 31).toUInt32).toInt32) &&& (255 : Int32)).toUInt32.toUInt16.toUInt32.toInt32)), .val (.ref b201)] [(.int ((((x1.toUInt32 >>> ((10 : Int32) &&& 31).toUInt32).toInt32) &&& (255 : Int32)).toUInt32.toUInt16.toUInt32.toInt32)), (.int 1), (.ref b201)])) rfl rfl (hb hby o_d1_64)
 have V203 : o_Tb Z h203 b201 .char (2 : Int32) (o_G1_64_1_2 x1) := o_Tb.set Ar203 sa203 na203 ha203 W203 ⟨by decide, by decide⟩
 have N203 := Fr.snoc X203 N202 g_b201
 refine o_go st203 ?_
 show o_Gs p e below _ T203 m 65 #[.val (.int 1), .val (.int x1), .val (.int 64), .val (.int ((((x1.toUInt32 >>> ((2 : Int32) &&& 31).toUInt32).toInt32) &&& (255 : Int32)).toUInt32.toUInt16.toUInt32.toInt32)), .val (.int ((((x1.toUInt32 >>> ((10 : Int32) &&& 31).toUInt32).toInt32) &&& (255 : Int32)).toUInt32.toUInt16.toUInt32.toInt32)), .val (.ref b201)] []
 obtain ⟨T204, h204, X204, e204, E204, A204, D204, -, st204⟩ := newO X203 hx hZ hown (hw _ o_t5) (hw _ o_t6) (hw _ o_t7) e203 (g := (mkF m 65 #[.val (.int 1), .val (.int x1), .val (.int 64), .val (.int ((((x1.toUInt32 >>> ((2 : Int32) &&& 31).toUInt32).toInt32) &&& (255 : Int32)).toUInt32.toUInt16.toUInt32.toInt32)), .val (.int ((((x1.toUInt32 >>> ((10 : Int32) &&& 31).toUInt32).toInt32) &&& (255 : Int32)).toUInt32.toUInt16.toUInt32.toInt32)), .val (.ref b201)] [])) rfl (hb hby o_d1_65) (by decide) (by decide)
 obtain ⟨b204, q204⟩ : ∃ z, z = h203.size := ⟨_, rfl⟩
 rw [← q204] at A204 D204 st204
 have lt_b204 : h203.size ≤ b204 := Nat.le_of_eq q204.symm
 have ne_b201_b204 : b201 ≠ b204 := Nat.ne_of_lt (Nat.lt_of_lt_of_le V203.lt lt_b204)
 have g_b204 : n0 ≤ b204 := Nat.le_trans (Nat.le_trans (Nat.le_trans (Nat.le_trans Z0 E201.1) (Keep.of_wr W202).1) (Keep.of_wr W203).1) lt_b204
 have sz_b204 : h0.size ≤ b204 := Nat.le_trans ((((Keep.refl h0 ([] : List Addr)).ext E201).wr W202 (Or.inr sz_b201)).wr W203 (Or.inr sz_b201)).1 lt_b204
 have F204_coder : Fld Z h204 b204 "java/lang/String" "coder" "B" (.int 0) := D204 (Or.inr (hw _ o_t31)) (ty := .byte) (by decide)
 have F204_value : Fld Z h204 b204 "java/lang/String" "value" "[B" .null := D204 (Or.inr (hw _ o_t33)) (ty := (.array .byte)) (by decide)
 refine o_go st204 ?_
 refine o_gi (XS.dup X204.here hx rfl (hb hby o_d1_68) rfl rfl) ?_
 refine o_gi (XS.aload X204.here hx rfl (hb hby o_d1_69) rfl rfl) ?_
 show o_Gs p e below _ T204 m 71 #[.val (.int 1), .val (.int x1), .val (.int 64), .val (.int ((((x1.toUInt32 >>> ((2 : Int32) &&& 31).toUInt32).toInt32) &&& (255 : Int32)).toUInt32.toUInt16.toUInt32.toInt32)), .val (.int ((((x1.toUInt32 >>> ((10 : Int32) &&& 31).toUInt32).toInt32) &&& (255 : Int32)).toUInt32.toUInt16.toUInt32.toInt32)), .val (.ref b201)] [(.ref b201), (.ref b204), (.ref b204)]
 have oo206 : Old Z n0 h204 := ((((O0.ext E201).wr W202 g_b201).wr W203 g_b201).ext E204)
 obtain ⟨T205, L205, X205, ⟨N205q, K205, G205_0, G205_1, t205, G205, lt_t205, G205_2, G205_3⟩, st205⟩ := o_newStrT X204 hx hZ hown (hw _ o_t8) (hw _ o_t9) (hw _ o_t10) (hw _ o_t6) hws (n := 2) g_b204 (Nat.le_trans (Nat.le_trans (Nat.le_trans (Nat.le_trans Z0 E201.1) (Keep.of_wr W202).1) (Keep.of_wr W203).1) E204.1) A204 F204_value F204_coder (V203.ext E204) (S_z_cs.ext oo206.2) z_CS rfl (by decide) (by decide) (o_gset (o_gset (o_g00) (o_ch _)) (o_ch _)) e204 (pc := 71) (Ls := #[.val (.int 1), .val (.int x1), .val (.int 64), .val (.int ((((x1.toUInt32 >>> ((2 : Int32) &&& 31).toUInt32).toInt32) &&& (255 : Int32)).toUInt32.toUInt16.toUInt32.toInt32)), .val (.int ((((x1.toUInt32 >>> ((10 : Int32) &&& 31).toUInt32).toInt32) &&& (255 : Int32)).toUInt32.toUInt16.toUInt32.toInt32)), .val (.ref b201)]) (rest := [(.ref b204)]) (W := 1) (by rw [hml]; rfl) (Nat.le_of_eq rfl) (by decide) (by decide) (hb hby o_d1_71) (by decide) (by decide)
 have ne_b201_t205 : b201 ≠ t205 := Nat.ne_of_lt (Nat.lt_of_lt_of_le (V203.ext E204).lt lt_t205)
 have ne_b204_t205 : b204 ≠ t205 := Nat.ne_of_lt (Nat.lt_of_lt_of_le A204.lt lt_t205)
 have N205 := Fr.app N203 N205q
 refine o_go st205 ?_
 show o_Gs p e below _ T205 m 74 #[.val (.int 1), .val (.int x1), .val (.int 64), .val (.int ((((x1.toUInt32 >>> ((2 : Int32) &&& 31).toUInt32).toInt32) &&& (255 : Int32)).toUInt32.toUInt16.toUInt32.toInt32)), .val (.int ((((x1.toUInt32 >>> ((10 : Int32) &&& 31).toUInt32).toInt32) &&& (255 : Int32)).toUInt32.toUInt16.toUInt32.toInt32)), .val (.ref b201)] [(.ref b204)]
 exact o_retR X205 hx hlk hret rfl rfl (hb hby o_d1_74) (by decide) (by decide) (⟨_, rfl, N205, ((((((Keep.refl h0 ([] : List Addr)).ext E201).wr W202 (Or.inr sz_b201)).wr W203 (Or.inr sz_b201)).ext E204).trans K205 (fun x hx => by cases List.mem_singleton.mp hx; exact Or.inr sz_b204)), sz_b204, ⟨t205, _, _, _, G205_0, G205_2, G205_1, G205_3, Or.inl ⟨rfl, by decide, by decide, by decide⟩⟩⟩)
theorem o_d1_80 : decode method_2_code 80 = .ok (.iload_n 2, 1) := by decide +kernel
theorem o_d1_81 : decode method_2_code 81 = .ok (.newarray .char, 2) := by decide +kernel
theorem o_d1_83 : decode method_2_code 83 = .ok (.astore 5, 2) := by decide +kernel
theorem o_d1_85 : decode method_2_code 85 = .ok (.aload 5, 2) := by decide +kernel
theorem o_d1_87 : decode method_2_code 87 = .ok (.iconst 0, 1) := by decide +kernel
theorem o_d1_88 : decode method_2_code 88 = .ok (.iload_n 3, 1) := by decide +kernel
theorem o_d1_89 : decode method_2_code 89 = .ok (.castore, 1) := by decide +kernel
theorem o_d1_90 : decode method_2_code 90 = .ok (.aload 5, 2) := by decide +kernel
theorem o_d1_92 : decode method_2_code 92 = .ok (.iload_n 2, 1) := by decide +kernel
theorem o_d1_93 : decode method_2_code 93 = .ok (.iconst 1, 1) := by decide +kernel
theorem o_d1_94 : decode method_2_code 94 = .ok (.isub, 1) := by decide +kernel
theorem o_d1_95 : decode method_2_code 95 = .ok (.iload 4, 2) := by decide +kernel
theorem o_d1_97 : decode method_2_code 97 = .ok (.castore, 1) := by decide +kernel
theorem o_d1_98 : decode method_2_code 98 = .ok (.new 7, 3) := by decide +kernel
theorem o_d1_101 : decode method_2_code 101 = .ok (.dup, 1) := by decide +kernel
theorem o_d1_102 : decode method_2_code 102 = .ok (.aload 5, 2) := by decide +kernel
theorem o_d1_104 : decode method_2_code 104 = .ok (.invokespecial 9, 3) := by decide +kernel
theorem o_d1_107 : decode method_2_code 107 = .ok (.areturn, 1) := by decide +kernel
def o_G1_64_2_1 (x1 : Int32) : Int32 → Int32 := fun k => if k = (0 : Int32) then (nar .char ((((x1.toUInt32 >>> ((2 : Int32) &&& 31).toUInt32).toInt32) &&& (255 : Int32)).toUInt32.toUInt16.toUInt32.toInt32)) else (fun _ => 0) k
def o_G1_64_2_2 (x1 : Int32) : Int32 → Int32 := fun k => if k = (63 : Int32) then (nar .char ((((x1.toUInt32 >>> ((10 : Int32) &&& 31).toUInt32).toInt32) &&& (255 : Int32)).toUInt32.toUInt16.toUInt32.toInt32)) else (o_G1_64_2_1 x1) k
def o_Q1_64_2 (Z : State) (x1 : Int32) (z_cs : Int32) (h0 : Heap) (n0 : Nat) (v : Option Value) (h : Heap) (L : List Loc) : Prop := ∃ b : Addr, v = some (.ref b) ∧ Fr n0 L ∧ Keep h0 h [] ∧ h0.size ≤ b ∧ o_Id Z h b (64 : Int32)
abbrev o_R1_64_2 : Room := { frames := 6, cells := 4, slots := 1028, locals := 125 }
theorem o_ef1_64_2 (m : MethodId) (z1 : Int32) : entryFrame m #[(.int 2), (.int z1), (.int 64)] 6 = mkF m 0 #[.val (.int 2), .val (.int z1), .val (.int 64), .unset, .unset, .unset] [] := by first | (simp [entryFrame, mkF, argsToLocals, Value.category]; done) | rfl
set_option maxRecDepth 65536 in
set_option maxHeartbeats 40000000 in
theorem rm1_64_2 (l : Launch) (Z : State) (a0 : Array Value) (hw : ∀ d ∈ tables_1, d.before a0 Z = true) (ws : List Jvm.Cond) (x1 : Int32) (z_cs : Int32) (h0 : Heap) (n0 : Nat) (Z0 : n0 ≤ h0.size) (O0 : Old Z n0 h0) (z_CS : ¬ z_cs = 0) (S_z_cs : Sta Z Z.heap "java/lang/String" "COMPACT_STRINGS" "Z" (.int z_cs)) (S_ad : Sta Z Z.heap "java/lang/StringUTF16" "$assertionsDisabled" "Z" (.int 1)) (S_hi : Sta Z Z.heap "java/lang/StringUTF16" "HI_BYTE_SHIFT" "I" (.int 0)) (S_lo : Sta Z Z.heap "java/lang/StringUTF16" "LO_BYTE_SHIFT" "I" (.int 8)) : o_Met l Z (⟨"com/example/quittance/quittance/dialect/ClaimOfPinLaw", "id", "(III)Ljava/lang/String;"⟩ : MethodName) method_2_code 6 (some (.object "java/lang/String")) ws o_R1_64_2 #[(.int 2), (.int x1), (.int 64)] h0 (o_Q1_64_2 Z x1 z_cs h0 n0) := by
 refine o_met (plainFor_of_name o_pn6) ?_
 intro p e s m below meth c s₁ hx hby hml hown hnm hret hlk hZ e0 X0
 have N0 := Fr.nil n0
 have hml : c.maxLocals = 6 := hml
 have hown : s.vm.findClass "com/example/quittance/quittance/dialect/ClaimOfPinLaw" = some m.cls := hown
 have hret : meth.sig.returnType = (some (.object "java/lang/String")) := hret
 have hby : c.code = method_2_code := hby
 have hnm : meth.name = "id" := hnm
 rw [o_ef1_64_2]
 have hws : ∀ d ∈ StrChars.Road.words, d.before a0 Z = true := fun d hd => hw d ((by decide +kernel : ∀ d ∈ StrChars.Road.words, d ∈ tables_1) d hd)
 refine o_gi (XS.iloadN X0.here hx rfl (hb hby o_d1_0) rfl) ?_
 refine o_gi (XS.iconst X0.here hx rfl (hb hby o_d1_1)) ?_
 show o_Gs p e below _ s₁ m 2 #[.val (.int 2), .val (.int x1), .val (.int 64), .unset, .unset, .unset] [(.int 2), (.int x1)]
 refine o_gi (XS.iushr X0.here hx rfl (hb hby o_d1_2) rfl) ?_
 refine o_gi (XS.sipush X0.here hx rfl (hb hby o_d1_3)) ?_
 show o_Gs p e below _ s₁ m 6 #[.val (.int 2), .val (.int x1), .val (.int 64), .unset, .unset, .unset] [(.int 255), (.int ((x1.toUInt32 >>> ((2 : Int32) &&& 31).toUInt32).toInt32))]
 refine o_gi (XS.iand X0.here hx rfl (hb hby o_d1_6) rfl) ?_
 show o_Gs p e below _ s₁ m 7 #[.val (.int 2), .val (.int x1), .val (.int 64), .unset, .unset, .unset] [(.int (((x1.toUInt32 >>> ((2 : Int32) &&& 31).toUInt32).toInt32) &&& (255 : Int32)))]
 refine o_gi (XS.i2c X0.here hx rfl (hb hby o_d1_7) rfl) ?_
 refine o_gi (XS.istoreN X0.here hx rfl (hb hby o_d1_8) rfl (l' := #[.val (.int 2), .val (.int x1), .val (.int 64), .val (.int ((((x1.toUInt32 >>> ((2 : Int32) &&& 31).toUInt32).toInt32) &&& (255 : Int32)).toUInt32.toUInt16.toUInt32.toInt32)), .unset, .unset]) rfl) ?_
 refine o_gi (XS.iloadN X0.here hx rfl (hb hby o_d1_9) rfl) ?_
 refine o_gi (XS.bipush X0.here hx rfl (hb hby o_d1_10)) ?_
 show o_Gs p e below _ s₁ m 12 #[.val (.int 2), .val (.int x1), .val (.int 64), .val (.int ((((x1.toUInt32 >>> ((2 : Int32) &&& 31).toUInt32).toInt32) &&& (255 : Int32)).toUInt32.toUInt16.toUInt32.toInt32)), .unset, .unset] [(.int 10), (.int x1)]
 refine o_gi (XS.iushr X0.here hx rfl (hb hby o_d1_12) rfl) ?_
 refine o_gi (XS.sipush X0.here hx rfl (hb hby o_d1_13)) ?_
 show o_Gs p e below _ s₁ m 16 #[.val (.int 2), .val (.int x1), .val (.int 64), .val (.int ((((x1.toUInt32 >>> ((2 : Int32) &&& 31).toUInt32).toInt32) &&& (255 : Int32)).toUInt32.toUInt16.toUInt32.toInt32)), .unset, .unset] [(.int 255), (.int ((x1.toUInt32 >>> ((10 : Int32) &&& 31).toUInt32).toInt32))]
 refine o_gi (XS.iand X0.here hx rfl (hb hby o_d1_16) rfl) ?_
 show o_Gs p e below _ s₁ m 17 #[.val (.int 2), .val (.int x1), .val (.int 64), .val (.int ((((x1.toUInt32 >>> ((2 : Int32) &&& 31).toUInt32).toInt32) &&& (255 : Int32)).toUInt32.toUInt16.toUInt32.toInt32)), .unset, .unset] [(.int (((x1.toUInt32 >>> ((10 : Int32) &&& 31).toUInt32).toInt32) &&& (255 : Int32)))]
 refine o_gi (XS.i2c X0.here hx rfl (hb hby o_d1_17) rfl) ?_
 refine o_gi (XS.istore X0.here hx rfl (hb hby o_d1_18) rfl (l' := #[.val (.int 2), .val (.int x1), .val (.int 64), .val (.int ((((x1.toUInt32 >>> ((2 : Int32) &&& 31).toUInt32).toInt32) &&& (255 : Int32)).toUInt32.toUInt16.toUInt32.toInt32)), .val (.int ((((x1.toUInt32 >>> ((10 : Int32) &&& 31).toUInt32).toInt32) &&& (255 : Int32)).toUInt32.toUInt16.toUInt32.toInt32)), .unset]) rfl) ?_
 refine o_gi (XS.iloadN X0.here hx rfl (hb hby o_d1_20) rfl) ?_
 show o_Gs p e below _ s₁ m 21 #[.val (.int 2), .val (.int x1), .val (.int 64), .val (.int ((((x1.toUInt32 >>> ((2 : Int32) &&& 31).toUInt32).toInt32) &&& (255 : Int32)).toUInt32.toUInt16.toUInt32.toInt32)), .val (.int ((((x1.toUInt32 >>> ((10 : Int32) &&& 31).toUInt32).toInt32) &&& (255 : Int32)).toUInt32.toUInt16.toUInt32.toInt32)), .unset] [(.int 2)]
 have hd207 : ¬ ((2 : Int32) = (0 : Int32)) := (by decide)
 refine o_gi (XS.ifYes X0.here hx rfl (pc0 := 21) (pc' := 44) rfl (hb hby o_d1_21) rfl ((if0 _ _).trans (feq hd207).2) (by decide) (by decide)) ?_
 refine o_gi (XS.iloadN X0.here hx rfl (hb hby o_d1_44) rfl) ?_
 refine o_gi (XS.iconst X0.here hx rfl (hb hby o_d1_45)) ?_
 show o_Gs p e below _ s₁ m 46 #[.val (.int 2), .val (.int x1), .val (.int 64), .val (.int ((((x1.toUInt32 >>> ((2 : Int32) &&& 31).toUInt32).toInt32) &&& (255 : Int32)).toUInt32.toUInt16.toUInt32.toInt32)), .val (.int ((((x1.toUInt32 >>> ((10 : Int32) &&& 31).toUInt32).toInt32) &&& (255 : Int32)).toUInt32.toUInt16.toUInt32.toInt32)), .unset] [(.int 1), (.int 2)]
 have hd208 : ¬ ((2 : Int32) = (1 : Int32)) := (by decide)
 refine o_gi (XS.icmpYes X0.here hx rfl (pc0 := 46) (pc' := 75) rfl (hb hby o_d1_46) rfl (feq hd208).2 (by decide) (by decide)) ?_
 refine o_gi (XS.iloadN X0.here hx rfl (hb hby o_d1_75) rfl) ?_
 refine o_gi (XS.iconst X0.here hx rfl (hb hby o_d1_76)) ?_
 show o_Gs p e below _ s₁ m 77 #[.val (.int 2), .val (.int x1), .val (.int 64), .val (.int ((((x1.toUInt32 >>> ((2 : Int32) &&& 31).toUInt32).toInt32) &&& (255 : Int32)).toUInt32.toUInt16.toUInt32.toInt32)), .val (.int ((((x1.toUInt32 >>> ((10 : Int32) &&& 31).toUInt32).toInt32) &&& (255 : Int32)).toUInt32.toUInt16.toUInt32.toInt32)), .unset] [(.int 2), (.int 2)]
 have hd209 : (2 : Int32) = (2 : Int32) := (by decide)
 refine o_gi (XS.icmpNo X0.here hx rfl (hb hby o_d1_77) rfl (teq hd209).2) ?_
 refine o_gi (XS.iloadN X0.here hx rfl (hb hby o_d1_80) rfl) ?_
 show o_Gs p e below _ s₁ m 81 #[.val (.int 2), .val (.int x1), .val (.int 64), .val (.int ((((x1.toUInt32 >>> ((2 : Int32) &&& 31).toUInt32).toInt32) &&& (255 : Int32)).toUInt32.toUInt16.toUInt32.toInt32)), .val (.int ((((x1.toUInt32 >>> ((10 : Int32) &&& 31).toUInt32).toInt32) &&& (255 : Int32)).toUInt32.toUInt16.toUInt32.toInt32)), .unset] [(.int 64)]
 obtain ⟨T210, h210, k210, X210, e210, E210, A210, st210⟩ := newP X0 hx hZ (aty := .char) (hw _ o_t4) e0 (g := (mkF m 81 #[.val (.int 2), .val (.int x1), .val (.int 64), .val (.int ((((x1.toUInt32 >>> ((2 : Int32) &&& 31).toUInt32).toInt32) &&& (255 : Int32)).toUInt32.toUInt16.toUInt32.toInt32)), .val (.int ((((x1.toUInt32 >>> ((10 : Int32) &&& 31).toUInt32).toInt32) &&& (255 : Int32)).toUInt32.toUInt16.toUInt32.toInt32)), .unset] [(.int 64)])) rfl (hb hby o_d1_81) rfl (by decide) (cap := 64) (by decide) (by decide) (by decide) (by decide)
 obtain ⟨b210, q210⟩ : ∃ z, z = h0.size := ⟨_, rfl⟩
 rw [← q210] at A210 st210
 have lt_b210 : h0.size ≤ b210 := Nat.le_of_eq q210.symm
 have g_b210 : n0 ≤ b210 := Nat.le_trans Z0 lt_b210
 have sz_b210 : h0.size ≤ b210 := Nat.le_trans (Keep.refl h0 ([] : List Addr)).1 lt_b210
 have V210 : o_Tb Z h210 b210 .char (64 : Int32) (fun _ => 0) := o_Tb.new A210 (by decide) rfl
 refine o_go st210 ?_
 refine o_gi (XS.astore X210.here hx rfl (hb hby o_d1_83) rfl rfl (l' := #[.val (.int 2), .val (.int x1), .val (.int 64), .val (.int ((((x1.toUInt32 >>> ((2 : Int32) &&& 31).toUInt32).toInt32) &&& (255 : Int32)).toUInt32.toUInt16.toUInt32.toInt32)), .val (.int ((((x1.toUInt32 >>> ((10 : Int32) &&& 31).toUInt32).toInt32) &&& (255 : Int32)).toUInt32.toUInt16.toUInt32.toInt32)), .val (.ref b210)]) rfl) ?_
 refine o_gi (XS.aload X210.here hx rfl (hb hby o_d1_85) rfl rfl) ?_
 refine o_gi (XS.iconst X210.here hx rfl (hb hby o_d1_87)) ?_
 refine o_gi (XS.iloadN X210.here hx rfl (hb hby o_d1_88) rfl) ?_
 show o_Gs p e below _ T210 m 89 #[.val (.int 2), .val (.int x1), .val (.int 64), .val (.int ((((x1.toUInt32 >>> ((2 : Int32) &&& 31).toUInt32).toInt32) &&& (255 : Int32)).toUInt32.toUInt16.toUInt32.toInt32)), .val (.int ((((x1.toUInt32 >>> ((10 : Int32) &&& 31).toUInt32).toInt32) &&& (255 : Int32)).toUInt32.toUInt16.toUInt32.toInt32)), .val (.ref b210)] [(.int ((((x1.toUInt32 >>> ((2 : Int32) &&& 31).toUInt32).toInt32) &&& (255 : Int32)).toUInt32.toUInt16.toUInt32.toInt32)), (.int 0), (.ref b210)]
 obtain ⟨cl211, Ar211, sa211, na211, ha211⟩ := id V210
 obtain ⟨T211, h211, X211, e211, W211, st211⟩ := stC X210 hx hZ e210 Ar211 (j := (0 : Int32)) (inb_of sa211 ⟨by decide, by decide⟩) (g := (mkF m 89 #[.val (.int 2), .val (.int x1), .val (.int 64), .val (.int ((((x1.toUInt32 >>> ((2 : Int32) &&& 31).toUInt32).toInt32) &&& (255 : Int32)).toUInt32.toUInt16.toUInt32.toInt32)), .val (.int ((((x1.toUInt32 >>> ((10 : Int32) &&& 31).toUInt32).toInt32) &&& (255 : Int32)).toUInt32.toUInt16.toUInt32.toInt32)), .val (.ref b210)] [(.int ((((x1.toUInt32 >>> ((2 : Int32) &&& 31).toUInt32).toInt32) &&& (255 : Int32)).toUInt32.toUInt16.toUInt32.toInt32)), (.int 0), (.ref b210)])) rfl rfl (hb hby o_d1_89)
 have V211 : o_Tb Z h211 b210 .char (64 : Int32) (o_G1_64_2_1 x1) := o_Tb.set Ar211 sa211 na211 ha211 W211 ⟨by decide, by decide⟩
 have N211 := Fr.snoc X211 N0 g_b210
 refine o_go st211 ?_
 refine o_gi (XS.aload X211.here hx rfl (hb hby o_d1_90) rfl rfl) ?_
 refine o_gi (XS.iloadN X211.here hx rfl (hb hby o_d1_92) rfl) ?_
 refine o_gi (XS.iconst X211.here hx rfl (hb hby o_d1_93)) ?_
 show o_Gs p e below _ T211 m 94 #[.val (.int 2), .val (.int x1), .val (.int 64), .val (.int ((((x1.toUInt32 >>> ((2 : Int32) &&& 31).toUInt32).toInt32) &&& (255 : Int32)).toUInt32.toUInt16.toUInt32.toInt32)), .val (.int ((((x1.toUInt32 >>> ((10 : Int32) &&& 31).toUInt32).toInt32) &&& (255 : Int32)).toUInt32.toUInt16.toUInt32.toInt32)), .val (.ref b210)] [(.int 1), (.int 64), (.ref b210)]
 refine o_gi (XS.isub X211.here hx rfl (hb hby o_d1_94) rfl) ?_
 show o_Gs p e below _ T211 m 95 #[.val (.int 2), .val (.int x1), .val (.int 64), .val (.int ((((x1.toUInt32 >>> ((2 : Int32) &&& 31).toUInt32).toInt32) &&& (255 : Int32)).toUInt32.toUInt16.toUInt32.toInt32)), .val (.int ((((x1.toUInt32 >>> ((10 : Int32) &&& 31).toUInt32).toInt32) &&& (255 : Int32)).toUInt32.toUInt16.toUInt32.toInt32)), .val (.ref b210)] [(.int ((64 : Int32) - (1 : Int32))), (.ref b210)]
 rw [show ((64 : Int32) - (1 : Int32)) = (63 : Int32) from by decide]
 refine o_gi (XS.iload X211.here hx rfl (hb hby o_d1_95) rfl) ?_
 show o_Gs p e below _ T211 m 97 #[.val (.int 2), .val (.int x1), .val (.int 64), .val (.int ((((x1.toUInt32 >>> ((2 : Int32) &&& 31).toUInt32).toInt32) &&& (255 : Int32)).toUInt32.toUInt16.toUInt32.toInt32)), .val (.int ((((x1.toUInt32 >>> ((10 : Int32) &&& 31).toUInt32).toInt32) &&& (255 : Int32)).toUInt32.toUInt16.toUInt32.toInt32)), .val (.ref b210)] [(.int ((((x1.toUInt32 >>> ((10 : Int32) &&& 31).toUInt32).toInt32) &&& (255 : Int32)).toUInt32.toUInt16.toUInt32.toInt32)), (.int 63), (.ref b210)]
 obtain ⟨cl212, Ar212, sa212, na212, ha212⟩ := id V211
 obtain ⟨T212, h212, X212, e212, W212, st212⟩ := stC X211 hx hZ e211 Ar212 (j := (63 : Int32)) (inb_of sa212 ⟨by decide, by decide⟩) (g := (mkF m 97 #[.val (.int 2), .val (.int x1), .val (.int 64), .val (.int ((((x1.toUInt32 >>> ((2 : Int32) &&& 31).toUInt32).toInt32) &&& (255 : Int32)).toUInt32.toUInt16.toUInt32.toInt32)), .val (.int ((((x1.toUInt32 >>> ((10 : Int32) &&& 31).toUInt32).toInt32) &&& (255 : Int32)).toUInt32.toUInt16.toUInt32.toInt32)), .val (.ref b210)] [(.int ((((x1.toUInt32 >>> ((10 : Int32) &&& 31).toUInt32).toInt32) &&& (255 : Int32)).toUInt32.toUInt16.toUInt32.toInt32)), (.int 63), (.ref b210)])) rfl rfl (hb hby o_d1_97)
 have V212 : o_Tb Z h212 b210 .char (64 : Int32) (o_G1_64_2_2 x1) := o_Tb.set Ar212 sa212 na212 ha212 W212 ⟨by decide, by decide⟩
 have N212 := Fr.snoc X212 N211 g_b210
 refine o_go st212 ?_
 show o_Gs p e below _ T212 m 98 #[.val (.int 2), .val (.int x1), .val (.int 64), .val (.int ((((x1.toUInt32 >>> ((2 : Int32) &&& 31).toUInt32).toInt32) &&& (255 : Int32)).toUInt32.toUInt16.toUInt32.toInt32)), .val (.int ((((x1.toUInt32 >>> ((10 : Int32) &&& 31).toUInt32).toInt32) &&& (255 : Int32)).toUInt32.toUInt16.toUInt32.toInt32)), .val (.ref b210)] []
 obtain ⟨T213, h213, X213, e213, E213, A213, D213, -, st213⟩ := newO X212 hx hZ hown (hw _ o_t5) (hw _ o_t6) (hw _ o_t7) e212 (g := (mkF m 98 #[.val (.int 2), .val (.int x1), .val (.int 64), .val (.int ((((x1.toUInt32 >>> ((2 : Int32) &&& 31).toUInt32).toInt32) &&& (255 : Int32)).toUInt32.toUInt16.toUInt32.toInt32)), .val (.int ((((x1.toUInt32 >>> ((10 : Int32) &&& 31).toUInt32).toInt32) &&& (255 : Int32)).toUInt32.toUInt16.toUInt32.toInt32)), .val (.ref b210)] [])) rfl (hb hby o_d1_98) (by decide) (by decide)
 obtain ⟨b213, q213⟩ : ∃ z, z = h212.size := ⟨_, rfl⟩
 rw [← q213] at A213 D213 st213
 have lt_b213 : h212.size ≤ b213 := Nat.le_of_eq q213.symm
 have ne_b210_b213 : b210 ≠ b213 := Nat.ne_of_lt (Nat.lt_of_lt_of_le V212.lt lt_b213)
 have g_b213 : n0 ≤ b213 := Nat.le_trans (Nat.le_trans (Nat.le_trans (Nat.le_trans Z0 E210.1) (Keep.of_wr W211).1) (Keep.of_wr W212).1) lt_b213
 have sz_b213 : h0.size ≤ b213 := Nat.le_trans ((((Keep.refl h0 ([] : List Addr)).ext E210).wr W211 (Or.inr sz_b210)).wr W212 (Or.inr sz_b210)).1 lt_b213
 have F213_coder : Fld Z h213 b213 "java/lang/String" "coder" "B" (.int 0) := D213 (Or.inr (hw _ o_t31)) (ty := .byte) (by decide)
 have F213_value : Fld Z h213 b213 "java/lang/String" "value" "[B" .null := D213 (Or.inr (hw _ o_t33)) (ty := (.array .byte)) (by decide)
 refine o_go st213 ?_
 refine o_gi (XS.dup X213.here hx rfl (hb hby o_d1_101) rfl rfl) ?_
 refine o_gi (XS.aload X213.here hx rfl (hb hby o_d1_102) rfl rfl) ?_
 show o_Gs p e below _ T213 m 104 #[.val (.int 2), .val (.int x1), .val (.int 64), .val (.int ((((x1.toUInt32 >>> ((2 : Int32) &&& 31).toUInt32).toInt32) &&& (255 : Int32)).toUInt32.toUInt16.toUInt32.toInt32)), .val (.int ((((x1.toUInt32 >>> ((10 : Int32) &&& 31).toUInt32).toInt32) &&& (255 : Int32)).toUInt32.toUInt16.toUInt32.toInt32)), .val (.ref b210)] [(.ref b210), (.ref b213), (.ref b213)]
 have oo215 : Old Z n0 h213 := ((((O0.ext E210).wr W211 g_b210).wr W212 g_b210).ext E213)
 obtain ⟨T214, L214, X214, ⟨N214q, K214, G214_0, G214_1, t214, G214, lt_t214, G214_2, G214_3⟩, st214⟩ := o_newStrT X213 hx hZ hown (hw _ o_t8) (hw _ o_t9) (hw _ o_t10) (hw _ o_t6) hws (n := 64) g_b213 (Nat.le_trans (Nat.le_trans (Nat.le_trans (Nat.le_trans Z0 E210.1) (Keep.of_wr W211).1) (Keep.of_wr W212).1) E213.1) A213 F213_value F213_coder (V212.ext E213) (S_z_cs.ext oo215.2) z_CS rfl (by decide) (by decide) (o_gset (o_gset (o_g00) (o_ch _)) (o_ch _)) e213 (pc := 104) (Ls := #[.val (.int 2), .val (.int x1), .val (.int 64), .val (.int ((((x1.toUInt32 >>> ((2 : Int32) &&& 31).toUInt32).toInt32) &&& (255 : Int32)).toUInt32.toUInt16.toUInt32.toInt32)), .val (.int ((((x1.toUInt32 >>> ((10 : Int32) &&& 31).toUInt32).toInt32) &&& (255 : Int32)).toUInt32.toUInt16.toUInt32.toInt32)), .val (.ref b210)]) (rest := [(.ref b213)]) (W := 1) (by rw [hml]; rfl) (Nat.le_of_eq rfl) (by decide) (by decide) (hb hby o_d1_104) (by decide) (by decide)
 have ne_b210_t214 : b210 ≠ t214 := Nat.ne_of_lt (Nat.lt_of_lt_of_le (V212.ext E213).lt lt_t214)
 have ne_b213_t214 : b213 ≠ t214 := Nat.ne_of_lt (Nat.lt_of_lt_of_le A213.lt lt_t214)
 have N214 := Fr.app N212 N214q
 refine o_go st214 ?_
 show o_Gs p e below _ T214 m 107 #[.val (.int 2), .val (.int x1), .val (.int 64), .val (.int ((((x1.toUInt32 >>> ((2 : Int32) &&& 31).toUInt32).toInt32) &&& (255 : Int32)).toUInt32.toUInt16.toUInt32.toInt32)), .val (.int ((((x1.toUInt32 >>> ((10 : Int32) &&& 31).toUInt32).toInt32) &&& (255 : Int32)).toUInt32.toUInt16.toUInt32.toInt32)), .val (.ref b210)] [(.ref b213)]
 exact o_retR X214 hx hlk hret rfl rfl (hb hby o_d1_107) (by decide) (by decide) (⟨_, rfl, N214, ((((((Keep.refl h0 ([] : List Addr)).ext E210).wr W211 (Or.inr sz_b210)).wr W212 (Or.inr sz_b210)).ext E213).trans K214 (fun x hx => by cases List.mem_singleton.mp hx; exact Or.inr sz_b213)), sz_b213, ⟨t214, _, _, _, G214_0, G214_2, G214_1, G214_3, Or.inl ⟨rfl, by decide, by decide, by decide⟩⟩⟩)
def o_Q1_64 (Z : State) (h0 : Heap) (n0 : Nat) (v : Option Value) (h : Heap) (L : List Loc) : Prop := ∃ b : Addr, v = some (.ref b) ∧ Fr n0 L ∧ Keep h0 h [] ∧ h0.size ≤ b ∧ o_Id Z h b (64 : Int32)
abbrev o_R1_64 : Room := o_R1_64_0
theorem rm1_64 (l : Launch) (Z : State) (a0 : Array Value) (hw : ∀ d ∈ tables_1, d.before a0 Z = true) (ws : List Jvm.Cond) (x0 : Int32) (x1 : Int32) (z_cs : Int32) (h0 : Heap) (n0 : Nat) (Z0 : n0 ≤ h0.size) (O0 : Old Z n0 h0) (z_CS : ¬ z_cs = 0) (hx0 : x0 = (0 : Int32) ∨ x0 = (1 : Int32) ∨ x0 = (2 : Int32) ∨ x0 = (3 : Int32)) (S_z_cs : Sta Z Z.heap "java/lang/String" "COMPACT_STRINGS" "Z" (.int z_cs)) (S_ad : Sta Z Z.heap "java/lang/StringUTF16" "$assertionsDisabled" "Z" (.int 1)) (S_hi : Sta Z Z.heap "java/lang/StringUTF16" "HI_BYTE_SHIFT" "I" (.int 0)) (S_lo : Sta Z Z.heap "java/lang/StringUTF16" "LO_BYTE_SHIFT" "I" (.int 8)) : o_Met l Z (⟨"com/example/quittance/quittance/dialect/ClaimOfPinLaw", "id", "(III)Ljava/lang/String;"⟩ : MethodName) method_2_code 6 (some (.object "java/lang/String")) ws o_R1_64 #[.int x0, .int x1, .int 64] h0 (o_Q1_64 Z h0 n0) := by
 rcases hx0 with rfl | rfl | rfl | rfl
 ·exact rm1_64_0 l Z a0 hw ws x1 z_cs h0 n0 Z0 O0 z_CS S_z_cs S_ad S_hi S_lo
 ·exact rm1_64_1 l Z a0 hw ws x1 z_cs h0 n0 Z0 O0 z_CS S_z_cs S_ad S_hi S_lo
 ·exact rm1_64_2 l Z a0 hw ws x1 z_cs h0 n0 Z0 O0 z_CS S_z_cs S_ad S_hi S_lo
 ·exact rm1_64_3 l Z a0 hw ws x1 z_cs h0 n0 Z0 O0 z_CS S_z_cs S_ad S_hi S_lo
def o_G1_255_3_1 (x1 : Int32) : Int32 → Int32 := fun k => if k = (0 : Int32) then (nar .char (((55296 : Int32) ||| (((x1.toUInt32 >>> ((2 : Int32) &&& 31).toUInt32).toInt32) &&& (1023 : Int32))).toUInt32.toUInt16.toUInt32.toInt32)) else (fun _ => 0) k
def o_G1_255_3_2 (x1 : Int32) : Int32 → Int32 := fun k => if k = (1 : Int32) then (nar .char (((56320 : Int32) ||| (((x1.toUInt32 >>> ((12 : Int32) &&& 31).toUInt32).toInt32) &&& (1023 : Int32))).toUInt32.toUInt16.toUInt32.toInt32)) else (o_G1_255_3_1 x1) k
def o_G1_255_3_3 (x1 : Int32) : Int32 → Int32 := fun k => if k = (255 : Int32) then (nar .char ((((x1.toUInt32 >>> ((10 : Int32) &&& 31).toUInt32).toInt32) &&& (255 : Int32)).toUInt32.toUInt16.toUInt32.toInt32)) else (o_G1_255_3_2 x1) k
def o_Q1_255_3 (Z : State) (x1 : Int32) (z_cs : Int32) (h0 : Heap) (n0 : Nat) (v : Option Value) (h : Heap) (L : List Loc) : Prop := ∃ b : Addr, v = some (.ref b) ∧ Fr n0 L ∧ Keep h0 h [] ∧ h0.size ≤ b ∧ o_Id Z h b (255 : Int32)
abbrev o_R1_255_3 : Room := { frames := 6, cells := 4, slots := 1028, locals := 125 }
theorem o_ef1_255_3 (m : MethodId) (z1 : Int32) : entryFrame m #[(.int 3), (.int z1), (.int 255)] 6 = mkF m 0 #[.val (.int 3), .val (.int z1), .val (.int 255), .unset, .unset, .unset] [] := by first | (simp [entryFrame, mkF, argsToLocals, Value.category]; done) | rfl
set_option maxRecDepth 65536 in
set_option maxHeartbeats 40000000 in
theorem rm1_255_3 (l : Launch) (Z : State) (a0 : Array Value) (hw : ∀ d ∈ tables_1, d.before a0 Z = true) (ws : List Jvm.Cond) (x1 : Int32) (z_cs : Int32) (h0 : Heap) (n0 : Nat) (Z0 : n0 ≤ h0.size) (O0 : Old Z n0 h0) (z_CS : ¬ z_cs = 0) (S_z_cs : Sta Z Z.heap "java/lang/String" "COMPACT_STRINGS" "Z" (.int z_cs)) (S_ad : Sta Z Z.heap "java/lang/StringUTF16" "$assertionsDisabled" "Z" (.int 1)) (S_hi : Sta Z Z.heap "java/lang/StringUTF16" "HI_BYTE_SHIFT" "I" (.int 0)) (S_lo : Sta Z Z.heap "java/lang/StringUTF16" "LO_BYTE_SHIFT" "I" (.int 8)) : o_Met l Z (⟨"com/example/quittance/quittance/dialect/ClaimOfPinLaw", "id", "(III)Ljava/lang/String;"⟩ : MethodName) method_2_code 6 (some (.object "java/lang/String")) ws o_R1_255_3 #[(.int 3), (.int x1), (.int 255)] h0 (o_Q1_255_3 Z x1 z_cs h0 n0) := by
 refine o_met (plainFor_of_name o_pn6) ?_
 intro p e s m below meth c s₁ hx hby hml hown hnm hret hlk hZ e0 X0
 have N0 := Fr.nil n0
 have hml : c.maxLocals = 6 := hml
 have hown : s.vm.findClass "com/example/quittance/quittance/dialect/ClaimOfPinLaw" = some m.cls := hown
 have hret : meth.sig.returnType = (some (.object "java/lang/String")) := hret
 have hby : c.code = method_2_code := hby
 have hnm : meth.name = "id" := hnm
 rw [o_ef1_255_3]
 refine o_gi (XS.iloadN X0.here hx rfl (hb hby o_d1_0) rfl) ?_
 refine o_gi (XS.iconst X0.here hx rfl (hb hby o_d1_1)) ?_
 show o_Gs p e below _ s₁ m 2 #[.val (.int 3), .val (.int x1), .val (.int 255), .unset, .unset, .unset] [(.int 2), (.int x1)]
 refine o_gi (XS.iushr X0.here hx rfl (hb hby o_d1_2) rfl) ?_
 refine o_gi (XS.sipush X0.here hx rfl (hb hby o_d1_3)) ?_
 show o_Gs p e below _ s₁ m 6 #[.val (.int 3), .val (.int x1), .val (.int 255), .unset, .unset, .unset] [(.int 255), (.int ((x1.toUInt32 >>> ((2 : Int32) &&& 31).toUInt32).toInt32))]
 refine o_gi (XS.iand X0.here hx rfl (hb hby o_d1_6) rfl) ?_
 show o_Gs p e below _ s₁ m 7 #[.val (.int 3), .val (.int x1), .val (.int 255), .unset, .unset, .unset] [(.int (((x1.toUInt32 >>> ((2 : Int32) &&& 31).toUInt32).toInt32) &&& (255 : Int32)))]
 refine o_gi (XS.i2c X0.here hx rfl (hb hby o_d1_7) rfl) ?_
 refine o_gi (XS.istoreN X0.here hx rfl (hb hby o_d1_8) rfl (l' := #[.val (.int 3), .val (.int x1), .val (.int 255), .val (.int ((((x1.toUInt32 >>> ((2 : Int32) &&& 31).toUInt32).toInt32) &&& (255 : Int32)).toUInt32.toUInt16.toUInt32.toInt32)), .unset, .unset]) rfl) ?_
 refine o_gi (XS.iloadN X0.here hx rfl (hb hby o_d1_9) rfl) ?_
 refine o_gi (XS.bipush X0.here hx rfl (hb hby o_d1_10)) ?_
 show o_Gs p e below _ s₁ m 12 #[.val (.int 3), .val (.int x1), .val (.int 255), .val (.int ((((x1.toUInt32 >>> ((2 : Int32) &&& 31).toUInt32).toInt32) &&& (255 : Int32)).toUInt32.toUInt16.toUInt32.toInt32)), .unset, .unset] [(.int 10), (.int x1)]
 refine o_gi (XS.iushr X0.here hx rfl (hb hby o_d1_12) rfl) ?_
 refine o_gi (XS.sipush X0.here hx rfl (hb hby o_d1_13)) ?_
 show o_Gs p e below _ s₁ m 16 #[.val (.int 3), .val (.int x1), .val (.int 255), .val (.int ((((x1.toUInt32 >>> ((2 : Int32) &&& 31).toUInt32).toInt32) &&& (255 : Int32)).toUInt32.toUInt16.toUInt32.toInt32)), .unset, .unset] [(.int 255), (.int ((x1.toUInt32 >>> ((10 : Int32) &&& 31).toUInt32).toInt32))]
 refine o_gi (XS.iand X0.here hx rfl (hb hby o_d1_16) rfl) ?_
 show o_Gs p e below _ s₁ m 17 #[.val (.int 3), .val (.int x1), .val (.int 255), .val (.int ((((x1.toUInt32 >>> ((2 : Int32) &&& 31).toUInt32).toInt32) &&& (255 : Int32)).toUInt32.toUInt16.toUInt32.toInt32)), .unset, .unset] [(.int (((x1.toUInt32 >>> ((10 : Int32) &&& 31).toUInt32).toInt32) &&& (255 : Int32)))]
 refine o_gi (XS.i2c X0.here hx rfl (hb hby o_d1_17) rfl) ?_
 refine o_gi (XS.istore X0.here hx rfl (hb hby o_d1_18) rfl (l' := #[.val (.int 3), .val (.int x1), .val (.int 255), .val (.int ((((x1.toUInt32 >>> ((2 : Int32) &&& 31).toUInt32).toInt32) &&& (255 : Int32)).toUInt32.toUInt16.toUInt32.toInt32)), .val (.int ((((x1.toUInt32 >>> ((10 : Int32) &&& 31).toUInt32).toInt32) &&& (255 : Int32)).toUInt32.toUInt16.toUInt32.toInt32)), .unset]) rfl) ?_
 refine o_gi (XS.iloadN X0.here hx rfl (hb hby o_d1_20) rfl) ?_
 show o_Gs p e below _ s₁ m 21 #[.val (.int 3), .val (.int x1), .val (.int 255), .val (.int ((((x1.toUInt32 >>> ((2 : Int32) &&& 31).toUInt32).toInt32) &&& (255 : Int32)).toUInt32.toUInt16.toUInt32.toInt32)), .val (.int ((((x1.toUInt32 >>> ((10 : Int32) &&& 31).toUInt32).toInt32) &&& (255 : Int32)).toUInt32.toUInt16.toUInt32.toInt32)), .unset] [(.int 3)]
 have hd216 : ¬ ((3 : Int32) = (0 : Int32)) := (by decide)
 refine o_gi (XS.ifYes X0.here hx rfl (pc0 := 21) (pc' := 44) rfl (hb hby o_d1_21) rfl ((if0 _ _).trans (feq hd216).2) (by decide) (by decide)) ?_
 refine o_gi (XS.iloadN X0.here hx rfl (hb hby o_d1_44) rfl) ?_
 refine o_gi (XS.iconst X0.here hx rfl (hb hby o_d1_45)) ?_
 show o_Gs p e below _ s₁ m 46 #[.val (.int 3), .val (.int x1), .val (.int 255), .val (.int ((((x1.toUInt32 >>> ((2 : Int32) &&& 31).toUInt32).toInt32) &&& (255 : Int32)).toUInt32.toUInt16.toUInt32.toInt32)), .val (.int ((((x1.toUInt32 >>> ((10 : Int32) &&& 31).toUInt32).toInt32) &&& (255 : Int32)).toUInt32.toUInt16.toUInt32.toInt32)), .unset] [(.int 1), (.int 3)]
 have hd217 : ¬ ((3 : Int32) = (1 : Int32)) := (by decide)
 refine o_gi (XS.icmpYes X0.here hx rfl (pc0 := 46) (pc' := 75) rfl (hb hby o_d1_46) rfl (feq hd217).2 (by decide) (by decide)) ?_
 refine o_gi (XS.iloadN X0.here hx rfl (hb hby o_d1_75) rfl) ?_
 refine o_gi (XS.iconst X0.here hx rfl (hb hby o_d1_76)) ?_
 show o_Gs p e below _ s₁ m 77 #[.val (.int 3), .val (.int x1), .val (.int 255), .val (.int ((((x1.toUInt32 >>> ((2 : Int32) &&& 31).toUInt32).toInt32) &&& (255 : Int32)).toUInt32.toUInt16.toUInt32.toInt32)), .val (.int ((((x1.toUInt32 >>> ((10 : Int32) &&& 31).toUInt32).toInt32) &&& (255 : Int32)).toUInt32.toUInt16.toUInt32.toInt32)), .unset] [(.int 2), (.int 3)]
 have hd218 : ¬ ((3 : Int32) = (2 : Int32)) := (by decide)
 refine o_gi (XS.icmpYes X0.here hx rfl (pc0 := 77) (pc' := 108) rfl (hb hby o_d1_77) rfl (feq hd218).2 (by decide) (by decide)) ?_
 refine o_gi (XS.iloadN X0.here hx rfl (hb hby o_d1_108) rfl) ?_
 refine o_gi (XS.iconst X0.here hx rfl (hb hby o_d1_109)) ?_
 show o_Gs p e below _ s₁ m 110 #[.val (.int 3), .val (.int x1), .val (.int 255), .val (.int ((((x1.toUInt32 >>> ((2 : Int32) &&& 31).toUInt32).toInt32) &&& (255 : Int32)).toUInt32.toUInt16.toUInt32.toInt32)), .val (.int ((((x1.toUInt32 >>> ((10 : Int32) &&& 31).toUInt32).toInt32) &&& (255 : Int32)).toUInt32.toUInt16.toUInt32.toInt32)), .unset] [(.int 1), (.int 255)]
 refine o_gi (XS.iadd X0.here hx rfl (hb hby o_d1_110) rfl) ?_
 show o_Gs p e below _ s₁ m 111 #[.val (.int 3), .val (.int x1), .val (.int 255), .val (.int ((((x1.toUInt32 >>> ((2 : Int32) &&& 31).toUInt32).toInt32) &&& (255 : Int32)).toUInt32.toUInt16.toUInt32.toInt32)), .val (.int ((((x1.toUInt32 >>> ((10 : Int32) &&& 31).toUInt32).toInt32) &&& (255 : Int32)).toUInt32.toUInt16.toUInt32.toInt32)), .unset] [(.int ((255 : Int32) + (1 : Int32)))]
 rw [show ((255 : Int32) + (1 : Int32)) = (256 : Int32) from by decide]
 show o_Gs p e below _ s₁ m 111 #[.val (.int 3), .val (.int x1), .val (.int 255), .val (.int ((((x1.toUInt32 >>> ((2 : Int32) &&& 31).toUInt32).toInt32) &&& (255 : Int32)).toUInt32.toUInt16.toUInt32.toInt32)), .val (.int ((((x1.toUInt32 >>> ((10 : Int32) &&& 31).toUInt32).toInt32) &&& (255 : Int32)).toUInt32.toUInt16.toUInt32.toInt32)), .unset] [(.int 256)]
 obtain ⟨T219, h219, k219, X219, e219, E219, A219, st219⟩ := newP X0 hx hZ (aty := .char) (hw _ o_t4) e0 (g := (mkF m 111 #[.val (.int 3), .val (.int x1), .val (.int 255), .val (.int ((((x1.toUInt32 >>> ((2 : Int32) &&& 31).toUInt32).toInt32) &&& (255 : Int32)).toUInt32.toUInt16.toUInt32.toInt32)), .val (.int ((((x1.toUInt32 >>> ((10 : Int32) &&& 31).toUInt32).toInt32) &&& (255 : Int32)).toUInt32.toUInt16.toUInt32.toInt32)), .unset] [(.int 256)])) rfl (hb hby o_d1_111) rfl (by decide) (cap := 256) (by decide) (by decide) (by decide) (by decide)
 obtain ⟨b219, q219⟩ : ∃ z, z = h0.size := ⟨_, rfl⟩
 rw [← q219] at A219 st219
 have lt_b219 : h0.size ≤ b219 := Nat.le_of_eq q219.symm
 have g_b219 : n0 ≤ b219 := Nat.le_trans Z0 lt_b219
 have sz_b219 : h0.size ≤ b219 := Nat.le_trans (Keep.refl h0 ([] : List Addr)).1 lt_b219
 have V219 : o_Tb Z h219 b219 .char (256 : Int32) (fun _ => 0) := o_Tb.new A219 (by decide) rfl
 refine o_go st219 ?_
 refine o_gi (XS.astore X219.here hx rfl (hb hby o_d1_113) rfl rfl (l' := #[.val (.int 3), .val (.int x1), .val (.int 255), .val (.int ((((x1.toUInt32 >>> ((2 : Int32) &&& 31).toUInt32).toInt32) &&& (255 : Int32)).toUInt32.toUInt16.toUInt32.toInt32)), .val (.int ((((x1.toUInt32 >>> ((10 : Int32) &&& 31).toUInt32).toInt32) &&& (255 : Int32)).toUInt32.toUInt16.toUInt32.toInt32)), .val (.ref b219)]) rfl) ?_
 refine o_gi (XS.aload X219.here hx rfl (hb hby o_d1_115) rfl rfl) ?_
 refine o_gi (XS.iconst X219.here hx rfl (hb hby o_d1_117)) ?_
 show o_Gs p e below _ T219 m 118 #[.val (.int 3), .val (.int x1), .val (.int 255), .val (.int ((((x1.toUInt32 >>> ((2 : Int32) &&& 31).toUInt32).toInt32) &&& (255 : Int32)).toUInt32.toUInt16.toUInt32.toInt32)), .val (.int ((((x1.toUInt32 >>> ((10 : Int32) &&& 31).toUInt32).toInt32) &&& (255 : Int32)).toUInt32.toUInt16.toUInt32.toInt32)), .val (.ref b219)] [(.int 0), (.ref b219)]
 refine o_go (X219.ldcInt hx hown (mvT hZ (hw _ o_t34)) (g := (mkF m 118 #[.val (.int 3), .val (.int x1), .val (.int 255), .val (.int ((((x1.toUInt32 >>> ((2 : Int32) &&& 31).toUInt32).toInt32) &&& (255 : Int32)).toUInt32.toUInt16.toUInt32.toInt32)), .val (.int ((((x1.toUInt32 >>> ((10 : Int32) &&& 31).toUInt32).toInt32) &&& (255 : Int32)).toUInt32.toUInt16.toUInt32.toInt32)), .val (.ref b219)] [(.int 0), (.ref b219)])) rfl (hb hby o_d1_118)) ?_
 refine o_gi (XS.iloadN X219.here hx rfl (hb hby o_d1_120) rfl) ?_
 refine o_gi (XS.iconst X219.here hx rfl (hb hby o_d1_121)) ?_
 show o_Gs p e below _ T219 m 122 #[.val (.int 3), .val (.int x1), .val (.int 255), .val (.int ((((x1.toUInt32 >>> ((2 : Int32) &&& 31).toUInt32).toInt32) &&& (255 : Int32)).toUInt32.toUInt16.toUInt32.toInt32)), .val (.int ((((x1.toUInt32 >>> ((10 : Int32) &&& 31).toUInt32).toInt32) &&& (255 : Int32)).toUInt32.toUInt16.toUInt32.toInt32)), .val (.ref b219)] [(.int 2), (.int x1), (.int 55296), (.int 0), (.ref b219)]
 refine o_gi (XS.iushr X219.here hx rfl (hb hby o_d1_122) rfl) ?_
 refine o_gi (XS.sipush X219.here hx rfl (hb hby o_d1_123)) ?_
 show o_Gs p e below _ T219 m 126 #[.val (.int 3), .val (.int x1), .val (.int 255), .val (.int ((((x1.toUInt32 >>> ((2 : Int32) &&& 31).toUInt32).toInt32) &&& (255 : Int32)).toUInt32.toUInt16.toUInt32.toInt32)), .val (.int ((((x1.toUInt32 >>> ((10 : Int32) &&& 31).toUInt32).toInt32) &&& (255 : Int32)).toUInt32.toUInt16.toUInt32.toInt32)), .val (.ref b219)] [(.int 1023), (.int ((x1.toUInt32 >>> ((2 : Int32) &&& 31).toUInt32).toInt32)), (.int 55296), (.int 0), (.ref b219)]
 refine o_gi (XS.iand X219.here hx rfl (hb hby o_d1_126) rfl) ?_
 show o_Gs p e below _ T219 m 127 #[.val (.int 3), .val (.int x1), .val (.int 255), .val (.int ((((x1.toUInt32 >>> ((2 : Int32) &&& 31).toUInt32).toInt32) &&& (255 : Int32)).toUInt32.toUInt16.toUInt32.toInt32)), .val (.int ((((x1.toUInt32 >>> ((10 : Int32) &&& 31).toUInt32).toInt32) &&& (255 : Int32)).toUInt32.toUInt16.toUInt32.toInt32)), .val (.ref b219)] [(.int (((x1.toUInt32 >>> ((2 : Int32) &&& 31).toUInt32).toInt32) &&& (1023 : Int32))), (.int 55296), (.int 0), (.ref b219)]
 refine o_gi (XS.ior X219.here hx rfl (hb hby o_d1_127) rfl) ?_
 show o_Gs p e below _ T219 m 128 #[.val (.int 3), .val (.int x1), .val (.int 255), .val (.int ((((x1.toUInt32 >>> ((2 : Int32) &&& 31).toUInt32).toInt32) &&& (255 : Int32)).toUInt32.toUInt16.toUInt32.toInt32)), .val (.int ((((x1.toUInt32 >>> ((10 : Int32) &&& 31).toUInt32).toInt32) &&& (255 : Int32)).toUInt32.toUInt16.toUInt32.toInt32)), .val (.ref b219)] [(.int ((55296 : Int32) ||| (((x1.toUInt32 >>> ((2 : Int32) &&& 31).toUInt32).toInt32) &&& (1023 : Int32)))), (.int 0), (.ref b219)]
 refine o_gi (XS.i2c X219.here hx rfl (hb hby o_d1_128) rfl) ?_
 show o_Gs p e below _ T219 m 129 #[.val (.int 3), .val (.int x1), .val (.int 255), .val (.int ((((x1.toUInt32 >>> ((2 : Int32) &&& 31).toUInt32).toInt32) &&& (255 : Int32)).toUInt32.toUInt16.toUInt32.toInt32)), .val (.int ((((x1.toUInt32 >>> ((10 : Int32) &&& 31).toUInt32).toInt32) &&& (255 : Int32)).toUInt32.toUInt16.toUInt32.toInt32)), .val (.ref b219)] [(.int (((55296 : Int32) ||| (((x1.toUInt32 >>> ((2 : Int32) &&& 31).toUInt32).toInt32) &&& (1023 : Int32))).toUInt32.toUInt16.toUInt32.toInt32)), (.int 0), (.ref b219)]
 obtain ⟨cl220, Ar220, sa220, na220, ha220⟩ := id V219
 obtain ⟨T220, h220, X220, e220, W220, st220⟩ := stC X219 hx hZ e219 Ar220 (j := (0 : Int32)) (inb_of sa220 ⟨by decide, by decide⟩) (g := (mkF m 129 #[.val (.int 3), .val (.int x1), .val (.int 255), .val (.int ((((x1.toUInt32 >>> ((2 : Int32) &&& 31).toUInt32).toInt32) &&& (255 : Int32)).toUInt32.toUInt16.toUInt32.toInt32)), .val (.int ((((x1.toUInt32 >>> ((10 : Int32) &&& 31).toUInt32).toInt32) &&& (255 : Int32)).toUInt32.toUInt16.toUInt32.toInt32)), .val (.ref b219)] [(.int (((55296 : Int32) ||| (((x1.toUInt32 >>> ((2 : Int32) &&& 31).toUInt32).toInt32) &&& (1023 : Int32))).toUInt32.toUInt16.toUInt32.toInt32)), (.int 0), (.ref b219)])) rfl rfl (hb hby o_d1_129)
 have V220 : o_Tb Z h220 b219 .char (256 : Int32) (o_G1_255_3_1 x1) := o_Tb.set Ar220 sa220 na220 ha220 W220 ⟨by decide, by decide⟩
 have N220 := Fr.snoc X220 N0 g_b219
 refine o_go st220 ?_
 refine o_gi (XS.aload X220.here hx rfl (hb hby o_d1_130) rfl rfl) ?_
 refine o_gi (XS.iconst X220.here hx rfl (hb hby o_d1_132)) ?_
 show o_Gs p e below _ T220 m 133 #[.val (.int 3), .val (.int x1), .val (.int 255), .val (.int ((((x1.toUInt32 >>> ((2 : Int32) &&& 31).toUInt32).toInt32) &&& (255 : Int32)).toUInt32.toUInt16.toUInt32.toInt32)), .val (.int ((((x1.toUInt32 >>> ((10 : Int32) &&& 31).toUInt32).toInt32) &&& (255 : Int32)).toUInt32.toUInt16.toUInt32.toInt32)), .val (.ref b219)] [(.int 1), (.ref b219)]
 refine o_go (X220.ldcInt hx hown (mvT hZ (hw _ o_t35)) (g := (mkF m 133 #[.val (.int 3), .val (.int x1), .val (.int 255), .val (.int ((((x1.toUInt32 >>> ((2 : Int32) &&& 31).toUInt32).toInt32) &&& (255 : Int32)).toUInt32.toUInt16.toUInt32.toInt32)), .val (.int ((((x1.toUInt32 >>> ((10 : Int32) &&& 31).toUInt32).toInt32) &&& (255 : Int32)).toUInt32.toUInt16.toUInt32.toInt32)), .val (.ref b219)] [(.int 1), (.ref b219)])) rfl (hb hby o_d1_133)) ?_
 refine o_gi (XS.iloadN X220.here hx rfl (hb hby o_d1_135) rfl) ?_
 refine o_gi (XS.bipush X220.here hx rfl (hb hby o_d1_136)) ?_
 show o_Gs p e below _ T220 m 138 #[.val (.int 3), .val (.int x1), .val (.int 255), .val (.int ((((x1.toUInt32 >>> ((2 : Int32) &&& 31).toUInt32).toInt32) &&& (255 : Int32)).toUInt32.toUInt16.toUInt32.toInt32)), .val (.int ((((x1.toUInt32 >>> ((10 : Int32) &&& 31).toUInt32).toInt32) &&& (255 : Int32)).toUInt32.toUInt16.toUInt32.toInt32)), .val (.ref b219)] [(.int 12), (.int x1), (.int 56320), (.int 1), (.ref b219)]
 refine o_gi (XS.iushr X220.here hx rfl (hb hby o_d1_138) rfl) ?_
 refine o_gi (XS.sipush X220.here hx rfl (hb hby o_d1_139)) ?_
 show o_Gs p e below _ T220 m 142 #[.val (.int 3), .val (.int x1), .val (.int 255), .val (.int ((((x1.toUInt32 >>> ((2 : Int32) &&& 31).toUInt32).toInt32) &&& (255 : Int32)).toUInt32.toUInt16.toUInt32.toInt32)), .val (.int ((((x1.toUInt32 >>> ((10 : Int32) &&& 31).toUInt32).toInt32) &&& (255 : Int32)).toUInt32.toUInt16.toUInt32.toInt32)), .val (.ref b219)] [(.int 1023), (.int ((x1.toUInt32 >>> ((12 : Int32) &&& 31).toUInt32).toInt32)), (.int 56320), (.int 1), (.ref b219)]
 refine o_gi (XS.iand X220.here hx rfl (hb hby o_d1_142) rfl) ?_
 show o_Gs p e below _ T220 m 143 #[.val (.int 3), .val (.int x1), .val (.int 255), .val (.int ((((x1.toUInt32 >>> ((2 : Int32) &&& 31).toUInt32).toInt32) &&& (255 : Int32)).toUInt32.toUInt16.toUInt32.toInt32)), .val (.int ((((x1.toUInt32 >>> ((10 : Int32) &&& 31).toUInt32).toInt32) &&& (255 : Int32)).toUInt32.toUInt16.toUInt32.toInt32)), .val (.ref b219)] [(.int (((x1.toUInt32 >>> ((12 : Int32) &&& 31).toUInt32).toInt32) &&& (1023 : Int32))), (.int 56320), (.int 1), (.ref b219)]
 refine o_gi (XS.ior X220.here hx rfl (hb hby o_d1_143) rfl) ?_
 show o_Gs p e below _ T220 m 144 #[.val (.int 3), .val (.int x1), .val (.int 255), .val (.int ((((x1.toUInt32 >>> ((2 : Int32) &&& 31).toUInt32).toInt32) &&& (255 : Int32)).toUInt32.toUInt16.toUInt32.toInt32)), .val (.int ((((x1.toUInt32 >>> ((10 : Int32) &&& 31).toUInt32).toInt32) &&& (255 : Int32)).toUInt32.toUInt16.toUInt32.toInt32)), .val (.ref b219)] [(.int ((56320 : Int32) ||| (((x1.toUInt32 >>> ((12 : Int32) &&& 31).toUInt32).toInt32) &&& (1023 : Int32)))), (.int 1), (.ref b219)]
 refine o_gi (XS.i2c X220.here hx rfl (hb hby o_d1_144) rfl) ?_
 show o_Gs p e below _ T220 m 145 #[.val (.int 3), .val (.int x1), .val (.int 255), .val (.int ((((x1.toUInt32 >>> ((2 : Int32) &&& 31).toUInt32).toInt32) &&& (255 : Int32)).toUInt32.toUInt16.toUInt32.toInt32)), .val (.int ((((x1.toUInt32 >>> ((10 : Int32) &&& 31).toUInt32).toInt32) &&& (255 : Int32)).toUInt32.toUInt16.toUInt32.toInt32)), .val (.ref b219)] [(.int (((56320 : Int32) ||| (((x1.toUInt32 >>> ((12 : Int32) &&& 31).toUInt32).toInt32) &&& (1023 : Int32))).toUInt32.toUInt16.toUInt32.toInt32)), (.int 1), (.ref b219)]
 obtain ⟨cl221, Ar221, sa221, na221, ha221⟩ := id V220
 obtain ⟨T221, h221, X221, e221, W221, st221⟩ := stC X220 hx hZ e220 Ar221 (j := (1 : Int32)) (inb_of sa221 ⟨by decide, by decide⟩) (g := (mkF m 145 #[.val (.int 3), .val (.int x1), .val (.int 255), .val (.int ((((x1.toUInt32 >>> ((2 : Int32) &&& 31).toUInt32).toInt32) &&& (255 : Int32)).toUInt32.toUInt16.toUInt32.toInt32)), .val (.int ((((x1.toUInt32 >>> ((10 : Int32) &&& 31).toUInt32).toInt32) &&& (255 : Int32)).toUInt32.toUInt16.toUInt32.toInt32)), .val (.ref b219)] [(.int (((56320 : Int32) ||| (((x1.toUInt32 >>> ((12 : Int32) &&& 31).toUInt32).toInt32) &&& (1023 : Int32))).toUInt32.toUInt16.toUInt32.toInt32)), (.int 1), (.ref b219)])) rfl rfl (hb hby o_d1_145)
 have V221 : o_Tb Z h221 b219 .char (256 : Int32) (o_G1_255_3_2 x1) := o_Tb.set Ar221 sa221 na221 ha221 W221 ⟨by decide, by decide⟩
 have N221 := Fr.snoc X221 N220 g_b219
 refine o_go st221 ?_
 refine o_gi (XS.aload X221.here hx rfl (hb hby o_d1_146) rfl rfl) ?_
 refine o_gi (XS.iloadN X221.here hx rfl (hb hby o_d1_148) rfl) ?_
 refine o_gi (XS.iload X221.here hx rfl (hb hby o_d1_149) rfl) ?_
 show o_Gs p e below _ T221 m 151 #[.val (.int 3), .val (.int x1), .val (.int 255), .val (.int ((((x1.toUInt32 >>> ((2 : Int32) &&& 31).toUInt32).toInt32) &&& (255 : Int32)).toUInt32.toUInt16.toUInt32.toInt32)), .val (.int ((((x1.toUInt32 >>> ((10 : Int32) &&& 31).toUInt32).toInt32) &&& (255 : Int32)).toUInt32.toUInt16.toUInt32.toInt32)), .val (.ref b219)] [(.int ((((x1.toUInt32 >>> ((10 : Int32) &&& 31).toUInt32).toInt32) &&& (255 : Int32)).toUInt32.toUInt16.toUInt32.toInt32)), (.int 255), (.ref b219)]
 obtain ⟨cl222, Ar222, sa222, na222, ha222⟩ := id V221
 obtain ⟨T222, h222, X222, e222, W222, st222⟩ := stC X221 hx hZ e221 Ar222 (j := (255 : Int32)) (inb_of sa222 ⟨by decide, by decide⟩) (g := (mkF m 151 #[.val (.int 3), .val (.int x1), .val (.int 255), .val (.int ((((x1.toUInt32 >>> ((2 : Int32) &&& 31).toUInt32).toInt32) &&& (255 : Int32)).toUInt32.toUInt16.toUInt32.toInt32)), .val (.int ((((x1.toUInt32 >>> ((10 : Int32) &&& 31).toUInt32).toInt32) &&& (255 : Int32)).toUInt32.toUInt16.toUInt32.toInt32)), .val (.ref b219)] [(.int ((((x1.toUInt32 >>> ((10 : Int32) &&& 31).toUInt32).toInt32) &&& (255 : Int32)).toUInt32.toUInt16.toUInt32.toInt32)), (.int 255), (.ref b219)])) rfl rfl (hb hby o_d1_151)
 have V222 : o_Tb Z h222 b219 .char (256 : Int32) (o_G1_255_3_3 x1) := o_Tb.set Ar222 sa222 na222 ha222 W222 ⟨by decide, by decide⟩
 have N222 := Fr.snoc X222 N221 g_b219
 refine o_go st222 ?_
 show o_Gs p e below _ T222 m 152 #[.val (.int 3), .val (.int x1), .val (.int 255), .val (.int ((((x1.toUInt32 >>> ((2 : Int32) &&& 31).toUInt32).toInt32) &&& (255 : Int32)).toUInt32.toUInt16.toUInt32.toInt32)), .val (.int ((((x1.toUInt32 >>> ((10 : Int32) &&& 31).toUInt32).toInt32) &&& (255 : Int32)).toUInt32.toUInt16.toUInt32.toInt32)), .val (.ref b219)] []
 obtain ⟨T223, h223, X223, e223, E223, A223, D223, -, st223⟩ := newO X222 hx hZ hown (hw _ o_t5) (hw _ o_t6) (hw _ o_t7) e222 (g := (mkF m 152 #[.val (.int 3), .val (.int x1), .val (.int 255), .val (.int ((((x1.toUInt32 >>> ((2 : Int32) &&& 31).toUInt32).toInt32) &&& (255 : Int32)).toUInt32.toUInt16.toUInt32.toInt32)), .val (.int ((((x1.toUInt32 >>> ((10 : Int32) &&& 31).toUInt32).toInt32) &&& (255 : Int32)).toUInt32.toUInt16.toUInt32.toInt32)), .val (.ref b219)] [])) rfl (hb hby o_d1_152) (by decide) (by decide)
 obtain ⟨b223, q223⟩ : ∃ z, z = h222.size := ⟨_, rfl⟩
 rw [← q223] at A223 D223 st223
 have lt_b223 : h222.size ≤ b223 := Nat.le_of_eq q223.symm
 have ne_b219_b223 : b219 ≠ b223 := Nat.ne_of_lt (Nat.lt_of_lt_of_le V222.lt lt_b223)
 have g_b223 : n0 ≤ b223 := Nat.le_trans (Nat.le_trans (Nat.le_trans (Nat.le_trans (Nat.le_trans Z0 E219.1) (Keep.of_wr W220).1) (Keep.of_wr W221).1) (Keep.of_wr W222).1) lt_b223
 have sz_b223 : h0.size ≤ b223 := Nat.le_trans (((((Keep.refl h0 ([] : List Addr)).ext E219).wr W220 (Or.inr sz_b219)).wr W221 (Or.inr sz_b219)).wr W222 (Or.inr sz_b219)).1 lt_b223
 have F223_coder : Fld Z h223 b223 "java/lang/String" "coder" "B" (.int 0) := D223 (Or.inr (hw _ o_t31)) (ty := .byte) (by decide)
 have F223_value : Fld Z h223 b223 "java/lang/String" "value" "[B" .null := D223 (Or.inr (hw _ o_t33)) (ty := (.array .byte)) (by decide)
 refine o_go st223 ?_
 refine o_gi (XS.dup X223.here hx rfl (hb hby o_d1_155) rfl rfl) ?_
 refine o_gi (XS.aload X223.here hx rfl (hb hby o_d1_156) rfl rfl) ?_
 show o_Gs p e below _ T223 m 158 #[.val (.int 3), .val (.int x1), .val (.int 255), .val (.int ((((x1.toUInt32 >>> ((2 : Int32) &&& 31).toUInt32).toInt32) &&& (255 : Int32)).toUInt32.toUInt16.toUInt32.toInt32)), .val (.int ((((x1.toUInt32 >>> ((10 : Int32) &&& 31).toUInt32).toInt32) &&& (255 : Int32)).toUInt32.toUInt16.toUInt32.toInt32)), .val (.ref b219)] [(.ref b219), (.ref b223), (.ref b223)]
 have hGG : o_HS (o_G1_255_3_3 x1) := ⟨(show ∃ k : Fin 1024, (if (0 : Int32) = (255 : Int32) then _ else if (0 : Int32) = (1 : Int32) then _ else if (0 : Int32) = (0 : Int32) then _ else _) = _ from by rw [if_neg (by decide), if_neg (by decide), if_pos rfl]; exact o_hiS _), (show ∃ k : Fin 1024, (if (1 : Int32) = (255 : Int32) then _ else if (1 : Int32) = (1 : Int32) then _ else _) = _ from by rw [if_neg (by decide), if_pos rfl]; exact o_loS _)⟩
 obtain ⟨_, T224, L224, X224, ⟨b224, kb224, rfl, N224q, K224, lt_b224, G224_0, G224_1, G224_2, G224_3, G224_4⟩, st224⟩ := o_callI X223 hx hZ rfl hown (hw _ o_t8) (hw _ o_t9) (hw _ o_t7) (hw _ o_t10) (by decide) (b := b223) (as := [(.ref b219)]) (rm2_256 l Z a0 hw [] b223 b219 (o_G1_255_3_3 x1) z_cs h223 n0 (Nat.le_trans (Nat.le_trans (Nat.le_trans (Nat.le_trans (Nat.le_trans Z0 E219.1) (Keep.of_wr W220).1) (Keep.of_wr W221).1) (Keep.of_wr W222).1) E223.1) g_b223 (((((O0.ext E219).wr W220 g_b219).wr W221 g_b219).wr W222 g_b219).ext E223) z_CS A223 F223_value F223_coder (V222.ext E223) hGG (Ne.symm ne_b219_b223) S_z_cs S_ad S_hi S_lo) e223 o_pd17 rfl (pc := 158) (Ls := #[.val (.int 3), .val (.int x1), .val (.int 255), .val (.int ((((x1.toUInt32 >>> ((2 : Int32) &&& 31).toUInt32).toInt32) &&& (255 : Int32)).toUInt32.toUInt16.toUInt32.toInt32)), .val (.int ((((x1.toUInt32 >>> ((10 : Int32) &&& 31).toUInt32).toInt32) &&& (255 : Int32)).toUInt32.toUInt16.toUInt32.toInt32)), .val (.ref b219)]) (rest := [(.ref b223)]) (W := 1) (by rw [hml]; rfl) (Nat.le_of_eq rfl) (by decide) (by decide) (hb hby o_d1_158) (by decide) (by decide)
 have N224 := Fr.app N222 N224q
 have ne_b219_b224 : b219 ≠ b224 := Nat.ne_of_lt (Nat.lt_of_lt_of_le (V222.ext E223).lt lt_b224)
 have ne_b223_b224 : b223 ≠ b224 := Nat.ne_of_lt (Nat.lt_of_lt_of_le A223.lt lt_b224)
 have g_b224 : n0 ≤ b224 := Nat.le_trans (Nat.le_trans (Nat.le_trans (Nat.le_trans (Nat.le_trans (Nat.le_trans Z0 E219.1) (Keep.of_wr W220).1) (Keep.of_wr W221).1) (Keep.of_wr W222).1) E223.1) lt_b224
 have sz_b224 : h0.size ≤ b224 := Nat.le_trans ((((((Keep.refl h0 ([] : List Addr)).ext E219).wr W220 (Or.inr sz_b219)).wr W221 (Or.inr sz_b219)).wr W222 (Or.inr sz_b219)).ext E223).1 lt_b224
 refine o_go st224 ?_
 show o_Gs p e below _ T224 m 161 #[.val (.int 3), .val (.int x1), .val (.int 255), .val (.int ((((x1.toUInt32 >>> ((2 : Int32) &&& 31).toUInt32).toInt32) &&& (255 : Int32)).toUInt32.toUInt16.toUInt32.toInt32)), .val (.int ((((x1.toUInt32 >>> ((10 : Int32) &&& 31).toUInt32).toInt32) &&& (255 : Int32)).toUInt32.toUInt16.toUInt32.toInt32)), .val (.ref b219)] [(.ref b223)]
 exact o_retR X224 hx hlk hret rfl rfl (hb hby o_d1_161) (by decide) (by decide) (⟨_, rfl, N224, (((((((Keep.refl h0 ([] : List Addr)).ext E219).wr W220 (Or.inr sz_b219)).wr W221 (Or.inr sz_b219)).wr W222 (Or.inr sz_b219)).ext E223).trans K224 (fun x hx => by cases List.mem_singleton.mp hx; exact Or.inr sz_b223)), sz_b223, ⟨b224, _, _, _, G224_0, G224_2, G224_1, G224_3, Or.inr ⟨rfl, Or.inr ⟨rfl, rfl⟩, o_HLof hGG G224_4⟩⟩⟩)
def o_G1_255_0_1 (x1 : Int32) : Int32 → Int32 := fun k => if k = (0 : Int32) then (nar .char ((((x1.toUInt32 >>> ((2 : Int32) &&& 31).toUInt32).toInt32) &&& (255 : Int32)).toUInt32.toUInt16.toUInt32.toInt32)) else (fun _ => 0) k
def o_Q1_255_0 (Z : State) (x1 : Int32) (z_cs : Int32) (h0 : Heap) (n0 : Nat) (v : Option Value) (h : Heap) (L : List Loc) : Prop := ∃ b : Addr, v = some (.ref b) ∧ Fr n0 L ∧ Keep h0 h [] ∧ h0.size ≤ b ∧ o_Id Z h b (255 : Int32)
abbrev o_R1_255_0 : Room := { frames := 6, cells := 4, slots := 1028, locals := 125 }
theorem o_ef1_255_0 (m : MethodId) (z1 : Int32) : entryFrame m #[(.int 0), (.int z1), (.int 255)] 6 = mkF m 0 #[.val (.int 0), .val (.int z1), .val (.int 255), .unset, .unset, .unset] [] := by first | (simp [entryFrame, mkF, argsToLocals, Value.category]; done) | rfl
set_option maxRecDepth 65536 in
set_option maxHeartbeats 40000000 in
theorem rm1_255_0 (l : Launch) (Z : State) (a0 : Array Value) (hw : ∀ d ∈ tables_1, d.before a0 Z = true) (ws : List Jvm.Cond) (x1 : Int32) (z_cs : Int32) (h0 : Heap) (n0 : Nat) (Z0 : n0 ≤ h0.size) (O0 : Old Z n0 h0) (z_CS : ¬ z_cs = 0) (S_z_cs : Sta Z Z.heap "java/lang/String" "COMPACT_STRINGS" "Z" (.int z_cs)) (S_ad : Sta Z Z.heap "java/lang/StringUTF16" "$assertionsDisabled" "Z" (.int 1)) (S_hi : Sta Z Z.heap "java/lang/StringUTF16" "HI_BYTE_SHIFT" "I" (.int 0)) (S_lo : Sta Z Z.heap "java/lang/StringUTF16" "LO_BYTE_SHIFT" "I" (.int 8)) : o_Met l Z (⟨"com/example/quittance/quittance/dialect/ClaimOfPinLaw", "id", "(III)Ljava/lang/String;"⟩ : MethodName) method_2_code 6 (some (.object "java/lang/String")) ws o_R1_255_0 #[(.int 0), (.int x1), (.int 255)] h0 (o_Q1_255_0 Z x1 z_cs h0 n0) := by
 refine o_met (plainFor_of_name o_pn6) ?_
 intro p e s m below meth c s₁ hx hby hml hown hnm hret hlk hZ e0 X0
 have N0 := Fr.nil n0
 have hml : c.maxLocals = 6 := hml
 have hown : s.vm.findClass "com/example/quittance/quittance/dialect/ClaimOfPinLaw" = some m.cls := hown
 have hret : meth.sig.returnType = (some (.object "java/lang/String")) := hret
 have hby : c.code = method_2_code := hby
 have hnm : meth.name = "id" := hnm
 rw [o_ef1_255_0]
 have hws : ∀ d ∈ StrChars.Road.words, d.before a0 Z = true := fun d hd => hw d ((by decide +kernel : ∀ d ∈ StrChars.Road.words, d ∈ tables_1) d hd)
 refine o_gi (XS.iloadN X0.here hx rfl (hb hby o_d1_0) rfl) ?_
 refine o_gi (XS.iconst X0.here hx rfl (hb hby o_d1_1)) ?_
 show o_Gs p e below _ s₁ m 2 #[.val (.int 0), .val (.int x1), .val (.int 255), .unset, .unset, .unset] [(.int 2), (.int x1)]
 refine o_gi (XS.iushr X0.here hx rfl (hb hby o_d1_2) rfl) ?_
 refine o_gi (XS.sipush X0.here hx rfl (hb hby o_d1_3)) ?_
 show o_Gs p e below _ s₁ m 6 #[.val (.int 0), .val (.int x1), .val (.int 255), .unset, .unset, .unset] [(.int 255), (.int ((x1.toUInt32 >>> ((2 : Int32) &&& 31).toUInt32).toInt32))]
 refine o_gi (XS.iand X0.here hx rfl (hb hby o_d1_6) rfl) ?_
 show o_Gs p e below _ s₁ m 7 #[.val (.int 0), .val (.int x1), .val (.int 255), .unset, .unset, .unset] [(.int (((x1.toUInt32 >>> ((2 : Int32) &&& 31).toUInt32).toInt32) &&& (255 : Int32)))]
 refine o_gi (XS.i2c X0.here hx rfl (hb hby o_d1_7) rfl) ?_
 refine o_gi (XS.istoreN X0.here hx rfl (hb hby o_d1_8) rfl (l' := #[.val (.int 0), .val (.int x1), .val (.int 255), .val (.int ((((x1.toUInt32 >>> ((2 : Int32) &&& 31).toUInt32).toInt32) &&& (255 : Int32)).toUInt32.toUInt16.toUInt32.toInt32)), .unset, .unset]) rfl) ?_
 refine o_gi (XS.iloadN X0.here hx rfl (hb hby o_d1_9) rfl) ?_
 refine o_gi (XS.bipush X0.here hx rfl (hb hby o_d1_10)) ?_
 show o_Gs p e below _ s₁ m 12 #[.val (.int 0), .val (.int x1), .val (.int 255), .val (.int ((((x1.toUInt32 >>> ((2 : Int32) &&& 31).toUInt32).toInt32) &&& (255 : Int32)).toUInt32.toUInt16.toUInt32.toInt32)), .unset, .unset] [(.int 10), (.int x1)]
 refine o_gi (XS.iushr X0.here hx rfl (hb hby o_d1_12) rfl) ?_
 refine o_gi (XS.sipush X0.here hx rfl (hb hby o_d1_13)) ?_
 show o_Gs p e below _ s₁ m 16 #[.val (.int 0), .val (.int x1), .val (.int 255), .val (.int ((((x1.toUInt32 >>> ((2 : Int32) &&& 31).toUInt32).toInt32) &&& (255 : Int32)).toUInt32.toUInt16.toUInt32.toInt32)), .unset, .unset] [(.int 255), (.int ((x1.toUInt32 >>> ((10 : Int32) &&& 31).toUInt32).toInt32))]
 refine o_gi (XS.iand X0.here hx rfl (hb hby o_d1_16) rfl) ?_
 show o_Gs p e below _ s₁ m 17 #[.val (.int 0), .val (.int x1), .val (.int 255), .val (.int ((((x1.toUInt32 >>> ((2 : Int32) &&& 31).toUInt32).toInt32) &&& (255 : Int32)).toUInt32.toUInt16.toUInt32.toInt32)), .unset, .unset] [(.int (((x1.toUInt32 >>> ((10 : Int32) &&& 31).toUInt32).toInt32) &&& (255 : Int32)))]
 refine o_gi (XS.i2c X0.here hx rfl (hb hby o_d1_17) rfl) ?_
 refine o_gi (XS.istore X0.here hx rfl (hb hby o_d1_18) rfl (l' := #[.val (.int 0), .val (.int x1), .val (.int 255), .val (.int ((((x1.toUInt32 >>> ((2 : Int32) &&& 31).toUInt32).toInt32) &&& (255 : Int32)).toUInt32.toUInt16.toUInt32.toInt32)), .val (.int ((((x1.toUInt32 >>> ((10 : Int32) &&& 31).toUInt32).toInt32) &&& (255 : Int32)).toUInt32.toUInt16.toUInt32.toInt32)), .unset]) rfl) ?_
 refine o_gi (XS.iloadN X0.here hx rfl (hb hby o_d1_20) rfl) ?_
 show o_Gs p e below _ s₁ m 21 #[.val (.int 0), .val (.int x1), .val (.int 255), .val (.int ((((x1.toUInt32 >>> ((2 : Int32) &&& 31).toUInt32).toInt32) &&& (255 : Int32)).toUInt32.toUInt16.toUInt32.toInt32)), .val (.int ((((x1.toUInt32 >>> ((10 : Int32) &&& 31).toUInt32).toInt32) &&& (255 : Int32)).toUInt32.toUInt16.toUInt32.toInt32)), .unset] [(.int 0)]
 have hd225 : (0 : Int32) = (0 : Int32) := (by decide)
 refine o_gi (XS.ifNo X0.here hx rfl (hb hby o_d1_21) rfl ((if0 _ _).trans (teq hd225).2)) ?_
 refine o_gi (XS.iconst X0.here hx rfl (hb hby o_d1_24)) ?_
 show o_Gs p e below _ s₁ m 25 #[.val (.int 0), .val (.int x1), .val (.int 255), .val (.int ((((x1.toUInt32 >>> ((2 : Int32) &&& 31).toUInt32).toInt32) &&& (255 : Int32)).toUInt32.toUInt16.toUInt32.toInt32)), .val (.int ((((x1.toUInt32 >>> ((10 : Int32) &&& 31).toUInt32).toInt32) &&& (255 : Int32)).toUInt32.toUInt16.toUInt32.toInt32)), .unset] [(.int 1)]
 obtain ⟨T226, h226, k226, X226, e226, E226, A226, st226⟩ := newP X0 hx hZ (aty := .char) (hw _ o_t4) e0 (g := (mkF m 25 #[.val (.int 0), .val (.int x1), .val (.int 255), .val (.int ((((x1.toUInt32 >>> ((2 : Int32) &&& 31).toUInt32).toInt32) &&& (255 : Int32)).toUInt32.toUInt16.toUInt32.toInt32)), .val (.int ((((x1.toUInt32 >>> ((10 : Int32) &&& 31).toUInt32).toInt32) &&& (255 : Int32)).toUInt32.toUInt16.toUInt32.toInt32)), .unset] [(.int 1)])) rfl (hb hby o_d1_25) rfl (by decide) (cap := 1) (by decide) (by decide) (by decide) (by decide)
 obtain ⟨b226, q226⟩ : ∃ z, z = h0.size := ⟨_, rfl⟩
 rw [← q226] at A226 st226
 have lt_b226 : h0.size ≤ b226 := Nat.le_of_eq q226.symm
 have g_b226 : n0 ≤ b226 := Nat.le_trans Z0 lt_b226
 have sz_b226 : h0.size ≤ b226 := Nat.le_trans (Keep.refl h0 ([] : List Addr)).1 lt_b226
 have V226 : o_Tb Z h226 b226 .char (1 : Int32) (fun _ => 0) := o_Tb.new A226 (by decide) rfl
 refine o_go st226 ?_
 refine o_gi (XS.astore X226.here hx rfl (hb hby o_d1_27) rfl rfl (l' := #[.val (.int 0), .val (.int x1), .val (.int 255), .val (.int ((((x1.toUInt32 >>> ((2 : Int32) &&& 31).toUInt32).toInt32) &&& (255 : Int32)).toUInt32.toUInt16.toUInt32.toInt32)), .val (.int ((((x1.toUInt32 >>> ((10 : Int32) &&& 31).toUInt32).toInt32) &&& (255 : Int32)).toUInt32.toUInt16.toUInt32.toInt32)), .val (.ref b226)]) rfl) ?_
 refine o_gi (XS.aload X226.here hx rfl (hb hby o_d1_29) rfl rfl) ?_
 refine o_gi (XS.iconst X226.here hx rfl (hb hby o_d1_31)) ?_
 refine o_gi (XS.iloadN X226.here hx rfl (hb hby o_d1_32) rfl) ?_
 show o_Gs p e below _ T226 m 33 #[.val (.int 0), .val (.int x1), .val (.int 255), .val (.int ((((x1.toUInt32 >>> ((2 : Int32) &&& 31).toUInt32).toInt32) &&& (255 : Int32)).toUInt32.toUInt16.toUInt32.toInt32)), .val (.int ((((x1.toUInt32 >>> ((10 : Int32) &&& 31).toUInt32).toInt32) &&& (255 : Int32)).toUInt32.toUInt16.toUInt32.toInt32)), .val (.ref b226)] [(.int ((((x1.toUInt32 >>> ((2 : Int32) &&& 31).toUInt32).toInt32) &&& (255 : Int32)).toUInt32.toUInt16.toUInt32.toInt32)), (.int 0), (.ref b226)]
 obtain ⟨cl227, Ar227, sa227, na227, ha227⟩ := id V226
 obtain ⟨T227, h227, X227, e227, W227, st227⟩ := stC X226 hx hZ e226 Ar227 (j := (0 : Int32)) (inb_of sa227 ⟨by decide, by decide⟩) (g := (mkF m 33 #[.val (.int 0), .val (.int x1), .val (.int 255), .val (.int ((((x1.toUInt32 >>> ((2 : Int32) &&& 31).toUInt32).toInt32) &&& (255 : Int32)).toUInt32.toUInt16.toUInt32.toInt32)), .val (.int ((((x1.toUInt32 >>> ((10 : Int32) &&& 31).toUInt32).toInt32) &&& (255 : Int32)).toUInt32.toUInt16.toUInt32.toInt32)), .val (.ref b226)] [(.int ((((x1.toUInt32 >>> ((2 : Int32) &&& 31).toUInt32).toInt32) &&& (255 : Int32)).toUInt32.toUInt16.toUInt32.toInt32)), (.int 0), (.ref b226)])) rfl rfl (hb hby o_d1_33)
 have V227 : o_Tb Z h227 b226 .char (1 : Int32) (o_G1_255_0_1 x1) := o_Tb.set Ar227 sa227 na227 ha227 W227 ⟨by decide, by decide⟩
 have N227 := Fr.snoc X227 N0 g_b226
 refine o_go st227 ?_
 show o_Gs p e below _ T227 m 34 #[.val (.int 0), .val (.int x1), .val (.int 255), .val (.int ((((x1.toUInt32 >>> ((2 : Int32) &&& 31).toUInt32).toInt32) &&& (255 : Int32)).toUInt32.toUInt16.toUInt32.toInt32)), .val (.int ((((x1.toUInt32 >>> ((10 : Int32) &&& 31).toUInt32).toInt32) &&& (255 : Int32)).toUInt32.toUInt16.toUInt32.toInt32)), .val (.ref b226)] []
 obtain ⟨T228, h228, X228, e228, E228, A228, D228, -, st228⟩ := newO X227 hx hZ hown (hw _ o_t5) (hw _ o_t6) (hw _ o_t7) e227 (g := (mkF m 34 #[.val (.int 0), .val (.int x1), .val (.int 255), .val (.int ((((x1.toUInt32 >>> ((2 : Int32) &&& 31).toUInt32).toInt32) &&& (255 : Int32)).toUInt32.toUInt16.toUInt32.toInt32)), .val (.int ((((x1.toUInt32 >>> ((10 : Int32) &&& 31).toUInt32).toInt32) &&& (255 : Int32)).toUInt32.toUInt16.toUInt32.toInt32)), .val (.ref b226)] [])) rfl (hb hby o_d1_34) (by decide) (by decide)
 obtain ⟨b228, q228⟩ : ∃ z, z = h227.size := ⟨_, rfl⟩
 rw [← q228] at A228 D228 st228
 have lt_b228 : h227.size ≤ b228 := Nat.le_of_eq q228.symm
 have ne_b226_b228 : b226 ≠ b228 := Nat.ne_of_lt (Nat.lt_of_lt_of_le V227.lt lt_b228)
 have g_b228 : n0 ≤ b228 := Nat.le_trans (Nat.le_trans (Nat.le_trans Z0 E226.1) (Keep.of_wr W227).1) lt_b228
 have sz_b228 : h0.size ≤ b228 := Nat.le_trans (((Keep.refl h0 ([] : List Addr)).ext E226).wr W227 (Or.inr sz_b226)).1 lt_b228
 have F228_coder : Fld Z h228 b228 "java/lang/String" "coder" "B" (.int 0) := D228 (Or.inr (hw _ o_t31)) (ty := .byte) (by decide)
 have F228_value : Fld Z h228 b228 "java/lang/String" "value" "[B" .null := D228 (Or.inr (hw _ o_t33)) (ty := (.array .byte)) (by decide)
 refine o_go st228 ?_
 refine o_gi (XS.dup X228.here hx rfl (hb hby o_d1_37) rfl rfl) ?_
 refine o_gi (XS.aload X228.here hx rfl (hb hby o_d1_38) rfl rfl) ?_
 show o_Gs p e below _ T228 m 40 #[.val (.int 0), .val (.int x1), .val (.int 255), .val (.int ((((x1.toUInt32 >>> ((2 : Int32) &&& 31).toUInt32).toInt32) &&& (255 : Int32)).toUInt32.toUInt16.toUInt32.toInt32)), .val (.int ((((x1.toUInt32 >>> ((10 : Int32) &&& 31).toUInt32).toInt32) &&& (255 : Int32)).toUInt32.toUInt16.toUInt32.toInt32)), .val (.ref b226)] [(.ref b226), (.ref b228), (.ref b228)]
 have oo230 : Old Z n0 h228 := (((O0.ext E226).wr W227 g_b226).ext E228)
 obtain ⟨T229, L229, X229, ⟨N229q, K229, G229_0, G229_1, t229, G229, lt_t229, G229_2, G229_3⟩, st229⟩ := o_newStrT X228 hx hZ hown (hw _ o_t8) (hw _ o_t9) (hw _ o_t10) (hw _ o_t6) hws (n := 1) g_b228 (Nat.le_trans (Nat.le_trans (Nat.le_trans Z0 E226.1) (Keep.of_wr W227).1) E228.1) A228 F228_value F228_coder (V227.ext E228) (S_z_cs.ext oo230.2) z_CS rfl (by decide) (by decide) (o_gset (o_g00) (o_ch _)) e228 (pc := 40) (Ls := #[.val (.int 0), .val (.int x1), .val (.int 255), .val (.int ((((x1.toUInt32 >>> ((2 : Int32) &&& 31).toUInt32).toInt32) &&& (255 : Int32)).toUInt32.toUInt16.toUInt32.toInt32)), .val (.int ((((x1.toUInt32 >>> ((10 : Int32) &&& 31).toUInt32).toInt32) &&& (255 : Int32)).toUInt32.toUInt16.toUInt32.toInt32)), .val (.ref b226)]) (rest := [(.ref b228)]) (W := 1) (by rw [hml]; rfl) (Nat.le_of_eq rfl) (by decide) (by decide) (hb hby o_d1_40) (by decide) (by decide)
 have ne_b226_t229 : b226 ≠ t229 := Nat.ne_of_lt (Nat.lt_of_lt_of_le (V227.ext E228).lt lt_t229)
 have ne_b228_t229 : b228 ≠ t229 := Nat.ne_of_lt (Nat.lt_of_lt_of_le A228.lt lt_t229)
 have N229 := Fr.app N227 N229q
 refine o_go st229 ?_
 show o_Gs p e below _ T229 m 43 #[.val (.int 0), .val (.int x1), .val (.int 255), .val (.int ((((x1.toUInt32 >>> ((2 : Int32) &&& 31).toUInt32).toInt32) &&& (255 : Int32)).toUInt32.toUInt16.toUInt32.toInt32)), .val (.int ((((x1.toUInt32 >>> ((10 : Int32) &&& 31).toUInt32).toInt32) &&& (255 : Int32)).toUInt32.toUInt16.toUInt32.toInt32)), .val (.ref b226)] [(.ref b228)]
 exact o_retR X229 hx hlk hret rfl rfl (hb hby o_d1_43) (by decide) (by decide) (⟨_, rfl, N229, (((((Keep.refl h0 ([] : List Addr)).ext E226).wr W227 (Or.inr sz_b226)).ext E228).trans K229 (fun x hx => by cases List.mem_singleton.mp hx; exact Or.inr sz_b228)), sz_b228, ⟨t229, _, _, _, G229_0, G229_2, G229_1, G229_3, Or.inl ⟨rfl, by decide, by decide, by decide⟩⟩⟩)
def o_G1_255_1_1 (x1 : Int32) : Int32 → Int32 := fun k => if k = (0 : Int32) then (nar .char ((((x1.toUInt32 >>> ((2 : Int32) &&& 31).toUInt32).toInt32) &&& (255 : Int32)).toUInt32.toUInt16.toUInt32.toInt32)) else (fun _ => 0) k
def o_G1_255_1_2 (x1 : Int32) : Int32 → Int32 := fun k => if k = (1 : Int32) then (nar .char ((((x1.toUInt32 >>> ((10 : Int32) &&& 31).toUInt32).toInt32) &&& (255 : Int32)).toUInt32.toUInt16.toUInt32.toInt32)) else (o_G1_255_1_1 x1) k
def o_Q1_255_1 (Z : State) (x1 : Int32) (z_cs : Int32) (h0 : Heap) (n0 : Nat) (v : Option Value) (h : Heap) (L : List Loc) : Prop := ∃ b : Addr, v = some (.ref b) ∧ Fr n0 L ∧ Keep h0 h [] ∧ h0.size ≤ b ∧ o_Id Z h b (255 : Int32)
abbrev o_R1_255_1 : Room := { frames := 6, cells := 4, slots := 1028, locals := 125 }
theorem o_ef1_255_1 (m : MethodId) (z1 : Int32) : entryFrame m #[(.int 1), (.int z1), (.int 255)] 6 = mkF m 0 #[.val (.int 1), .val (.int z1), .val (.int 255), .unset, .unset, .unset] [] := by first | (simp [entryFrame, mkF, argsToLocals, Value.category]; done) | rfl
set_option maxRecDepth 65536 in
set_option maxHeartbeats 40000000 in
theorem rm1_255_1 (l : Launch) (Z : State) (a0 : Array Value) (hw : ∀ d ∈ tables_1, d.before a0 Z = true) (ws : List Jvm.Cond) (x1 : Int32) (z_cs : Int32) (h0 : Heap) (n0 : Nat) (Z0 : n0 ≤ h0.size) (O0 : Old Z n0 h0) (z_CS : ¬ z_cs = 0) (S_z_cs : Sta Z Z.heap "java/lang/String" "COMPACT_STRINGS" "Z" (.int z_cs)) (S_ad : Sta Z Z.heap "java/lang/StringUTF16" "$assertionsDisabled" "Z" (.int 1)) (S_hi : Sta Z Z.heap "java/lang/StringUTF16" "HI_BYTE_SHIFT" "I" (.int 0)) (S_lo : Sta Z Z.heap "java/lang/StringUTF16" "LO_BYTE_SHIFT" "I" (.int 8)) : o_Met l Z (⟨"com/example/quittance/quittance/dialect/ClaimOfPinLaw", "id", "(III)Ljava/lang/String;"⟩ : MethodName) method_2_code 6 (some (.object "java/lang/String")) ws o_R1_255_1 #[(.int 1), (.int x1), (.int 255)] h0 (o_Q1_255_1 Z x1 z_cs h0 n0) := by
 refine o_met (plainFor_of_name o_pn6) ?_
 intro p e s m below meth c s₁ hx hby hml hown hnm hret hlk hZ e0 X0
 have N0 := Fr.nil n0
 have hml : c.maxLocals = 6 := hml
 have hown : s.vm.findClass "com/example/quittance/quittance/dialect/ClaimOfPinLaw" = some m.cls := hown
 have hret : meth.sig.returnType = (some (.object "java/lang/String")) := hret
 have hby : c.code = method_2_code := hby
 have hnm : meth.name = "id" := hnm
 rw [o_ef1_255_1]
 have hws : ∀ d ∈ StrChars.Road.words, d.before a0 Z = true := fun d hd => hw d ((by decide +kernel : ∀ d ∈ StrChars.Road.words, d ∈ tables_1) d hd)
 refine o_gi (XS.iloadN X0.here hx rfl (hb hby o_d1_0) rfl) ?_
 refine o_gi (XS.iconst X0.here hx rfl (hb hby o_d1_1)) ?_
 show o_Gs p e below _ s₁ m 2 #[.val (.int 1), .val (.int x1), .val (.int 255), .unset, .unset, .unset] [(.int 2), (.int x1)]
 refine o_gi (XS.iushr X0.here hx rfl (hb hby o_d1_2) rfl) ?_
 refine o_gi (XS.sipush X0.here hx rfl (hb hby o_d1_3)) ?_
 show o_Gs p e below _ s₁ m 6 #[.val (.int 1), .val (.int x1), .val (.int 255), .unset, .unset, .unset] [(.int 255), (.int ((x1.toUInt32 >>> ((2 : Int32) &&& 31).toUInt32).toInt32))]
 refine o_gi (XS.iand X0.here hx rfl (hb hby o_d1_6) rfl) ?_
 show o_Gs p e below _ s₁ m 7 #[.val (.int 1), .val (.int x1), .val (.int 255), .unset, .unset, .unset] [(.int (((x1.toUInt32 >>> ((2 : Int32) &&& 31).toUInt32).toInt32) &&& (255 : Int32)))]
 refine o_gi (XS.i2c X0.here hx rfl (hb hby o_d1_7) rfl) ?_
 refine o_gi (XS.istoreN X0.here hx rfl (hb hby o_d1_8) rfl (l' := #[.val (.int 1), .val (.int x1), .val (.int 255), .val (.int ((((x1.toUInt32 >>> ((2 : Int32) &&& 31).toUInt32).toInt32) &&& (255 : Int32)).toUInt32.toUInt16.toUInt32.toInt32)), .unset, .unset]) rfl) ?_
 refine o_gi (XS.iloadN X0.here hx rfl (hb hby o_d1_9) rfl) ?_
 refine o_gi (XS.bipush X0.here hx rfl (hb hby o_d1_10)) ?_
 show o_Gs p e below _ s₁ m 12 #[.val (.int 1), .val (.int x1), .val (.int 255), .val (.int ((((x1.toUInt32 >>> ((2 : Int32) &&& 31).toUInt32).toInt32) &&& (255 : Int32)).toUInt32.toUInt16.toUInt32.toInt32)), .unset, .unset] [(.int 10), (.int x1)]
 refine o_gi (XS.iushr X0.here hx rfl (hb hby o_d1_12) rfl) ?_
 refine o_gi (XS.sipush X0.here hx rfl (hb hby o_d1_13)) ?_
 show o_Gs p e below _ s₁ m 16 #[.val (.int 1), .val (.int x1), .val (.int 255), .val (.int ((((x1.toUInt32 >>> ((2 : Int32) &&& 31).toUInt32).toInt32) &&& (255 : Int32)).toUInt32.toUInt16.toUInt32.toInt32)), .unset, .unset] [(.int 255), (.int ((x1.toUInt32 >>> ((10 : Int32) &&& 31).toUInt32).toInt32))]
 refine o_gi (XS.iand X0.here hx rfl (hb hby o_d1_16) rfl) ?_
 show o_Gs p e below _ s₁ m 17 #[.val (.int 1), .val (.int x1), .val (.int 255), .val (.int ((((x1.toUInt32 >>> ((2 : Int32) &&& 31).toUInt32).toInt32) &&& (255 : Int32)).toUInt32.toUInt16.toUInt32.toInt32)), .unset, .unset] [(.int (((x1.toUInt32 >>> ((10 : Int32) &&& 31).toUInt32).toInt32) &&& (255 : Int32)))]
 refine o_gi (XS.i2c X0.here hx rfl (hb hby o_d1_17) rfl) ?_
 refine o_gi (XS.istore X0.here hx rfl (hb hby o_d1_18) rfl (l' := #[.val (.int 1), .val (.int x1), .val (.int 255), .val (.int ((((x1.toUInt32 >>> ((2 : Int32) &&& 31).toUInt32).toInt32) &&& (255 : Int32)).toUInt32.toUInt16.toUInt32.toInt32)), .val (.int ((((x1.toUInt32 >>> ((10 : Int32) &&& 31).toUInt32).toInt32) &&& (255 : Int32)).toUInt32.toUInt16.toUInt32.toInt32)), .unset]) rfl) ?_
 refine o_gi (XS.iloadN X0.here hx rfl (hb hby o_d1_20) rfl) ?_
 show o_Gs p e below _ s₁ m 21 #[.val (.int 1), .val (.int x1), .val (.int 255), .val (.int ((((x1.toUInt32 >>> ((2 : Int32) &&& 31).toUInt32).toInt32) &&& (255 : Int32)).toUInt32.toUInt16.toUInt32.toInt32)), .val (.int ((((x1.toUInt32 >>> ((10 : Int32) &&& 31).toUInt32).toInt32) &&& (255 : Int32)).toUInt32.toUInt16.toUInt32.toInt32)), .unset] [(.int 1)]
 have hd231 : ¬ ((1 : Int32) = (0 : Int32)) := (by decide)
 refine o_gi (XS.ifYes X0.here hx rfl (pc0 := 21) (pc' := 44) rfl (hb hby o_d1_21) rfl ((if0 _ _).trans (feq hd231).2) (by decide) (by decide)) ?_
 refine o_gi (XS.iloadN X0.here hx rfl (hb hby o_d1_44) rfl) ?_
 refine o_gi (XS.iconst X0.here hx rfl (hb hby o_d1_45)) ?_
 show o_Gs p e below _ s₁ m 46 #[.val (.int 1), .val (.int x1), .val (.int 255), .val (.int ((((x1.toUInt32 >>> ((2 : Int32) &&& 31).toUInt32).toInt32) &&& (255 : Int32)).toUInt32.toUInt16.toUInt32.toInt32)), .val (.int ((((x1.toUInt32 >>> ((10 : Int32) &&& 31).toUInt32).toInt32) &&& (255 : Int32)).toUInt32.toUInt16.toUInt32.toInt32)), .unset] [(.int 1), (.int 1)]
 have hd232 : (1 : Int32) = (1 : Int32) := (by decide)
 refine o_gi (XS.icmpNo X0.here hx rfl (hb hby o_d1_46) rfl (teq hd232).2) ?_
 refine o_gi (XS.iconst X0.here hx rfl (hb hby o_d1_49)) ?_
 show o_Gs p e below _ s₁ m 50 #[.val (.int 1), .val (.int x1), .val (.int 255), .val (.int ((((x1.toUInt32 >>> ((2 : Int32) &&& 31).toUInt32).toInt32) &&& (255 : Int32)).toUInt32.toUInt16.toUInt32.toInt32)), .val (.int ((((x1.toUInt32 >>> ((10 : Int32) &&& 31).toUInt32).toInt32) &&& (255 : Int32)).toUInt32.toUInt16.toUInt32.toInt32)), .unset] [(.int 2)]
 obtain ⟨T233, h233, k233, X233, e233, E233, A233, st233⟩ := newP X0 hx hZ (aty := .char) (hw _ o_t4) e0 (g := (mkF m 50 #[.val (.int 1), .val (.int x1), .val (.int 255), .val (.int ((((x1.toUInt32 >>> ((2 : Int32) &&& 31).toUInt32).toInt32) &&& (255 : Int32)).toUInt32.toUInt16.toUInt32.toInt32)), .val (.int ((((x1.toUInt32 >>> ((10 : Int32) &&& 31).toUInt32).toInt32) &&& (255 : Int32)).toUInt32.toUInt16.toUInt32.toInt32)), .unset] [(.int 2)])) rfl (hb hby o_d1_50) rfl (by decide) (cap := 2) (by decide) (by decide) (by decide) (by decide)
 obtain ⟨b233, q233⟩ : ∃ z, z = h0.size := ⟨_, rfl⟩
 rw [← q233] at A233 st233
 have lt_b233 : h0.size ≤ b233 := Nat.le_of_eq q233.symm
 have g_b233 : n0 ≤ b233 := Nat.le_trans Z0 lt_b233
 have sz_b233 : h0.size ≤ b233 := Nat.le_trans (Keep.refl h0 ([] : List Addr)).1 lt_b233
 have V233 : o_Tb Z h233 b233 .char (2 : Int32) (fun _ => 0) := o_Tb.new A233 (by decide) rfl
 refine o_go st233 ?_
 refine o_gi (XS.astore X233.here hx rfl (hb hby o_d1_52) rfl rfl (l' := #[.val (.int 1), .val (.int x1), .val (.int 255), .val (.int ((((x1.toUInt32 >>> ((2 : Int32) &&& 31).toUInt32).toInt32) &&& (255 : Int32)).toUInt32.toUInt16.toUInt32.toInt32)), .val (.int ((((x1.toUInt32 >>> ((10 : Int32) &&& 31).toUInt32).toInt32) &&& (255 : Int32)).toUInt32.toUInt16.toUInt32.toInt32)), .val (.ref b233)]) rfl) ?_
 refine o_gi (XS.aload X233.here hx rfl (hb hby o_d1_54) rfl rfl) ?_
 refine o_gi (XS.iconst X233.here hx rfl (hb hby o_d1_56)) ?_
 refine o_gi (XS.iloadN X233.here hx rfl (hb hby o_d1_57) rfl) ?_
 show o_Gs p e below _ T233 m 58 #[.val (.int 1), .val (.int x1), .val (.int 255), .val (.int ((((x1.toUInt32 >>> ((2 : Int32) &&& 31).toUInt32).toInt32) &&& (255 : Int32)).toUInt32.toUInt16.toUInt32.toInt32)), .val (.int ((((x1.toUInt32 >>> ((10 : Int32) &&& 31).toUInt32).toInt32) &&& (255 : Int32)).toUInt32.toUInt16.toUInt32.toInt32)), .val (.ref b233)] [(.int ((((x1.toUInt32 >>> ((2 : Int32) &&& 31).toUInt32).toInt32) &&& (255 : Int32)).toUInt32.toUInt16.toUInt32.toInt32)), (.int 0), (.ref b233)]
 obtain ⟨cl234, Ar234, sa234, na234, ha234⟩ := id V233
 obtain ⟨T234, h234, X234, e234, W234, st234⟩ := stC X233 hx hZ e233 Ar234 (j := (0 : Int32)) (inb_of sa234 ⟨by decide, by decide⟩) (g := (mkF m 58 #[.val (.int 1), .val (.int x1), .val (.int 255), .val (.int ((((x1.toUInt32 >>> ((2 : Int32) &&& 31).toUInt32).toInt32) &&& (255 : Int32)).toUInt32.toUInt16.toUInt32.toInt32)), .val (.int ((((x1.toUInt32 >>> ((10 : Int32) &&& 31).toUInt32).toInt32) &&& (255 : Int32)).toUInt32.toUInt16.toUInt32.toInt32)), .val (.ref b233)] [(.int ((((x1.toUInt32 >>> ((2 : Int32) &&& 31).toUInt32).toInt32) &&& (255 : Int32)).toUInt32.toUInt16.toUInt32.toInt32)), (.int 0), (.ref b233)])) rfl rfl (hb hby o_d1_58)
 have V234 : o_Tb Z h234 b233 .char (2 : Int32) (o_G1_255_1_1 x1) := o_Tb.set Ar234 sa234 na234 ha234 W234 ⟨by decide, by decide⟩
 have N234 := Fr.snoc X234 N0 g_b233
 refine o_go st234 ?_
 refine o_gi (XS.aload X234.here hx rfl (hb hby o_d1_59) rfl rfl) ?_
 refine o_gi (XS.iconst X234.here hx rfl (hb hby o_d1_61)) ?_
 refine o_gi (XS.iload X234.here hx rfl (hb hby o_d1_62) rfl) ?_
 show o_Gs p e below _ T234 m 64 #[.val (.int 1), .val (.int x1), .val (.int 255), .val (.int ((((x1.toUInt32 >>> ((2 : Int32) &&& 31).toUInt32).toInt32) &&& (255 : Int32)).toUInt32.toUInt16.toUInt32.toInt32)), .val (.int ((((x1.toUInt32 >>> ((10 : Int32) &&& 31).toUInt32).toInt32) &&& (255 : Int32)).toUInt32.toUInt16.toUInt32.toInt32)), .val (.ref b233)] [(.int ((((x1.toUInt32 >>> ((10 : Int32) &&& 31).toUInt32).toInt32) &&& (255 : Int32)).toUInt32.toUInt16.toUInt32.toInt32)), (.int 1), (.ref b233)]
 obtain ⟨cl235, Ar235, sa235, na235, ha235⟩ := id V234
 obtain ⟨T235, h235, X235, e235, W235, st235⟩ := stC X234 hx hZ e234 Ar235 (j := (1 : Int32)) (inb_of sa235 ⟨by decide, by decide⟩) (g := (mkF m 64 #[.val (.int 1), .val (.int x1), .val (.int 255), .val (.int ((((x1.toUInt32 >>> ((2 : Int32) &&& 31).toUInt32).toInt32) &&& (255 : Int32)).toUInt32.toUInt16.toUInt32.toInt32)), .val (.int ((((x1.toUInt32 >>> ((10 : Int32) &&& 31).toUInt32).toInt32) &&& (255 : Int32)).toUInt32.toUInt16.toUInt32.toInt32)), .val (.ref b233)] [(.int ((((x1.toUInt32 >>> ((10 : Int32) &&& 31).toUInt32).toInt32) &&& (255 : Int32)).toUInt32.toUInt16.toUInt32.toInt32)), (.int 1), (.ref b233)])) rfl rfl (hb hby o_d1_64)
 have V235 : o_Tb Z h235 b233 .char (2 : Int32) (o_G1_255_1_2 x1) := o_Tb.set Ar235 sa235 na235 ha235 W235 ⟨by decide, by decide⟩
 have N235 := Fr.snoc X235 N234 g_b233
 refine o_go st235 ?_
 show o_Gs p e below _ T235 m 65 #[.val (.int 1), .val (.int x1), .val (.int 255), .val (.int ((((x1.toUInt32 >>> ((2 : Int32) &&& 31).toUInt32).toInt32) &&& (255 : Int32)).toUInt32.toUInt16.toUInt32.toInt32)), .val (.int ((((x1.toUInt32 >>> ((10 : Int32) &&& 31).toUInt32).toInt32) &&& (255 : Int32)).toUInt32.toUInt16.toUInt32.toInt32)), .val (.ref b233)] []
 obtain ⟨T236, h236, X236, e236, E236, A236, D236, -, st236⟩ := newO X235 hx hZ hown (hw _ o_t5) (hw _ o_t6) (hw _ o_t7) e235 (g := (mkF m 65 #[.val (.int 1), .val (.int x1), .val (.int 255), .val (.int ((((x1.toUInt32 >>> ((2 : Int32) &&& 31).toUInt32).toInt32) &&& (255 : Int32)).toUInt32.toUInt16.toUInt32.toInt32)), .val (.int ((((x1.toUInt32 >>> ((10 : Int32) &&& 31).toUInt32).toInt32) &&& (255 : Int32)).toUInt32.toUInt16.toUInt32.toInt32)), .val (.ref b233)] [])) rfl (hb hby o_d1_65) (by decide) (by decide)
 obtain ⟨b236, q236⟩ : ∃ z, z = h235.size := ⟨_, rfl⟩
 rw [← q236] at A236 D236 st236
 have lt_b236 : h235.size ≤ b236 := Nat.le_of_eq q236.symm
 have ne_b233_b236 : b233 ≠ b236 := Nat.ne_of_lt (Nat.lt_of_lt_of_le V235.lt lt_b236)
 have g_b236 : n0 ≤ b236 := Nat.le_trans (Nat.le_trans (Nat.le_trans (Nat.le_trans Z0 E233.1) (Keep.of_wr W234).1) (Keep.of_wr W235).1) lt_b236
 have sz_b236 : h0.size ≤ b236 := Nat.le_trans ((((Keep.refl h0 ([] : List Addr)).ext E233).wr W234 (Or.inr sz_b233)).wr W235 (Or.inr sz_b233)).1 lt_b236
 have F236_coder : Fld Z h236 b236 "java/lang/String" "coder" "B" (.int 0) := D236 (Or.inr (hw _ o_t31)) (ty := .byte) (by decide)
 have F236_value : Fld Z h236 b236 "java/lang/String" "value" "[B" .null := D236 (Or.inr (hw _ o_t33)) (ty := (.array .byte)) (by decide)
 refine o_go st236 ?_
 refine o_gi (XS.dup X236.here hx rfl (hb hby o_d1_68) rfl rfl) ?_
 refine o_gi (XS.aload X236.here hx rfl (hb hby o_d1_69) rfl rfl) ?_
 show o_Gs p e below _ T236 m 71 #[.val (.int 1), .val (.int x1), .val (.int 255), .val (.int ((((x1.toUInt32 >>> ((2 : Int32) &&& 31).toUInt32).toInt32) &&& (255 : Int32)).toUInt32.toUInt16.toUInt32.toInt32)), .val (.int ((((x1.toUInt32 >>> ((10 : Int32) &&& 31).toUInt32).toInt32) &&& (255 : Int32)).toUInt32.toUInt16.toUInt32.toInt32)), .val (.ref b233)] [(.ref b233), (.ref b236), (.ref b236)]
 have oo238 : Old Z n0 h236 := ((((O0.ext E233).wr W234 g_b233).wr W235 g_b233).ext E236)
 obtain ⟨T237, L237, X237, ⟨N237q, K237, G237_0, G237_1, t237, G237, lt_t237, G237_2, G237_3⟩, st237⟩ := o_newStrT X236 hx hZ hown (hw _ o_t8) (hw _ o_t9) (hw _ o_t10) (hw _ o_t6) hws (n := 2) g_b236 (Nat.le_trans (Nat.le_trans (Nat.le_trans (Nat.le_trans Z0 E233.1) (Keep.of_wr W234).1) (Keep.of_wr W235).1) E236.1) A236 F236_value F236_coder (V235.ext E236) (S_z_cs.ext oo238.2) z_CS rfl (by decide) (by decide) (o_gset (o_gset (o_g00) (o_ch _)) (o_ch _)) e236 (pc := 71) (Ls := #[.val (.int 1), .val (.int x1), .val (.int 255), .val (.int ((((x1.toUInt32 >>> ((2 : Int32) &&& 31).toUInt32).toInt32) &&& (255 : Int32)).toUInt32.toUInt16.toUInt32.toInt32)), .val (.int ((((x1.toUInt32 >>> ((10 : Int32) &&& 31).toUInt32).toInt32) &&& (255 : Int32)).toUInt32.toUInt16.toUInt32.toInt32)), .val (.ref b233)]) (rest := [(.ref b236)]) (W := 1) (by rw [hml]; rfl) (Nat.le_of_eq rfl) (by decide) (by decide) (hb hby o_d1_71) (by decide) (by decide)
 have ne_b233_t237 : b233 ≠ t237 := Nat.ne_of_lt (Nat.lt_of_lt_of_le (V235.ext E236).lt lt_t237)
 have ne_b236_t237 : b236 ≠ t237 := Nat.ne_of_lt (Nat.lt_of_lt_of_le A236.lt lt_t237)
 have N237 := Fr.app N235 N237q
 refine o_go st237 ?_
 show o_Gs p e below _ T237 m 74 #[.val (.int 1), .val (.int x1), .val (.int 255), .val (.int ((((x1.toUInt32 >>> ((2 : Int32) &&& 31).toUInt32).toInt32) &&& (255 : Int32)).toUInt32.toUInt16.toUInt32.toInt32)), .val (.int ((((x1.toUInt32 >>> ((10 : Int32) &&& 31).toUInt32).toInt32) &&& (255 : Int32)).toUInt32.toUInt16.toUInt32.toInt32)), .val (.ref b233)] [(.ref b236)]
 exact o_retR X237 hx hlk hret rfl rfl (hb hby o_d1_74) (by decide) (by decide) (⟨_, rfl, N237, ((((((Keep.refl h0 ([] : List Addr)).ext E233).wr W234 (Or.inr sz_b233)).wr W235 (Or.inr sz_b233)).ext E236).trans K237 (fun x hx => by cases List.mem_singleton.mp hx; exact Or.inr sz_b236)), sz_b236, ⟨t237, _, _, _, G237_0, G237_2, G237_1, G237_3, Or.inl ⟨rfl, by decide, by decide, by decide⟩⟩⟩)
def o_G1_255_2_1 (x1 : Int32) : Int32 → Int32 := fun k => if k = (0 : Int32) then (nar .char ((((x1.toUInt32 >>> ((2 : Int32) &&& 31).toUInt32).toInt32) &&& (255 : Int32)).toUInt32.toUInt16.toUInt32.toInt32)) else (fun _ => 0) k
def o_G1_255_2_2 (x1 : Int32) : Int32 → Int32 := fun k => if k = (254 : Int32) then (nar .char ((((x1.toUInt32 >>> ((10 : Int32) &&& 31).toUInt32).toInt32) &&& (255 : Int32)).toUInt32.toUInt16.toUInt32.toInt32)) else (o_G1_255_2_1 x1) k
def o_Q1_255_2 (Z : State) (x1 : Int32) (z_cs : Int32) (h0 : Heap) (n0 : Nat) (v : Option Value) (h : Heap) (L : List Loc) : Prop := ∃ b : Addr, v = some (.ref b) ∧ Fr n0 L ∧ Keep h0 h [] ∧ h0.size ≤ b ∧ o_Id Z h b (255 : Int32)
abbrev o_R1_255_2 : Room := { frames := 6, cells := 4, slots := 1028, locals := 125 }
theorem o_ef1_255_2 (m : MethodId) (z1 : Int32) : entryFrame m #[(.int 2), (.int z1), (.int 255)] 6 = mkF m 0 #[.val (.int 2), .val (.int z1), .val (.int 255), .unset, .unset, .unset] [] := by first | (simp [entryFrame, mkF, argsToLocals, Value.category]; done) | rfl
set_option maxRecDepth 65536 in
set_option maxHeartbeats 40000000 in
theorem rm1_255_2 (l : Launch) (Z : State) (a0 : Array Value) (hw : ∀ d ∈ tables_1, d.before a0 Z = true) (ws : List Jvm.Cond) (x1 : Int32) (z_cs : Int32) (h0 : Heap) (n0 : Nat) (Z0 : n0 ≤ h0.size) (O0 : Old Z n0 h0) (z_CS : ¬ z_cs = 0) (S_z_cs : Sta Z Z.heap "java/lang/String" "COMPACT_STRINGS" "Z" (.int z_cs)) (S_ad : Sta Z Z.heap "java/lang/StringUTF16" "$assertionsDisabled" "Z" (.int 1)) (S_hi : Sta Z Z.heap "java/lang/StringUTF16" "HI_BYTE_SHIFT" "I" (.int 0)) (S_lo : Sta Z Z.heap "java/lang/StringUTF16" "LO_BYTE_SHIFT" "I" (.int 8)) : o_Met l Z (⟨"com/example/quittance/quittance/dialect/ClaimOfPinLaw", "id", "(III)Ljava/lang/String;"⟩ : MethodName) method_2_code 6 (some (.object "java/lang/String")) ws o_R1_255_2 #[(.int 2), (.int x1), (.int 255)] h0 (o_Q1_255_2 Z x1 z_cs h0 n0) := by
 refine o_met (plainFor_of_name o_pn6) ?_
 intro p e s m below meth c s₁ hx hby hml hown hnm hret hlk hZ e0 X0
 have N0 := Fr.nil n0
 have hml : c.maxLocals = 6 := hml
 have hown : s.vm.findClass "com/example/quittance/quittance/dialect/ClaimOfPinLaw" = some m.cls := hown
 have hret : meth.sig.returnType = (some (.object "java/lang/String")) := hret
 have hby : c.code = method_2_code := hby
 have hnm : meth.name = "id" := hnm
 rw [o_ef1_255_2]
 have hws : ∀ d ∈ StrChars.Road.words, d.before a0 Z = true := fun d hd => hw d ((by decide +kernel : ∀ d ∈ StrChars.Road.words, d ∈ tables_1) d hd)
 refine o_gi (XS.iloadN X0.here hx rfl (hb hby o_d1_0) rfl) ?_
 refine o_gi (XS.iconst X0.here hx rfl (hb hby o_d1_1)) ?_
 show o_Gs p e below _ s₁ m 2 #[.val (.int 2), .val (.int x1), .val (.int 255), .unset, .unset, .unset] [(.int 2), (.int x1)]
 refine o_gi (XS.iushr X0.here hx rfl (hb hby o_d1_2) rfl) ?_
 refine o_gi (XS.sipush X0.here hx rfl (hb hby o_d1_3)) ?_
 show o_Gs p e below _ s₁ m 6 #[.val (.int 2), .val (.int x1), .val (.int 255), .unset, .unset, .unset] [(.int 255), (.int ((x1.toUInt32 >>> ((2 : Int32) &&& 31).toUInt32).toInt32))]
 refine o_gi (XS.iand X0.here hx rfl (hb hby o_d1_6) rfl) ?_
 show o_Gs p e below _ s₁ m 7 #[.val (.int 2), .val (.int x1), .val (.int 255), .unset, .unset, .unset] [(.int (((x1.toUInt32 >>> ((2 : Int32) &&& 31).toUInt32).toInt32) &&& (255 : Int32)))]
 refine o_gi (XS.i2c X0.here hx rfl (hb hby o_d1_7) rfl) ?_
 refine o_gi (XS.istoreN X0.here hx rfl (hb hby o_d1_8) rfl (l' := #[.val (.int 2), .val (.int x1), .val (.int 255), .val (.int ((((x1.toUInt32 >>> ((2 : Int32) &&& 31).toUInt32).toInt32) &&& (255 : Int32)).toUInt32.toUInt16.toUInt32.toInt32)), .unset, .unset]) rfl) ?_
 refine o_gi (XS.iloadN X0.here hx rfl (hb hby o_d1_9) rfl) ?_
 refine o_gi (XS.bipush X0.here hx rfl (hb hby o_d1_10)) ?_
 show o_Gs p e below _ s₁ m 12 #[.val (.int 2), .val (.int x1), .val (.int 255), .val (.int ((((x1.toUInt32 >>> ((2 : Int32) &&& 31).toUInt32).toInt32) &&& (255 : Int32)).toUInt32.toUInt16.toUInt32.toInt32)), .unset, .unset] [(.int 10), (.int x1)]
 refine o_gi (XS.iushr X0.here hx rfl (hb hby o_d1_12) rfl) ?_
 refine o_gi (XS.sipush X0.here hx rfl (hb hby o_d1_13)) ?_
 show o_Gs p e below _ s₁ m 16 #[.val (.int 2), .val (.int x1), .val (.int 255), .val (.int ((((x1.toUInt32 >>> ((2 : Int32) &&& 31).toUInt32).toInt32) &&& (255 : Int32)).toUInt32.toUInt16.toUInt32.toInt32)), .unset, .unset] [(.int 255), (.int ((x1.toUInt32 >>> ((10 : Int32) &&& 31).toUInt32).toInt32))]
 refine o_gi (XS.iand X0.here hx rfl (hb hby o_d1_16) rfl) ?_
 show o_Gs p e below _ s₁ m 17 #[.val (.int 2), .val (.int x1), .val (.int 255), .val (.int ((((x1.toUInt32 >>> ((2 : Int32) &&& 31).toUInt32).toInt32) &&& (255 : Int32)).toUInt32.toUInt16.toUInt32.toInt32)), .unset, .unset] [(.int (((x1.toUInt32 >>> ((10 : Int32) &&& 31).toUInt32).toInt32) &&& (255 : Int32)))]
 refine o_gi (XS.i2c X0.here hx rfl (hb hby o_d1_17) rfl) ?_
 refine o_gi (XS.istore X0.here hx rfl (hb hby o_d1_18) rfl (l' := #[.val (.int 2), .val (.int x1), .val (.int 255), .val (.int ((((x1.toUInt32 >>> ((2 : Int32) &&& 31).toUInt32).toInt32) &&& (255 : Int32)).toUInt32.toUInt16.toUInt32.toInt32)), .val (.int ((((x1.toUInt32 >>> ((10 : Int32) &&& 31).toUInt32).toInt32) &&& (255 : Int32)).toUInt32.toUInt16.toUInt32.toInt32)), .unset]) rfl) ?_
 refine o_gi (XS.iloadN X0.here hx rfl (hb hby o_d1_20) rfl) ?_
 show o_Gs p e below _ s₁ m 21 #[.val (.int 2), .val (.int x1), .val (.int 255), .val (.int ((((x1.toUInt32 >>> ((2 : Int32) &&& 31).toUInt32).toInt32) &&& (255 : Int32)).toUInt32.toUInt16.toUInt32.toInt32)), .val (.int ((((x1.toUInt32 >>> ((10 : Int32) &&& 31).toUInt32).toInt32) &&& (255 : Int32)).toUInt32.toUInt16.toUInt32.toInt32)), .unset] [(.int 2)]
 have hd239 : ¬ ((2 : Int32) = (0 : Int32)) := (by decide)
 refine o_gi (XS.ifYes X0.here hx rfl (pc0 := 21) (pc' := 44) rfl (hb hby o_d1_21) rfl ((if0 _ _).trans (feq hd239).2) (by decide) (by decide)) ?_
 refine o_gi (XS.iloadN X0.here hx rfl (hb hby o_d1_44) rfl) ?_
 refine o_gi (XS.iconst X0.here hx rfl (hb hby o_d1_45)) ?_
 show o_Gs p e below _ s₁ m 46 #[.val (.int 2), .val (.int x1), .val (.int 255), .val (.int ((((x1.toUInt32 >>> ((2 : Int32) &&& 31).toUInt32).toInt32) &&& (255 : Int32)).toUInt32.toUInt16.toUInt32.toInt32)), .val (.int ((((x1.toUInt32 >>> ((10 : Int32) &&& 31).toUInt32).toInt32) &&& (255 : Int32)).toUInt32.toUInt16.toUInt32.toInt32)), .unset] [(.int 1), (.int 2)]
 have hd240 : ¬ ((2 : Int32) = (1 : Int32)) := (by decide)
 refine o_gi (XS.icmpYes X0.here hx rfl (pc0 := 46) (pc' := 75) rfl (hb hby o_d1_46) rfl (feq hd240).2 (by decide) (by decide)) ?_
 refine o_gi (XS.iloadN X0.here hx rfl (hb hby o_d1_75) rfl) ?_
 refine o_gi (XS.iconst X0.here hx rfl (hb hby o_d1_76)) ?_
 show o_Gs p e below _ s₁ m 77 #[.val (.int 2), .val (.int x1), .val (.int 255), .val (.int ((((x1.toUInt32 >>> ((2 : Int32) &&& 31).toUInt32).toInt32) &&& (255 : Int32)).toUInt32.toUInt16.toUInt32.toInt32)), .val (.int ((((x1.toUInt32 >>> ((10 : Int32) &&& 31).toUInt32).toInt32) &&& (255 : Int32)).toUInt32.toUInt16.toUInt32.toInt32)), .unset] [(.int 2), (.int 2)]
 have hd241 : (2 : Int32) = (2 : Int32) := (by decide)
 refine o_gi (XS.icmpNo X0.here hx rfl (hb hby o_d1_77) rfl (teq hd241).2) ?_
 refine o_gi (XS.iloadN X0.here hx rfl (hb hby o_d1_80) rfl) ?_
 show o_Gs p e below _ s₁ m 81 #[.val (.int 2), .val (.int x1), .val (.int 255), .val (.int ((((x1.toUInt32 >>> ((2 : Int32) &&& 31).toUInt32).toInt32) &&& (255 : Int32)).toUInt32.toUInt16.toUInt32.toInt32)), .val (.int ((((x1.toUInt32 >>> ((10 : Int32) &&& 31).toUInt32).toInt32) &&& (255 : Int32)).toUInt32.toUInt16.toUInt32.toInt32)), .unset] [(.int 255)]
 obtain ⟨T242, h242, k242, X242, e242, E242, A242, st242⟩ := newP X0 hx hZ (aty := .char) (hw _ o_t4) e0 (g := (mkF m 81 #[.val (.int 2), .val (.int x1), .val (.int 255), .val (.int ((((x1.toUInt32 >>> ((2 : Int32) &&& 31).toUInt32).toInt32) &&& (255 : Int32)).toUInt32.toUInt16.toUInt32.toInt32)), .val (.int ((((x1.toUInt32 >>> ((10 : Int32) &&& 31).toUInt32).toInt32) &&& (255 : Int32)).toUInt32.toUInt16.toUInt32.toInt32)), .unset] [(.int 255)])) rfl (hb hby o_d1_81) rfl (by decide) (cap := 255) (by decide) (by decide) (by decide) (by decide)
 obtain ⟨b242, q242⟩ : ∃ z, z = h0.size := ⟨_, rfl⟩
 rw [← q242] at A242 st242
 have lt_b242 : h0.size ≤ b242 := Nat.le_of_eq q242.symm
 have g_b242 : n0 ≤ b242 := Nat.le_trans Z0 lt_b242
 have sz_b242 : h0.size ≤ b242 := Nat.le_trans (Keep.refl h0 ([] : List Addr)).1 lt_b242
 have V242 : o_Tb Z h242 b242 .char (255 : Int32) (fun _ => 0) := o_Tb.new A242 (by decide) rfl
 refine o_go st242 ?_
 refine o_gi (XS.astore X242.here hx rfl (hb hby o_d1_83) rfl rfl (l' := #[.val (.int 2), .val (.int x1), .val (.int 255), .val (.int ((((x1.toUInt32 >>> ((2 : Int32) &&& 31).toUInt32).toInt32) &&& (255 : Int32)).toUInt32.toUInt16.toUInt32.toInt32)), .val (.int ((((x1.toUInt32 >>> ((10 : Int32) &&& 31).toUInt32).toInt32) &&& (255 : Int32)).toUInt32.toUInt16.toUInt32.toInt32)), .val (.ref b242)]) rfl) ?_
 refine o_gi (XS.aload X242.here hx rfl (hb hby o_d1_85) rfl rfl) ?_
 refine o_gi (XS.iconst X242.here hx rfl (hb hby o_d1_87)) ?_
 refine o_gi (XS.iloadN X242.here hx rfl (hb hby o_d1_88) rfl) ?_
 show o_Gs p e below _ T242 m 89 #[.val (.int 2), .val (.int x1), .val (.int 255), .val (.int ((((x1.toUInt32 >>> ((2 : Int32) &&& 31).toUInt32).toInt32) &&& (255 : Int32)).toUInt32.toUInt16.toUInt32.toInt32)), .val (.int ((((x1.toUInt32 >>> ((10 : Int32) &&& 31).toUInt32).toInt32) &&& (255 : Int32)).toUInt32.toUInt16.toUInt32.toInt32)), .val (.ref b242)] [(.int ((((x1.toUInt32 >>> ((2 : Int32) &&& 31).toUInt32).toInt32) &&& (255 : Int32)).toUInt32.toUInt16.toUInt32.toInt32)), (.int 0), (.ref b242)]
 obtain ⟨cl243, Ar243, sa243, na243, ha243⟩ := id V242
 obtain ⟨T243, h243, X243, e243, W243, st243⟩ := stC X242 hx hZ e242 Ar243 (j := (0 : Int32)) (inb_of sa243 ⟨by decide, by decide⟩) (g := (mkF m 89 #[.val (.int 2), .val (.int x1), .val (.int 255), .val (.int ((((x1.toUInt32 >>> ((2 : Int32) &&& 31).toUInt32).toInt32) &&& (255 : Int32)).toUInt32.toUInt16.toUInt32.toInt32)), .val (.int ((((x1.toUInt32 >>> ((10 : Int32) &&& 31).toUInt32).toInt32) &&& (255 : Int32)).toUInt32.toUInt16.toUInt32.toInt32)), .val (.ref b242)] [(.int ((((x1.toUInt32 >>> ((2 : Int32) &&& 31).toUInt32).toInt32) &&& (255 : Int32)).toUInt32.toUInt16.toUInt32.toInt32)), (.int 0), (.ref b242)])) rfl rfl (hb hby o_d1_89)
 have V243 : o_Tb Z h243 b242 .char (255 : Int32) (o_G1_255_2_1 x1) := o_Tb.set Ar243 sa243 na243 ha243 W243 ⟨by decide, by decide⟩
 have N243 := Fr.snoc X243 N0 g_b242
 refine o_go st243 ?_
 refine o_gi (XS.aload X243.here hx rfl (hb hby o_d1_90) rfl rfl) ?_
 refine o_gi (XS.iloadN X243.here hx rfl (hb hby o_d1_92) rfl) ?_
 refine o_gi (XS.iconst X243.here hx rfl (hb hby o_d1_93)) ?_
 show o_Gs p e below _ T243 m 94 #[.val (.int 2), .val (.int x1), .val (.int 255), .val (.int ((((x1.toUInt32 >>> ((2 : Int32) &&& 31).toUInt32).toInt32) &&& (255 : Int32)).toUInt32.toUInt16.toUInt32.toInt32)), .val (.int ((((x1.toUInt32 >>> ((10 : Int32) &&& 31).toUInt32).toInt32) &&& (255 : Int32)).toUInt32.toUInt16.toUInt32.toInt32)), .val (.ref b242)] [(.int 1), (.int 255), (.ref b242)]
 refine o_gi (XS.isub X243.here hx rfl (hb hby o_d1_94) rfl) ?_
 show o_Gs p e below _ T243 m 95 #[.val (.int 2), .val (.int x1), .val (.int 255), .val (.int ((((x1.toUInt32 >>> ((2 : Int32) &&& 31).toUInt32).toInt32) &&& (255 : Int32)).toUInt32.toUInt16.toUInt32.toInt32)), .val (.int ((((x1.toUInt32 >>> ((10 : Int32) &&& 31).toUInt32).toInt32) &&& (255 : Int32)).toUInt32.toUInt16.toUInt32.toInt32)), .val (.ref b242)] [(.int ((255 : Int32) - (1 : Int32))), (.ref b242)]
 rw [show ((255 : Int32) - (1 : Int32)) = (254 : Int32) from by decide]
 refine o_gi (XS.iload X243.here hx rfl (hb hby o_d1_95) rfl) ?_
 show o_Gs p e below _ T243 m 97 #[.val (.int 2), .val (.int x1), .val (.int 255), .val (.int ((((x1.toUInt32 >>> ((2 : Int32) &&& 31).toUInt32).toInt32) &&& (255 : Int32)).toUInt32.toUInt16.toUInt32.toInt32)), .val (.int ((((x1.toUInt32 >>> ((10 : Int32) &&& 31).toUInt32).toInt32) &&& (255 : Int32)).toUInt32.toUInt16.toUInt32.toInt32)), .val (.ref b242)] [(.int ((((x1.toUInt32 >>> ((10 : Int32) &&& 31).toUInt32).toInt32) &&& (255 : Int32)).toUInt32.toUInt16.toUInt32.toInt32)), (.int 254), (.ref b242)]
 obtain ⟨cl244, Ar244, sa244, na244, ha244⟩ := id V243
 obtain ⟨T244, h244, X244, e244, W244, st244⟩ := stC X243 hx hZ e243 Ar244 (j := (254 : Int32)) (inb_of sa244 ⟨by decide, by decide⟩) (g := (mkF m 97 #[.val (.int 2), .val (.int x1), .val (.int 255), .val (.int ((((x1.toUInt32 >>> ((2 : Int32) &&& 31).toUInt32).toInt32) &&& (255 : Int32)).toUInt32.toUInt16.toUInt32.toInt32)), .val (.int ((((x1.toUInt32 >>> ((10 : Int32) &&& 31).toUInt32).toInt32) &&& (255 : Int32)).toUInt32.toUInt16.toUInt32.toInt32)), .val (.ref b242)] [(.int ((((x1.toUInt32 >>> ((10 : Int32) &&& 31).toUInt32).toInt32) &&& (255 : Int32)).toUInt32.toUInt16.toUInt32.toInt32)), (.int 254), (.ref b242)])) rfl rfl (hb hby o_d1_97)
 have V244 : o_Tb Z h244 b242 .char (255 : Int32) (o_G1_255_2_2 x1) := o_Tb.set Ar244 sa244 na244 ha244 W244 ⟨by decide, by decide⟩
 have N244 := Fr.snoc X244 N243 g_b242
 refine o_go st244 ?_
 show o_Gs p e below _ T244 m 98 #[.val (.int 2), .val (.int x1), .val (.int 255), .val (.int ((((x1.toUInt32 >>> ((2 : Int32) &&& 31).toUInt32).toInt32) &&& (255 : Int32)).toUInt32.toUInt16.toUInt32.toInt32)), .val (.int ((((x1.toUInt32 >>> ((10 : Int32) &&& 31).toUInt32).toInt32) &&& (255 : Int32)).toUInt32.toUInt16.toUInt32.toInt32)), .val (.ref b242)] []
 obtain ⟨T245, h245, X245, e245, E245, A245, D245, -, st245⟩ := newO X244 hx hZ hown (hw _ o_t5) (hw _ o_t6) (hw _ o_t7) e244 (g := (mkF m 98 #[.val (.int 2), .val (.int x1), .val (.int 255), .val (.int ((((x1.toUInt32 >>> ((2 : Int32) &&& 31).toUInt32).toInt32) &&& (255 : Int32)).toUInt32.toUInt16.toUInt32.toInt32)), .val (.int ((((x1.toUInt32 >>> ((10 : Int32) &&& 31).toUInt32).toInt32) &&& (255 : Int32)).toUInt32.toUInt16.toUInt32.toInt32)), .val (.ref b242)] [])) rfl (hb hby o_d1_98) (by decide) (by decide)
 obtain ⟨b245, q245⟩ : ∃ z, z = h244.size := ⟨_, rfl⟩
 rw [← q245] at A245 D245 st245
 have lt_b245 : h244.size ≤ b245 := Nat.le_of_eq q245.symm
 have ne_b242_b245 : b242 ≠ b245 := Nat.ne_of_lt (Nat.lt_of_lt_of_le V244.lt lt_b245)
 have g_b245 : n0 ≤ b245 := Nat.le_trans (Nat.le_trans (Nat.le_trans (Nat.le_trans Z0 E242.1) (Keep.of_wr W243).1) (Keep.of_wr W244).1) lt_b245
 have sz_b245 : h0.size ≤ b245 := Nat.le_trans ((((Keep.refl h0 ([] : List Addr)).ext E242).wr W243 (Or.inr sz_b242)).wr W244 (Or.inr sz_b242)).1 lt_b245
 have F245_coder : Fld Z h245 b245 "java/lang/String" "coder" "B" (.int 0) := D245 (Or.inr (hw _ o_t31)) (ty := .byte) (by decide)
 have F245_value : Fld Z h245 b245 "java/lang/String" "value" "[B" .null := D245 (Or.inr (hw _ o_t33)) (ty := (.array .byte)) (by decide)
 refine o_go st245 ?_
 refine o_gi (XS.dup X245.here hx rfl (hb hby o_d1_101) rfl rfl) ?_
 refine o_gi (XS.aload X245.here hx rfl (hb hby o_d1_102) rfl rfl) ?_
 show o_Gs p e below _ T245 m 104 #[.val (.int 2), .val (.int x1), .val (.int 255), .val (.int ((((x1.toUInt32 >>> ((2 : Int32) &&& 31).toUInt32).toInt32) &&& (255 : Int32)).toUInt32.toUInt16.toUInt32.toInt32)), .val (.int ((((x1.toUInt32 >>> ((10 : Int32) &&& 31).toUInt32).toInt32) &&& (255 : Int32)).toUInt32.toUInt16.toUInt32.toInt32)), .val (.ref b242)] [(.ref b242), (.ref b245), (.ref b245)]
 have oo247 : Old Z n0 h245 := ((((O0.ext E242).wr W243 g_b242).wr W244 g_b242).ext E245)
 obtain ⟨T246, L246, X246, ⟨N246q, K246, G246_0, G246_1, t246, G246, lt_t246, G246_2, G246_3⟩, st246⟩ := o_newStrT X245 hx hZ hown (hw _ o_t8) (hw _ o_t9) (hw _ o_t10) (hw _ o_t6) hws (n := 255) g_b245 (Nat.le_trans (Nat.le_trans (Nat.le_trans (Nat.le_trans Z0 E242.1) (Keep.of_wr W243).1) (Keep.of_wr W244).1) E245.1) A245 F245_value F245_coder (V244.ext E245) (S_z_cs.ext oo247.2) z_CS rfl (by decide) (by decide) (o_gset (o_gset (o_g00) (o_ch _)) (o_ch _)) e245 (pc := 104) (Ls := #[.val (.int 2), .val (.int x1), .val (.int 255), .val (.int ((((x1.toUInt32 >>> ((2 : Int32) &&& 31).toUInt32).toInt32) &&& (255 : Int32)).toUInt32.toUInt16.toUInt32.toInt32)), .val (.int ((((x1.toUInt32 >>> ((10 : Int32) &&& 31).toUInt32).toInt32) &&& (255 : Int32)).toUInt32.toUInt16.toUInt32.toInt32)), .val (.ref b242)]) (rest := [(.ref b245)]) (W := 1) (by rw [hml]; rfl) (Nat.le_of_eq rfl) (by decide) (by decide) (hb hby o_d1_104) (by decide) (by decide)
 have ne_b242_t246 : b242 ≠ t246 := Nat.ne_of_lt (Nat.lt_of_lt_of_le (V244.ext E245).lt lt_t246)
 have ne_b245_t246 : b245 ≠ t246 := Nat.ne_of_lt (Nat.lt_of_lt_of_le A245.lt lt_t246)
 have N246 := Fr.app N244 N246q
 refine o_go st246 ?_
 show o_Gs p e below _ T246 m 107 #[.val (.int 2), .val (.int x1), .val (.int 255), .val (.int ((((x1.toUInt32 >>> ((2 : Int32) &&& 31).toUInt32).toInt32) &&& (255 : Int32)).toUInt32.toUInt16.toUInt32.toInt32)), .val (.int ((((x1.toUInt32 >>> ((10 : Int32) &&& 31).toUInt32).toInt32) &&& (255 : Int32)).toUInt32.toUInt16.toUInt32.toInt32)), .val (.ref b242)] [(.ref b245)]
 exact o_retR X246 hx hlk hret rfl rfl (hb hby o_d1_107) (by decide) (by decide) (⟨_, rfl, N246, ((((((Keep.refl h0 ([] : List Addr)).ext E242).wr W243 (Or.inr sz_b242)).wr W244 (Or.inr sz_b242)).ext E245).trans K246 (fun x hx => by cases List.mem_singleton.mp hx; exact Or.inr sz_b245)), sz_b245, ⟨t246, _, _, _, G246_0, G246_2, G246_1, G246_3, Or.inl ⟨rfl, by decide, by decide, by decide⟩⟩⟩)
def o_Q1_255 (Z : State) (h0 : Heap) (n0 : Nat) (v : Option Value) (h : Heap) (L : List Loc) : Prop := ∃ b : Addr, v = some (.ref b) ∧ Fr n0 L ∧ Keep h0 h [] ∧ h0.size ≤ b ∧ o_Id Z h b (255 : Int32)
abbrev o_R1_255 : Room := o_R1_255_0
theorem rm1_255 (l : Launch) (Z : State) (a0 : Array Value) (hw : ∀ d ∈ tables_1, d.before a0 Z = true) (ws : List Jvm.Cond) (x0 : Int32) (x1 : Int32) (z_cs : Int32) (h0 : Heap) (n0 : Nat) (Z0 : n0 ≤ h0.size) (O0 : Old Z n0 h0) (z_CS : ¬ z_cs = 0) (hx0 : x0 = (0 : Int32) ∨ x0 = (1 : Int32) ∨ x0 = (2 : Int32) ∨ x0 = (3 : Int32)) (S_z_cs : Sta Z Z.heap "java/lang/String" "COMPACT_STRINGS" "Z" (.int z_cs)) (S_ad : Sta Z Z.heap "java/lang/StringUTF16" "$assertionsDisabled" "Z" (.int 1)) (S_hi : Sta Z Z.heap "java/lang/StringUTF16" "HI_BYTE_SHIFT" "I" (.int 0)) (S_lo : Sta Z Z.heap "java/lang/StringUTF16" "LO_BYTE_SHIFT" "I" (.int 8)) : o_Met l Z (⟨"com/example/quittance/quittance/dialect/ClaimOfPinLaw", "id", "(III)Ljava/lang/String;"⟩ : MethodName) method_2_code 6 (some (.object "java/lang/String")) ws o_R1_255 #[.int x0, .int x1, .int 255] h0 (o_Q1_255 Z h0 n0) := by
 rcases hx0 with rfl | rfl | rfl | rfl
 ·exact rm1_255_0 l Z a0 hw ws x1 z_cs h0 n0 Z0 O0 z_CS S_z_cs S_ad S_hi S_lo
 ·exact rm1_255_1 l Z a0 hw ws x1 z_cs h0 n0 Z0 O0 z_CS S_z_cs S_ad S_hi S_lo
 ·exact rm1_255_2 l Z a0 hw ws x1 z_cs h0 n0 Z0 O0 z_CS S_z_cs S_ad S_hi S_lo
 ·exact rm1_255_3 l Z a0 hw ws x1 z_cs h0 n0 Z0 O0 z_CS S_z_cs S_ad S_hi S_lo
theorem o_d26_0 : decode prog_12_method_1_code 0 = .ok (.aload_n 0, 1) := by decide +kernel
theorem o_d26_1 : decode prog_12_method_1_code 1 = .ok (.invokespecial 1, 3) := by decide +kernel
theorem o_t124 : (Jvm.Cond.methodLink "com/example/quittance/quittance/dialect/Claim" (1 : Nat) ({ cls := "java/lang/Object", name := "<init>", desc := "()V" } : Jvm.MethodName)) ∈ tables_1 := List.mem_of_getElem? (i := 124) rfl
theorem o_d26_4 : decode prog_12_method_1_code 4 = .ok (.aload_n 0, 1) := by decide +kernel
theorem o_d26_5 : decode prog_12_method_1_code 5 = .ok (.aload_n 1, 1) := by decide +kernel
theorem o_d26_6 : decode prog_12_method_1_code 6 = .ok (.putfield 7, 3) := by decide +kernel
theorem o_t125 : (Jvm.Cond.fieldLink "com/example/quittance/quittance/dialect/Claim" (7 : Nat) "com/example/quittance/quittance/dialect/Claim" "transactionId" "Ljava/lang/String;") ∈ tables_1 := List.mem_of_getElem? (i := 125) rfl
theorem o_t126 : (Jvm.Cond.laysFinal "com/example/quittance/quittance/dialect/Claim" "com/example/quittance/quittance/dialect/Claim" "transactionId" "Ljava/lang/String;") ∈ tables_1 := List.mem_of_getElem? (i := 126) rfl
theorem o_t120 : (Jvm.Cond.instantiable "com/example/quittance/quittance/dialect/Claim" (3 : Nat)) ∈ tables_1 := List.mem_of_getElem? (i := 120) rfl
theorem o_d26_9 : decode prog_12_method_1_code 9 = .ok (.aload_n 0, 1) := by decide +kernel
theorem o_d26_10 : decode prog_12_method_1_code 10 = .ok (.aload_n 2, 1) := by decide +kernel
theorem o_d26_11 : decode prog_12_method_1_code 11 = .ok (.putfield 13, 3) := by decide +kernel
theorem o_t127 : (Jvm.Cond.fieldLink "com/example/quittance/quittance/dialect/Claim" (13 : Nat) "com/example/quittance/quittance/dialect/Claim" "user" "Ljava/lang/String;") ∈ tables_1 := List.mem_of_getElem? (i := 127) rfl
theorem o_t128 : (Jvm.Cond.laysFinal "com/example/quittance/quittance/dialect/Claim" "com/example/quittance/quittance/dialect/Claim" "user" "Ljava/lang/String;") ∈ tables_1 := List.mem_of_getElem? (i := 128) rfl
theorem o_d26_14 : decode prog_12_method_1_code 14 = .ok (.aload_n 0, 1) := by decide +kernel
theorem o_d26_15 : decode prog_12_method_1_code 15 = .ok (.lload_n 3, 1) := by decide +kernel
theorem o_d26_16 : decode prog_12_method_1_code 16 = .ok (.putfield 16, 3) := by decide +kernel
theorem o_t129 : (Jvm.Cond.fieldLink "com/example/quittance/quittance/dialect/Claim" (16 : Nat) "com/example/quittance/quittance/dialect/Claim" "amount" "J") ∈ tables_1 := List.mem_of_getElem? (i := 129) rfl
theorem o_t130 : (Jvm.Cond.laysFinal "com/example/quittance/quittance/dialect/Claim" "com/example/quittance/quittance/dialect/Claim" "amount" "J") ∈ tables_1 := List.mem_of_getElem? (i := 130) rfl
theorem o_d26_19 : decode prog_12_method_1_code 19 = .ok (.return_, 1) := by decide +kernel
def o_Q26 (Z : State) (r0 : Addr) (r1 : Addr) (r2 : Addr) (y3 : Int64) (h0 : Heap) (n0 : Nat) (v : Option Value) (h : Heap) (L : List Loc) : Prop := v = none ∧ Fr n0 L ∧ Keep h0 h [r0] ∧ Exa Z h r0 "com/example/quittance/quittance/dialect/Claim" ∧ Fld Z h r0 "com/example/quittance/quittance/dialect/Claim" "transactionId" "Ljava/lang/String;" (.ref r1) ∧ Fld Z h r0 "com/example/quittance/quittance/dialect/Claim" "user" "Ljava/lang/String;" (.ref r2) ∧ Fld Z h r0 "com/example/quittance/quittance/dialect/Claim" "amount" "J" (.long y3)
abbrev o_R26 : Room := { frames := 1, cells := 0, slots := 0, locals := 12 }
theorem o_ef26 (m : MethodId) (z0 : Addr) (z1 : Addr) (z2 : Addr) (z3 : Int64) : entryFrame m #[(.ref z0), (.ref z1), (.ref z2), (.long z3)] 5 = mkF m 0 #[.val (.ref z0), .val (.ref z1), .val (.ref z2), .val (.long z3), .second] [] := by first | (simp [entryFrame, mkF, argsToLocals, Value.category]; done) | rfl
set_option maxRecDepth 65536 in
set_option maxHeartbeats 40000000 in
theorem rm26 (l : Launch) (Z : State) (a0 : Array Value) (hw : ∀ d ∈ tables_1, d.before a0 Z = true) (ws : List Jvm.Cond) (r0 : Addr) (r1 : Addr) (r2 : Addr) (y3 : Int64) (h0 : Heap) (n0 : Nat) (Z0 : n0 ≤ h0.size) (g_r0 : n0 ≤ r0) (E_r0 : Exa Z h0 r0 "com/example/quittance/quittance/dialect/Claim") (F_t : Fld Z h0 r0 "com/example/quittance/quittance/dialect/Claim" "transactionId" "Ljava/lang/String;" .null) (F_u : Fld Z h0 r0 "com/example/quittance/quittance/dialect/Claim" "user" "Ljava/lang/String;" .null) (F_a : Fld Z h0 r0 "com/example/quittance/quittance/dialect/Claim" "amount" "J" (.long (0 : Int64))) : o_Met l Z (⟨"com/example/quittance/quittance/dialect/Claim", "<init>", "(Ljava/lang/String;Ljava/lang/String;J)V"⟩ : MethodName) prog_12_method_1_code 5 none ws o_R26 #[(.ref r0), (.ref r1), (.ref r2), (.long y3)] h0 (o_Q26 Z r0 r1 r2 y3 h0 n0) := by
 refine o_met (plainFor_of_name o_pn5) ?_
 intro p e s m below meth c s₁ hx hby hml hown hnm hret hlk hZ e0 X0
 have N0 := Fr.nil n0
 have hml : c.maxLocals = 5 := hml
 have hown : s.vm.findClass "com/example/quittance/quittance/dialect/Claim" = some m.cls := hown
 have hret : meth.sig.returnType = none := hret
 have hby : c.code = prog_12_method_1_code := hby
 have hnm : meth.name = "<init>" := hnm
 rw [o_ef26]
 refine o_gi (XS.aloadN X0.here hx rfl (hb hby o_d26_0) rfl rfl) ?_
 show o_Gs p e below _ s₁ m 1 #[.val (.ref r0), .val (.ref r1), .val (.ref r2), .val (.long y3), .second] [(.ref r0)]
 obtain ⟨T248, X248, e248, st248⟩ := initO X0 hx hZ hown (hw _ o_t124) (hw _ o_t16) (hw _ o_t17) e0 (g := (mkF m 1 #[.val (.ref r0), .val (.ref r1), .val (.ref r2), .val (.long y3), .second] [(.ref r0)])) rfl (by rw [hml]; rfl) rfl (hb hby o_d26_1) (by decide) (W := 0) (by show 2 * 0 + _ ≤ _; exact Nat.le_of_eq rfl) (by decide)
 refine o_go st248 ?_
 refine o_gi (XS.aloadN X248.here hx rfl (hb hby o_d26_4) rfl rfl) ?_
 refine o_gi (XS.aloadN X248.here hx rfl (hb hby o_d26_5) rfl rfl) ?_
 show o_Gs p e below _ T248 m 6 #[.val (.ref r0), .val (.ref r1), .val (.ref r2), .val (.long y3), .second] [(.ref r1), (.ref r0)]
 obtain ⟨T249, h249, X249, e249, W249, st249⟩ := putF X248 hx hZ hown (host := "") (Or.inl (hw _ o_t125)) Via.refl e248 F_t E_r0 (Or.inr ⟨(hw _ o_t126), rfl, hnm⟩) (hw _ o_t120) (ty := (.object "java/lang/String")) (by decide) rfl rfl (g := (mkF m 6 #[.val (.ref r0), .val (.ref r1), .val (.ref r2), .val (.long y3), .second] [(.ref r1), (.ref r0)])) rfl rfl (hb hby o_d26_6)
 have N249 := Fr.snoc X249 N0 g_r0
 have Fw249 := F_t.same W249
 refine o_go st249 ?_
 refine o_gi (XS.aloadN X249.here hx rfl (hb hby o_d26_9) rfl rfl) ?_
 refine o_gi (XS.aloadN X249.here hx rfl (hb hby o_d26_10) rfl rfl) ?_
 show o_Gs p e below _ T249 m 11 #[.val (.ref r0), .val (.ref r1), .val (.ref r2), .val (.long y3), .second] [(.ref r2), (.ref r0)]
 have ff251 : Fld Z h249 r0 "com/example/quittance/quittance/dialect/Claim" "user" "Ljava/lang/String;" .null := (F_u.other W249 (Or.inr (slot_ne (Or.inr (hw _ o_t128)) (Or.inr (hw _ o_t126)) (by decide) (t := (.object "java/lang/String")) (t' := (.object "java/lang/String")) (by decide) (by decide))))
 obtain ⟨T250, h250, X250, e250, W250, st250⟩ := putF X249 hx hZ hown (host := "") (Or.inl (hw _ o_t127)) Via.refl e249 ff251 (E_r0.wr W249) (Or.inr ⟨(hw _ o_t128), rfl, hnm⟩) (hw _ o_t120) (ty := (.object "java/lang/String")) (by decide) rfl rfl (g := (mkF m 11 #[.val (.ref r0), .val (.ref r1), .val (.ref r2), .val (.long y3), .second] [(.ref r2), (.ref r0)])) rfl rfl (hb hby o_d26_11)
 have N250 := Fr.snoc X250 N249 g_r0
 have Fw250 := ff251.same W250
 refine o_go st250 ?_
 refine o_gi (XS.aloadN X250.here hx rfl (hb hby o_d26_14) rfl rfl) ?_
 refine o_gi (XS.lloadN X250.here hx rfl (hb hby o_d26_15) rfl) ?_
 show o_Gs p e below _ T250 m 16 #[.val (.ref r0), .val (.ref r1), .val (.ref r2), .val (.long y3), .second] [(.long y3), (.ref r0)]
 have ff253 : Fld Z h250 r0 "com/example/quittance/quittance/dialect/Claim" "amount" "J" (.long (0 : Int64)) := ((F_a.other W249 (Or.inr (slot_ne (Or.inr (hw _ o_t130)) (Or.inr (hw _ o_t126)) (by decide) (t := .long) (t' := (.object "java/lang/String")) (by decide) (by decide)))).other W250 (Or.inr (slot_ne (Or.inr (hw _ o_t130)) (Or.inr (hw _ o_t128)) (by decide) (t := .long) (t' := (.object "java/lang/String")) (by decide) (by decide))))
 obtain ⟨T252, h252, X252, e252, W252, st252⟩ := putF X250 hx hZ hown (host := "") (Or.inl (hw _ o_t129)) Via.refl e250 ff253 ((E_r0.wr W249).wr W250) (Or.inr ⟨(hw _ o_t130), rfl, hnm⟩) (hw _ o_t120) (ty := .long) (by decide) rfl rfl (g := (mkF m 16 #[.val (.ref r0), .val (.ref r1), .val (.ref r2), .val (.long y3), .second] [(.long y3), (.ref r0)])) rfl rfl (hb hby o_d26_16)
 have N252 := Fr.snoc X252 N250 g_r0
 have Fw252 := ff253.same W252
 refine o_go st252 ?_
 show o_Gs p e below _ T252 m 19 #[.val (.ref r0), .val (.ref r1), .val (.ref r2), .val (.long y3), .second] []
 have ff254 : Exa Z h252 r0 "com/example/quittance/quittance/dialect/Claim" := (((E_r0.wr W249).wr W250).wr W252)
 have ff255 : Fld Z h252 r0 "com/example/quittance/quittance/dialect/Claim" "transactionId" "Ljava/lang/String;" (.ref r1) := ((Fw249.other W250 (Or.inr (slot_ne (Or.inr (hw _ o_t126)) (Or.inr (hw _ o_t128)) (by decide) (t := (.object "java/lang/String")) (t' := (.object "java/lang/String")) (by decide) (by decide)))).other W252 (Or.inr (slot_ne (Or.inr (hw _ o_t126)) (Or.inr (hw _ o_t130)) (by decide) (t := (.object "java/lang/String")) (t' := .long) (by decide) (by decide))))
 have ff256 : Fld Z h252 r0 "com/example/quittance/quittance/dialect/Claim" "user" "Ljava/lang/String;" (.ref r2) := (Fw250.other W252 (Or.inr (slot_ne (Or.inr (hw _ o_t128)) (Or.inr (hw _ o_t130)) (by decide) (t := (.object "java/lang/String")) (t' := .long) (by decide) (by decide))))
 exact o_ret0 X252 hx hlk hret (hb hby o_d26_19) (by decide) (by decide) (by show o_Q26 Z r0 r1 r2 y3 h0 n0 _ T252.heap _; rw [e252]; exact ⟨rfl, N252, ((((Keep.refl h0 ([r0] : List Addr)).wr W249 (Or.inl (List.mem_of_getElem? (i := 0) rfl))).wr W250 (Or.inl (List.mem_of_getElem? (i := 0) rfl))).wr W252 (Or.inl (List.mem_of_getElem? (i := 0) rfl))), ff254, ff255, ff256, Fw252⟩)
theorem o_d27_0 : decode prog_12_method_5_code 0 = .ok (.aload_n 0, 1) := by decide +kernel
theorem o_d27_1 : decode prog_12_method_5_code 1 = .ok (.getfield 7, 3) := by decide +kernel
theorem o_d27_4 : decode prog_12_method_5_code 4 = .ok (.areturn, 1) := by decide +kernel
def o_Q27 (r0 : Addr) (u : Addr) (h0 : Heap) (n0 : Nat) (v : Option Value) (h : Heap) (L : List Loc) : Prop := v = some (.ref u) ∧ Fr n0 L ∧ h = h0
abbrev o_R27 : Room := { frames := 0, cells := 0, slots := 0, locals := 0 }
theorem o_ef27 (m : MethodId) (z0 : Addr) : entryFrame m #[(.ref z0)] 1 = mkF m 0 #[.val (.ref z0)] [] := by first | (simp [entryFrame, mkF, argsToLocals, Value.category]; done) | rfl
set_option maxRecDepth 65536 in
set_option maxHeartbeats 40000000 in
theorem rm27 (l : Launch) (Z : State) (a0 : Array Value) (hw : ∀ d ∈ tables_1, d.before a0 Z = true) (ws : List Jvm.Cond) (r0 : Addr) (u : Addr) (h0 : Heap) (n0 : Nat) (F_t : Fld Z h0 r0 "com/example/quittance/quittance/dialect/Claim" "transactionId" "Ljava/lang/String;" (.ref u)) : o_Met l Z (⟨"com/example/quittance/quittance/dialect/Claim", "transactionId", "()Ljava/lang/String;"⟩ : MethodName) prog_12_method_5_code 1 (some (.object "java/lang/String")) ws o_R27 #[(.ref r0)] h0 (o_Q27 r0 u h0 n0) := by
 refine o_met (plainFor_of_name o_pn5) ?_
 intro p e s m below meth c s₁ hx hby hml hown hnm hret hlk hZ e0 X0
 have N0 := Fr.nil n0
 have hml : c.maxLocals = 1 := hml
 have hown : s.vm.findClass "com/example/quittance/quittance/dialect/Claim" = some m.cls := hown
 have hret : meth.sig.returnType = (some (.object "java/lang/String")) := hret
 have hby : c.code = prog_12_method_5_code := hby
 have hnm : meth.name = "transactionId" := hnm
 rw [o_ef27]
 refine o_gi (XS.aloadN X0.here hx rfl (hb hby o_d27_0) rfl rfl) ?_
 show o_Gs p e below _ s₁ m 1 #[.val (.ref r0)] [(.ref r0)]
 obtain ⟨T257, X257, e257, st257⟩ := getF X0 hx hZ hown (host := "") (Or.inl (hw _ o_t125)) Via.refl e0 F_t (g := (mkF m 1 #[.val (.ref r0)] [(.ref r0)])) rfl rfl (hb hby o_d27_1)
 refine o_go st257 ?_
 show o_Gs p e below _ T257 m 4 #[.val (.ref r0)] [(.ref u)]
 exact o_retR X257 hx hlk hret rfl rfl (hb hby o_d27_4) (by decide) (by decide) ⟨rfl, N0, e257⟩
theorem o_d29_0 : decode prog_12_method_6_code 0 = .ok (.aload_n 0, 1) := by decide +kernel
theorem o_d29_1 : decode prog_12_method_6_code 1 = .ok (.getfield 13, 3) := by decide +kernel
theorem o_d29_4 : decode prog_12_method_6_code 4 = .ok (.areturn, 1) := by decide +kernel
def o_Q29 (r0 : Addr) (u : Addr) (h0 : Heap) (n0 : Nat) (v : Option Value) (h : Heap) (L : List Loc) : Prop := v = some (.ref u) ∧ Fr n0 L ∧ h = h0
abbrev o_R29 : Room := { frames := 0, cells := 0, slots := 0, locals := 0 }
theorem o_ef29 (m : MethodId) (z0 : Addr) : entryFrame m #[(.ref z0)] 1 = mkF m 0 #[.val (.ref z0)] [] := by first | (simp [entryFrame, mkF, argsToLocals, Value.category]; done) | rfl
set_option maxRecDepth 65536 in
set_option maxHeartbeats 40000000 in
theorem rm29 (l : Launch) (Z : State) (a0 : Array Value) (hw : ∀ d ∈ tables_1, d.before a0 Z = true) (ws : List Jvm.Cond) (r0 : Addr) (u : Addr) (h0 : Heap) (n0 : Nat) (F_u : Fld Z h0 r0 "com/example/quittance/quittance/dialect/Claim" "user" "Ljava/lang/String;" (.ref u)) : o_Met l Z (⟨"com/example/quittance/quittance/dialect/Claim", "user", "()Ljava/lang/String;"⟩ : MethodName) prog_12_method_6_code 1 (some (.object "java/lang/String")) ws o_R29 #[(.ref r0)] h0 (o_Q29 r0 u h0 n0) := by
 refine o_met (plainFor_of_name o_pn5) ?_
 intro p e s m below meth c s₁ hx hby hml hown hnm hret hlk hZ e0 X0
 have N0 := Fr.nil n0
 have hml : c.maxLocals = 1 := hml
 have hown : s.vm.findClass "com/example/quittance/quittance/dialect/Claim" = some m.cls := hown
 have hret : meth.sig.returnType = (some (.object "java/lang/String")) := hret
 have hby : c.code = prog_12_method_6_code := hby
 have hnm : meth.name = "user" := hnm
 rw [o_ef29]
 refine o_gi (XS.aloadN X0.here hx rfl (hb hby o_d29_0) rfl rfl) ?_
 show o_Gs p e below _ s₁ m 1 #[.val (.ref r0)] [(.ref r0)]
 obtain ⟨T258, X258, e258, st258⟩ := getF X0 hx hZ hown (host := "") (Or.inl (hw _ o_t127)) Via.refl e0 F_u (g := (mkF m 1 #[.val (.ref r0)] [(.ref r0)])) rfl rfl (hb hby o_d29_1)
 refine o_go st258 ?_
 show o_Gs p e below _ T258 m 4 #[.val (.ref r0)] [(.ref u)]
 exact o_retR X258 hx hlk hret rfl rfl (hb hby o_d29_4) (by decide) (by decide) ⟨rfl, N0, e258⟩
theorem o_d30_0 : decode prog_12_method_7_code 0 = .ok (.aload_n 0, 1) := by decide +kernel
theorem o_d30_1 : decode prog_12_method_7_code 1 = .ok (.getfield 16, 3) := by decide +kernel
theorem o_d30_4 : decode prog_12_method_7_code 4 = .ok (.lreturn, 1) := by decide +kernel
def o_Q30 (r0 : Addr) (y : Int64) (h0 : Heap) (n0 : Nat) (v : Option Value) (h : Heap) (L : List Loc) : Prop := v = some (.long y) ∧ Fr n0 L ∧ h = h0
abbrev o_R30 : Room := { frames := 0, cells := 0, slots := 0, locals := 0 }
theorem o_ef30 (m : MethodId) (z0 : Addr) : entryFrame m #[(.ref z0)] 1 = mkF m 0 #[.val (.ref z0)] [] := by first | (simp [entryFrame, mkF, argsToLocals, Value.category]; done) | rfl
set_option maxRecDepth 65536 in
set_option maxHeartbeats 40000000 in
theorem rm30 (l : Launch) (Z : State) (a0 : Array Value) (hw : ∀ d ∈ tables_1, d.before a0 Z = true) (ws : List Jvm.Cond) (r0 : Addr) (y : Int64) (h0 : Heap) (n0 : Nat) (F_a : Fld Z h0 r0 "com/example/quittance/quittance/dialect/Claim" "amount" "J" (.long y)) : o_Met l Z (⟨"com/example/quittance/quittance/dialect/Claim", "amount", "()J"⟩ : MethodName) prog_12_method_7_code 1 (some .long) ws o_R30 #[(.ref r0)] h0 (o_Q30 r0 y h0 n0) := by
 refine o_met (plainFor_of_name o_pn5) ?_
 intro p e s m below meth c s₁ hx hby hml hown hnm hret hlk hZ e0 X0
 have N0 := Fr.nil n0
 have hml : c.maxLocals = 1 := hml
 have hown : s.vm.findClass "com/example/quittance/quittance/dialect/Claim" = some m.cls := hown
 have hret : meth.sig.returnType = (some .long) := hret
 have hby : c.code = prog_12_method_7_code := hby
 have hnm : meth.name = "amount" := hnm
 rw [o_ef30]
 refine o_gi (XS.aloadN X0.here hx rfl (hb hby o_d30_0) rfl rfl) ?_
 show o_Gs p e below _ s₁ m 1 #[.val (.ref r0)] [(.ref r0)]
 obtain ⟨T259, X259, e259, st259⟩ := getF X0 hx hZ hown (host := "") (Or.inl (hw _ o_t129)) Via.refl e0 F_a (g := (mkF m 1 #[.val (.ref r0)] [(.ref r0)])) rfl rfl (hb hby o_d30_1)
 refine o_go st259 ?_
 show o_Gs p e below _ T259 m 4 #[.val (.ref r0)] [(.long y)]
 exact o_retJ X259 hx hlk hret (hb hby o_d30_4) (by decide) (by decide) ⟨rfl, N0, e259⟩
theorem o_d28_0 : decode jdk_42_method_66_code 0 = .ok (.aload_n 0, 1) := by decide +kernel
theorem o_d28_1 : decode jdk_42_method_66_code 1 = .ok (.aload_n 1, 1) := by decide +kernel
theorem o_d28_2 : decode jdk_42_method_66_code 2 = .ok (.if_acmp .ne 5, 3) := by decide +kernel
theorem o_d28_5 : decode jdk_42_method_66_code 5 = .ok (.iconst 1, 1) := by decide +kernel
theorem o_d28_6 : decode jdk_42_method_66_code 6 = .ok (.ireturn, 1) := by decide +kernel
def o_Q28 (r0 : Addr) (h0 : Heap) (n0 : Nat) (v : Option Value) (h : Heap) (L : List Loc) : Prop := v = some (.int 1) ∧ Fr n0 L ∧ h = h0
abbrev o_R28 : Room := { frames := 0, cells := 0, slots := 0, locals := 0 }
theorem o_ef28 (m : MethodId) (z1 : Addr) : entryFrame m #[(.ref z1), (.ref z1)] 3 = mkF m 0 #[.val (.ref z1), .val (.ref z1), .unset] [] := by first | (simp [entryFrame, mkF, argsToLocals, Value.category]; done) | rfl
set_option maxRecDepth 65536 in
set_option maxHeartbeats 40000000 in
theorem rm28 (l : Launch) (Z : State) (a0 : Array Value) (hw : ∀ d ∈ tables_1, d.before a0 Z = true) (ws : List Jvm.Cond) (r0 : Addr) (h0 : Heap) (n0 : Nat) : o_Met l Z (⟨"java/lang/String", "equals", "(Ljava/lang/Object;)Z"⟩ : MethodName) jdk_42_method_66_code 3 (some .boolean) ws o_R28 #[(.ref r0), (.ref r0)] h0 (o_Q28 r0 h0 n0) := by
 refine o_met (plainFor_of_name o_pn4) ?_
 intro p e s m below meth c s₁ hx hby hml hown hnm hret hlk hZ e0 X0
 have N0 := Fr.nil n0
 have hml : c.maxLocals = 3 := hml
 have hown : s.vm.findClass "java/lang/String" = some m.cls := hown
 have hret : meth.sig.returnType = (some .boolean) := hret
 have hby : c.code = jdk_42_method_66_code := hby
 have hnm : meth.name = "equals" := hnm
 rw [o_ef28]
 refine o_gi (XS.aloadN X0.here hx rfl (hb hby o_d28_0) rfl rfl) ?_
 refine o_gi (XS.aloadN X0.here hx rfl (hb hby o_d28_1) rfl rfl) ?_
 show o_Gs p e below _ s₁ m 2 #[.val (.ref r0), .val (.ref r0), .unset] [(.ref r0), (.ref r0)]
 have hd260 : r0 = r0 := rfl
 refine o_gi (Jvm.RoadKit.acmp (g := (mkF m 2 #[.val (.ref r0), .val (.ref r0), .unset] [(.ref r0), (.ref r0)])) X0 hx rfl rfl rfl (pc0 := 2) (pc' := 5) (same := true) rfl (hb hby o_d28_2) rfl (decide_eq_true (congrArg Value.ref hd260)) (by decide) (by decide)) ?_
 refine o_gi (XS.iconst X0.here hx rfl (hb hby o_d28_5)) ?_
 show o_Gs p e below _ s₁ m 6 #[.val (.ref r0), .val (.ref r0), .unset] [(.int 1)]
 exact o_retN X0 hx hlk hret (by simp) (z' := (1 : Int32)) rfl (hb hby o_d28_6) (by decide) (by decide) ⟨rfl, N0, e0⟩
abbrev o_EL : List (String × Nat) := []
theorem o_hEL {Z : State} {a0 : Array Value} (hw : ∀ d ∈ tables_1, d.before a0 Z = true) : EW Z a0 o_EL := EW.nil
theorem o_wS {Z : State} {a0 : Array Value} (hw : ∀ d ∈ tables_1, d.before a0 Z = true) : ∀ d ∈ Bundle.stringAtoms, d.before a0 Z = true := fun d hd => hw d ((by decide +kernel : ∀ d ∈ Bundle.stringAtoms, d ∈ tables_1) d hd)
theorem o_d13_0 : decode prog_12_method_2_code 0 = .ok (.ldc 20, 2) := by decide +kernel
theorem o_t61 : (Jvm.Cond.stringLink "com/example/quittance/quittance/dialect/Claim" (20 : Nat) "transaction id") ∈ tables_1 := List.mem_of_getElem? (i := 61) rfl
theorem o_d13_2 : decode prog_12_method_2_code 2 = .ok (.aload_n 0, 1) := by decide +kernel
theorem o_d13_3 : decode prog_12_method_2_code 3 = .ok (.bipush 64, 2) := by decide +kernel
theorem o_d13_5 : decode prog_12_method_2_code 5 = .ok (.invokestatic 22, 3) := by decide +kernel
theorem o_t64 : (Jvm.Cond.methodLink "com/example/quittance/quittance/dialect/Claim" (22 : Nat) ({ cls := "com/example/quittance/quittance/dialect/Claim", name := "checkId", desc := "(Ljava/lang/String;Ljava/lang/String;I)V" } : Jvm.MethodName)) ∈ tables_1 := List.mem_of_getElem? (i := 64) rfl
theorem o_pd18 : parseMethodDescriptor "(Ljava/lang/String;Ljava/lang/String;I)V" = some ⟨[(.object "java/lang/String"), (.object "java/lang/String"), .int], none⟩ := by decide +kernel
theorem o_t65 : (Jvm.Cond.static ({ cls := "com/example/quittance/quittance/dialect/Claim", name := "checkId", desc := "(Ljava/lang/String;Ljava/lang/String;I)V" } : Jvm.MethodName)) ∈ tables_1 := List.mem_of_getElem? (i := 65) rfl
theorem o_t59 : (Jvm.Cond.initialized "com/example/quittance/quittance/dialect/Claim") ∈ tables_1 := List.mem_of_getElem? (i := 59) rfl
theorem o_t66 : (Jvm.Cond.code ({ cls := "com/example/quittance/quittance/dialect/Claim", name := "checkId", desc := "(Ljava/lang/String;Ljava/lang/String;I)V" } : Jvm.MethodName) prog_12_method_4_code (3 : Nat) (Option.none : Option Jvm.ClassFile.FieldType)) ∈ tables_1 := List.mem_of_getElem? (i := 66) rfl
theorem o_d13_8 : decode prog_12_method_2_code 8 = .ok (.ldc 26, 2) := by decide +kernel
theorem o_t101 : (Jvm.Cond.stringLink "com/example/quittance/quittance/dialect/Claim" (26 : Nat) "user id") ∈ tables_1 := List.mem_of_getElem? (i := 101) rfl
theorem o_d13_10 : decode prog_12_method_2_code 10 = .ok (.aload_n 1, 1) := by decide +kernel
theorem o_d13_11 : decode prog_12_method_2_code 11 = .ok (.sipush 255, 3) := by decide +kernel
theorem o_d13_14 : decode prog_12_method_2_code 14 = .ok (.invokestatic 22, 3) := by decide +kernel
theorem o_d13_17 : decode prog_12_method_2_code 17 = .ok (.lload_n 2, 1) := by decide +kernel
theorem o_d13_18 : decode prog_12_method_2_code 18 = .ok (.lconst 1, 1) := by decide +kernel
theorem o_d13_19 : decode prog_12_method_2_code 19 = .ok (.lcmp, 1) := by decide +kernel
theorem o_d13_20 : decode prog_12_method_2_code 20 = .ok (.ifCond .lt 11, 3) := by decide +kernel
theorem o_d13_23 : decode prog_12_method_2_code 23 = .ok (.lload_n 2, 1) := by decide +kernel
theorem o_d13_24 : decode prog_12_method_2_code 24 = .ok (.ldc2_w 28, 3) := by decide +kernel
theorem o_t118 : (Jvm.Cond.constantLong "com/example/quittance/quittance/dialect/Claim" (28 : Nat) (1000000 : Int64)) ∈ tables_1 := List.mem_of_getElem? (i := 118) rfl
theorem o_d13_27 : decode prog_12_method_2_code 27 = .ok (.lcmp, 1) := by decide +kernel
theorem o_d13_28 : decode prog_12_method_2_code 28 = .ok (.ifCond .le 13, 3) := by decide +kernel
theorem o_d13_41 : decode prog_12_method_2_code 41 = .ok (.new 8, 3) := by decide +kernel
theorem o_t119 : (Jvm.Cond.classLink "com/example/quittance/quittance/dialect/Claim" (8 : Nat) "com/example/quittance/quittance/dialect/Claim") ∈ tables_1 := List.mem_of_getElem? (i := 119) rfl
theorem o_d13_44 : decode prog_12_method_2_code 44 = .ok (.dup, 1) := by decide +kernel
theorem o_d13_45 : decode prog_12_method_2_code 45 = .ok (.aload_n 0, 1) := by decide +kernel
theorem o_d13_46 : decode prog_12_method_2_code 46 = .ok (.aload_n 1, 1) := by decide +kernel
theorem o_d13_47 : decode prog_12_method_2_code 47 = .ok (.lload_n 2, 1) := by decide +kernel
theorem o_d13_48 : decode prog_12_method_2_code 48 = .ok (.invokespecial 37, 3) := by decide +kernel
theorem o_t121 : (Jvm.Cond.methodLink "com/example/quittance/quittance/dialect/Claim" (37 : Nat) ({ cls := "com/example/quittance/quittance/dialect/Claim", name := "<init>", desc := "(Ljava/lang/String;Ljava/lang/String;J)V" } : Jvm.MethodName)) ∈ tables_1 := List.mem_of_getElem? (i := 121) rfl
theorem o_pd19 : parseMethodDescriptor "(Ljava/lang/String;Ljava/lang/String;J)V" = some ⟨[(.object "java/lang/String"), (.object "java/lang/String"), .long], none⟩ := by decide +kernel
theorem o_t122 : (Jvm.Cond.instanceMethod ({ cls := "com/example/quittance/quittance/dialect/Claim", name := "<init>", desc := "(Ljava/lang/String;Ljava/lang/String;J)V" } : Jvm.MethodName)) ∈ tables_1 := List.mem_of_getElem? (i := 122) rfl
theorem o_t123 : (Jvm.Cond.code ({ cls := "com/example/quittance/quittance/dialect/Claim", name := "<init>", desc := "(Ljava/lang/String;Ljava/lang/String;J)V" } : Jvm.MethodName) prog_12_method_1_code (5 : Nat) (Option.none : Option Jvm.ClassFile.FieldType)) ∈ tables_1 := List.mem_of_getElem? (i := 123) rfl
theorem o_d13_51 : decode prog_12_method_2_code 51 = .ok (.areturn, 1) := by decide +kernel
def o_Q13 (Z : State) (r0 : Addr) (r1 : Addr) (y2 : Int64) (z_cs : Int32) (h0 : Heap) (n0 : Nat) (v : Option Value) (h : Heap) (L : List Loc) : Prop := ∃ b : Addr, v = some (.ref b) ∧ Fr n0 L ∧ Keep h0 h [] ∧ h0.size ≤ b ∧ Exa Z h b "com/example/quittance/quittance/dialect/Claim" ∧ Fld Z h b "com/example/quittance/quittance/dialect/Claim" "transactionId" "Ljava/lang/String;" (.ref r0) ∧ Fld Z h b "com/example/quittance/quittance/dialect/Claim" "user" "Ljava/lang/String;" (.ref r1) ∧ Fld Z h b "com/example/quittance/quittance/dialect/Claim" "amount" "J" (.long y2)
abbrev o_R13 : Room := { frames := 7, cells := 8, slots := 200, locals := 124 }
theorem o_ef13 (m : MethodId) (z0 : Addr) (z1 : Addr) (z2 : Int64) : entryFrame m #[(.ref z0), (.ref z1), (.long z2)] 4 = mkF m 0 #[.val (.ref z0), .val (.ref z1), .val (.long z2), .second] [] := by first | (simp [entryFrame, mkF, argsToLocals, Value.category]; done) | rfl
set_option maxRecDepth 65536 in
set_option maxHeartbeats 40000000 in
theorem rm13 (l : Launch) (Z : State) (a0 : Array Value) (hw : ∀ d ∈ tables_1, d.before a0 Z = true) (ws : List Jvm.Cond) (r0 : Addr) (r1 : Addr) (y2 : Int64) (z_cs : Int32) (h0 : Heap) (n0 : Nat) (Z0 : n0 ≤ h0.size) (O0 : Old Z n0 h0) (z_CS : ¬ z_cs = 0) (I_r0 : o_Id Z h0 r0 (64 : Int32)) (I_r1 : o_Id Z h0 r1 (255 : Int32)) (hy1 : ¬ y2 < (1 : Int64)) (hy2 : ¬ (1000000 : Int64) < y2) (S_z_cs : Sta Z Z.heap "java/lang/String" "COMPACT_STRINGS" "Z" (.int z_cs)) (S_ad : Sta Z Z.heap "java/lang/StringUTF16" "$assertionsDisabled" "Z" (.int 1)) (S_hi : Sta Z Z.heap "java/lang/StringUTF16" "HI_BYTE_SHIFT" "I" (.int 0)) (S_lo : Sta Z Z.heap "java/lang/StringUTF16" "LO_BYTE_SHIFT" "I" (.int 8)) : o_MetW l Z o_EL (⟨"com/example/quittance/quittance/dialect/Claim", "of", "(Ljava/lang/String;Ljava/lang/String;J)Lcom/example/quittance/quittance/dialect/Claim;"⟩ : MethodName) prog_12_method_2_code 4 (some (.object "com/example/quittance/quittance/dialect/Claim")) ws o_R13 #[(.ref r0), (.ref r1), (.long y2)] h0 (o_Q13 Z r0 r1 y2 z_cs h0 n0) := by
 refine o_metW (plainFor_of_name o_pn5) ?_
 intro p e s m below meth c s₁ hx hby hml hown hnm hret hlk hZ e0 hS C0 X0
 have N0 := Fr.nil n0
 have hml : c.maxLocals = 4 := hml
 have hown : (s.setVm s.vm).vm.findClass "com/example/quittance/quittance/dialect/Claim" = some m.cls := hown
 have hret : meth.sig.returnType = (some (.object "com/example/quittance/quittance/dialect/Claim")) := hret
 have hby : c.code = prog_12_method_2_code := hby
 have hnm : meth.name = "of" := hnm
 rw [o_ef13]
 show o_Gs p e below _ s₁ m 0 #[.val (.ref r0), .val (.ref r1), .val (.long y2), .second] []
 obtain ⟨a261, T261, h261, kk261, X261, e261, E261, hS261, hk261, hZ, hown, CS261, -, st261⟩ := ldcOH X0 hx hZ hown (hw _ o_t61) (o_wS hw) e0 hS (Nat.zero_le _) (o_hEL hw) C0.1 (g := (mkF m 0 #[.val (.ref r0), .val (.ref r1), .val (.long y2), .second] [])) rfl (hb hby o_d13_0) (n := 56) (by decide) (by decide) (by decide) (by decide)
 refine o_go st261 ?_
 have CC261 := C0.trans CS261
 refine o_gi (XS.aloadN X261.here hx rfl (hb hby o_d13_2) rfl rfl) ?_
 refine o_gi (XS.bipush X261.here hx rfl (hb hby o_d13_3)) ?_
 show o_Gs p e below _ T261 m 5 #[.val (.ref r0), .val (.ref r1), .val (.long y2), .second] [(.int 64), (.ref r0), (.ref a261)]
 obtain ⟨_, T262, L262, X262, ⟨rfl, N262q, e262⟩, st262⟩ := o_callS X261 hx hZ hown (hw _ o_t64) (hw _ o_t65) (hw _ o_t59) (hw _ o_t66) (by decide) (as := [(.ref a261), (.ref r0), (.int 64)]) (rm14 l Z a0 hw [] a261 r0 (64 : Int32) z_cs h261 n0 (Nat.le_trans Z0 E261.1) (O0.ext E261) z_CS (I_r0.ext E261) S_z_cs S_ad S_hi S_lo) e261 o_pd18 rfl (pc := 5) (Ls := #[.val (.ref r0), .val (.ref r1), .val (.long y2), .second]) (rest := []) (W := 0) (by rw [hml]; rfl) (Nat.le_of_eq rfl) (by decide) (by decide) (hb hby o_d13_5) (by decide) (by decide)
 have N262 := Fr.app N0 N262q
 refine o_go st262 ?_
 show o_Gs p e below _ T262 m 8 #[.val (.ref r0), .val (.ref r1), .val (.long y2), .second] []
 obtain ⟨a263, T263, h263, kk263, X263, e263, E263, hS263, hk263, hZ, hown, CS263, -, st263⟩ := ldcOH X262 hx hZ hown (hw _ o_t101) (o_wS hw) e262 hS261 hk261 (o_hEL hw) CC261.1 (g := (mkF m 8 #[.val (.ref r0), .val (.ref r1), .val (.long y2), .second] [])) rfl (hb hby o_d13_8) (n := 28) (by decide) (by decide) (by decide) (by decide)
 refine o_go st263 ?_
 have CC263 := CC261.trans CS263
 refine o_gi (XS.aloadN X263.here hx rfl (hb hby o_d13_10) rfl rfl) ?_
 refine o_gi (XS.sipush X263.here hx rfl (hb hby o_d13_11)) ?_
 show o_Gs p e below _ T263 m 14 #[.val (.ref r0), .val (.ref r1), .val (.long y2), .second] [(.int 255), (.ref r1), (.ref a263)]
 obtain ⟨_, T264, L264, X264, ⟨rfl, N264q, e264⟩, st264⟩ := o_callS X263 hx hZ hown (hw _ o_t64) (hw _ o_t65) (hw _ o_t59) (hw _ o_t66) (by decide) (as := [(.ref a263), (.ref r1), (.int 255)]) (rm14 l Z a0 hw [] a263 r1 (255 : Int32) z_cs h263 n0 (Nat.le_trans (Nat.le_trans Z0 E261.1) E263.1) ((O0.ext E261).ext E263) z_CS ((I_r1.ext E261).ext E263) S_z_cs S_ad S_hi S_lo) e263 o_pd18 rfl (pc := 14) (Ls := #[.val (.ref r0), .val (.ref r1), .val (.long y2), .second]) (rest := []) (W := 0) (by rw [hml]; rfl) (Nat.le_of_eq rfl) (by decide) (by decide) (hb hby o_d13_14) (by decide) (by decide)
 have N264 := Fr.app N262 N264q
 refine o_go st264 ?_
 refine o_gi (XS.lloadN X264.here hx rfl (hb hby o_d13_17) rfl) ?_
 show o_Gs p e below _ T264 m 18 #[.val (.ref r0), .val (.ref r1), .val (.long y2), .second] [(.long y2)]
 refine o_gi (XS.lconst X264.here hx rfl (hb hby o_d13_18)) ?_
 show o_Gs p e below _ T264 m 19 #[.val (.ref r0), .val (.ref r1), .val (.long y2), .second] [(.long (1 : Int64)), (.long y2)]
 refine o_gi (XS.lcmp X264.here hx rfl (hb hby o_d13_19) rfl) ?_
 show o_Gs p e below _ T264 m 20 #[.val (.ref r0), .val (.ref r1), .val (.long y2), .second] [(.int (lcmpW y2 (1 : Int64)))]
 have hd265 : ¬ (y2 < (1 : Int64)) := hy1
 refine o_gi (XS.ifNo X264.here hx rfl (hb hby o_d13_20) rfl ((if0 _ _).trans (flt (fun q => hd265 ((lw_lt _ _).mp q))).1)) ?_
 refine o_gi (XS.lloadN X264.here hx rfl (hb hby o_d13_23) rfl) ?_
 show o_Gs p e below _ T264 m 24 #[.val (.ref r0), .val (.ref r1), .val (.long y2), .second] [(.long y2)]
 refine o_go (X264.ldc2Long hx hown (mvT hZ (hw _ o_t118)) (g := (mkF m 24 #[.val (.ref r0), .val (.ref r1), .val (.long y2), .second] [(.long y2)])) rfl (hb hby o_d13_24)) ?_
 show o_Gs p e below _ T264 m 27 #[.val (.ref r0), .val (.ref r1), .val (.long y2), .second] [(.long (1000000 : Int64)), (.long y2)]
 refine o_gi (XS.lcmp X264.here hx rfl (hb hby o_d13_27) rfl) ?_
 show o_Gs p e below _ T264 m 28 #[.val (.ref r0), .val (.ref r1), .val (.long y2), .second] [(.int (lcmpW y2 (1000000 : Int64)))]
 have hd266 : ¬ ((1000000 : Int64) < y2) := hy2
 refine o_gi (XS.ifYes X264.here hx rfl (pc0 := 28) (pc' := 41) rfl (hb hby o_d13_28) rfl ((if0 _ _).trans (flt (fun q => hd266 ((lw_gt _ _).mp q))).2.2.2) (by decide) (by decide)) ?_
 show o_Gs p e below _ T264 m 41 #[.val (.ref r0), .val (.ref r1), .val (.long y2), .second] []
 obtain ⟨T267, h267, X267, e267, E267, A267, D267, -, st267⟩ := newO X264 hx hZ hown (hw _ o_t119) (hw _ o_t120) (hw _ o_t59) e264 (g := (mkF m 41 #[.val (.ref r0), .val (.ref r1), .val (.long y2), .second] [])) rfl (hb hby o_d13_41) (by decide) (by decide)
 obtain ⟨b267, q267⟩ : ∃ z, z = h263.size := ⟨_, rfl⟩
 rw [← q267] at A267 D267 st267
 have lt_b267 : h263.size ≤ b267 := Nat.le_of_eq q267.symm
 have g_b267 : n0 ≤ b267 := Nat.le_trans (Nat.le_trans (Nat.le_trans Z0 E261.1) E263.1) lt_b267
 have sz_b267 : h0.size ≤ b267 := Nat.le_trans (((Keep.refl h0 ([] : List Addr)).ext E261).ext E263).1 lt_b267
 have F267_transactionId : Fld Z h267 b267 "com/example/quittance/quittance/dialect/Claim" "transactionId" "Ljava/lang/String;" .null := D267 (Or.inr (hw _ o_t126)) (ty := (.object "java/lang/String")) (by decide)
 have F267_user : Fld Z h267 b267 "com/example/quittance/quittance/dialect/Claim" "user" "Ljava/lang/String;" .null := D267 (Or.inr (hw _ o_t128)) (ty := (.object "java/lang/String")) (by decide)
 have F267_amount : Fld Z h267 b267 "com/example/quittance/quittance/dialect/Claim" "amount" "J" (.long (0 : Int64)) := D267 (Or.inr (hw _ o_t130)) (ty := .long) (by decide)
 refine o_go st267 ?_
 have CC267 := CC263.trans (CHr.ext E267 CC263.1)
 refine o_gi (XS.dup X267.here hx rfl (hb hby o_d13_44) rfl rfl) ?_
 refine o_gi (XS.aloadN X267.here hx rfl (hb hby o_d13_45) rfl rfl) ?_
 refine o_gi (XS.aloadN X267.here hx rfl (hb hby o_d13_46) rfl rfl) ?_
 refine o_gi (XS.lloadN X267.here hx rfl (hb hby o_d13_47) rfl) ?_
 show o_Gs p e below _ T267 m 48 #[.val (.ref r0), .val (.ref r1), .val (.long y2), .second] [(.long y2), (.ref r1), (.ref r0), (.ref b267), (.ref b267)]
 obtain ⟨_, T268, L268, X268, ⟨rfl, N268q, K268, G268_0, G268_1, G268_2, G268_3⟩, st268⟩ := o_callI X267 hx hZ rfl hown (hw _ o_t121) (hw _ o_t122) (hw _ o_t59) (hw _ o_t123) (by decide) (b := b267) (as := [(.ref r0), (.ref r1), (.long y2)]) (rm26 l Z a0 hw [] b267 r0 r1 y2 h267 n0 (Nat.le_trans (Nat.le_trans (Nat.le_trans Z0 E261.1) E263.1) E267.1) g_b267 A267 F267_transactionId F267_user F267_amount) e267 o_pd19 rfl (pc := 48) (Ls := #[.val (.ref r0), .val (.ref r1), .val (.long y2), .second]) (rest := [(.ref b267)]) (W := 1) (by rw [hml]; rfl) (Nat.le_of_eq rfl) (by decide) (by decide) (hb hby o_d13_48) (by decide) (by decide)
 have N268 := Fr.app N264 N268q
 refine o_go st268 ?_
 have CC268 := CC267.trans (CHr.keep K268 (allS o_safe0 all0) CC267.1)
 show o_Gs p e below _ T268 m 51 #[.val (.ref r0), .val (.ref r1), .val (.long y2), .second] [(.ref b267)]
 exact o_retRW hS263 (Nat.le_trans (Nat.le_trans hk263 E267.1) K268.1) hZ (o_hEL hw) CC268 rfl X268 hx hlk hret rfl rfl (hb hby o_d13_51) (by decide) (by decide) (⟨_, rfl, N268, (((((Keep.refl h0 ([] : List Addr)).ext E261).ext E263).ext E267).trans K268 (fun x hx => by cases List.mem_singleton.mp hx; exact Or.inr sz_b267)), sz_b267, G268_0, G268_1, G268_2, G268_3⟩)
theorem o_yv (y : Int64) : 0 ≤ ((y &&& (9223372036854775807 : Int64)) - ((y &&& (9223372036854775807 : Int64)) / (1000000 : Int64)) * (1000000 : Int64)).toInt ∧ ((y &&& (9223372036854775807 : Int64)) - ((y &&& (9223372036854775807 : Int64)) / (1000000 : Int64)) * (1000000 : Int64)).toInt < 1000000 := by
 have h := Jvm.Kit.i64_mask y 9223372036854775807 (k := 63) (by decide) (by decide)
 rw [(c_lrem (y &&& (9223372036854775807 : Int64)) 1000000 1000000 rfl).1 (by omega)]
 omega
theorem o_y0 {z : Int64} (h : 0 ≤ z.toInt ∧ z.toInt < 1000000) : (z + (1 : Int64)).toInt = z.toInt + 1 := Jvm.Kit.i64_add (by rw [show (1 : Int64).toInt = 1 from rfl]; omega) (by rw [show (1 : Int64).toInt = 1 from rfl]; omega)
theorem o_y1 (y : Int64) : ¬ (((y &&& (9223372036854775807 : Int64)) - ((y &&& (9223372036854775807 : Int64)) / (1000000 : Int64)) * (1000000 : Int64)) + (1 : Int64)) < (1 : Int64) := by
 have q := o_yv y
 rw [Int64.lt_iff_toInt_lt, o_y0 q, show (1 : Int64).toInt = 1 from rfl]
 omega
theorem o_y2 (y : Int64) : ¬ (1000000 : Int64) < (((y &&& (9223372036854775807 : Int64)) - ((y &&& (9223372036854775807 : Int64)) / (1000000 : Int64)) * (1000000 : Int64)) + (1 : Int64)) := by
 have q := o_yv y
 rw [Int64.lt_iff_toInt_lt, o_y0 q, show (1000000 : Int64).toInt = 1000000 from rfl]
 omega
theorem o_t0 : (Jvm.Cond.methodLink "com/example/quittance/quittance/dialect/ClaimOfPinLaw" (14 : Nat) ({ cls := "com/example/quittance/quittance/dialect/ClaimOfPinLaw", name := "id", desc := "(III)Ljava/lang/String;" } : Jvm.MethodName)) ∈ tables_1 := List.mem_of_getElem? (i := 0) rfl
theorem o_pd20 : parseMethodDescriptor "(III)Ljava/lang/String;" = some ⟨[.int, .int, .int], some (.object "java/lang/String")⟩ := by decide +kernel
theorem o_t1 : (Jvm.Cond.static ({ cls := "com/example/quittance/quittance/dialect/ClaimOfPinLaw", name := "id", desc := "(III)Ljava/lang/String;" } : Jvm.MethodName)) ∈ tables_1 := List.mem_of_getElem? (i := 1) rfl
theorem o_t2 : (Jvm.Cond.initialized "com/example/quittance/quittance/dialect/ClaimOfPinLaw") ∈ tables_1 := List.mem_of_getElem? (i := 2) rfl
theorem o_t3 : (Jvm.Cond.code ({ cls := "com/example/quittance/quittance/dialect/ClaimOfPinLaw", name := "id", desc := "(III)Ljava/lang/String;" } : Jvm.MethodName) method_2_code (6 : Nat) (Option.some (Jvm.ClassFile.FieldType.object "java/lang/String"))) ∈ tables_1 := List.mem_of_getElem? (i := 3) rfl
theorem o_t55 : (Jvm.Cond.constantLong "com/example/quittance/quittance/dialect/ClaimOfPinLaw" (22 : Nat) (9223372036854775807 : Int64)) ∈ tables_1 := List.mem_of_getElem? (i := 55) rfl
theorem o_t56 : (Jvm.Cond.constantLong "com/example/quittance/quittance/dialect/ClaimOfPinLaw" (24 : Nat) (1000000 : Int64)) ∈ tables_1 := List.mem_of_getElem? (i := 56) rfl
theorem o_t57 : (Jvm.Cond.methodLink "com/example/quittance/quittance/dialect/ClaimOfPinLaw" (26 : Nat) ({ cls := "com/example/quittance/quittance/dialect/Claim", name := "of", desc := "(Ljava/lang/String;Ljava/lang/String;J)Lcom/example/quittance/quittance/dialect/Claim;" } : Jvm.MethodName)) ∈ tables_1 := List.mem_of_getElem? (i := 57) rfl
theorem o_pd21 : parseMethodDescriptor "(Ljava/lang/String;Ljava/lang/String;J)Lcom/example/quittance/quittance/dialect/Claim;" = some ⟨[(.object "java/lang/String"), (.object "java/lang/String"), .long], some (.object "com/example/quittance/quittance/dialect/Claim")⟩ := by decide +kernel
theorem o_t58 : (Jvm.Cond.static ({ cls := "com/example/quittance/quittance/dialect/Claim", name := "of", desc := "(Ljava/lang/String;Ljava/lang/String;J)Lcom/example/quittance/quittance/dialect/Claim;" } : Jvm.MethodName)) ∈ tables_1 := List.mem_of_getElem? (i := 58) rfl
theorem o_t60 : (Jvm.Cond.code ({ cls := "com/example/quittance/quittance/dialect/Claim", name := "of", desc := "(Ljava/lang/String;Ljava/lang/String;J)Lcom/example/quittance/quittance/dialect/Claim;" } : Jvm.MethodName) prog_12_method_2_code (4 : Nat) (Option.some (Jvm.ClassFile.FieldType.object "com/example/quittance/quittance/dialect/Claim"))) ∈ tables_1 := List.mem_of_getElem? (i := 60) rfl
theorem o_t131 : (Jvm.Cond.methodLink "com/example/quittance/quittance/dialect/ClaimOfPinLaw" (32 : Nat) ({ cls := "com/example/quittance/quittance/dialect/Claim", name := "transactionId", desc := "()Ljava/lang/String;" } : Jvm.MethodName)) ∈ tables_1 := List.mem_of_getElem? (i := 131) rfl
theorem o_pd22 : parseMethodDescriptor "()Ljava/lang/String;" = some ⟨[], some (.object "java/lang/String")⟩ := by decide +kernel
theorem o_t132 : (Jvm.Cond.declares ({ cls := "com/example/quittance/quittance/dialect/Claim", name := "transactionId", desc := "()Ljava/lang/String;" } : Jvm.MethodName)) ∈ tables_1 := List.mem_of_getElem? (i := 132) rfl
theorem o_t134 : (Jvm.Cond.selects "com/example/quittance/quittance/dialect/Claim" ({ cls := "com/example/quittance/quittance/dialect/Claim", name := "transactionId", desc := "()Ljava/lang/String;" } : Jvm.MethodName) ({ cls := "com/example/quittance/quittance/dialect/Claim", name := "transactionId", desc := "()Ljava/lang/String;" } : Jvm.MethodName)) ∈ tables_1 := List.mem_of_getElem? (i := 134) rfl
theorem o_t133 : (Jvm.Cond.instanceMethod ({ cls := "com/example/quittance/quittance/dialect/Claim", name := "transactionId", desc := "()Ljava/lang/String;" } : Jvm.MethodName)) ∈ tables_1 := List.mem_of_getElem? (i := 133) rfl
theorem o_t135 : (Jvm.Cond.code ({ cls := "com/example/quittance/quittance/dialect/Claim", name := "transactionId", desc := "()Ljava/lang/String;" } : Jvm.MethodName) prog_12_method_5_code (1 : Nat) (Option.some (Jvm.ClassFile.FieldType.object "java/lang/String"))) ∈ tables_1 := List.mem_of_getElem? (i := 135) rfl
theorem o_t136 : (Jvm.Cond.methodLink "com/example/quittance/quittance/dialect/ClaimOfPinLaw" (36 : Nat) ({ cls := "java/lang/String", name := "equals", desc := "(Ljava/lang/Object;)Z" } : Jvm.MethodName)) ∈ tables_1 := List.mem_of_getElem? (i := 136) rfl
theorem o_pd23 : parseMethodDescriptor "(Ljava/lang/Object;)Z" = some ⟨[(.object "java/lang/Object")], some .boolean⟩ := by decide +kernel
theorem o_t137 : (Jvm.Cond.declares ({ cls := "java/lang/String", name := "equals", desc := "(Ljava/lang/Object;)Z" } : Jvm.MethodName)) ∈ tables_1 := List.mem_of_getElem? (i := 137) rfl
theorem o_t139 : (Jvm.Cond.selects "java/lang/String" ({ cls := "java/lang/String", name := "equals", desc := "(Ljava/lang/Object;)Z" } : Jvm.MethodName) ({ cls := "java/lang/String", name := "equals", desc := "(Ljava/lang/Object;)Z" } : Jvm.MethodName)) ∈ tables_1 := List.mem_of_getElem? (i := 139) rfl
theorem o_t138 : (Jvm.Cond.instanceMethod ({ cls := "java/lang/String", name := "equals", desc := "(Ljava/lang/Object;)Z" } : Jvm.MethodName)) ∈ tables_1 := List.mem_of_getElem? (i := 138) rfl
theorem o_t140 : (Jvm.Cond.code ({ cls := "java/lang/String", name := "equals", desc := "(Ljava/lang/Object;)Z" } : Jvm.MethodName) jdk_42_method_66_code (3 : Nat) (Option.some Jvm.ClassFile.FieldType.boolean)) ∈ tables_1 := List.mem_of_getElem? (i := 140) rfl
theorem o_t141 : (Jvm.Cond.methodLink "com/example/quittance/quittance/dialect/ClaimOfPinLaw" (40 : Nat) ({ cls := "com/example/quittance/quittance/dialect/Claim", name := "user", desc := "()Ljava/lang/String;" } : Jvm.MethodName)) ∈ tables_1 := List.mem_of_getElem? (i := 141) rfl
theorem o_t142 : (Jvm.Cond.declares ({ cls := "com/example/quittance/quittance/dialect/Claim", name := "user", desc := "()Ljava/lang/String;" } : Jvm.MethodName)) ∈ tables_1 := List.mem_of_getElem? (i := 142) rfl
theorem o_t144 : (Jvm.Cond.selects "com/example/quittance/quittance/dialect/Claim" ({ cls := "com/example/quittance/quittance/dialect/Claim", name := "user", desc := "()Ljava/lang/String;" } : Jvm.MethodName) ({ cls := "com/example/quittance/quittance/dialect/Claim", name := "user", desc := "()Ljava/lang/String;" } : Jvm.MethodName)) ∈ tables_1 := List.mem_of_getElem? (i := 144) rfl
theorem o_t143 : (Jvm.Cond.instanceMethod ({ cls := "com/example/quittance/quittance/dialect/Claim", name := "user", desc := "()Ljava/lang/String;" } : Jvm.MethodName)) ∈ tables_1 := List.mem_of_getElem? (i := 143) rfl
theorem o_t145 : (Jvm.Cond.code ({ cls := "com/example/quittance/quittance/dialect/Claim", name := "user", desc := "()Ljava/lang/String;" } : Jvm.MethodName) prog_12_method_6_code (1 : Nat) (Option.some (Jvm.ClassFile.FieldType.object "java/lang/String"))) ∈ tables_1 := List.mem_of_getElem? (i := 145) rfl
theorem o_t146 : (Jvm.Cond.methodLink "com/example/quittance/quittance/dialect/ClaimOfPinLaw" (43 : Nat) ({ cls := "com/example/quittance/quittance/dialect/Claim", name := "amount", desc := "()J" } : Jvm.MethodName)) ∈ tables_1 := List.mem_of_getElem? (i := 146) rfl
theorem o_pd24 : parseMethodDescriptor "()J" = some ⟨[], some .long⟩ := by decide +kernel
theorem o_t147 : (Jvm.Cond.declares ({ cls := "com/example/quittance/quittance/dialect/Claim", name := "amount", desc := "()J" } : Jvm.MethodName)) ∈ tables_1 := List.mem_of_getElem? (i := 147) rfl
theorem o_t149 : (Jvm.Cond.selects "com/example/quittance/quittance/dialect/Claim" ({ cls := "com/example/quittance/quittance/dialect/Claim", name := "amount", desc := "()J" } : Jvm.MethodName) ({ cls := "com/example/quittance/quittance/dialect/Claim", name := "amount", desc := "()J" } : Jvm.MethodName)) ∈ tables_1 := List.mem_of_getElem? (i := 149) rfl
theorem o_t148 : (Jvm.Cond.instanceMethod ({ cls := "com/example/quittance/quittance/dialect/Claim", name := "amount", desc := "()J" } : Jvm.MethodName)) ∈ tables_1 := List.mem_of_getElem? (i := 148) rfl
theorem o_t150 : (Jvm.Cond.code ({ cls := "com/example/quittance/quittance/dialect/Claim", name := "amount", desc := "()J" } : Jvm.MethodName) prog_12_method_7_code (1 : Nat) (Option.some Jvm.ClassFile.FieldType.long)) ∈ tables_1 := List.mem_of_getElem? (i := 150) rfl
def o_f0  : Int32 := (1 : Int32)
def o_Q0 (x0 : Int32) (x1 : Int32) (y2 : Int64) (z_cs : Int32) (h0 : Heap) (n0 : Nat) (v : Option Value) (h : Heap) (L : List Loc) : Prop := v = some (.int o_f0) ∧ Fr n0 L ∧ True
theorem o_ef0 (m : MethodId) (z0 : Int32) (z1 : Int32) (z2 : Int64) : entryFrame m #[(.int z0), (.int z1), (.long z2)] maxLocals = mkF m 0 #[.val (.int z0), .val (.int z1), .val (.long z2), .second, .unset, .unset, .unset, .unset, .unset] [] := by first | (simp [entryFrame, mkF, argsToLocals, Value.category, maxLocals]; done) | rfl
set_option maxRecDepth 65536 in
set_option maxHeartbeats 40000000 in
theorem rm0 (l : Launch) (Z : State) (a0 : Array Value) (hw : ∀ d ∈ tables_1, d.before a0 Z = true) (ws : List Jvm.Cond) (x0 : Int32) (x1 : Int32) (y2 : Int64) (z_cs : Int32) (h0 : Heap) (n0 : Nat) (Z0 : n0 ≤ h0.size) (O0 : Old Z n0 h0) (z_CS : ¬ z_cs = 0) (S_z_cs : Sta Z Z.heap "java/lang/String" "COMPACT_STRINGS" "Z" (.int z_cs)) (S_ad : Sta Z Z.heap "java/lang/StringUTF16" "$assertionsDisabled" "Z" (.int 1)) (S_hi : Sta Z Z.heap "java/lang/StringUTF16" "HI_BYTE_SHIFT" "I" (.int 0)) (S_lo : Sta Z Z.heap "java/lang/StringUTF16" "LO_BYTE_SHIFT" "I" (.int 8)) : o_MetW l Z o_EL x code maxLocals ret ws room_1 #[(.int x0), (.int x1), (.long y2)] h0 (o_Q0 x0 x1 y2 z_cs h0 n0) := by
 refine o_metW (plainFor_of_name o_pn6) ?_
 intro p e s m below meth c s₁ hx hby hml hown hnm hret hlk hZ e0 hS C0 X0
 have N0 := Fr.nil n0
 have hml : c.maxLocals = 9 := hml
 have hown : (s.setVm s.vm).vm.findClass "com/example/quittance/quittance/dialect/ClaimOfPinLaw" = some m.cls := hown
 have hret : meth.sig.returnType = (some .boolean) := hret
 have hby : c.code = code := hby
 have hnm : meth.name = "law" := hnm
 rw [o_ef0]
 refine o_gi (XS.iloadN X0.here hx rfl (hb hby at_0) rfl) ?_
 refine o_gi (XS.iconst X0.here hx rfl (hb hby at_1)) ?_
 show o_Gs p e below _ s₁ m 2 #[.val (.int x0), .val (.int x1), .val (.long y2), .second, .unset, .unset, .unset, .unset, .unset] [(.int 3), (.int x0)]
 refine o_gi (XS.iand X0.here hx rfl (hb hby at_2) rfl) ?_
 refine o_gi (XS.iloadN X0.here hx rfl (hb hby at_3) rfl) ?_
 refine o_gi (XS.bipush X0.here hx rfl (hb hby at_4)) ?_
 show o_Gs p e below _ s₁ m 6 #[.val (.int x0), .val (.int x1), .val (.long y2), .second, .unset, .unset, .unset, .unset, .unset] [(.int 64), (.int x0), (.int (x0 &&& (3 : Int32)))]
 obtain ⟨_, T269, L269, X269, ⟨b269, rfl, N269q, K269, lt_b269, G269_0⟩, st269⟩ := o_callS X0 hx hZ hown (hw _ o_t0) (hw _ o_t1) (hw _ o_t2) (hw _ o_t3) (by decide) (as := [(.int (x0 &&& (3 : Int32))), (.int x0), (.int 64)]) (rm1_64 l Z a0 hw [] (x0 &&& (3 : Int32)) x0 z_cs h0 n0 Z0 O0 z_CS (o_k3 _) S_z_cs S_ad S_hi S_lo) e0 o_pd20 rfl (pc := 6) (Ls := #[.val (.int x0), .val (.int x1), .val (.long y2), .second, .unset, .unset, .unset, .unset, .unset]) (rest := []) (W := 0) (by rw [hml]; rfl) (Nat.le_of_eq rfl) (by decide) (by decide) (hb hby at_6) (by decide) (by decide)
 have N269 := Fr.app N0 N269q
 have g_b269 : n0 ≤ b269 := Nat.le_trans Z0 lt_b269
 refine o_go st269 ?_
 have CC269 := C0.trans (CHr.keep K269 all0 C0.1)
 refine o_gi (XS.astore X269.here hx rfl (hb hby at_9) rfl rfl (l' := #[.val (.int x0), .val (.int x1), .val (.long y2), .second, .val (.ref b269), .unset, .unset, .unset, .unset]) rfl) ?_
 refine o_gi (XS.iloadN X269.here hx rfl (hb hby at_11) rfl) ?_
 refine o_gi (XS.iconst X269.here hx rfl (hb hby at_12)) ?_
 show o_Gs p e below _ T269 m 13 #[.val (.int x0), .val (.int x1), .val (.long y2), .second, .val (.ref b269), .unset, .unset, .unset, .unset] [(.int 3), (.int x1)]
 refine o_gi (XS.iand X269.here hx rfl (hb hby at_13) rfl) ?_
 refine o_gi (XS.iloadN X269.here hx rfl (hb hby at_14) rfl) ?_
 refine o_gi (XS.sipush X269.here hx rfl (hb hby at_15)) ?_
 show o_Gs p e below _ T269 m 18 #[.val (.int x0), .val (.int x1), .val (.long y2), .second, .val (.ref b269), .unset, .unset, .unset, .unset] [(.int 255), (.int x1), (.int (x1 &&& (3 : Int32)))]
 obtain ⟨_, T270, L270, X270, ⟨b270, rfl, N270q, K270, lt_b270, G270_0⟩, st270⟩ := o_callS X269 hx hZ hown (hw _ o_t0) (hw _ o_t1) (hw _ o_t2) (hw _ o_t3) (by decide) (as := [(.int (x1 &&& (3 : Int32))), (.int x1), (.int 255)]) (rm1_255 l Z a0 hw [] (x1 &&& (3 : Int32)) x1 z_cs T269.heap n0 (Nat.le_trans Z0 K269.1) (O0.keep K269 all0) z_CS (o_k3 _) S_z_cs S_ad S_hi S_lo) rfl o_pd20 rfl (pc := 18) (Ls := #[.val (.int x0), .val (.int x1), .val (.long y2), .second, .val (.ref b269), .unset, .unset, .unset, .unset]) (rest := []) (W := 0) (by rw [hml]; rfl) (Nat.le_of_eq rfl) (by decide) (by decide) (hb hby at_18) (by decide) (by decide)
 have N270 := Fr.app N269 N270q
 have ne_b269_b270 : b269 ≠ b270 := Nat.ne_of_lt (Nat.lt_of_lt_of_le G269_0.lt lt_b270)
 have g_b270 : n0 ≤ b270 := Nat.le_trans (Nat.le_trans Z0 K269.1) lt_b270
 refine o_go st270 ?_
 have CC270 := CC269.trans (CHr.keep K270 all0 CC269.1)
 refine o_gi (XS.astore X270.here hx rfl (hb hby at_21) rfl rfl (l' := #[.val (.int x0), .val (.int x1), .val (.long y2), .second, .val (.ref b269), .val (.ref b270), .unset, .unset, .unset]) rfl) ?_
 refine o_gi (XS.lloadN X270.here hx rfl (hb hby at_23) rfl) ?_
 show o_Gs p e below _ T270 m 24 #[.val (.int x0), .val (.int x1), .val (.long y2), .second, .val (.ref b269), .val (.ref b270), .unset, .unset, .unset] [(.long y2)]
 refine o_go (X270.ldc2Long hx hown (mvT hZ (hw _ o_t55)) (g := (mkF m 24 #[.val (.int x0), .val (.int x1), .val (.long y2), .second, .val (.ref b269), .val (.ref b270), .unset, .unset, .unset] [(.long y2)])) rfl (hb hby at_24)) ?_
 show o_Gs p e below _ T270 m 27 #[.val (.int x0), .val (.int x1), .val (.long y2), .second, .val (.ref b269), .val (.ref b270), .unset, .unset, .unset] [(.long (9223372036854775807 : Int64)), (.long y2)]
 refine o_gi (XS.land X270.here hx rfl (hb hby at_27) rfl) ?_
 show o_Gs p e below _ T270 m 28 #[.val (.int x0), .val (.int x1), .val (.long y2), .second, .val (.ref b269), .val (.ref b270), .unset, .unset, .unset] [(.long (y2 &&& (9223372036854775807 : Int64)))]
 refine o_go (X270.ldc2Long hx hown (mvT hZ (hw _ o_t56)) (g := (mkF m 28 #[.val (.int x0), .val (.int x1), .val (.long y2), .second, .val (.ref b269), .val (.ref b270), .unset, .unset, .unset] [(.long (y2 &&& (9223372036854775807 : Int64)))])) rfl (hb hby at_28)) ?_
 show o_Gs p e below _ T270 m 31 #[.val (.int x0), .val (.int x1), .val (.long y2), .second, .val (.ref b269), .val (.ref b270), .unset, .unset, .unset] [(.long (1000000 : Int64)), (.long (y2 &&& (9223372036854775807 : Int64)))]
 refine o_gi (XS.lrem X270.here hx rfl (hb hby at_31) rfl (by decide)) ?_
 show o_Gs p e below _ T270 m 32 #[.val (.int x0), .val (.int x1), .val (.long y2), .second, .val (.ref b269), .val (.ref b270), .unset, .unset, .unset] [(.long ((y2 &&& (9223372036854775807 : Int64)) - ((y2 &&& (9223372036854775807 : Int64)) / (1000000 : Int64)) * (1000000 : Int64)))]
 refine o_gi (XS.lconst X270.here hx rfl (hb hby at_32)) ?_
 show o_Gs p e below _ T270 m 33 #[.val (.int x0), .val (.int x1), .val (.long y2), .second, .val (.ref b269), .val (.ref b270), .unset, .unset, .unset] [(.long (1 : Int64)), (.long ((y2 &&& (9223372036854775807 : Int64)) - ((y2 &&& (9223372036854775807 : Int64)) / (1000000 : Int64)) * (1000000 : Int64)))]
 refine o_gi (XS.ladd X270.here hx rfl (hb hby at_33) rfl) ?_
 refine o_gi (XS.lstore X270.here hx rfl (hb hby at_34) rfl (l' := #[.val (.int x0), .val (.int x1), .val (.long y2), .second, .val (.ref b269), .val (.ref b270), .val (.long (((y2 &&& (9223372036854775807 : Int64)) - ((y2 &&& (9223372036854775807 : Int64)) / (1000000 : Int64)) * (1000000 : Int64)) + (1 : Int64))), .second, .unset]) rfl) ?_
 refine o_gi (XS.aload X270.here hx rfl (hb hby at_36) rfl rfl) ?_
 refine o_gi (XS.aload X270.here hx rfl (hb hby at_38) rfl rfl) ?_
 refine o_gi (XS.lload X270.here hx rfl (hb hby at_40) rfl) ?_
 show o_Gs p e below _ T270 m 42 #[.val (.int x0), .val (.int x1), .val (.long y2), .second, .val (.ref b269), .val (.ref b270), .val (.long (((y2 &&& (9223372036854775807 : Int64)) - ((y2 &&& (9223372036854775807 : Int64)) / (1000000 : Int64)) * (1000000 : Int64)) + (1 : Int64))), .second, .unset] [(.long (((y2 &&& (9223372036854775807 : Int64)) - ((y2 &&& (9223372036854775807 : Int64)) / (1000000 : Int64)) * (1000000 : Int64)) + (1 : Int64))), (.ref b270), (.ref b269)]
 obtain ⟨_, T271, L271, X271, ⟨b271, rfl, N271q, K271, lt_b271, G271_0, G271_1, G271_2, G271_3⟩, hS271, hZ, hown, CS271, st271⟩ := o_callSW hS (Nat.le_trans (Nat.le_trans (Nat.zero_le _) K269.1) K270.1) (o_hEL hw) CC270.1 X270 hx hZ hown (hw _ o_t57) (hw _ o_t58) (hw _ o_t59) (hw _ o_t60) (by decide) (as := [(.ref b269), (.ref b270), (.long (((y2 &&& (9223372036854775807 : Int64)) - ((y2 &&& (9223372036854775807 : Int64)) / (1000000 : Int64)) * (1000000 : Int64)) + (1 : Int64)))]) (rm13 l Z a0 hw [] b269 b270 (((y2 &&& (9223372036854775807 : Int64)) - ((y2 &&& (9223372036854775807 : Int64)) / (1000000 : Int64)) * (1000000 : Int64)) + (1 : Int64)) z_cs T270.heap n0 (Nat.le_trans (Nat.le_trans Z0 K269.1) K270.1) ((O0.keep K269 all0).keep K270 all0) z_CS (G269_0.keep K270) G270_0 (o_y1 _) (o_y2 _) S_z_cs S_ad S_hi S_lo) rfl o_pd21 rfl (pc := 42) (Ls := #[.val (.int x0), .val (.int x1), .val (.long y2), .second, .val (.ref b269), .val (.ref b270), .val (.long (((y2 &&& (9223372036854775807 : Int64)) - ((y2 &&& (9223372036854775807 : Int64)) / (1000000 : Int64)) * (1000000 : Int64)) + (1 : Int64))), .second, .unset]) (rest := []) (W := 0) (by rw [hml]; rfl) (Nat.le_of_eq rfl) (by decide) (by decide) (hb hby at_42) (by decide) (by decide)
 have N271 := Fr.app N270 N271q
 have ne_b269_b271 : b269 ≠ b271 := Nat.ne_of_lt (Nat.lt_of_lt_of_le (G269_0.keep K270).lt lt_b271)
 have ne_b270_b271 : b270 ≠ b271 := Nat.ne_of_lt (Nat.lt_of_lt_of_le G270_0.lt lt_b271)
 have g_b271 : n0 ≤ b271 := Nat.le_trans (Nat.le_trans (Nat.le_trans Z0 K269.1) K270.1) lt_b271
 refine o_go st271 ?_
 have CC271 := CC270.trans CS271
 refine o_gi (XS.astore X271.here hx rfl (hb hby at_45) rfl rfl (l' := #[.val (.int x0), .val (.int x1), .val (.long y2), .second, .val (.ref b269), .val (.ref b270), .val (.long (((y2 &&& (9223372036854775807 : Int64)) - ((y2 &&& (9223372036854775807 : Int64)) / (1000000 : Int64)) * (1000000 : Int64)) + (1 : Int64))), .second, .val (.ref b271)]) rfl) ?_
 refine o_gi (XS.aload X271.here hx rfl (hb hby at_47) rfl rfl) ?_
 refine o_gi (XS.aload X271.here hx rfl (hb hby at_49) rfl rfl) ?_
 show o_Gs p e below _ T271 m 51 #[.val (.int x0), .val (.int x1), .val (.long y2), .second, .val (.ref b269), .val (.ref b270), .val (.long (((y2 &&& (9223372036854775807 : Int64)) - ((y2 &&& (9223372036854775807 : Int64)) / (1000000 : Int64)) * (1000000 : Int64)) + (1 : Int64))), .second, .val (.ref b271)] [(.ref b271), (.ref b269)]
 obtain ⟨_, T272, L272, X272, ⟨rfl, N272q, e272⟩, st272⟩ := o_callV X271 hx hZ hown (hw _ o_t131) (hw _ o_t132) (hw _ o_t134) (hw _ o_t133) (hw _ o_t59) (hw _ o_t135) (by decide) (b := b271) (as := []) (rm27 l Z a0 hw [] b271 b269 T271.heap n0 G271_1) rfl G271_0 o_pd22 rfl (pc := 51) (Ls := #[.val (.int x0), .val (.int x1), .val (.long y2), .second, .val (.ref b269), .val (.ref b270), .val (.long (((y2 &&& (9223372036854775807 : Int64)) - ((y2 &&& (9223372036854775807 : Int64)) / (1000000 : Int64)) * (1000000 : Int64)) + (1 : Int64))), .second, .val (.ref b271)]) (rest := [(.ref b269)]) (W := 1) (by rw [hml]; rfl) (Nat.le_of_eq rfl) (by decide) (by decide) (hb hby at_51) (by decide) (by decide)
 have N272 := Fr.app N271 N272q
 refine o_go st272 ?_
 show o_Gs p e below _ T272 m 54 #[.val (.int x0), .val (.int x1), .val (.long y2), .second, .val (.ref b269), .val (.ref b270), .val (.long (((y2 &&& (9223372036854775807 : Int64)) - ((y2 &&& (9223372036854775807 : Int64)) / (1000000 : Int64)) * (1000000 : Int64)) + (1 : Int64))), .second, .val (.ref b271)] [(.ref b269), (.ref b269)]
 obtain ⟨_, T273, L273, X273, ⟨rfl, N273q, e273⟩, st273⟩ := o_callV X272 hx hZ hown (hw _ o_t136) (hw _ o_t137) (hw _ o_t139) (hw _ o_t138) (hw _ o_t7) (hw _ o_t140) (by decide) (b := b269) (as := [(.ref b269)]) (rm28 l Z a0 hw [] b269 T271.heap n0) e272 (o_Id.exa ((G269_0.keep K270).keep K271)) o_pd23 rfl (pc := 54) (Ls := #[.val (.int x0), .val (.int x1), .val (.long y2), .second, .val (.ref b269), .val (.ref b270), .val (.long (((y2 &&& (9223372036854775807 : Int64)) - ((y2 &&& (9223372036854775807 : Int64)) / (1000000 : Int64)) * (1000000 : Int64)) + (1 : Int64))), .second, .val (.ref b271)]) (rest := []) (W := 0) (by rw [hml]; rfl) (Nat.le_of_eq rfl) (by decide) (by decide) (hb hby at_54) (by decide) (by decide)
 have N273 := Fr.app N272 N273q
 refine o_go st273 ?_
 show o_Gs p e below _ T273 m 57 #[.val (.int x0), .val (.int x1), .val (.long y2), .second, .val (.ref b269), .val (.ref b270), .val (.long (((y2 &&& (9223372036854775807 : Int64)) - ((y2 &&& (9223372036854775807 : Int64)) / (1000000 : Int64)) * (1000000 : Int64)) + (1 : Int64))), .second, .val (.ref b271)] [(.int 1)]
 have hd274 : ¬ ((1 : Int32) = (0 : Int32)) := (by decide)
 refine o_gi (XS.ifNo X273.here hx rfl (hb hby at_57) rfl ((if0 _ _).trans (feq hd274).1)) ?_
 refine o_gi (XS.aload X273.here hx rfl (hb hby at_60) rfl rfl) ?_
 refine o_gi (XS.aload X273.here hx rfl (hb hby at_62) rfl rfl) ?_
 show o_Gs p e below _ T273 m 64 #[.val (.int x0), .val (.int x1), .val (.long y2), .second, .val (.ref b269), .val (.ref b270), .val (.long (((y2 &&& (9223372036854775807 : Int64)) - ((y2 &&& (9223372036854775807 : Int64)) / (1000000 : Int64)) * (1000000 : Int64)) + (1 : Int64))), .second, .val (.ref b271)] [(.ref b271), (.ref b270)]
 obtain ⟨_, T275, L275, X275, ⟨rfl, N275q, e275⟩, st275⟩ := o_callV X273 hx hZ hown (hw _ o_t141) (hw _ o_t142) (hw _ o_t144) (hw _ o_t143) (hw _ o_t59) (hw _ o_t145) (by decide) (b := b271) (as := []) (rm29 l Z a0 hw [] b271 b270 T271.heap n0 G271_2) e273 G271_0 o_pd22 rfl (pc := 64) (Ls := #[.val (.int x0), .val (.int x1), .val (.long y2), .second, .val (.ref b269), .val (.ref b270), .val (.long (((y2 &&& (9223372036854775807 : Int64)) - ((y2 &&& (9223372036854775807 : Int64)) / (1000000 : Int64)) * (1000000 : Int64)) + (1 : Int64))), .second, .val (.ref b271)]) (rest := [(.ref b270)]) (W := 1) (by rw [hml]; rfl) (Nat.le_of_eq rfl) (by decide) (by decide) (hb hby at_64) (by decide) (by decide)
 have N275 := Fr.app N273 N275q
 refine o_go st275 ?_
 show o_Gs p e below _ T275 m 67 #[.val (.int x0), .val (.int x1), .val (.long y2), .second, .val (.ref b269), .val (.ref b270), .val (.long (((y2 &&& (9223372036854775807 : Int64)) - ((y2 &&& (9223372036854775807 : Int64)) / (1000000 : Int64)) * (1000000 : Int64)) + (1 : Int64))), .second, .val (.ref b271)] [(.ref b270), (.ref b270)]
 obtain ⟨_, T276, L276, X276, ⟨rfl, N276q, e276⟩, st276⟩ := o_callV X275 hx hZ hown (hw _ o_t136) (hw _ o_t137) (hw _ o_t139) (hw _ o_t138) (hw _ o_t7) (hw _ o_t140) (by decide) (b := b270) (as := [(.ref b270)]) (rm28 l Z a0 hw [] b270 T271.heap n0) e275 (o_Id.exa (G270_0.keep K271)) o_pd23 rfl (pc := 67) (Ls := #[.val (.int x0), .val (.int x1), .val (.long y2), .second, .val (.ref b269), .val (.ref b270), .val (.long (((y2 &&& (9223372036854775807 : Int64)) - ((y2 &&& (9223372036854775807 : Int64)) / (1000000 : Int64)) * (1000000 : Int64)) + (1 : Int64))), .second, .val (.ref b271)]) (rest := []) (W := 0) (by rw [hml]; rfl) (Nat.le_of_eq rfl) (by decide) (by decide) (hb hby at_67) (by decide) (by decide)
 have N276 := Fr.app N275 N276q
 refine o_go st276 ?_
 show o_Gs p e below _ T276 m 70 #[.val (.int x0), .val (.int x1), .val (.long y2), .second, .val (.ref b269), .val (.ref b270), .val (.long (((y2 &&& (9223372036854775807 : Int64)) - ((y2 &&& (9223372036854775807 : Int64)) / (1000000 : Int64)) * (1000000 : Int64)) + (1 : Int64))), .second, .val (.ref b271)] [(.int 1)]
 have hd277 : ¬ ((1 : Int32) = (0 : Int32)) := (by decide)
 refine o_gi (XS.ifNo X276.here hx rfl (hb hby at_70) rfl ((if0 _ _).trans (feq hd277).1)) ?_
 refine o_gi (XS.aload X276.here hx rfl (hb hby at_73) rfl rfl) ?_
 show o_Gs p e below _ T276 m 75 #[.val (.int x0), .val (.int x1), .val (.long y2), .second, .val (.ref b269), .val (.ref b270), .val (.long (((y2 &&& (9223372036854775807 : Int64)) - ((y2 &&& (9223372036854775807 : Int64)) / (1000000 : Int64)) * (1000000 : Int64)) + (1 : Int64))), .second, .val (.ref b271)] [(.ref b271)]
 obtain ⟨_, T278, L278, X278, ⟨rfl, N278q, e278⟩, st278⟩ := o_callV X276 hx hZ hown (hw _ o_t146) (hw _ o_t147) (hw _ o_t149) (hw _ o_t148) (hw _ o_t59) (hw _ o_t150) (by decide) (b := b271) (as := []) (rm30 l Z a0 hw [] b271 (((y2 &&& (9223372036854775807 : Int64)) - ((y2 &&& (9223372036854775807 : Int64)) / (1000000 : Int64)) * (1000000 : Int64)) + (1 : Int64)) T271.heap n0 G271_3) e276 G271_0 o_pd24 rfl (pc := 75) (Ls := #[.val (.int x0), .val (.int x1), .val (.long y2), .second, .val (.ref b269), .val (.ref b270), .val (.long (((y2 &&& (9223372036854775807 : Int64)) - ((y2 &&& (9223372036854775807 : Int64)) / (1000000 : Int64)) * (1000000 : Int64)) + (1 : Int64))), .second, .val (.ref b271)]) (rest := []) (W := 0) (by rw [hml]; rfl) (Nat.le_of_eq rfl) (by decide) (by decide) (hb hby at_75) (by decide) (by decide)
 have N278 := Fr.app N276 N278q
 refine o_go st278 ?_
 refine o_gi (XS.lload X278.here hx rfl (hb hby at_78) rfl) ?_
 show o_Gs p e below _ T278 m 80 #[.val (.int x0), .val (.int x1), .val (.long y2), .second, .val (.ref b269), .val (.ref b270), .val (.long (((y2 &&& (9223372036854775807 : Int64)) - ((y2 &&& (9223372036854775807 : Int64)) / (1000000 : Int64)) * (1000000 : Int64)) + (1 : Int64))), .second, .val (.ref b271)] [(.long (((y2 &&& (9223372036854775807 : Int64)) - ((y2 &&& (9223372036854775807 : Int64)) / (1000000 : Int64)) * (1000000 : Int64)) + (1 : Int64))), (.long (((y2 &&& (9223372036854775807 : Int64)) - ((y2 &&& (9223372036854775807 : Int64)) / (1000000 : Int64)) * (1000000 : Int64)) + (1 : Int64)))]
 refine o_gi (XS.lcmp X278.here hx rfl (hb hby at_80) rfl) ?_
 show o_Gs p e below _ T278 m 81 #[.val (.int x0), .val (.int x1), .val (.long y2), .second, .val (.ref b269), .val (.ref b270), .val (.long (((y2 &&& (9223372036854775807 : Int64)) - ((y2 &&& (9223372036854775807 : Int64)) / (1000000 : Int64)) * (1000000 : Int64)) + (1 : Int64))), .second, .val (.ref b271)] [(.int (lcmpW (((y2 &&& (9223372036854775807 : Int64)) - ((y2 &&& (9223372036854775807 : Int64)) / (1000000 : Int64)) * (1000000 : Int64)) + (1 : Int64)) (((y2 &&& (9223372036854775807 : Int64)) - ((y2 &&& (9223372036854775807 : Int64)) / (1000000 : Int64)) * (1000000 : Int64)) + (1 : Int64))))]
 have hd279 : (((y2 &&& (9223372036854775807 : Int64)) - ((y2 &&& (9223372036854775807 : Int64)) / (1000000 : Int64)) * (1000000 : Int64)) + (1 : Int64)) = (((y2 &&& (9223372036854775807 : Int64)) - ((y2 &&& (9223372036854775807 : Int64)) / (1000000 : Int64)) * (1000000 : Int64)) + (1 : Int64)) := rfl
 refine o_gi (XS.ifNo X278.here hx rfl (hb hby at_81) rfl ((if0 _ _).trans (teq ((lw_eq _ _).mpr hd279)).2)) ?_
 refine o_gi (XS.iconst X278.here hx rfl (hb hby at_84)) ?_
 refine o_gi (XS.goto X278.here hx rfl (pc0 := 85) (pc' := 89) rfl (hb hby at_85) (by decide) (by decide)) ?_
 show o_Gs p e below _ T278 m 89 #[.val (.int x0), .val (.int x1), .val (.long y2), .second, .val (.ref b269), .val (.ref b270), .val (.long (((y2 &&& (9223372036854775807 : Int64)) - ((y2 &&& (9223372036854775807 : Int64)) / (1000000 : Int64)) * (1000000 : Int64)) + (1 : Int64))), .second, .val (.ref b271)] [(.int 1)]
 exact o_retNW hS271 (Nat.le_refl _) hZ (o_hEL hw) CC271 e278 X278 hx hlk hret (by simp) (z' := (1 : Int32)) rfl (hb hby at_89) (by decide) (by decide) ⟨by rw [o_f0], N278, trivial⟩
section OwnWords
variable {args : Array Value} {first s : State} {o : Option Outcome} {idx : List Nat} {a b t : Term} {G Y : Jvm.Cond}
theorem o_eqI {k : Int32} (h : (Jvm.Cond.eq a b).value args first o s idx = some true) (hb : b.eval args first o idx s = some (.int k)) : a.eval args first o idx s = some (.int k) := by
 obtain ⟨x, y, h1, h2, h3, h4⟩ := cmp_v (Or.inl h)
 cases hb.symm.trans h2
 obtain ⟨z, rfl⟩ := h4
 simp only [Jvm.Cond.value, h1, hb] at h
 rw [h1]
 simpa using h
theorem o_eqJ {k : Int64} (h : (Jvm.Cond.eq a b).value args first o s idx = some true) (hb : b.eval args first o idx s = some (.long k)) : a.eval args first o idx s = some (.long k) := by
 obtain ⟨x, y, h1, h2, h3, h4⟩ := cmp_v (Or.inl h)
 cases hb.symm.trans h2
 obtain ⟨z, rfl⟩ := h4
 simp only [Jvm.Cond.value, h1, hb] at h
 rw [h1]
 simpa using h
theorem o_or (h : (Jvm.Cond.or G Y).value args first o s idx = some true) (h1 : G.value args first o s idx = some false) : Y.value args first o s idx = some true := by
 simpa [Jvm.Cond.value, h1] using h
theorem o_ixlt {j k : Int32} (hj : ¬ j < 0) (hk : ¬ j < k) : (Jvm.Cond.lt (Jvm.Term.index 0) (Jvm.Term.int k)).value args first o s [j.toNatClampNeg] = some false := by
 have e := idx_at (args := args) (first := first) (o := o) (s := s) hj
 have f : (Jvm.Term.int k).eval args first o [j.toNatClampNeg] s = some (.int k) := Term.int_eval _
 rw [Cond.lt_ints e f]
 simp [hk]
theorem o_ixle {j k : Int32} (hj : ¬ j < 0) (hk : j < k) : (Jvm.Cond.le (Jvm.Term.int k) (Jvm.Term.index 0)).value args first o s [j.toNatClampNeg] = some false := by
 have e := idx_at (args := args) (first := first) (o := o) (s := s) hj
 have f : (Jvm.Term.int k).eval args first o [j.toNatClampNeg] s = some (.int k) := Term.int_eval _
 rw [Cond.le_ints f e]
 simp [Int32.not_le.mpr hk]
theorem o_ixsub {j k : Int32} (hj : ¬ j < 0) : (Jvm.Term.sub (Jvm.Term.index 0) (Jvm.Term.int k)).eval args first o [j.toNatClampNeg] s = some (.int (j - k)) := by
 have e := idx_at (args := args) (first := first) (o := o) (s := s) hj
 have f : (Jvm.Term.int k).eval args first o [j.toNatClampNeg] s = some (.int k) := Term.int_eval _
 rw [Term.eval, e, f]
 rfl
/-- a field that the case says to hold a number -/
theorem o_fldI {C n d : String} {x : Addr} {k : Int32} (ht : t.eval args s none [] s = some (.ref x)) (h : (Jvm.Cond.eq (Term.field t C n d) (Term.int k)).value args s none s [] = some true) : Fld s s.heap x C n d (.int k) := by
 have e := o_eqI h (Term.int_eval _)
 rw [fld_at ht] at e
 exact Fld.start e
theorem o_fldJ {C n d : String} {x : Addr} {k : Int64} (ht : t.eval args s none [] s = some (.ref x)) (h : (Jvm.Cond.eq (Term.field t C n d) (Term.long k)).value args s none s [] = some true) : Fld s s.heap x C n d (.long k) := by
 have e := o_eqJ h (show (Term.long k).eval args s none [] s = some (.long k) by simp [Term.eval])
 rw [fld_at ht] at e
 exact Fld.start e
end OwnWords

set_option maxRecDepth 65536 in
set_option maxHeartbeats 40000000 in
theorem comes_1 {Post : Tables → Env → Array Value → State → Outcome → State → Prop} (hpost : ∀ tb e args s v u, (limb_1_1.after args s (.returned v) u = true ∧ limb_1_2.after args s (.returned v) u = true) → Jvm.D.FramedW s (.returned v) u (Jvm.fieldLocs frame_1_writes args s ++ Jvm.arrayLocs frame_1_arrays args s ++ Jvm.staticLocs frame_1_statics s) 32 4736 → Post tb e args s (.returned v) u) :
  ArmFor flags0 classFile x code maxLocals ret World_1 tables_1 room_1 Calls_1 rest_1 Pre_1 Post := by
 intro l hfl _ _ p e ha hc hk s m args below hf hA hF happ hP
 obtain ⟨hcalls, hrest, hpre⟩ := hP
 obtain ⟨-, -, -, hnamed, -, -, -, hat⟩ := (Spec.applies_iff hf).mp happ
 obtain ⟨hg, hn⟩ := and_e (Cond.before_iff.mp (show (Jvm.Cond.and given_1 narrow_1).before args s = true from hpre))
 obtain ⟨gg1, gg2⟩ := and_e hg
 obtain ⟨gg3, gg4⟩ := and_e gg2
 obtain ⟨gg5, gg6⟩ := and_e gg4
 obtain ⟨w0, w1, w2, rfl⟩ : ∃ w0 w1 w2 : Value, args = #[w0, w1, w2] := by
  have hs : args.size = 3 := by simpa [Cond.value, given_1] using gg1
  obtain ⟨L⟩ := args
  match L, hs with
  | [w0, w1, w2], _ => exact ⟨w0, w1, w2, rfl⟩
 have hw := fun d (hd : d ∈ tables_1) => atoms_spec (ws := Jvm.Cond.code x code maxLocals ret :: tables_1) hat d (List.mem_cons_of_mem _ hd)
 have hfit : Fit s := fun {y c} hc i hi => by
  obtain ⟨ha, rfl⟩ := Array.getElem?_eq_some_iff.mp hc
  have q := List.all_eq_true.mp ((Array.all_eq_true_iff_forall_mem.mp hF) _ (Array.getElem_mem ha)) i (List.mem_range.mpr hi)
  simpa [Array.getElem?_eq_getElem hi] using q
 obtain ⟨hsets, hown0⟩ := atoms_of _ (rest_1_c_eq ▸ (show rest_1_c.before _ s = true from hrest))
 have hr0 := Cond.before_iff.mp hown0
 obtain ⟨i0, ei0⟩ := is_v gg3
 obtain rfl : w0 = (.int i0) := Option.some.inj ei0
 obtain ⟨i1, ei1⟩ := is_v gg5
 obtain rfl : w1 = (.int i1) := Option.some.inj ei1
 obtain ⟨i2, ei2⟩ := isL_v gg6
 obtain rfl : w2 = (.long i2) := Option.some.inj ei2
 obtain ⟨z_cs, v_cs⟩ := is_v (Cond.before_iff.mp (hsets _ (List.mem_of_getElem? (i := 1) rfl)))
 have S_CS := Sta.start v_cs (Or.inl (hsets _ (List.mem_of_getElem? (i := 0) rfl)))
 have z_CS : ¬ z_cs = 0 := o_nz v_cs (Cond.before_iff.mp (hsets _ (List.mem_of_getElem? (i := 2) rfl)))
 have v_ad := o_eqI (Cond.before_iff.mp (hsets _ (List.mem_of_getElem? (i := 12) rfl))) (Term.int_eval _)
 have S_ad := Sta.start v_ad (Or.inl (hsets _ (List.mem_of_getElem? (i := 11) rfl)))
 have v_hi := o_eqI (Cond.before_iff.mp (hsets _ (List.mem_of_getElem? (i := 15) rfl))) (Term.int_eval _)
 have S_hi := Sta.start v_hi (Or.inl (hsets _ (List.mem_of_getElem? (i := 14) rfl)))
 have v_lo := o_eqI (Cond.before_iff.mp (hsets _ (List.mem_of_getElem? (i := 18) rfl))) (Term.int_eval _)
 have S_lo := Sta.start v_lo (Or.inl (hsets _ (List.mem_of_getElem? (i := 17) rfl)))
 obtain ⟨n, o, h1, h2, h3, v, L, rfl, hQ, -, hq⟩ := rm0 l s _ hw tables_1 i0 i1 i2 z_cs s.heap s.heap.size (Nat.le_refl _) (Old.start s) z_CS S_CS S_ad S_hi S_lo p e ha hc hk s m _ below hf ((Spec.applies_iff_loose hf).mp happ).1 ⟨rfl, State.Warmed39.refl s, rfl, CHv.start (o_hEL hw) (fun p hp => nomatch hp) (hsets _ (List.mem_of_getElem? (i := 2) rfl)) (hw _ (List.mem_of_getElem? (i := 23) rfl)) (hw _ (List.mem_of_getElem? (i := 6) rfl))⟩ trivial
 obtain ⟨hv, N, -⟩ := hQ
 rw [show (o_f0  : Int32) = 1 from rfl] at hv
 subst hv
 refine ⟨n, _, h1, h2, h3, hpost _ _ _ _ _ _ ⟨Cond.after_iff.mpr rfl, Cond.after_iff.mpr (eq_i res_at (Term.int_eval (1)) rfl)⟩ ⟨hq.1, hq.2.1, hq.2.2.1, (hq.2.2.2.sift fun y hy => Or.inr (N y hy)).mono (by decide) (by decide)⟩⟩
theorem main_1_1 : Claimed_1_1 := comes_1 fun _ _ _ _ _ _ h hF => ⟨h.1, hF⟩
theorem main_1_2 : Claimed_1_2 := comes_1 fun _ _ _ _ _ _ h hF => ⟨h.2, hF⟩
end Jvm.Pilot.@@N@@
namespace Jvm.Pilot.@@N@@
open Jvm Jvm.ClassFile Sem Op Lib Jvm.Free Jvm.Stand Jvm.Pilot.@@N@@.Jvm.D
/-! MADE BY PROGRAM (witnessworld.py) out of the Statement's table words and the real class files: 22 classes; the members and pool entries that the words name. The judged class is class 1, her method 2. -/
namespace start1
open Jvm.ClassFile
def u (s : String) : CpInfo := .utf8 (stringToUtf16 s)
/-- a pool by its gaps: so many unusable entries, then the entry; so many at the end -/
def gap : Nat → List CpInfo → List CpInfo
  | 0, r => r
  | n + 1, r => .unusable :: gap n r
def poolList (es : List (Nat × CpInfo)) (last : Nat) : List CpInfo := es.foldr (fun e r => gap e.1 (e.2 :: r)) (gap last [])
def pool (es : List (Nat × CpInfo)) (last : Nat) : Array CpInfo := ⟨poolList es last⟩
def fileOf (pool : Array CpInfo) (this : Nat) (attrs : Array Attribute := #[]) (ms : Array MethodInfo := #[]) (fl : Nat := 33) (sup : Nat := 0) (ifs : Array Nat := #[]) (fds : Array FieldInfo := #[]) : ClassFile where
  minorVersion := 0
  majorVersion := 65
  constantPool := pool
  accessFlags := fl
  thisClass := this
  superClass := sup
  interfaces := ifs
  fields := fds
  methods := ms
  attributes := attrs
def plain (name : String) (sup : Option ClassId) : Class where
  name := name
  kind := .ordinary
  loader := none
  accessFlags := 33
  super := sup
  interfaces := #[]
  cf := none
  fields := #[]
  methods := #[]
  instanceTypes := #[]
  staticTypes := #[]
  resolved := #[]
  callSites := []
  init := .initialized
  statics := none
  mirror := none

def pool0 : Array CpInfo := pool [(5, u "<init>"), (0, u "()V"), (1, .class_ 10), (1, u "java/lang/Object")] 113

def k0c0 : Code := { maxStack := 0, maxLocals := 1, code := object_method_1_code, exceptionTable := #[], attributes := #[] }
def k0m0 : Method := { name := "<init>", desc := "()V", sig := { parameters := [], returnType := none }, accessFlags := 1, code := some k0c0 }
/-- java/lang/Object -/
def k0 : Class := { plain "java/lang/Object" none with
  accessFlags := 33
  interfaces := #[]
  cf := some (fileOf pool0 8 #[] #[{ accessFlags := 1, nameIndex := 5, descriptorIndex := 6, attributes := #[] }] 33 0 #[] #[])
  fields := #[]
  methods := #[k0m0]
  instanceTypes := #[]
  staticTypes := #[]
  resolved := Array.replicate 124 none
  statics := none }

def pool1 : Array CpInfo := pool [(2, .class_ 4), (1, u "java/lang/Object"), (0, u "<init>"), (0, u "()V"), (0, .class_ 8), (0, u "java/lang/String"), (0, .methodref 7 10), (0, .nameAndType 5 11), (0, u "([C)V"), (0, .integer 55296), (0, .integer 56320), (0, .methodref 15 16), (0, .class_ 17), (0, .nameAndType 18 19), (0, u "com/example/quittance/quittance/dialect/ClaimOfPinLaw"), (0, u "id"), (0, u "(III)Ljava/lang/String;"), (2, .long 9223372036854775807), (1, .long 1000000), (1, .methodref 27 28), (0, .class_ 29), (0, .nameAndType 30 31), (0, u "com/example/quittance/quittance/dialect/Claim"), (0, u "of"), (0, u "(Ljava/lang/String;Ljava/lang/String;J)Lcom/example/quittance/quittance/dialect/Claim;"), (0, .methodref 27 33), (0, .nameAndType 34 35), (0, u "transactionId"), (0, u "()Ljava/lang/String;"), (0, .methodref 7 37), (0, .nameAndType 38 39), (0, u "equals"), (0, u "(Ljava/lang/Object;)Z"), (0, .methodref 27 41), (0, .nameAndType 42 35), (0, u "user"), (0, .methodref 27 44), (0, .nameAndType 45 46), (0, u "amount"), (0, u "()J"), (3, u "law"), (0, u "(IIJ)Z")] 5

def k1m0 : Method := { name := "<init>", desc := "()V", sig := { parameters := [], returnType := none }, accessFlags := 2, code := none }
def k1c1 : Code := { maxStack := 5, maxLocals := 6, code := method_2_code, exceptionTable := #[], attributes := #[] }
def k1m1 : Method := { name := "id", desc := "(III)Ljava/lang/String;", sig := { parameters := [.int, .int, .int], returnType := some (.object "java/lang/String") }, accessFlags := 10, code := some k1c1 }
def k1c2 : Code := { maxStack := 4, maxLocals := 9, code := code, exceptionTable := #[], attributes := #[] }
def k1m2 : Method := { name := "law", desc := "(IIJ)Z", sig := { parameters := [.int, .int, .long], returnType := some .boolean }, accessFlags := 9, code := some k1c2 }
/-- com/example/quittance/quittance/dialect/ClaimOfPinLaw -/
def k1 : Class := { plain "com/example/quittance/quittance/dialect/ClaimOfPinLaw" (some 0) with
  accessFlags := 49
  interfaces := #[]
  cf := some (fileOf pool1 15 #[] #[{ accessFlags := 2, nameIndex := 5, descriptorIndex := 6, attributes := #[] }, { accessFlags := 10, nameIndex := 18, descriptorIndex := 19, attributes := #[] }, { accessFlags := 9, nameIndex := 50, descriptorIndex := 51, attributes := #[] }] 49 2 #[] #[])
  fields := #[]
  methods := #[k1m0, k1m1, k1m2]
  instanceTypes := #[]
  staticTypes := #[]
  resolved := Array.replicate 57 none
  statics := none }

def pool2 : Array CpInfo := pool [(1, .class_ 2), (0, u "java/io/Serializable"), (0, .class_ 4), (0, u "java/lang/Object")] 2

/-- java/io/Serializable -/
def k2 : Class := { plain "java/io/Serializable" (some 0) with
  accessFlags := 1537
  interfaces := #[]
  cf := some (fileOf pool2 1 #[] #[] 1537 3 #[] #[])
  fields := #[]
  methods := #[]
  instanceTypes := #[]
  staticTypes := #[]
  resolved := Array.replicate 7 none
  statics := none }

def pool3 : Array CpInfo := pool [(1, .class_ 2), (0, u "java/lang/Comparable"), (0, .class_ 4), (0, u "java/lang/Object")] 7

/-- java/lang/Comparable -/
def k3 : Class := { plain "java/lang/Comparable" (some 0) with
  accessFlags := 1537
  interfaces := #[]
  cf := some (fileOf pool3 1 #[] #[] 1537 3 #[] #[])
  fields := #[]
  methods := #[]
  instanceTypes := #[]
  staticTypes := #[]
  resolved := Array.replicate 12 none
  statics := none }

def pool4 : Array CpInfo := pool [(2, .class_ 4), (1, u "java/lang/CharSequence"), (42, .class_ 48), (0, u "java/lang/CharSequence$1CodePointIterator"), (10, .class_ 60), (0, u "java/lang/CharSequence$1CharIterator"), (5, .class_ 67), (0, u "java/lang/Object")] 63

/-- java/lang/CharSequence -/
def k4 : Class := { plain "java/lang/CharSequence" (some 0) with
  accessFlags := 1537
  interfaces := #[]
  cf := some (fileOf pool4 2 #[.nestMembers #[47, 59]] #[] 1537 66 #[] #[])
  fields := #[]
  methods := #[]
  instanceTypes := #[]
  staticTypes := #[]
  resolved := Array.replicate 131 none
  statics := none }

def pool5 : Array CpInfo := pool [(1, .class_ 2), (0, u "java/lang/constant/Constable"), (0, .class_ 4), (0, u "java/lang/Object")] 6

/-- java/lang/constant/Constable -/
def k5 : Class := { plain "java/lang/constant/Constable" (some 0) with
  accessFlags := 1537
  interfaces := #[]
  cf := some (fileOf pool5 1 #[] #[] 1537 3 #[] #[])
  fields := #[]
  methods := #[]
  instanceTypes := #[]
  staticTypes := #[]
  resolved := Array.replicate 11 none
  statics := none }

def pool6 : Array CpInfo := pool [(1, .class_ 2), (0, u "java/lang/constant/ConstantDesc"), (0, .class_ 4), (0, u "java/lang/Object")] 32

/-- java/lang/constant/ConstantDesc -/
def k6 : Class := { plain "java/lang/constant/ConstantDesc" (some 0) with
  accessFlags := 1537
  interfaces := #[]
  cf := some (fileOf pool6 1 #[] #[] 1537 3 #[] #[])
  fields := #[]
  methods := #[]
  instanceTypes := #[]
  staticTypes := #[]
  resolved := Array.replicate 37 none
  statics := none }

def pool7 : Array CpInfo := pool [(1, .methodref 2 3), (0, .class_ 4), (0, .nameAndType 5 6), (0, u "java/lang/Object"), (0, u "<init>"), (0, u "()V"), (2, .fieldref 10 11), (0, .class_ 12), (0, .nameAndType 13 14), (0, u "java/lang/String"), (0, u "value"), (0, u "[B"), (0, .fieldref 10 16), (0, .nameAndType 17 18), (0, u "coder"), (0, u "B"), (2, u "hash"), (0, u "I"), (2, u "hashIsZero"), (0, u "Z"), (0, .methodref 10 28), (0, .nameAndType 5 29), (0, u "([CIILjava/lang/Void;)V"), (7, u "(III)I"), (0, .fieldref 10 39), (0, .nameAndType 40 26), (0, u "COMPACT_STRINGS"), (1, .class_ 44), (1, u "java/lang/StringUTF16"), (0, u "compress"), (1, .methodref 42 48), (0, .nameAndType 49 50), (0, u "coderFromArrayLen"), (0, u "([BI)B"), (28, .class_ 81), (1, u "java/util/Objects"), (15, u "([BII)I"), (44, u "()Z"), (34, .methodref 42 178), (0, .nameAndType 45 179), (0, u "([CII)[B"), (154, u "()I"), (0, .methodref 10 336), (0, .nameAndType 17 337), (0, u "()B"), (154, .methodref 10 493), (0, .nameAndType 494 142), (0, u "isLatin1"), (10, .methodref 10 506), (0, .nameAndType 507 334), (0, u "length"), (3, .methodref 79 512), (0, .nameAndType 513 37), (0, u "checkFromToIndex"), (0, .methodref 42 515), (0, .nameAndType 516 97), (0, u "codePointCount"), (26, u "equals"), (29, u "(Ljava/lang/Object;)Z"), (1, .class_ 576), (0, u "java/lang/CharSequence"), (22, u "CASE_INSENSITIVE_ORDER"), (0, u "Ljava/util/Comparator;"), (35, u "(II)I"), (55, u "isEmpty"), (317, u "([C)V"), (90, u "serialPersistentFields"), (0, u "[Ljava/io/ObjectStreamField;"), (0, .class_ 1104), (0, u "java/lang/String$CaseInsensitiveComparator"), (1, .class_ 1107), (0, u "java/io/Serializable"), (0, .class_ 1109), (0, u "java/lang/Comparable"), (0, .class_ 1111), (0, u "java/lang/constant/Constable"), (0, .class_ 1113), (0, u "java/lang/constant/ConstantDesc"), (2, u "serialVersionUID"), (0, u "J"), (3, u "REPL"), (0, u "C"), (2, u "LATIN1"), (1, u "UTF16")] 323

def k7m0 : Method := { name := "<init>", desc := "()V", sig := { parameters := [], returnType := none }, accessFlags := 1, code := none }
def k7c1 : Code := { maxStack := 5, maxLocals := 2, code := jdk_42_method_3_code, exceptionTable := #[], attributes := #[] }
def k7m1 : Method := { name := "<init>", desc := "([C)V", sig := { parameters := [(.array .char)], returnType := none }, accessFlags := 1, code := some k7c1 }
def k7c2 : Code := { maxStack := 2, maxLocals := 1, code := jdk_42_method_54_code, exceptionTable := #[], attributes := #[] }
def k7m2 : Method := { name := "length", desc := "()I", sig := { parameters := [], returnType := some .int }, accessFlags := 1, code := some k7c2 }
def k7c3 : Code := { maxStack := 1, maxLocals := 1, code := jdk_42_method_55_code, exceptionTable := #[], attributes := #[] }
def k7m3 : Method := { name := "isEmpty", desc := "()Z", sig := { parameters := [], returnType := some .boolean }, accessFlags := 1, code := some k7c3 }
def k7c4 : Code := { maxStack := 3, maxLocals := 3, code := jdk_42_method_59_code, exceptionTable := #[], attributes := #[] }
def k7m4 : Method := { name := "codePointCount", desc := "(II)I", sig := { parameters := [.int, .int], returnType := some .int }, accessFlags := 1, code := some k7c4 }
def k7c5 : Code := { maxStack := 2, maxLocals := 3, code := jdk_42_method_66_code, exceptionTable := #[], attributes := #[] }
def k7m5 : Method := { name := "equals", desc := "(Ljava/lang/Object;)Z", sig := { parameters := [(.object "java/lang/Object")], returnType := some .boolean }, accessFlags := 1, code := some k7c5 }
def k7c6 : Code := { maxStack := 4, maxLocals := 6, code := jdk_42_method_149_code, exceptionTable := #[], attributes := #[] }
def k7m6 : Method := { name := "<init>", desc := "([CIILjava/lang/Void;)V", sig := { parameters := [(.array .char), .int, .int, (.object "java/lang/Void")], returnType := none }, accessFlags := 2, code := some k7c6 }
def k7c7 : Code := { maxStack := 1, maxLocals := 1, code := jdk_42_method_152_code, exceptionTable := #[], attributes := #[] }
def k7m7 : Method := { name := "coder", desc := "()B", sig := { parameters := [], returnType := some .byte }, accessFlags := 0, code := some k7c7 }
def k7c8 : Code := { maxStack := 1, maxLocals := 1, code := jdk_42_method_154_code, exceptionTable := #[], attributes := #[] }
def k7m8 : Method := { name := "isLatin1", desc := "()Z", sig := { parameters := [], returnType := some .boolean }, accessFlags := 0, code := some k7c8 }
/-- java/lang/String -/
def k7 : Class := { plain "java/lang/String" (some 0) with
  accessFlags := 49
  interfaces := #[2, 3, 4, 5, 6]
  cf := some (fileOf pool7 10 #[.nestMembers #[1103]] #[{ accessFlags := 1, nameIndex := 5, descriptorIndex := 6, attributes := #[] }, { accessFlags := 1, nameIndex := 5, descriptorIndex := 1010, attributes := #[] }, { accessFlags := 1, nameIndex := 507, descriptorIndex := 334, attributes := #[] }, { accessFlags := 1, nameIndex := 692, descriptorIndex := 142, attributes := #[] }, { accessFlags := 1, nameIndex := 516, descriptorIndex := 636, attributes := #[] }, { accessFlags := 1, nameIndex := 543, descriptorIndex := 573, attributes := #[] }, { accessFlags := 2, nameIndex := 5, descriptorIndex := 29, attributes := #[] }, { accessFlags := 0, nameIndex := 17, descriptorIndex := 337, attributes := #[] }, { accessFlags := 0, nameIndex := 494, descriptorIndex := 142, attributes := #[] }] 49 2 #[1106, 1108, 575, 1110, 1112] #[{ accessFlags := 18, nameIndex := 13, descriptorIndex := 14, attributes := #[] }, { accessFlags := 18, nameIndex := 17, descriptorIndex := 18, attributes := #[] }, { accessFlags := 2, nameIndex := 21, descriptorIndex := 22, attributes := #[] }, { accessFlags := 2, nameIndex := 25, descriptorIndex := 26, attributes := #[] }, { accessFlags := 26, nameIndex := 1116, descriptorIndex := 1117, attributes := #[] }, { accessFlags := 24, nameIndex := 40, descriptorIndex := 26, attributes := #[] }, { accessFlags := 26, nameIndex := 1101, descriptorIndex := 1102, attributes := #[] }, { accessFlags := 26, nameIndex := 1121, descriptorIndex := 1122, attributes := #[] }, { accessFlags := 25, nameIndex := 599, descriptorIndex := 600, attributes := #[] }, { accessFlags := 24, nameIndex := 1125, descriptorIndex := 18, attributes := #[] }, { accessFlags := 24, nameIndex := 1127, descriptorIndex := 18, attributes := #[] }])
  fields := #[{ name := "value", type := (.array .byte), accessFlags := 18, slot := 0, constantValue := 0 }, { name := "coder", type := .byte, accessFlags := 18, slot := 1, constantValue := 0 }, { name := "hash", type := .int, accessFlags := 2, slot := 2, constantValue := 0 }, { name := "hashIsZero", type := .boolean, accessFlags := 2, slot := 3, constantValue := 0 }, { name := "serialVersionUID", type := .long, accessFlags := 26, slot := 0, constantValue := 0 }, { name := "COMPACT_STRINGS", type := .boolean, accessFlags := 24, slot := 1, constantValue := 0 }, { name := "serialPersistentFields", type := (.array (.object "java/io/ObjectStreamField")), accessFlags := 26, slot := 2, constantValue := 0 }, { name := "REPL", type := .char, accessFlags := 26, slot := 3, constantValue := 0 }, { name := "CASE_INSENSITIVE_ORDER", type := (.object "java/util/Comparator"), accessFlags := 25, slot := 4, constantValue := 0 }, { name := "LATIN1", type := .byte, accessFlags := 24, slot := 5, constantValue := 0 }, { name := "UTF16", type := .byte, accessFlags := 24, slot := 6, constantValue := 0 }]
  methods := #[k7m0, k7m1, k7m2, k7m3, k7m4, k7m5, k7m6, k7m7, k7m8]
  instanceTypes := #[(.array .byte), .byte, .int, .boolean]
  staticTypes := #[.long, .boolean, (.array (.object "java/io/ObjectStreamField")), .char, (.object "java/util/Comparator"), .byte, .byte]
  resolved := Array.replicate 1451 none
  statics := some 0 }

def pool8 : Array CpInfo := pool [(6, .class_ 8), (1, u "java/lang/Object"), (0, u "<init>"), (0, u "()V"), (0, .methodref 12 13), (0, .class_ 14), (0, .nameAndType 15 16), (0, u "java/lang/StringUTF16"), (0, u "newBytesLength"), (0, u "(I)I"), (3, .integer 1073741823), (23, .fieldref 12 45), (0, .nameAndType 46 47), (0, u "$assertionsDisabled"), (0, u "Z"), (11, .fieldref 12 60), (0, .nameAndType 61 62), (0, u "HI_BYTE_SHIFT"), (0, u "I"), (0, .fieldref 12 64), (0, .nameAndType 65 62), (0, u "LO_BYTE_SHIFT"), (5, .methodref 12 72), (0, .nameAndType 73 74), (0, u "getChar"), (0, u "([BI)C"), (0, .methodref 76 77), (0, .class_ 78), (0, .nameAndType 79 80), (0, u "java/lang/Character"), (0, u "isHighSurrogate"), (0, u "(C)Z"), (0, .methodref 76 82), (0, .nameAndType 83 80), (0, u "isLowSurrogate"), (7, u "([BIIZ)I"), (8, .methodref 12 101), (0, .nameAndType 102 91), (0, u "codePointCount"), (4, .methodref 12 108), (0, .nameAndType 109 110), (0, u "newBytesFor"), (0, u "(I)[B"), (0, .methodref 12 112), (0, .nameAndType 113 114), (0, u "putChar"), (0, u "([BII)V"), (0, .methodref 12 116), (0, .nameAndType 117 118), (0, u "compress"), (0, u "([CI[BII)I"), (0, .methodref 12 120), (0, .nameAndType 121 122), (0, u "toBytes"), (0, u "([CII)[B"), (127, u "([BII)I"), (10, u "coderFromArrayLen"), (0, u "([BI)B"), (106, .class_ 371), (1, u "java/lang/StringUTF16$LinesSpliterator"), (58, u "MAX_LENGTH"), (196, .class_ 628), (0, u "java/lang/StringUTF16$CodePointsSpliterator"), (0, .class_ 630), (0, u "java/lang/StringUTF16$CharsSpliterator")] 4

def k8m0 : Method := { name := "<init>", desc := "()V", sig := { parameters := [], returnType := none }, accessFlags := 0, code := none }
def k8c1 : Code := { maxStack := 1, maxLocals := 1, code := jdk_52_method_2_code, exceptionTable := #[], attributes := #[] }
def k8m1 : Method := { name := "newBytesFor", desc := "(I)[B", sig := { parameters := [.int], returnType := some (.array .byte) }, accessFlags := 9, code := some k8c1 }
def k8c2 : Code := { maxStack := 4, maxLocals := 1, code := jdk_52_method_3_code, exceptionTable := #[], attributes := #[] }
def k8m2 : Method := { name := "newBytesLength", desc := "(I)I", sig := { parameters := [.int], returnType := some .int }, accessFlags := 9, code := some k8c2 }
def k8c3 : Code := { maxStack := 4, maxLocals := 3, code := jdk_52_method_4_code, exceptionTable := #[], attributes := #[] }
def k8m3 : Method := { name := "putChar", desc := "([BII)V", sig := { parameters := [(.array .byte), .int, .int], returnType := none }, accessFlags := 8, code := some k8c3 }
def k8c4 : Code := { maxStack := 3, maxLocals := 2, code := jdk_52_method_5_code, exceptionTable := #[], attributes := #[] }
def k8m4 : Method := { name := "getChar", desc := "([BI)C", sig := { parameters := [(.array .byte), .int], returnType := some .char }, accessFlags := 8, code := some k8c4 }
def k8c5 : Code := { maxStack := 3, maxLocals := 6, code := jdk_52_method_11_code, exceptionTable := #[], attributes := #[] }
def k8m5 : Method := { name := "codePointCount", desc := "([BIIZ)I", sig := { parameters := [(.array .byte), .int, .int, .boolean], returnType := some .int }, accessFlags := 10, code := some k8c5 }
def k8c6 : Code := { maxStack := 4, maxLocals := 3, code := jdk_52_method_12_code, exceptionTable := #[], attributes := #[] }
def k8m6 : Method := { name := "codePointCount", desc := "([BII)I", sig := { parameters := [(.array .byte), .int, .int], returnType := some .int }, accessFlags := 9, code := some k8c6 }
def k8c7 : Code := { maxStack := 4, maxLocals := 5, code := jdk_52_method_14_code, exceptionTable := #[], attributes := #[] }
def k8m7 : Method := { name := "toBytes", desc := "([CII)[B", sig := { parameters := [(.array .char), .int, .int], returnType := some (.array .byte) }, accessFlags := 9, code := some k8c7 }
def k8c8 : Code := { maxStack := 2, maxLocals := 2, code := jdk_52_method_15_code, exceptionTable := #[], attributes := #[] }
def k8m8 : Method := { name := "coderFromArrayLen", desc := "([BI)B", sig := { parameters := [(.array .byte), .int], returnType := some .byte }, accessFlags := 8, code := some k8c8 }
def k8c9 : Code := { maxStack := 5, maxLocals := 6, code := jdk_52_method_16_code, exceptionTable := #[], attributes := #[] }
def k8m9 : Method := { name := "compress", desc := "([CII)[B", sig := { parameters := [(.array .char), .int, .int], returnType := some (.array .byte) }, accessFlags := 9, code := some k8c9 }
def k8c10 : Code := { maxStack := 3, maxLocals := 7, code := jdk_52_method_21_code, exceptionTable := #[], attributes := #[] }
def k8m10 : Method := { name := "compress", desc := "([CI[BII)I", sig := { parameters := [(.array .char), .int, (.array .byte), .int, .int], returnType := some .int }, accessFlags := 9, code := some k8c10 }
/-- java/lang/StringUTF16 -/
def k8 : Class := { plain "java/lang/StringUTF16" (some 0) with
  accessFlags := 48
  interfaces := #[]
  cf := some (fileOf pool8 12 #[.nestMembers #[627, 629, 369]] #[{ accessFlags := 0, nameIndex := 9, descriptorIndex := 10, attributes := #[] }, { accessFlags := 9, nameIndex := 109, descriptorIndex := 110, attributes := #[] }, { accessFlags := 9, nameIndex := 15, descriptorIndex := 16, attributes := #[] }, { accessFlags := 8, nameIndex := 113, descriptorIndex := 114, attributes := #[] }, { accessFlags := 8, nameIndex := 73, descriptorIndex := 74, attributes := #[] }, { accessFlags := 10, nameIndex := 102, descriptorIndex := 91, attributes := #[] }, { accessFlags := 9, nameIndex := 102, descriptorIndex := 250, attributes := #[] }, { accessFlags := 9, nameIndex := 121, descriptorIndex := 122, attributes := #[] }, { accessFlags := 8, nameIndex := 261, descriptorIndex := 262, attributes := #[] }, { accessFlags := 9, nameIndex := 117, descriptorIndex := 122, attributes := #[] }, { accessFlags := 9, nameIndex := 117, descriptorIndex := 118, attributes := #[] }] 48 6 #[] #[{ accessFlags := 26, nameIndex := 61, descriptorIndex := 62, attributes := #[] }, { accessFlags := 26, nameIndex := 65, descriptorIndex := 62, attributes := #[] }, { accessFlags := 24, nameIndex := 430, descriptorIndex := 62, attributes := #[] }, { accessFlags := 4120, nameIndex := 46, descriptorIndex := 47, attributes := #[] }])
  fields := #[{ name := "HI_BYTE_SHIFT", type := .int, accessFlags := 26, slot := 0, constantValue := 0 }, { name := "LO_BYTE_SHIFT", type := .int, accessFlags := 26, slot := 1, constantValue := 0 }, { name := "MAX_LENGTH", type := .int, accessFlags := 24, slot := 2, constantValue := 0 }, { name := "$assertionsDisabled", type := .boolean, accessFlags := 4120, slot := 3, constantValue := 0 }]
  methods := #[k8m0, k8m1, k8m2, k8m3, k8m4, k8m5, k8m6, k8m7, k8m8, k8m9, k8m10]
  instanceTypes := #[]
  staticTypes := #[.int, .int, .int, .boolean]
  resolved := Array.replicate 635 none
  statics := some 1 }

def pool9 : Array CpInfo := pool [(1, .methodref 2 3), (0, .class_ 4), (0, .nameAndType 5 6), (0, u "java/lang/Object"), (0, u "<init>"), (0, u "()V"), (0, .fieldref 8 9), (0, .class_ 10), (0, .nameAndType 11 12), (0, u "com/example/quittance/quittance/dialect/Claim"), (0, u "transactionId"), (0, u "Ljava/lang/String;"), (0, .fieldref 8 14), (0, .nameAndType 15 12), (0, u "user"), (0, .fieldref 8 17), (0, .nameAndType 18 19), (0, u "amount"), (0, u "J"), (0, .string 21), (0, u "transaction id"), (0, .methodref 8 23), (0, .nameAndType 24 25), (0, u "checkId"), (0, u "(Ljava/lang/String;Ljava/lang/String;I)V"), (0, .string 27), (0, u "user id"), (0, .long 1000000), (8, .methodref 8 38), (0, .nameAndType 5 39), (0, u "(Ljava/lang/String;Ljava/lang/String;J)V"), (3, .class_ 45), (1, u "java/lang/String"), (12, .methodref 43 59), (0, .nameAndType 60 61), (0, u "length"), (0, u "()I"), (10, u "of"), (0, u "(Ljava/lang/String;Ljava/lang/String;J)Lcom/example/quittance/quittance/dialect/Claim;"), (0, .methodref 43 75), (0, .nameAndType 76 77), (0, u "isEmpty"), (0, u "()Z"), (4, .methodref 43 83), (0, .nameAndType 84 85), (0, u "codePointCount"), (0, u "(II)I"), (1, u "MAX_USER_LENGTH"), (0, u "I"), (2, u "MAX_TRANSACTION_ID_LENGTH"), (1, u "MAX_AMOUNT"), (5, u "()Ljava/lang/String;"), (0, u "()J")] 19

def k9c0 : Code := { maxStack := 3, maxLocals := 5, code := prog_12_method_1_code, exceptionTable := #[], attributes := #[] }
def k9m0 : Method := { name := "<init>", desc := "(Ljava/lang/String;Ljava/lang/String;J)V", sig := { parameters := [(.object "java/lang/String"), (.object "java/lang/String"), .long], returnType := none }, accessFlags := 2, code := some k9c0 }
def k9c1 : Code := { maxStack := 6, maxLocals := 4, code := prog_12_method_2_code, exceptionTable := #[], attributes := #[] }
def k9m1 : Method := { name := "of", desc := "(Ljava/lang/String;Ljava/lang/String;J)Lcom/example/quittance/quittance/dialect/Claim;", sig := { parameters := [(.object "java/lang/String"), (.object "java/lang/String"), .long], returnType := some (.object "com/example/quittance/quittance/dialect/Claim") }, accessFlags := 9, code := some k9c1 }
def k9c2 : Code := { maxStack := 3, maxLocals := 3, code := prog_12_method_4_code, exceptionTable := #[], attributes := #[] }
def k9m2 : Method := { name := "checkId", desc := "(Ljava/lang/String;Ljava/lang/String;I)V", sig := { parameters := [(.object "java/lang/String"), (.object "java/lang/String"), .int], returnType := none }, accessFlags := 10, code := some k9c2 }
def k9c3 : Code := { maxStack := 1, maxLocals := 1, code := prog_12_method_5_code, exceptionTable := #[], attributes := #[] }
def k9m3 : Method := { name := "transactionId", desc := "()Ljava/lang/String;", sig := { parameters := [], returnType := some (.object "java/lang/String") }, accessFlags := 1, code := some k9c3 }
def k9c4 : Code := { maxStack := 1, maxLocals := 1, code := prog_12_method_6_code, exceptionTable := #[], attributes := #[] }
def k9m4 : Method := { name := "user", desc := "()Ljava/lang/String;", sig := { parameters := [], returnType := some (.object "java/lang/String") }, accessFlags := 1, code := some k9c4 }
def k9c5 : Code := { maxStack := 2, maxLocals := 1, code := prog_12_method_7_code, exceptionTable := #[], attributes := #[] }
def k9m5 : Method := { name := "amount", desc := "()J", sig := { parameters := [], returnType := some .long }, accessFlags := 1, code := some k9c5 }
/-- com/example/quittance/quittance/dialect/Claim -/
def k9 : Class := { plain "com/example/quittance/quittance/dialect/Claim" (some 0) with
  accessFlags := 49
  interfaces := #[]
  cf := some (fileOf pool9 8 #[] #[{ accessFlags := 2, nameIndex := 5, descriptorIndex := 39, attributes := #[] }, { accessFlags := 9, nameIndex := 72, descriptorIndex := 73, attributes := #[] }, { accessFlags := 10, nameIndex := 24, descriptorIndex := 25, attributes := #[] }, { accessFlags := 1, nameIndex := 11, descriptorIndex := 99, attributes := #[] }, { accessFlags := 1, nameIndex := 15, descriptorIndex := 99, attributes := #[] }, { accessFlags := 1, nameIndex := 18, descriptorIndex := 100, attributes := #[] }] 49 2 #[] #[{ accessFlags := 25, nameIndex := 87, descriptorIndex := 88, attributes := #[] }, { accessFlags := 25, nameIndex := 91, descriptorIndex := 88, attributes := #[] }, { accessFlags := 25, nameIndex := 93, descriptorIndex := 19, attributes := #[] }, { accessFlags := 18, nameIndex := 11, descriptorIndex := 12, attributes := #[] }, { accessFlags := 18, nameIndex := 15, descriptorIndex := 12, attributes := #[] }, { accessFlags := 18, nameIndex := 18, descriptorIndex := 19, attributes := #[] }])
  fields := #[{ name := "MAX_USER_LENGTH", type := .int, accessFlags := 25, slot := 0, constantValue := 0 }, { name := "MAX_TRANSACTION_ID_LENGTH", type := .int, accessFlags := 25, slot := 1, constantValue := 0 }, { name := "MAX_AMOUNT", type := .long, accessFlags := 25, slot := 2, constantValue := 0 }, { name := "transactionId", type := (.object "java/lang/String"), accessFlags := 18, slot := 0, constantValue := 0 }, { name := "user", type := (.object "java/lang/String"), accessFlags := 18, slot := 1, constantValue := 0 }, { name := "amount", type := .long, accessFlags := 18, slot := 2, constantValue := 0 }]
  methods := #[k9m0, k9m1, k9m2, k9m3, k9m4, k9m5]
  instanceTypes := #[(.object "java/lang/String"), (.object "java/lang/String"), .long]
  staticTypes := #[.int, .int, .long]
  resolved := Array.replicate 120 none
  statics := none }

def pool10 : Array CpInfo := pool [(2, .class_ 4), (1, u "java/lang/Object"), (0, u "<init>"), (0, u "()V"), (35, .class_ 44), (1, u "java/util/Objects"), (61, .class_ 108), (1, u "jdk/internal/util/Preconditions"), (2, .methodref 106 112), (0, .nameAndType 113 114), (0, u "checkFromToIndex"), (0, u "(IIILjava/util/function/BiFunction;)I"), (60, u "(III)I")] 8

def k10m0 : Method := { name := "<init>", desc := "()V", sig := { parameters := [], returnType := none }, accessFlags := 2, code := none }
def k10c1 : Code := { maxStack := 4, maxLocals := 3, code := jdk_31_method_18_code, exceptionTable := #[], attributes := #[] }
def k10m1 : Method := { name := "checkFromToIndex", desc := "(III)I", sig := { parameters := [.int, .int, .int], returnType := some .int }, accessFlags := 9, code := some k10c1 }
/-- java/util/Objects -/
def k10 : Class := { plain "java/util/Objects" (some 0) with
  accessFlags := 49
  interfaces := #[]
  cf := some (fileOf pool10 42 #[] #[{ accessFlags := 2, nameIndex := 5, descriptorIndex := 6, attributes := #[] }, { accessFlags := 9, nameIndex := 113, descriptorIndex := 175, attributes := #[] }] 49 2 #[] #[])
  fields := #[]
  methods := #[k10m0, k10m1]
  instanceTypes := #[]
  staticTypes := #[]
  resolved := Array.replicate 184 none
  statics := none }

def pool11 : Array CpInfo := pool [(2, .class_ 4), (1, u "java/lang/Object"), (0, u "<init>"), (0, u "()V"), (17, .class_ 26), (1, u "jdk/internal/util/Preconditions"), (20, u "checkFromToIndex"), (7, .class_ 56), (0, u "jdk/internal/util/Preconditions$4"), (57, .class_ 115), (0, u "jdk/internal/util/Preconditions$1"), (7, u "SIOOBE_FORMATTER"), (0, u "Ljava/util/function/BiFunction;"), (0, .class_ 126), (0, u "jdk/internal/util/Preconditions$2"), (3, u "AIOOBE_FORMATTER"), (0, .class_ 132), (0, u "jdk/internal/util/Preconditions$3"), (3, u "IOOBE_FORMATTER"), (46, u "(IIILjava/util/function/BiFunction;)I")] 10

def k11m0 : Method := { name := "<init>", desc := "()V", sig := { parameters := [], returnType := none }, accessFlags := 1, code := none }
def k11c1 : Code := { maxStack := 4, maxLocals := 4, code := jdk_41_method_12_code, exceptionTable := #[], attributes := #[] }
def k11m1 : Method := { name := "checkFromToIndex", desc := "(IIILjava/util/function/BiFunction;)I", sig := { parameters := [.int, .int, .int, (.object "java/util/function/BiFunction")], returnType := some .int }, accessFlags := 9, code := some k11c1 }
/-- jdk/internal/util/Preconditions -/
def k11 : Class := { plain "jdk/internal/util/Preconditions" (some 0) with
  accessFlags := 33
  interfaces := #[]
  cf := some (fileOf pool11 24 #[.nestMembers #[55, 131, 125, 114]] #[{ accessFlags := 1, nameIndex := 5, descriptorIndex := 6, attributes := #[] }, { accessFlags := 9, nameIndex := 47, descriptorIndex := 183, attributes := #[] }] 33 2 #[] #[{ accessFlags := 25, nameIndex := 123, descriptorIndex := 124, attributes := #[] }, { accessFlags := 25, nameIndex := 130, descriptorIndex := 124, attributes := #[] }, { accessFlags := 25, nameIndex := 136, descriptorIndex := 124, attributes := #[] }])
  fields := #[{ name := "SIOOBE_FORMATTER", type := (.object "java/util/function/BiFunction"), accessFlags := 25, slot := 0, constantValue := 0 }, { name := "AIOOBE_FORMATTER", type := (.object "java/util/function/BiFunction"), accessFlags := 25, slot := 1, constantValue := 0 }, { name := "IOOBE_FORMATTER", type := (.object "java/util/function/BiFunction"), accessFlags := 25, slot := 2, constantValue := 0 }]
  methods := #[k11m0, k11m1]
  instanceTypes := #[]
  staticTypes := #[(.object "java/util/function/BiFunction"), (.object "java/util/function/BiFunction"), (.object "java/util/function/BiFunction")]
  resolved := Array.replicate 194 none
  statics := some 2 }

def pool12 : Array CpInfo := pool [(1, .class_ 2), (0, u "java/lang/Character"), (18, u "value"), (0, u "C"), (19, .class_ 44), (1, u "java/lang/Object"), (3, .class_ 50), (1, u "java/lang/Character$CharacterCache"), (24, .integer 55296), (0, .integer 56320), (0, .integer 57344), (2, u "isHighSurrogate"), (0, u "(C)Z"), (2, u "isLowSurrogate"), (199, u "$assertionsDisabled"), (0, u "Z"), (21, .class_ 309), (1, u "java/lang/Character$UnicodeBlock"), (73, u "TYPE"), (0, u "Ljava/lang/Class;"), (0, .class_ 386), (0, u "java/io/Serializable"), (0, .class_ 388), (0, u "java/lang/Comparable"), (0, .class_ 390), (0, u "java/lang/constant/Constable"), (0, u "MIN_RADIX"), (0, u "I"), (2, u "MAX_RADIX"), (1, u "MIN_VALUE"), (1, u "MAX_VALUE"), (3, u "UNASSIGNED"), (0, u "B"), (0, u "UPPERCASE_LETTER"), (1, u "LOWERCASE_LETTER"), (0, u "TITLECASE_LETTER"), (1, u "MODIFIER_LETTER"), (1, u "OTHER_LETTER"), (1, u "NON_SPACING_MARK"), (1, u "ENCLOSING_MARK"), (1, u "COMBINING_SPACING_MARK"), (1, u "DECIMAL_DIGIT_NUMBER"), (1, u "LETTER_NUMBER"), (1, u "OTHER_NUMBER"), (1, u "SPACE_SEPARATOR"), (1, u "LINE_SEPARATOR"), (1, u "PARAGRAPH_SEPARATOR"), (1, u "CONTROL"), (1, u "FORMAT"), (1, u "PRIVATE_USE"), (1, u "SURROGATE"), (1, u "DASH_PUNCTUATION"), (1, u "START_PUNCTUATION"), (1, u "END_PUNCTUATION"), (1, u "CONNECTOR_PUNCTUATION"), (1, u "OTHER_PUNCTUATION"), (1, u "MATH_SYMBOL"), (1, u "CURRENCY_SYMBOL"), (1, u "MODIFIER_SYMBOL"), (1, u "OTHER_SYMBOL"), (1, u "INITIAL_QUOTE_PUNCTUATION"), (1, u "FINAL_QUOTE_PUNCTUATION"), (1, u "ERROR"), (1, u "DIRECTIONALITY_UNDEFINED"), (0, u "DIRECTIONALITY_LEFT_TO_RIGHT"), (0, u "DIRECTIONALITY_RIGHT_TO_LEFT"), (0, u "DIRECTIONALITY_RIGHT_TO_LEFT_ARABIC"), (0, u "DIRECTIONALITY_EUROPEAN_NUMBER"), (0, u "DIRECTIONALITY_EUROPEAN_NUMBER_SEPARATOR"), (0, u "DIRECTIONALITY_EUROPEAN_NUMBER_TERMINATOR"), (0, u "DIRECTIONALITY_ARABIC_NUMBER"), (0, u "DIRECTIONALITY_COMMON_NUMBER_SEPARATOR"), (0, u "DIRECTIONALITY_NONSPACING_MARK"), (0, u "DIRECTIONALITY_BOUNDARY_NEUTRAL"), (0, u "DIRECTIONALITY_PARAGRAPH_SEPARATOR"), (0, u "DIRECTIONALITY_SEGMENT_SEPARATOR"), (0, u "DIRECTIONALITY_WHITESPACE"), (0, u "DIRECTIONALITY_OTHER_NEUTRALS"), (0, u "DIRECTIONALITY_LEFT_TO_RIGHT_EMBEDDING"), (0, u "DIRECTIONALITY_LEFT_TO_RIGHT_OVERRIDE"), (0, u "DIRECTIONALITY_RIGHT_TO_LEFT_EMBEDDING"), (0, u "DIRECTIONALITY_RIGHT_TO_LEFT_OVERRIDE"), (1, u "DIRECTIONALITY_POP_DIRECTIONAL_FORMAT"), (0, u "DIRECTIONALITY_LEFT_TO_RIGHT_ISOLATE"), (0, u "DIRECTIONALITY_RIGHT_TO_LEFT_ISOLATE"), (0, u "DIRECTIONALITY_FIRST_STRONG_ISOLATE"), (0, u "DIRECTIONALITY_POP_DIRECTIONAL_ISOLATE"), (0, u "MIN_HIGH_SURROGATE"), (0, u "MAX_HIGH_SURROGATE"), (1, u "MIN_LOW_SURROGATE"), (0, u "MAX_LOW_SURROGATE"), (1, u "MIN_SURROGATE"), (0, u "MAX_SURROGATE"), (0, u "MIN_SUPPLEMENTARY_CODE_POINT"), (0, u "MIN_CODE_POINT"), (0, u "MAX_CODE_POINT"), (1, u "serialVersionUID"), (0, u "J"), (2, u "SIZE"), (0, u "BYTES"), (88, .class_ 596), (0, u "java/lang/Character$UnicodeScript"), (0, .class_ 598), (0, u "java/lang/Character$Subset")] 5

def k12c0 : Code := { maxStack := 2, maxLocals := 1, code := jdk_89_method_14_code, exceptionTable := #[], attributes := #[] }
def k12m0 : Method := { name := "isHighSurrogate", desc := "(C)Z", sig := { parameters := [.char], returnType := some .boolean }, accessFlags := 9, code := some k12c0 }
def k12c1 : Code := { maxStack := 2, maxLocals := 1, code := jdk_89_method_15_code, exceptionTable := #[], attributes := #[] }
def k12m1 : Method := { name := "isLowSurrogate", desc := "(C)Z", sig := { parameters := [.char], returnType := some .boolean }, accessFlags := 9, code := some k12c1 }
/-- java/lang/Character -/
def k12 : Class := { plain "java/lang/Character" (some 0) with
  accessFlags := 49
  interfaces := #[2, 3, 5]
  cf := some (fileOf pool12 1 #[.nestMembers #[48, 595, 307, 597]] #[{ accessFlags := 9, nameIndex := 80, descriptorIndex := 81, attributes := #[] }, { accessFlags := 9, nameIndex := 84, descriptorIndex := 81, attributes := #[] }] 49 42 #[385, 387, 389] #[{ accessFlags := 25, nameIndex := 391, descriptorIndex := 392, attributes := #[] }, { accessFlags := 25, nameIndex := 395, descriptorIndex := 392, attributes := #[] }, { accessFlags := 25, nameIndex := 397, descriptorIndex := 22, attributes := #[] }, { accessFlags := 25, nameIndex := 399, descriptorIndex := 22, attributes := #[] }, { accessFlags := 25, nameIndex := 383, descriptorIndex := 384, attributes := #[] }, { accessFlags := 25, nameIndex := 403, descriptorIndex := 404, attributes := #[] }, { accessFlags := 25, nameIndex := 405, descriptorIndex := 404, attributes := #[] }, { accessFlags := 25, nameIndex := 407, descriptorIndex := 404, attributes := #[] }, { accessFlags := 25, nameIndex := 408, descriptorIndex := 404, attributes := #[] }, { accessFlags := 25, nameIndex := 410, descriptorIndex := 404, attributes := #[] }, { accessFlags := 25, nameIndex := 412, descriptorIndex := 404, attributes := #[] }, { accessFlags := 25, nameIndex := 414, descriptorIndex := 404, attributes := #[] }, { accessFlags := 25, nameIndex := 416, descriptorIndex := 404, attributes := #[] }, { accessFlags := 25, nameIndex := 418, descriptorIndex := 404, attributes := #[] }, { accessFlags := 25, nameIndex := 420, descriptorIndex := 404, attributes := #[] }, { accessFlags := 25, nameIndex := 422, descriptorIndex := 404, attributes := #[] }, { accessFlags := 25, nameIndex := 424, descriptorIndex := 404, attributes := #[] }, { accessFlags := 25, nameIndex := 426, descriptorIndex := 404, attributes := #[] }, { accessFlags := 25, nameIndex := 428, descriptorIndex := 404, attributes := #[] }, { accessFlags := 25, nameIndex := 430, descriptorIndex := 404, attributes := #[] }, { accessFlags := 25, nameIndex := 432, descriptorIndex := 404, attributes := #[] }, { accessFlags := 25, nameIndex := 434, descriptorIndex := 404, attributes := #[] }, { accessFlags := 25, nameIndex := 436, descriptorIndex := 404, attributes := #[] }, { accessFlags := 25, nameIndex := 438, descriptorIndex := 404, attributes := #[] }, { accessFlags := 25, nameIndex := 440, descriptorIndex := 404, attributes := #[] }, { accessFlags := 25, nameIndex := 442, descriptorIndex := 404, attributes := #[] }, { accessFlags := 25, nameIndex := 444, descriptorIndex := 404, attributes := #[] }, { accessFlags := 25, nameIndex := 446, descriptorIndex := 404, attributes := #[] }, { accessFlags := 25, nameIndex := 448, descriptorIndex := 404, attributes := #[] }, { accessFlags := 25, nameIndex := 450, descriptorIndex := 404, attributes := #[] }, { accessFlags := 25, nameIndex := 452, descriptorIndex := 404, attributes := #[] }, { accessFlags := 25, nameIndex := 454, descriptorIndex := 404, attributes := #[] }, { accessFlags := 25, nameIndex := 456, descriptorIndex := 404, attributes := #[] }, { accessFlags := 25, nameIndex := 458, descriptorIndex := 404, attributes := #[] }, { accessFlags := 25, nameIndex := 460, descriptorIndex := 404, attributes := #[] }, { accessFlags := 24, nameIndex := 462, descriptorIndex := 392, attributes := #[] }, { accessFlags := 25, nameIndex := 464, descriptorIndex := 404, attributes := #[] }, { accessFlags := 25, nameIndex := 465, descriptorIndex := 404, attributes := #[] }, { accessFlags := 25, nameIndex := 466, descriptorIndex := 404, attributes := #[] }, { accessFlags := 25, nameIndex := 467, descriptorIndex := 404, attributes := #[] }, { accessFlags := 25, nameIndex := 468, descriptorIndex := 404, attributes := #[] }, { accessFlags := 25, nameIndex := 469, descriptorIndex := 404, attributes := #[] }, { accessFlags := 25, nameIndex := 470, descriptorIndex := 404, attributes := #[] }, { accessFlags := 25, nameIndex := 471, descriptorIndex := 404, attributes := #[] }, { accessFlags := 25, nameIndex := 472, descriptorIndex := 404, attributes := #[] }, { accessFlags := 25, nameIndex := 473, descriptorIndex := 404, attributes := #[] }, { accessFlags := 25, nameIndex := 474, descriptorIndex := 404, attributes := #[] }, { accessFlags := 25, nameIndex := 475, descriptorIndex := 404, attributes := #[] }, { accessFlags := 25, nameIndex := 476, descriptorIndex := 404, attributes := #[] }, { accessFlags := 25, nameIndex := 477, descriptorIndex := 404, attributes := #[] }, { accessFlags := 25, nameIndex := 478, descriptorIndex := 404, attributes := #[] }, { accessFlags := 25, nameIndex := 479, descriptorIndex := 404, attributes := #[] }, { accessFlags := 25, nameIndex := 480, descriptorIndex := 404, attributes := #[] }, { accessFlags := 25, nameIndex := 481, descriptorIndex := 404, attributes := #[] }, { accessFlags := 25, nameIndex := 482, descriptorIndex := 404, attributes := #[] }, { accessFlags := 25, nameIndex := 484, descriptorIndex := 404, attributes := #[] }, { accessFlags := 25, nameIndex := 485, descriptorIndex := 404, attributes := #[] }, { accessFlags := 25, nameIndex := 486, descriptorIndex := 404, attributes := #[] }, { accessFlags := 25, nameIndex := 487, descriptorIndex := 404, attributes := #[] }, { accessFlags := 25, nameIndex := 488, descriptorIndex := 404, attributes := #[] }, { accessFlags := 25, nameIndex := 489, descriptorIndex := 22, attributes := #[] }, { accessFlags := 25, nameIndex := 490, descriptorIndex := 22, attributes := #[] }, { accessFlags := 25, nameIndex := 492, descriptorIndex := 22, attributes := #[] }, { accessFlags := 25, nameIndex := 493, descriptorIndex := 22, attributes := #[] }, { accessFlags := 25, nameIndex := 495, descriptorIndex := 22, attributes := #[] }, { accessFlags := 25, nameIndex := 496, descriptorIndex := 22, attributes := #[] }, { accessFlags := 25, nameIndex := 497, descriptorIndex := 392, attributes := #[] }, { accessFlags := 25, nameIndex := 498, descriptorIndex := 392, attributes := #[] }, { accessFlags := 25, nameIndex := 499, descriptorIndex := 392, attributes := #[] }, { accessFlags := 18, nameIndex := 21, descriptorIndex := 22, attributes := #[] }, { accessFlags := 26, nameIndex := 501, descriptorIndex := 502, attributes := #[] }, { accessFlags := 25, nameIndex := 505, descriptorIndex := 392, attributes := #[] }, { accessFlags := 25, nameIndex := 506, descriptorIndex := 392, attributes := #[] }, { accessFlags := 4120, nameIndex := 284, descriptorIndex := 285, attributes := #[] }])
  fields := #[{ name := "MIN_RADIX", type := .int, accessFlags := 25, slot := 0, constantValue := 0 }, { name := "MAX_RADIX", type := .int, accessFlags := 25, slot := 1, constantValue := 0 }, { name := "MIN_VALUE", type := .char, accessFlags := 25, slot := 2, constantValue := 0 }, { name := "MAX_VALUE", type := .char, accessFlags := 25, slot := 3, constantValue := 0 }, { name := "TYPE", type := (.object "java/lang/Class"), accessFlags := 25, slot := 4, constantValue := 0 }, { name := "UNASSIGNED", type := .byte, accessFlags := 25, slot := 5, constantValue := 0 }, { name := "UPPERCASE_LETTER", type := .byte, accessFlags := 25, slot := 6, constantValue := 0 }, { name := "LOWERCASE_LETTER", type := .byte, accessFlags := 25, slot := 7, constantValue := 0 }, { name := "TITLECASE_LETTER", type := .byte, accessFlags := 25, slot := 8, constantValue := 0 }, { name := "MODIFIER_LETTER", type := .byte, accessFlags := 25, slot := 9, constantValue := 0 }, { name := "OTHER_LETTER", type := .byte, accessFlags := 25, slot := 10, constantValue := 0 }, { name := "NON_SPACING_MARK", type := .byte, accessFlags := 25, slot := 11, constantValue := 0 }, { name := "ENCLOSING_MARK", type := .byte, accessFlags := 25, slot := 12, constantValue := 0 }, { name := "COMBINING_SPACING_MARK", type := .byte, accessFlags := 25, slot := 13, constantValue := 0 }, { name := "DECIMAL_DIGIT_NUMBER", type := .byte, accessFlags := 25, slot := 14, constantValue := 0 }, { name := "LETTER_NUMBER", type := .byte, accessFlags := 25, slot := 15, constantValue := 0 }, { name := "OTHER_NUMBER", type := .byte, accessFlags := 25, slot := 16, constantValue := 0 }, { name := "SPACE_SEPARATOR", type := .byte, accessFlags := 25, slot := 17, constantValue := 0 }, { name := "LINE_SEPARATOR", type := .byte, accessFlags := 25, slot := 18, constantValue := 0 }, { name := "PARAGRAPH_SEPARATOR", type := .byte, accessFlags := 25, slot := 19, constantValue := 0 }, { name := "CONTROL", type := .byte, accessFlags := 25, slot := 20, constantValue := 0 }, { name := "FORMAT", type := .byte, accessFlags := 25, slot := 21, constantValue := 0 }, { name := "PRIVATE_USE", type := .byte, accessFlags := 25, slot := 22, constantValue := 0 }, { name := "SURROGATE", type := .byte, accessFlags := 25, slot := 23, constantValue := 0 }, { name := "DASH_PUNCTUATION", type := .byte, accessFlags := 25, slot := 24, constantValue := 0 }, { name := "START_PUNCTUATION", type := .byte, accessFlags := 25, slot := 25, constantValue := 0 }, { name := "END_PUNCTUATION", type := .byte, accessFlags := 25, slot := 26, constantValue := 0 }, { name := "CONNECTOR_PUNCTUATION", type := .byte, accessFlags := 25, slot := 27, constantValue := 0 }, { name := "OTHER_PUNCTUATION", type := .byte, accessFlags := 25, slot := 28, constantValue := 0 }, { name := "MATH_SYMBOL", type := .byte, accessFlags := 25, slot := 29, constantValue := 0 }, { name := "CURRENCY_SYMBOL", type := .byte, accessFlags := 25, slot := 30, constantValue := 0 }, { name := "MODIFIER_SYMBOL", type := .byte, accessFlags := 25, slot := 31, constantValue := 0 }, { name := "OTHER_SYMBOL", type := .byte, accessFlags := 25, slot := 32, constantValue := 0 }, { name := "INITIAL_QUOTE_PUNCTUATION", type := .byte, accessFlags := 25, slot := 33, constantValue := 0 }, { name := "FINAL_QUOTE_PUNCTUATION", type := .byte, accessFlags := 25, slot := 34, constantValue := 0 }, { name := "ERROR", type := .int, accessFlags := 24, slot := 35, constantValue := 0 }, { name := "DIRECTIONALITY_UNDEFINED", type := .byte, accessFlags := 25, slot := 36, constantValue := 0 }, { name := "DIRECTIONALITY_LEFT_TO_RIGHT", type := .byte, accessFlags := 25, slot := 37, constantValue := 0 }, { name := "DIRECTIONALITY_RIGHT_TO_LEFT", type := .byte, accessFlags := 25, slot := 38, constantValue := 0 }, { name := "DIRECTIONALITY_RIGHT_TO_LEFT_ARABIC", type := .byte, accessFlags := 25, slot := 39, constantValue := 0 }, { name := "DIRECTIONALITY_EUROPEAN_NUMBER", type := .byte, accessFlags := 25, slot := 40, constantValue := 0 }, { name := "DIRECTIONALITY_EUROPEAN_NUMBER_SEPARATOR", type := .byte, accessFlags := 25, slot := 41, constantValue := 0 }, { name := "DIRECTIONALITY_EUROPEAN_NUMBER_TERMINATOR", type := .byte, accessFlags := 25, slot := 42, constantValue := 0 }, { name := "DIRECTIONALITY_ARABIC_NUMBER", type := .byte, accessFlags := 25, slot := 43, constantValue := 0 }, { name := "DIRECTIONALITY_COMMON_NUMBER_SEPARATOR", type := .byte, accessFlags := 25, slot := 44, constantValue := 0 }, { name := "DIRECTIONALITY_NONSPACING_MARK", type := .byte, accessFlags := 25, slot := 45, constantValue := 0 }, { name := "DIRECTIONALITY_BOUNDARY_NEUTRAL", type := .byte, accessFlags := 25, slot := 46, constantValue := 0 }, { name := "DIRECTIONALITY_PARAGRAPH_SEPARATOR", type := .byte, accessFlags := 25, slot := 47, constantValue := 0 }, { name := "DIRECTIONALITY_SEGMENT_SEPARATOR", type := .byte, accessFlags := 25, slot := 48, constantValue := 0 }, { name := "DIRECTIONALITY_WHITESPACE", type := .byte, accessFlags := 25, slot := 49, constantValue := 0 }, { name := "DIRECTIONALITY_OTHER_NEUTRALS", type := .byte, accessFlags := 25, slot := 50, constantValue := 0 }, { name := "DIRECTIONALITY_LEFT_TO_RIGHT_EMBEDDING", type := .byte, accessFlags := 25, slot := 51, constantValue := 0 }, { name := "DIRECTIONALITY_LEFT_TO_RIGHT_OVERRIDE", type := .byte, accessFlags := 25, slot := 52, constantValue := 0 }, { name := "DIRECTIONALITY_RIGHT_TO_LEFT_EMBEDDING", type := .byte, accessFlags := 25, slot := 53, constantValue := 0 }, { name := "DIRECTIONALITY_RIGHT_TO_LEFT_OVERRIDE", type := .byte, accessFlags := 25, slot := 54, constantValue := 0 }, { name := "DIRECTIONALITY_POP_DIRECTIONAL_FORMAT", type := .byte, accessFlags := 25, slot := 55, constantValue := 0 }, { name := "DIRECTIONALITY_LEFT_TO_RIGHT_ISOLATE", type := .byte, accessFlags := 25, slot := 56, constantValue := 0 }, { name := "DIRECTIONALITY_RIGHT_TO_LEFT_ISOLATE", type := .byte, accessFlags := 25, slot := 57, constantValue := 0 }, { name := "DIRECTIONALITY_FIRST_STRONG_ISOLATE", type := .byte, accessFlags := 25, slot := 58, constantValue := 0 }, { name := "DIRECTIONALITY_POP_DIRECTIONAL_ISOLATE", type := .byte, accessFlags := 25, slot := 59, constantValue := 0 }, { name := "MIN_HIGH_SURROGATE", type := .char, accessFlags := 25, slot := 60, constantValue := 0 }, { name := "MAX_HIGH_SURROGATE", type := .char, accessFlags := 25, slot := 61, constantValue := 0 }, { name := "MIN_LOW_SURROGATE", type := .char, accessFlags := 25, slot := 62, constantValue := 0 }, { name := "MAX_LOW_SURROGATE", type := .char, accessFlags := 25, slot := 63, constantValue := 0 }, { name := "MIN_SURROGATE", type := .char, accessFlags := 25, slot := 64, constantValue := 0 }, { name := "MAX_SURROGATE", type := .char, accessFlags := 25, slot := 65, constantValue := 0 }, { name := "MIN_SUPPLEMENTARY_CODE_POINT", type := .int, accessFlags := 25, slot := 66, constantValue := 0 }, { name := "MIN_CODE_POINT", type := .int, accessFlags := 25, slot := 67, constantValue := 0 }, { name := "MAX_CODE_POINT", type := .int, accessFlags := 25, slot := 68, constantValue := 0 }, { name := "value", type := .char, accessFlags := 18, slot := 0, constantValue := 0 }, { name := "serialVersionUID", type := .long, accessFlags := 26, slot := 69, constantValue := 0 }, { name := "SIZE", type := .int, accessFlags := 25, slot := 70, constantValue := 0 }, { name := "BYTES", type := .int, accessFlags := 25, slot := 71, constantValue := 0 }, { name := "$assertionsDisabled", type := .boolean, accessFlags := 4120, slot := 72, constantValue := 0 }]
  methods := #[k12m0, k12m1]
  instanceTypes := #[.char]
  staticTypes := #[.int, .int, .char, .char, (.object "java/lang/Class"), .byte, .byte, .byte, .byte, .byte, .byte, .byte, .byte, .byte, .byte, .byte, .byte, .byte, .byte, .byte, .byte, .byte, .byte, .byte, .byte, .byte, .byte, .byte, .byte, .byte, .byte, .byte, .byte, .byte, .byte, .int, .byte, .byte, .byte, .byte, .byte, .byte, .byte, .byte, .byte, .byte, .byte, .byte, .byte, .byte, .byte, .byte, .byte, .byte, .byte, .byte, .byte, .byte, .byte, .byte, .char, .char, .char, .char, .char, .char, .int, .int, .int, .long, .int, .int, .boolean]
  resolved := Array.replicate 604 none
  statics := none }

def pool13 : Array CpInfo := pool [(4, .class_ 6), (1, u "java/lang/Object"), (0, u "<init>"), (0, u "()V"), (5, .class_ 16), (1, u "java/lang/StringLatin1"), (104, u "$assertionsDisabled"), (0, u "Z"), (98, .class_ 223), (1, u "java/lang/StringLatin1$LinesSpliterator"), (166, .class_ 391), (0, u "java/lang/StringLatin1$CharsSpliterator")] 3

def k13m0 : Method := { name := "<init>", desc := "()V", sig := { parameters := [], returnType := none }, accessFlags := 0, code := none }
/-- java/lang/StringLatin1 -/
def k13 : Class := { plain "java/lang/StringLatin1" (some 0) with
  accessFlags := 48
  interfaces := #[]
  cf := some (fileOf pool13 14 #[.nestMembers #[390, 221]] #[{ accessFlags := 0, nameIndex := 7, descriptorIndex := 8, attributes := #[] }] 48 4 #[] #[{ accessFlags := 4120, nameIndex := 121, descriptorIndex := 122, attributes := #[] }])
  fields := #[{ name := "$assertionsDisabled", type := .boolean, accessFlags := 4120, slot := 0, constantValue := 0 }]
  methods := #[k13m0]
  instanceTypes := #[]
  staticTypes := #[.boolean]
  resolved := Array.replicate 395 none
  statics := none }

def pool14 : Array CpInfo := pool [(9, u "<init>"), (6, .class_ 18), (1, u "java/lang/Object"), (0, u "()V"), (1, .class_ 23), (1, u "jdk/internal/util/ArraysSupport"), (0, u "LOG2_ARRAY_LONG_INDEX_SCALE"), (0, u "I"), (2, u "U"), (0, u "Ljdk/internal/misc/Unsafe;"), (8, u "BIG_ENDIAN"), (0, u "Z"), (8, u "LOG2_BYTE_BIT_SIZE"), (4, u "LOG2_ARRAY_INT_INDEX_SCALE"), (54, u "JLA"), (0, u "Ljdk/internal/access/JavaLangAccess;"), (11, u "LOG2_ARRAY_BOOLEAN_INDEX_SCALE"), (9, u "LOG2_ARRAY_BYTE_INDEX_SCALE"), (5, u "LOG2_ARRAY_CHAR_INDEX_SCALE"), (5, u "LOG2_ARRAY_SHORT_INDEX_SCALE"), (18, u "LOG2_ARRAY_FLOAT_INDEX_SCALE"), (24, u "LOG2_ARRAY_DOUBLE_INDEX_SCALE"), (89, u "T_BOOLEAN"), (2, u "T_CHAR"), (1, u "T_FLOAT"), (1, u "T_DOUBLE"), (1, u "T_BYTE"), (1, u "T_SHORT"), (1, u "T_INT"), (1, u "T_LONG"), (1, u "SOFT_MAX_ARRAY_LENGTH")] 83

def k14m0 : Method := { name := "<init>", desc := "()V", sig := { parameters := [], returnType := none }, accessFlags := 2, code := none }
/-- jdk/internal/util/ArraysSupport -/
def k14 : Class := { plain "jdk/internal/util/ArraysSupport" (some 0) with
  accessFlags := 33
  interfaces := #[]
  cf := some (fileOf pool14 21 #[] #[{ accessFlags := 2, nameIndex := 9, descriptorIndex := 19, attributes := #[] }] 33 16 #[] #[{ accessFlags := 24, nameIndex := 28, descriptorIndex := 29, attributes := #[] }, { accessFlags := 26, nameIndex := 38, descriptorIndex := 39, attributes := #[] }, { accessFlags := 25, nameIndex := 121, descriptorIndex := 25, attributes := #[] }, { accessFlags := 25, nameIndex := 131, descriptorIndex := 25, attributes := #[] }, { accessFlags := 25, nameIndex := 137, descriptorIndex := 25, attributes := #[] }, { accessFlags := 25, nameIndex := 143, descriptorIndex := 25, attributes := #[] }, { accessFlags := 25, nameIndex := 53, descriptorIndex := 25, attributes := #[] }, { accessFlags := 25, nameIndex := 24, descriptorIndex := 25, attributes := #[] }, { accessFlags := 25, nameIndex := 162, descriptorIndex := 25, attributes := #[] }, { accessFlags := 25, nameIndex := 187, descriptorIndex := 25, attributes := #[] }, { accessFlags := 26, nameIndex := 48, descriptorIndex := 25, attributes := #[] }, { accessFlags := 25, nameIndex := 277, descriptorIndex := 25, attributes := #[] }, { accessFlags := 25, nameIndex := 280, descriptorIndex := 25, attributes := #[] }, { accessFlags := 25, nameIndex := 282, descriptorIndex := 25, attributes := #[] }, { accessFlags := 25, nameIndex := 284, descriptorIndex := 25, attributes := #[] }, { accessFlags := 25, nameIndex := 286, descriptorIndex := 25, attributes := #[] }, { accessFlags := 25, nameIndex := 288, descriptorIndex := 25, attributes := #[] }, { accessFlags := 25, nameIndex := 290, descriptorIndex := 25, attributes := #[] }, { accessFlags := 25, nameIndex := 292, descriptorIndex := 25, attributes := #[] }, { accessFlags := 26, nameIndex := 108, descriptorIndex := 109, attributes := #[] }, { accessFlags := 25, nameIndex := 294, descriptorIndex := 25, attributes := #[] }])
  fields := #[{ name := "U", type := (.object "jdk/internal/misc/Unsafe"), accessFlags := 24, slot := 0, constantValue := 0 }, { name := "BIG_ENDIAN", type := .boolean, accessFlags := 26, slot := 1, constantValue := 0 }, { name := "LOG2_ARRAY_BOOLEAN_INDEX_SCALE", type := .int, accessFlags := 25, slot := 2, constantValue := 0 }, { name := "LOG2_ARRAY_BYTE_INDEX_SCALE", type := .int, accessFlags := 25, slot := 3, constantValue := 0 }, { name := "LOG2_ARRAY_CHAR_INDEX_SCALE", type := .int, accessFlags := 25, slot := 4, constantValue := 0 }, { name := "LOG2_ARRAY_SHORT_INDEX_SCALE", type := .int, accessFlags := 25, slot := 5, constantValue := 0 }, { name := "LOG2_ARRAY_INT_INDEX_SCALE", type := .int, accessFlags := 25, slot := 6, constantValue := 0 }, { name := "LOG2_ARRAY_LONG_INDEX_SCALE", type := .int, accessFlags := 25, slot := 7, constantValue := 0 }, { name := "LOG2_ARRAY_FLOAT_INDEX_SCALE", type := .int, accessFlags := 25, slot := 8, constantValue := 0 }, { name := "LOG2_ARRAY_DOUBLE_INDEX_SCALE", type := .int, accessFlags := 25, slot := 9, constantValue := 0 }, { name := "LOG2_BYTE_BIT_SIZE", type := .int, accessFlags := 26, slot := 10, constantValue := 0 }, { name := "T_BOOLEAN", type := .int, accessFlags := 25, slot := 11, constantValue := 0 }, { name := "T_CHAR", type := .int, accessFlags := 25, slot := 12, constantValue := 0 }, { name := "T_FLOAT", type := .int, accessFlags := 25, slot := 13, constantValue := 0 }, { name := "T_DOUBLE", type := .int, accessFlags := 25, slot := 14, constantValue := 0 }, { name := "T_BYTE", type := .int, accessFlags := 25, slot := 15, constantValue := 0 }, { name := "T_SHORT", type := .int, accessFlags := 25, slot := 16, constantValue := 0 }, { name := "T_INT", type := .int, accessFlags := 25, slot := 17, constantValue := 0 }, { name := "T_LONG", type := .int, accessFlags := 25, slot := 18, constantValue := 0 }, { name := "JLA", type := (.object "jdk/internal/access/JavaLangAccess"), accessFlags := 26, slot := 19, constantValue := 0 }, { name := "SOFT_MAX_ARRAY_LENGTH", type := .int, accessFlags := 25, slot := 20, constantValue := 0 }]
  methods := #[k14m0]
  instanceTypes := #[]
  staticTypes := #[(.object "jdk/internal/misc/Unsafe"), .boolean, .int, .int, .int, .int, .int, .int, .int, .int, .int, .int, .int, .int, .int, .int, .int, .int, .int, (.object "jdk/internal/access/JavaLangAccess"), .int]
  resolved := Array.replicate 378 none
  statics := none }

def pool15 : Array CpInfo := pool [(1, u "java/lang/Cloneable"), (0, .class_ 1), (0, u "java/lang/Object"), (0, .class_ 3)] 3

/-- java/lang/Cloneable -/
def k15 : Class := { plain "java/lang/Cloneable" (some 0) with
  accessFlags := 1537
  interfaces := #[]
  cf := some (fileOf pool15 2 #[] #[] 1537 4 #[] #[])
  fields := #[]
  methods := #[]
  instanceTypes := #[]
  staticTypes := #[]
  resolved := Array.replicate 8 none
  statics := none }

/-- the primitive byte -/
def k16 : Class := { plain "byte" none with kind := .primitive 'B', accessFlags := 0x411 }
/-- [B -/
def k17 : Class := { plain "[B" (some 0) with kind := .array 16 .byte, interfaces := #[15, 2], accessFlags := 1041 }

/-- the primitive char -/
def k18 : Class := { plain "char" none with kind := .primitive 'C', accessFlags := 0x411 }
/-- [C -/
def k19 : Class := { plain "[C" (some 0) with kind := .array 18 .char, interfaces := #[15, 2], accessFlags := 1041 }

/-- the primitive int -/
def k20 : Class := { plain "int" none with kind := .primitive 'I', accessFlags := 0x411 }
/-- [I -/
def k21 : Class := { plain "[I" (some 0) with kind := .array 20 .int, interfaces := #[15, 2], accessFlags := 1041 }

def heap : Heap := #[{ cls := 7, slots := #[.long 0, .int 1, .null, .int 0, .null, .int 0, .int 0], vm := .statics 7 },
  { cls := 8, slots := #[.int 0, .int 8, .int 0, .int 1], vm := .statics 8 },
  { cls := 11, slots := #[.null, .null, .null], vm := .statics 11 }]
def classes : Array Class := #[k0, k1, k2, k3, k4, k5, k6, k7, k8, k9, k10, k11, k12, k13, k14, k15, k16, k17, k18, k19, k20, k21]
def interned : List (Array UInt16 × Addr) := []
def slotsUsed : Nat := 14
def theMethod : MethodId := ⟨1, 2⟩
def args0 : Array Value := #[.int 0, .int 0, .long 0]
def aboutOver (below : List Frame) : State where
  vm := { classes := classes, interned := interned.toArray }
  heap := heap
  slotsUsed := slotsUsed
  threads := #[{ frames := .invoking theMethod args0 :: below }]
def below0 : List Frame := [.native { method := ⟨0, 0⟩, args := #[] }]
def about1 : State := aboutOver below0
def p0 : Program := .bare "" "" ""
def e0 : Env := launch0.env 0 0 0
theorem w_frames : about1.frames = Frame.invoking theMethod args0 :: below0 := rfl
set_option maxRecDepth 65536 in
theorem w_args : argsFit about1.vm theMethod args0 = true := by decide +kernel
set_option maxRecDepth 65536 in
theorem w_heap : heapFits about1 = true := by decide +kernel
set_option maxRecDepth 65536 in
theorem w_runnable : about1.curStatus? = some .runnable := by decide +kernel
set_option maxRecDepth 65536 in
theorem w_alone : about1.alone = true := by decide +kernel
set_option maxRecDepth 65536 in
theorem w_named : about1.methodNamed? x = some theMethod := by decide +kernel
set_option maxRecDepth 65536 in
theorem w_hears : about1.hears theMethod below0 = true := by decide +kernel
set_option maxRecDepth 65536 in
theorem w_ripe : about1.ripe theMethod args0 below0 = true := by decide +kernel
theorem w_running : about1.status = .running := rfl
set_option maxRecDepth 65536 in
theorem w_room : about1.hasRoom e0.platform room_1 = true :=
  launch0.hasRoom_least _ room_1 (by decide +kernel) (by decide +kernel) (by decide +kernel) (by decide +kernel) (by decide +kernel) (by decide +kernel)
theorem allAtoms_all (ts : List Jvm.Cond) (a : Array Jvm.Value) (st : Jvm.State) : (allAtoms ts).before a st = ts.all (fun c => c.before a st) := by
  induction ts with
  | nil => rfl
  | cons c t ih =>
    show (Jvm.Cond.and c (allAtoms t)).before a st = _
    rw [Jvm.Cond.before_and, ih, List.all_cons]
def words1 : List Jvm.Cond := Jvm.Cond.code x code maxLocals ret :: tables_1
/-- a 'code' word, met by the world's own term for the bytes: nothing is compared byte by byte -/
theorem code_word {y : MethodName} {bytes : ByteArray} {mx : Nat} {rt : Option FieldType} {a : Array Value} {s : State} {m : MethodId} {meth : Method} {c : Code} (h1 : s.methodNamed? y = some m) (h2 : s.vm.method? m = some meth) (h3 : meth.code = some c) (h4 : c.code = bytes)
    (h5 : (c.maxLocals == mx && c.exceptionTable.isEmpty && decide (c.maxStack ≤ mostOperands) && decide (meth.sig.returnType = rt) && !meth.locks && decide (parseMethodDescriptor y.desc = some meth.sig)) = true) : (Jvm.Cond.code y bytes mx rt).before a s = true := by
  simp only [Bool.and_eq_true, beq_iff_eq, Bool.not_eq_true', decide_eq_true_eq] at h5
  obtain ⟨⟨⟨⟨⟨g1, g2⟩, g3⟩, g4⟩, g5⟩, g6⟩ := h5
  simp [Cond.before, Cond.holds, Cond.value, h1, h2, h3, h4, g1, g2, g3, g4, g5, g6]
def isCode : Jvm.Cond → Bool
  | .code _ _ _ _ => true
  | _ => false
theorem all_split {L : List Jvm.Cond} {P : Jvm.Cond → Bool} (h1 : L.all (fun c => isCode c || P c) = true) (h2 : ∀ c ∈ L.filter isCode, P c = true) : L.all P = true := by
  refine List.all_eq_true.mpr fun c hc => ?_
  have h := List.all_eq_true.mp h1 c hc
  rcases Bool.eq_false_or_eq_true (isCode c) with hi | hi
  · exact h2 c (List.mem_filter.mpr ⟨hc, hi⟩)
  · simpa [hi] using h
set_option maxRecDepth 65536 in
theorem w_c0 : (Jvm.Cond.code x code maxLocals ret).before args0 about1 = true := code_word (m := ⟨1, 2⟩) (meth := k1m2) (c := k1c2) (by decide +kernel) rfl rfl rfl (by decide +kernel)
set_option maxRecDepth 65536 in
theorem w_c1 : (Jvm.Cond.code ({ cls := "com/example/quittance/quittance/dialect/ClaimOfPinLaw", name := "id", desc := "(III)Ljava/lang/String;" } : Jvm.MethodName) method_2_code (6 : Nat) (Option.some (Jvm.ClassFile.FieldType.object "java/lang/String"))).before args0 about1 = true := code_word (m := ⟨1, 1⟩) (meth := k1m1) (c := k1c1) (by decide +kernel) rfl rfl rfl (by decide +kernel)
set_option maxRecDepth 65536 in
theorem w_c2 : (Jvm.Cond.code ({ cls := "java/lang/String", name := "<init>", desc := "([C)V" } : Jvm.MethodName) jdk_42_method_3_code (2 : Nat) (Option.none : Option Jvm.ClassFile.FieldType)).before args0 about1 = true := code_word (m := ⟨7, 1⟩) (meth := k7m1) (c := k7c1) (by decide +kernel) rfl rfl rfl (by decide +kernel)
set_option maxRecDepth 65536 in
theorem w_c3 : (Jvm.Cond.code ({ cls := "java/lang/String", name := "<init>", desc := "([CIILjava/lang/Void;)V" } : Jvm.MethodName) jdk_42_method_149_code (6 : Nat) (Option.none : Option Jvm.ClassFile.FieldType)).before args0 about1 = true := code_word (m := ⟨7, 6⟩) (meth := k7m6) (c := k7c6) (by decide +kernel) rfl rfl rfl (by decide +kernel)
set_option maxRecDepth 65536 in
theorem w_c4 : (Jvm.Cond.code ({ cls := "java/lang/Object", name := "<init>", desc := "()V" } : Jvm.MethodName) object_method_1_code (1 : Nat) (Option.none : Option Jvm.ClassFile.FieldType)).before args0 about1 = true := code_word (m := ⟨0, 0⟩) (meth := k0m0) (c := k0c0) (by decide +kernel) rfl rfl rfl (by decide +kernel)
set_option maxRecDepth 65536 in
theorem w_c5 : (Jvm.Cond.code ({ cls := "java/lang/StringUTF16", name := "compress", desc := "([CII)[B" } : Jvm.MethodName) jdk_52_method_16_code (6 : Nat) (Option.some (Jvm.ClassFile.FieldType.array Jvm.ClassFile.FieldType.byte))).before args0 about1 = true := code_word (m := ⟨8, 9⟩) (meth := k8m9) (c := k8c9) (by decide +kernel) rfl rfl rfl (by decide +kernel)
set_option maxRecDepth 65536 in
theorem w_c6 : (Jvm.Cond.code ({ cls := "java/lang/StringUTF16", name := "compress", desc := "([CI[BII)I" } : Jvm.MethodName) jdk_52_method_21_code (7 : Nat) (Option.some Jvm.ClassFile.FieldType.int)).before args0 about1 = true := code_word (m := ⟨8, 10⟩) (meth := k8m10) (c := k8c10) (by decide +kernel) rfl rfl rfl (by decide +kernel)
set_option maxRecDepth 65536 in
theorem w_c7 : (Jvm.Cond.code ({ cls := "java/lang/StringUTF16", name := "coderFromArrayLen", desc := "([BI)B" } : Jvm.MethodName) jdk_52_method_15_code (2 : Nat) (Option.some Jvm.ClassFile.FieldType.byte)).before args0 about1 = true := code_word (m := ⟨8, 8⟩) (meth := k8m8) (c := k8c8) (by decide +kernel) rfl rfl rfl (by decide +kernel)
set_option maxRecDepth 65536 in
theorem w_c8 : (Jvm.Cond.code ({ cls := "java/lang/StringUTF16", name := "toBytes", desc := "([CII)[B" } : Jvm.MethodName) jdk_52_method_14_code (5 : Nat) (Option.some (Jvm.ClassFile.FieldType.array Jvm.ClassFile.FieldType.byte))).before args0 about1 = true := code_word (m := ⟨8, 7⟩) (meth := k8m7) (c := k8c7) (by decide +kernel) rfl rfl rfl (by decide +kernel)
set_option maxRecDepth 65536 in
theorem w_c9 : (Jvm.Cond.code ({ cls := "java/lang/StringUTF16", name := "newBytesFor", desc := "(I)[B" } : Jvm.MethodName) jdk_52_method_2_code (1 : Nat) (Option.some (Jvm.ClassFile.FieldType.array Jvm.ClassFile.FieldType.byte))).before args0 about1 = true := code_word (m := ⟨8, 1⟩) (meth := k8m1) (c := k8c1) (by decide +kernel) rfl rfl rfl (by decide +kernel)
set_option maxRecDepth 65536 in
theorem w_c10 : (Jvm.Cond.code ({ cls := "java/lang/StringUTF16", name := "newBytesLength", desc := "(I)I" } : Jvm.MethodName) jdk_52_method_3_code (1 : Nat) (Option.some Jvm.ClassFile.FieldType.int)).before args0 about1 = true := code_word (m := ⟨8, 2⟩) (meth := k8m2) (c := k8c2) (by decide +kernel) rfl rfl rfl (by decide +kernel)
set_option maxRecDepth 65536 in
theorem w_c11 : (Jvm.Cond.code ({ cls := "java/lang/StringUTF16", name := "putChar", desc := "([BII)V" } : Jvm.MethodName) jdk_52_method_4_code (3 : Nat) (Option.none : Option Jvm.ClassFile.FieldType)).before args0 about1 = true := code_word (m := ⟨8, 3⟩) (meth := k8m3) (c := k8c3) (by decide +kernel) rfl rfl rfl (by decide +kernel)
set_option maxRecDepth 65536 in
theorem w_c12 : (Jvm.Cond.code ({ cls := "java/lang/StringUTF16", name := "getChar", desc := "([BI)C" } : Jvm.MethodName) jdk_52_method_5_code (2 : Nat) (Option.some Jvm.ClassFile.FieldType.char)).before args0 about1 = true := code_word (m := ⟨8, 4⟩) (meth := k8m4) (c := k8c4) (by decide +kernel) rfl rfl rfl (by decide +kernel)
set_option maxRecDepth 65536 in
theorem w_c13 : (Jvm.Cond.code ({ cls := "com/example/quittance/quittance/dialect/Claim", name := "of", desc := "(Ljava/lang/String;Ljava/lang/String;J)Lcom/example/quittance/quittance/dialect/Claim;" } : Jvm.MethodName) prog_12_method_2_code (4 : Nat) (Option.some (Jvm.ClassFile.FieldType.object "com/example/quittance/quittance/dialect/Claim"))).before args0 about1 = true := code_word (m := ⟨9, 1⟩) (meth := k9m1) (c := k9c1) (by decide +kernel) rfl rfl rfl (by decide +kernel)
set_option maxRecDepth 65536 in
theorem w_c14 : (Jvm.Cond.code ({ cls := "com/example/quittance/quittance/dialect/Claim", name := "checkId", desc := "(Ljava/lang/String;Ljava/lang/String;I)V" } : Jvm.MethodName) prog_12_method_4_code (3 : Nat) (Option.none : Option Jvm.ClassFile.FieldType)).before args0 about1 = true := code_word (m := ⟨9, 2⟩) (meth := k9m2) (c := k9c2) (by decide +kernel) rfl rfl rfl (by decide +kernel)
set_option maxRecDepth 65536 in
theorem w_c15 : (Jvm.Cond.code ({ cls := "java/lang/String", name := "isEmpty", desc := "()Z" } : Jvm.MethodName) jdk_42_method_55_code (1 : Nat) (Option.some Jvm.ClassFile.FieldType.boolean)).before args0 about1 = true := code_word (m := ⟨7, 3⟩) (meth := k7m3) (c := k7c3) (by decide +kernel) rfl rfl rfl (by decide +kernel)
set_option maxRecDepth 65536 in
theorem w_c16 : (Jvm.Cond.code ({ cls := "java/lang/String", name := "length", desc := "()I" } : Jvm.MethodName) jdk_42_method_54_code (1 : Nat) (Option.some Jvm.ClassFile.FieldType.int)).before args0 about1 = true := code_word (m := ⟨7, 2⟩) (meth := k7m2) (c := k7c2) (by decide +kernel) rfl rfl rfl (by decide +kernel)
set_option maxRecDepth 65536 in
theorem w_c17 : (Jvm.Cond.code ({ cls := "java/lang/String", name := "coder", desc := "()B" } : Jvm.MethodName) jdk_42_method_152_code (1 : Nat) (Option.some Jvm.ClassFile.FieldType.byte)).before args0 about1 = true := code_word (m := ⟨7, 7⟩) (meth := k7m7) (c := k7c7) (by decide +kernel) rfl rfl rfl (by decide +kernel)
set_option maxRecDepth 65536 in
theorem w_c18 : (Jvm.Cond.code ({ cls := "java/lang/String", name := "codePointCount", desc := "(II)I" } : Jvm.MethodName) jdk_42_method_59_code (3 : Nat) (Option.some Jvm.ClassFile.FieldType.int)).before args0 about1 = true := code_word (m := ⟨7, 4⟩) (meth := k7m4) (c := k7c4) (by decide +kernel) rfl rfl rfl (by decide +kernel)
set_option maxRecDepth 65536 in
theorem w_c19 : (Jvm.Cond.code ({ cls := "java/util/Objects", name := "checkFromToIndex", desc := "(III)I" } : Jvm.MethodName) jdk_31_method_18_code (3 : Nat) (Option.some Jvm.ClassFile.FieldType.int)).before args0 about1 = true := code_word (m := ⟨10, 1⟩) (meth := k10m1) (c := k10c1) (by decide +kernel) rfl rfl rfl (by decide +kernel)
set_option maxRecDepth 65536 in
theorem w_c20 : (Jvm.Cond.code ({ cls := "jdk/internal/util/Preconditions", name := "checkFromToIndex", desc := "(IIILjava/util/function/BiFunction;)I" } : Jvm.MethodName) jdk_41_method_12_code (4 : Nat) (Option.some Jvm.ClassFile.FieldType.int)).before args0 about1 = true := code_word (m := ⟨11, 1⟩) (meth := k11m1) (c := k11c1) (by decide +kernel) rfl rfl rfl (by decide +kernel)
set_option maxRecDepth 65536 in
theorem w_c21 : (Jvm.Cond.code ({ cls := "java/lang/String", name := "isLatin1", desc := "()Z" } : Jvm.MethodName) jdk_42_method_154_code (1 : Nat) (Option.some Jvm.ClassFile.FieldType.boolean)).before args0 about1 = true := code_word (m := ⟨7, 8⟩) (meth := k7m8) (c := k7c8) (by decide +kernel) rfl rfl rfl (by decide +kernel)
set_option maxRecDepth 65536 in
theorem w_c22 : (Jvm.Cond.code ({ cls := "java/lang/StringUTF16", name := "codePointCount", desc := "([BII)I" } : Jvm.MethodName) jdk_52_method_12_code (3 : Nat) (Option.some Jvm.ClassFile.FieldType.int)).before args0 about1 = true := code_word (m := ⟨8, 6⟩) (meth := k8m6) (c := k8c6) (by decide +kernel) rfl rfl rfl (by decide +kernel)
set_option maxRecDepth 65536 in
theorem w_c23 : (Jvm.Cond.code ({ cls := "java/lang/StringUTF16", name := "codePointCount", desc := "([BIIZ)I" } : Jvm.MethodName) jdk_52_method_11_code (6 : Nat) (Option.some Jvm.ClassFile.FieldType.int)).before args0 about1 = true := code_word (m := ⟨8, 5⟩) (meth := k8m5) (c := k8c5) (by decide +kernel) rfl rfl rfl (by decide +kernel)
set_option maxRecDepth 65536 in
theorem w_c24 : (Jvm.Cond.code ({ cls := "java/lang/Character", name := "isHighSurrogate", desc := "(C)Z" } : Jvm.MethodName) jdk_89_method_14_code (1 : Nat) (Option.some Jvm.ClassFile.FieldType.boolean)).before args0 about1 = true := code_word (m := ⟨12, 0⟩) (meth := k12m0) (c := k12c0) (by decide +kernel) rfl rfl rfl (by decide +kernel)
set_option maxRecDepth 65536 in
theorem w_c25 : (Jvm.Cond.code ({ cls := "java/lang/Character", name := "isLowSurrogate", desc := "(C)Z" } : Jvm.MethodName) jdk_89_method_15_code (1 : Nat) (Option.some Jvm.ClassFile.FieldType.boolean)).before args0 about1 = true := code_word (m := ⟨12, 1⟩) (meth := k12m1) (c := k12c1) (by decide +kernel) rfl rfl rfl (by decide +kernel)
set_option maxRecDepth 65536 in
theorem w_c26 : (Jvm.Cond.code ({ cls := "com/example/quittance/quittance/dialect/Claim", name := "<init>", desc := "(Ljava/lang/String;Ljava/lang/String;J)V" } : Jvm.MethodName) prog_12_method_1_code (5 : Nat) (Option.none : Option Jvm.ClassFile.FieldType)).before args0 about1 = true := code_word (m := ⟨9, 0⟩) (meth := k9m0) (c := k9c0) (by decide +kernel) rfl rfl rfl (by decide +kernel)
set_option maxRecDepth 65536 in
theorem w_c27 : (Jvm.Cond.code ({ cls := "com/example/quittance/quittance/dialect/Claim", name := "transactionId", desc := "()Ljava/lang/String;" } : Jvm.MethodName) prog_12_method_5_code (1 : Nat) (Option.some (Jvm.ClassFile.FieldType.object "java/lang/String"))).before args0 about1 = true := code_word (m := ⟨9, 3⟩) (meth := k9m3) (c := k9c3) (by decide +kernel) rfl rfl rfl (by decide +kernel)
set_option maxRecDepth 65536 in
theorem w_c28 : (Jvm.Cond.code ({ cls := "java/lang/String", name := "equals", desc := "(Ljava/lang/Object;)Z" } : Jvm.MethodName) jdk_42_method_66_code (3 : Nat) (Option.some Jvm.ClassFile.FieldType.boolean)).before args0 about1 = true := code_word (m := ⟨7, 5⟩) (meth := k7m5) (c := k7c5) (by decide +kernel) rfl rfl rfl (by decide +kernel)
set_option maxRecDepth 65536 in
theorem w_c29 : (Jvm.Cond.code ({ cls := "com/example/quittance/quittance/dialect/Claim", name := "user", desc := "()Ljava/lang/String;" } : Jvm.MethodName) prog_12_method_6_code (1 : Nat) (Option.some (Jvm.ClassFile.FieldType.object "java/lang/String"))).before args0 about1 = true := code_word (m := ⟨9, 4⟩) (meth := k9m4) (c := k9c4) (by decide +kernel) rfl rfl rfl (by decide +kernel)
set_option maxRecDepth 65536 in
theorem w_c30 : (Jvm.Cond.code ({ cls := "com/example/quittance/quittance/dialect/Claim", name := "amount", desc := "()J" } : Jvm.MethodName) prog_12_method_7_code (1 : Nat) (Option.some Jvm.ClassFile.FieldType.long)).before args0 about1 = true := code_word (m := ⟨9, 5⟩) (meth := k9m5) (c := k9c5) (by decide +kernel) rfl rfl rfl (by decide +kernel)
def codes1 : List Jvm.Cond := [Jvm.Cond.code x code maxLocals ret, Jvm.Cond.code ({ cls := "com/example/quittance/quittance/dialect/ClaimOfPinLaw", name := "id", desc := "(III)Ljava/lang/String;" } : Jvm.MethodName) method_2_code (6 : Nat) (Option.some (Jvm.ClassFile.FieldType.object "java/lang/String")), Jvm.Cond.code ({ cls := "java/lang/String", name := "<init>", desc := "([C)V" } : Jvm.MethodName) jdk_42_method_3_code (2 : Nat) (Option.none : Option Jvm.ClassFile.FieldType), Jvm.Cond.code ({ cls := "java/lang/String", name := "<init>", desc := "([CIILjava/lang/Void;)V" } : Jvm.MethodName) jdk_42_method_149_code (6 : Nat) (Option.none : Option Jvm.ClassFile.FieldType), Jvm.Cond.code ({ cls := "java/lang/Object", name := "<init>", desc := "()V" } : Jvm.MethodName) object_method_1_code (1 : Nat) (Option.none : Option Jvm.ClassFile.FieldType), Jvm.Cond.code ({ cls := "java/lang/StringUTF16", name := "compress", desc := "([CII)[B" } : Jvm.MethodName) jdk_52_method_16_code (6 : Nat) (Option.some (Jvm.ClassFile.FieldType.array Jvm.ClassFile.FieldType.byte)), Jvm.Cond.code ({ cls := "java/lang/StringUTF16", name := "compress", desc := "([CI[BII)I" } : Jvm.MethodName) jdk_52_method_21_code (7 : Nat) (Option.some Jvm.ClassFile.FieldType.int), Jvm.Cond.code ({ cls := "java/lang/StringUTF16", name := "coderFromArrayLen", desc := "([BI)B" } : Jvm.MethodName) jdk_52_method_15_code (2 : Nat) (Option.some Jvm.ClassFile.FieldType.byte), Jvm.Cond.code ({ cls := "java/lang/StringUTF16", name := "toBytes", desc := "([CII)[B" } : Jvm.MethodName) jdk_52_method_14_code (5 : Nat) (Option.some (Jvm.ClassFile.FieldType.array Jvm.ClassFile.FieldType.byte)), Jvm.Cond.code ({ cls := "java/lang/StringUTF16", name := "newBytesFor", desc := "(I)[B" } : Jvm.MethodName) jdk_52_method_2_code (1 : Nat) (Option.some (Jvm.ClassFile.FieldType.array Jvm.ClassFile.FieldType.byte)), Jvm.Cond.code ({ cls := "java/lang/StringUTF16", name := "newBytesLength", desc := "(I)I" } : Jvm.MethodName) jdk_52_method_3_code (1 : Nat) (Option.some Jvm.ClassFile.FieldType.int), Jvm.Cond.code ({ cls := "java/lang/StringUTF16", name := "putChar", desc := "([BII)V" } : Jvm.MethodName) jdk_52_method_4_code (3 : Nat) (Option.none : Option Jvm.ClassFile.FieldType), Jvm.Cond.code ({ cls := "java/lang/StringUTF16", name := "getChar", desc := "([BI)C" } : Jvm.MethodName) jdk_52_method_5_code (2 : Nat) (Option.some Jvm.ClassFile.FieldType.char), Jvm.Cond.code ({ cls := "com/example/quittance/quittance/dialect/Claim", name := "of", desc := "(Ljava/lang/String;Ljava/lang/String;J)Lcom/example/quittance/quittance/dialect/Claim;" } : Jvm.MethodName) prog_12_method_2_code (4 : Nat) (Option.some (Jvm.ClassFile.FieldType.object "com/example/quittance/quittance/dialect/Claim")), Jvm.Cond.code ({ cls := "com/example/quittance/quittance/dialect/Claim", name := "checkId", desc := "(Ljava/lang/String;Ljava/lang/String;I)V" } : Jvm.MethodName) prog_12_method_4_code (3 : Nat) (Option.none : Option Jvm.ClassFile.FieldType), Jvm.Cond.code ({ cls := "java/lang/String", name := "isEmpty", desc := "()Z" } : Jvm.MethodName) jdk_42_method_55_code (1 : Nat) (Option.some Jvm.ClassFile.FieldType.boolean), Jvm.Cond.code ({ cls := "java/lang/String", name := "length", desc := "()I" } : Jvm.MethodName) jdk_42_method_54_code (1 : Nat) (Option.some Jvm.ClassFile.FieldType.int), Jvm.Cond.code ({ cls := "java/lang/String", name := "coder", desc := "()B" } : Jvm.MethodName) jdk_42_method_152_code (1 : Nat) (Option.some Jvm.ClassFile.FieldType.byte), Jvm.Cond.code ({ cls := "java/lang/String", name := "codePointCount", desc := "(II)I" } : Jvm.MethodName) jdk_42_method_59_code (3 : Nat) (Option.some Jvm.ClassFile.FieldType.int), Jvm.Cond.code ({ cls := "java/util/Objects", name := "checkFromToIndex", desc := "(III)I" } : Jvm.MethodName) jdk_31_method_18_code (3 : Nat) (Option.some Jvm.ClassFile.FieldType.int), Jvm.Cond.code ({ cls := "jdk/internal/util/Preconditions", name := "checkFromToIndex", desc := "(IIILjava/util/function/BiFunction;)I" } : Jvm.MethodName) jdk_41_method_12_code (4 : Nat) (Option.some Jvm.ClassFile.FieldType.int), Jvm.Cond.code ({ cls := "java/lang/String", name := "isLatin1", desc := "()Z" } : Jvm.MethodName) jdk_42_method_154_code (1 : Nat) (Option.some Jvm.ClassFile.FieldType.boolean), Jvm.Cond.code ({ cls := "java/lang/StringUTF16", name := "codePointCount", desc := "([BII)I" } : Jvm.MethodName) jdk_52_method_12_code (3 : Nat) (Option.some Jvm.ClassFile.FieldType.int), Jvm.Cond.code ({ cls := "java/lang/StringUTF16", name := "codePointCount", desc := "([BIIZ)I" } : Jvm.MethodName) jdk_52_method_11_code (6 : Nat) (Option.some Jvm.ClassFile.FieldType.int), Jvm.Cond.code ({ cls := "java/lang/Character", name := "isHighSurrogate", desc := "(C)Z" } : Jvm.MethodName) jdk_89_method_14_code (1 : Nat) (Option.some Jvm.ClassFile.FieldType.boolean), Jvm.Cond.code ({ cls := "java/lang/Character", name := "isLowSurrogate", desc := "(C)Z" } : Jvm.MethodName) jdk_89_method_15_code (1 : Nat) (Option.some Jvm.ClassFile.FieldType.boolean), Jvm.Cond.code ({ cls := "com/example/quittance/quittance/dialect/Claim", name := "<init>", desc := "(Ljava/lang/String;Ljava/lang/String;J)V" } : Jvm.MethodName) prog_12_method_1_code (5 : Nat) (Option.none : Option Jvm.ClassFile.FieldType), Jvm.Cond.code ({ cls := "com/example/quittance/quittance/dialect/Claim", name := "transactionId", desc := "()Ljava/lang/String;" } : Jvm.MethodName) prog_12_method_5_code (1 : Nat) (Option.some (Jvm.ClassFile.FieldType.object "java/lang/String")), Jvm.Cond.code ({ cls := "java/lang/String", name := "equals", desc := "(Ljava/lang/Object;)Z" } : Jvm.MethodName) jdk_42_method_66_code (3 : Nat) (Option.some Jvm.ClassFile.FieldType.boolean), Jvm.Cond.code ({ cls := "com/example/quittance/quittance/dialect/Claim", name := "user", desc := "()Ljava/lang/String;" } : Jvm.MethodName) prog_12_method_6_code (1 : Nat) (Option.some (Jvm.ClassFile.FieldType.object "java/lang/String")), Jvm.Cond.code ({ cls := "com/example/quittance/quittance/dialect/Claim", name := "amount", desc := "()J" } : Jvm.MethodName) prog_12_method_7_code (1 : Nat) (Option.some Jvm.ClassFile.FieldType.long)]
set_option maxRecDepth 65536 in
theorem codes_eq : words1.filter isCode = codes1 := rfl
theorem w_codes : ∀ c ∈ words1.filter isCode, c.before args0 about1 = true := by
  rw [codes_eq]
  intro c hc
  simp only [codes1, List.mem_cons, List.not_mem_nil, or_false] at hc
  rcases hc with rfl | rfl | rfl | rfl | rfl | rfl | rfl | rfl | rfl | rfl | rfl | rfl | rfl | rfl | rfl | rfl | rfl | rfl | rfl | rfl | rfl | rfl | rfl | rfl | rfl | rfl | rfl | rfl | rfl | rfl | rfl
  · exact w_c0
  · exact w_c1
  · exact w_c2
  · exact w_c3
  · exact w_c4
  · exact w_c5
  · exact w_c6
  · exact w_c7
  · exact w_c8
  · exact w_c9
  · exact w_c10
  · exact w_c11
  · exact w_c12
  · exact w_c13
  · exact w_c14
  · exact w_c15
  · exact w_c16
  · exact w_c17
  · exact w_c18
  · exact w_c19
  · exact w_c20
  · exact w_c21
  · exact w_c22
  · exact w_c23
  · exact w_c24
  · exact w_c25
  · exact w_c26
  · exact w_c27
  · exact w_c28
  · exact w_c29
  · exact w_c30
set_option maxRecDepth 65536 in
theorem w_t1 : (words1.take 24).all (fun c => isCode c || c.before args0 about1) = true := by decide +kernel
set_option maxRecDepth 65536 in
theorem w_t2 : ((words1.drop 24).take 24).all (fun c => isCode c || c.before args0 about1) = true := by decide +kernel
set_option maxRecDepth 65536 in
theorem w_t3 : (((words1.drop 24).drop 24).take 24).all (fun c => isCode c || c.before args0 about1) = true := by decide +kernel
set_option maxRecDepth 65536 in
theorem w_t4 : ((((words1.drop 24).drop 24).drop 24).take 24).all (fun c => isCode c || c.before args0 about1) = true := by decide +kernel
set_option maxRecDepth 65536 in
theorem w_t5 : (((((words1.drop 24).drop 24).drop 24).drop 24).take 24).all (fun c => isCode c || c.before args0 about1) = true := by decide +kernel
set_option maxRecDepth 65536 in
theorem w_t6 : ((((((words1.drop 24).drop 24).drop 24).drop 24).drop 24).take 24).all (fun c => isCode c || c.before args0 about1) = true := by decide +kernel
set_option maxRecDepth 65536 in
theorem w_t7 : ((((((words1.drop 24).drop 24).drop 24).drop 24).drop 24).drop 24).all (fun c => isCode c || c.before args0 about1) = true := by decide +kernel
theorem w_tables : (allAtoms (Jvm.Cond.code x code maxLocals ret :: tables_1)).before args0 about1 = true := by
  rw [allAtoms_all]
  show words1.all (fun c => c.before args0 about1) = true
  refine all_split ?_ w_codes
  rw [← List.take_append_drop 24 words1, List.all_append, w_t1, ← List.take_append_drop 24 (words1.drop 24), List.all_append, w_t2, ← List.take_append_drop 24 ((words1.drop 24).drop 24), List.all_append, w_t3, ← List.take_append_drop 24 (((words1.drop 24).drop 24).drop 24), List.all_append, w_t4, ← List.take_append_drop 24 ((((words1.drop 24).drop 24).drop 24).drop 24), List.all_append, w_t5, ← List.take_append_drop 24 (((((words1.drop 24).drop 24).drop 24).drop 24).drop 24), List.all_append, w_t6, w_t7]
  rfl
set_option maxRecDepth 65536 in
theorem w_rest : rest_1_c.before args0 about1 = true := by decide +kernel
set_option maxRecDepth 65536 in
theorem w_case : (Jvm.Cond.and given_1 narrow_1).before args0 about1 = true := by decide +kernel
theorem w_applies : (headSpec (Jvm.Cond.code x code maxLocals ret :: tables_1) room_1).applies x e0.platform about1 = true :=
  (Spec.applies_iff w_frames).mpr ⟨w_running, w_runnable, w_alone, w_named, w_hears, w_ripe, w_room, w_tables⟩
theorem atStart : AtStart classFile x code maxLocals ret World_1 tables_1 room_1 Calls_1 rest_1 Pre_1 launch0 p0 e0 about1 theMethod args0 below0 :=
  ⟨lists_1, trivial, launch0.admits_env _ _ _, launch0.least_env, fairChoices_fair.cas, fairChoices_fair.clock, w_frames, w_args, w_heap, w_applies, trivial, w_rest, w_case⟩
end start1
theorem witness_1 : WitnessClaimed_1 := ⟨start1.p0, start1.e0, start1.about1, start1.theMethod, start1.args0, start1.below0, start1.atStart⟩
end Jvm.Pilot.@@N@@
