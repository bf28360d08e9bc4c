import JvmDerived
import JvmDerived.Pilot.@@N@@Statement
import JvmDerived.Pilot.@@N@@Code
set_option linter.unusedVariables false
set_option linter.unusedSimpArgs false
@@BLOCK:NumsL.lean.txt@@
/- laws to paste: Road.backV (cut by pick.py; bodies as the Statement names them) -/
namespace Jvm.Pilot.@@N@@
namespace StrChars
open Jvm Sem ClassFile Op Lib Jvm.Stand Jvm.Free.XT Jvm.Free.ALB Jvm.Free.JM Jvm.Free
open Jvm.Lib.Cold (StaticIs)
/-- a char array whose places are chars -/
def Ch (a : Addr) (A : Cell) (U : State) : Prop := Arr .char a A U ∧ Typed .char A
theorem Ch.mv {a : Addr} {A : Cell} {U U' : State} (h : Ch a A U) (hal : U.vm.Alike U'.vm) (hh : U'.heap = U.heap) : Ch a A U' := ⟨h.1.mv hal hh, h.2⟩
theorem Ch.keep {a : Addr} {A : Cell} {U U' : State} (h : Ch a A U) (hal : U.vm.Alike U'.vm) (hk : U'.heap[a]? = some A) : Ch a A U' := ⟨h.1.keep hal hk, h.2⟩
/-- what place i of a char[]'s cell holds -/
def cv (A : Cell) (i : Nat) : Int32 := match A.slots[i]? with | some (.int x) => x | _ => 0
theorem Ch.get {a : Addr} {A : Cell} {U : State} (h : Ch a A U) {i : Nat} (hi : i < A.slots.size) : A.slots[i]? = some (.int (cv A i)) := by
  have e := Array.getElem?_eq_getElem hi
  have f := h.2 i _ e
  unfold cv; rw [e]
  generalize A.slots[i] = v at f
  cases v <;> simp [fits] at f ⊢
/-- the byte that i2b leaves of a char -/
def lo8 (x : Int32) : Int32 := x.toInt8.toInt32
theorem fits_lo8 (y : Int32) : fits .byte (.int (lo8 y)) = true := by
  have h1 := y.toInt8.le_toInt
  have h2 := y.toInt8.toInt_lt
  simp only [lo8, fits, Bool.and_eq_true, decide_eq_true_eq, Int32.le_iff_toInt_le, Int8.toInt_toInt32, show (-128 : Int32).toInt = -128 from by decide, show (127 : Int32).toInt = 127 from by decide]
  omega
/-- A' is A but that each place j of lo .. hi - 1 holds f j -/
def Laid (A A' : Cell) (lo hi : Nat) (f : Nat → Value) : Prop := A'.cls = A.cls ∧ A'.vm = A.vm ∧ A'.slots.size = A.slots.size ∧ ∀ i, A'.slots[i]? = if lo ≤ i ∧ i < hi then some (f i) else A.slots[i]?
theorem Laid.zero (A : Cell) (lo : Nat) (f : Nat → Value) : Laid A A lo (lo + 0) f := ⟨rfl, rfl, rfl, fun i => by rw [if_neg (by omega)]⟩
theorem Laid.step {A Ak : Cell} {lo k : Nat} {f : Nat → Value} {v : Value} (h : Laid A Ak lo k f) (hlo : lo ≤ k) (hk : k < Ak.slots.size) (hv : v = f k) : Laid A (Ak.setSlot k v) lo (k + 1) f := by
  refine ⟨h.1, h.2.1, by simpa [Cell.setSlot] using h.2.2.1, fun i => ?_⟩
  by_cases e : k = i
  · subst e; rw [Cell.slots_setSlot_self v hk, if_pos (by omega), hv]
  · rw [Cell.slots_setSlot_ne v e, h.2.2.2 i]
    by_cases q : lo ≤ i ∧ i < k
    · rw [if_pos q, if_pos (by omega)]
    · rw [if_neg q, if_neg (by omega)]
def U16 : String := "java/lang/StringUTF16"
namespace Cmp5
def yN : MethodName := ⟨"java/lang/StringUTF16", "compress", "([CI[BII)I"⟩
abbrev yB : ByteArray := jdk_52_method_21_code
theorem d0 : decode yB 0 = .ok (.iconst 0, 1) := by decide +kernel
theorem d1 : decode yB 1 = .ok (.istore 5, 2) := by decide +kernel
theorem d3 : decode yB 3 = .ok (.iload 5, 2) := by decide +kernel
theorem d5 : decode yB 5 = .ok (.iload 4, 2) := by decide +kernel
theorem d7 : decode yB 7 = .ok (.if_icmp (.ge) 37, 3) := by decide +kernel
theorem d10 : decode yB 10 = .ok (.aload_n 0, 1) := by decide +kernel
theorem d11 : decode yB 11 = .ok (.iload_n 1, 1) := by decide +kernel
theorem d12 : decode yB 12 = .ok (.caload, 1) := by decide +kernel
theorem d13 : decode yB 13 = .ok (.istore 6, 2) := by decide +kernel
theorem d15 : decode yB 15 = .ok (.iload 6, 2) := by decide +kernel
theorem d17 : decode yB 17 = .ok (.sipush 255, 3) := by decide +kernel
theorem d20 : decode yB 20 = .ok (.if_icmp (.le) 6, 3) := by decide +kernel
theorem d26 : decode yB 26 = .ok (.aload_n 2, 1) := by decide +kernel
theorem d27 : decode yB 27 = .ok (.iload_n 3, 1) := by decide +kernel
theorem d28 : decode yB 28 = .ok (.iload 6, 2) := by decide +kernel
theorem d30 : decode yB 30 = .ok (.i2b, 1) := by decide +kernel
theorem d31 : decode yB 31 = .ok (.bastore, 1) := by decide +kernel
theorem d32 : decode yB 32 = .ok (.iinc 1 1, 3) := by decide +kernel
theorem d35 : decode yB 35 = .ok (.iinc 3 1, 3) := by decide +kernel
theorem d38 : decode yB 38 = .ok (.iinc 5 1, 3) := by decide +kernel
theorem d41 : decode yB 41 = .ok (.goto (-38), 3) := by decide +kernel
theorem d44 : decode yB 44 = .ok (.iload 4, 2) := by decide +kernel
theorem d46 : decode yB 46 = .ok (.ireturn, 1) := by decide +kernel
def site : List Cond := []
def tab : Cond := tabOf yN yB 7 (some .int) site
def P (b : Addr) (A : Cell) (d : Addr) (B : Cell) (o q len : Nat) (args : Array Value) (s : State) : Prop := args = #[.ref b, .int (Int32.ofNat o), .ref d, .int (Int32.ofNat q), .int (Int32.ofNat len)] ∧ Ch b A s ∧ Arr .byte d B s ∧ b ≠ d ∧ o + len ≤ A.slots.size ∧ q + len ≤ B.slots.size ∧ ∀ i, i < len → ¬ 255 < cv A (o + i)
def E (b : Addr) (A : Cell) (d : Addr) (B : Cell) (o q len : Nat) (r : Option Value) (s u : State) : Prop := r = some (.int (Int32.ofNat len)) ∧ ∃ B', Put d B' s u ∧ Laid B B' q (q + len) (fun j => Value.int (lo8 (cv A (o + (j - q)))))
/-- no char of the range above 255: len; the places written hold each char's low byte -/
theorem law (l : Launch) (b : Addr) (A : Cell) (d : Addr) (B : Cell) (o q len : Nat) : Law l yN 5 5 0 0 yB 7 (some .int) site (P b A d B o q len) (E b A d B o q len) (copyLocs d q len) 0 0 := by
  refine Law.of_walk (plainFor_of_name (by decide +kernel)) (by decide +kernel) (by decide +kernel) (by decide) (fun _ _ h => by rw [h.1]; rfl) (fun _ U U' hal hh h => ⟨h.1, h.2.1.mv hal hh, h.2.2.1.mv hal hh, h.2.2.2⟩) (fun r U U' V V' h1 hal h2 h => ⟨h.1, h.2.elim fun B' q => ⟨B', q.1.mv h1 h2, q.2⟩⟩) ?_
  intro p e s m args below meth c s₁ X0 hexec hbytes hml hret hlk hnm hown hh0 W hP
  obtain ⟨rfl, hA, hB, hne, l1, l2, hp⟩ := hP
  have c1 : Steps p.tables e below (s₁.setTop (entryFrame m #[.ref b, .int (Int32.ofNat o), .ref d, .int (Int32.ofNat q), .int (Int32.ofNat len)] 7)) (s₁.setTop (mkF m 0 #[.val (.ref b), .val (.int (Int32.ofNat o)), .val (.ref d), .val (.int (Int32.ofNat q)), .val (.int (Int32.ofNat len)), .unset, .unset] [])) := entry rfl
  have hA0 := hA.1.mv X0.warmed.alike hh0
  have hB0 := hB.mv X0.warmed.alike hh0
  have a31 := hA.1.2.2.2
  have c2 : Steps p.tables e below (s₁.setTop (entryFrame m #[.ref b, .int (Int32.ofNat o), .ref d, .int (Int32.ofNat q), .int (Int32.ofNat len)] 7)) (s₁.setTop (mkF m 3 #[.val (.ref b), .val (.int (Int32.ofNat o)), .val (.ref d), .val (.int (Int32.ofNat q)), .val (.int (Int32.ofNat len)), .val (.int 0), .unset] [])) := c1.trans (by
    refine iconstV X0.here hexec rfl 0 (hb hbytes d0) (by decide) ?_
    refine XS.istore X0.here hexec rfl (hb hbytes d1) rfl rfl ?_
    exact Steps.refl _)
  have loop : ∀ (r i : Nat), i + r = len → ∀ (z : Slot), (z = .unset ∨ ∃ w, z = .val w ∧ w.category = 1) → ∀ (Tl : State) (Bk : Cell), Stand p l e { frames := 0, locals := 0, cells := 0, slots := 0 } s m #[.ref b, .int (Int32.ofNat o), .ref d, .int (Int32.ofNat q), .int (Int32.ofNat len)] below meth c Tl ([] ++ copyLocs d q i) 0 0 → Put d Bk s₁ Tl → Laid B Bk q (q + i) (fun j => Value.int (lo8 (cv A (o + (j - q))))) →
      Steps p.tables e below (s₁.setTop (entryFrame m #[.ref b, .int (Int32.ofNat o), .ref d, .int (Int32.ofNat q), .int (Int32.ofNat len)] 7)) (Tl.setTop (mkF m 3 #[.val (.ref b), .val (.int (Int32.ofNat (o + i))), .val (.ref d), .val (.int (Int32.ofNat (q + i))), .val (.int (Int32.ofNat len)), .val (.int (Int32.ofNat i)), z] [])) → ∃ (T' : State) (B' : Cell) (z' : Slot), Stand p l e { frames := 0, locals := 0, cells := 0, slots := 0 } s m #[.ref b, .int (Int32.ofNat o), .ref d, .int (Int32.ofNat q), .int (Int32.ofNat len)] below meth c T' ([] ++ copyLocs d q len) 0 0 ∧ Put d B' s₁ T' ∧ Laid B B' q (q + len) (fun j => Value.int (lo8 (cv A (o + (j - q))))) ∧
      Steps p.tables e below (s₁.setTop (entryFrame m #[.ref b, .int (Int32.ofNat o), .ref d, .int (Int32.ofNat q), .int (Int32.ofNat len)] 7)) (T'.setTop (mkF m 3 #[.val (.ref b), .val (.int (Int32.ofNat (o + len))), .val (.ref d), .val (.int (Int32.ofNat (q + len))), .val (.int (Int32.ofNat len)), .val (.int (Int32.ofNat len)), z'] [])) := by
    intro r
    induction r with
    | zero =>
      intro i hi z hz Tl Bk Xl pl fl cl
      have hil : i = len := by omega
      rw [hil] at Xl fl cl
      exact ⟨Tl, Bk, z, Xl, pl, fl, cl⟩
    | succ r ih =>
      intro i hi z hz Tl Bk Xl pl fl cl
      have all := X0.warmed.alike.symm.trans Xl.warmed.alike
      have hAl := hA0.keep all (pl.other hne hA0.1)
      have hBk := hB0.like all pl.1 fl.1 fl.2.1 fl.2.2.1
      have hlt : q + i < Bk.slots.size := by rw [fl.2.2.1]; omega
      have c3 : Steps p.tables e below (s₁.setTop (entryFrame m #[.ref b, .int (Int32.ofNat o), .ref d, .int (Int32.ofNat q), .int (Int32.ofNat len)] 7)) (Tl.setTop (mkF m 12 #[.val (.ref b), .val (.int (Int32.ofNat (o + i))), .val (.ref d), .val (.int (Int32.ofNat (q + i))), .val (.int (Int32.ofNat len)), .val (.int (Int32.ofNat i)), z] [.int (Int32.ofNat (o + i)), .ref b])) := cl.trans (by
        refine XS.iload Xl.here hexec rfl (hb hbytes d3) rfl ?_
        refine XS.iload Xl.here hexec rfl (hb hbytes d5) rfl ?_
        refine XS.icmpNo Xl.here hexec rfl (hb hbytes d7) rfl (ii_ge_f (lt32 (by omega) (by omega))) ?_
        refine XS.aloadN Xl.here hexec rfl (hb hbytes d10) rfl rfl ?_
        refine XS.iloadN Xl.here hexec rfl (hb hbytes d11) rfl ?_
        exact Steps.refl _)
      have c4 : Steps p.tables e below (s₁.setTop (entryFrame m #[.ref b, .int (Int32.ofNat o), .ref d, .int (Int32.ofNat q), .int (Int32.ofNat len)] 7)) (Tl.setTop (mkF m 13 #[.val (.ref b), .val (.int (Int32.ofNat (o + i))), .val (.ref d), .val (.int (Int32.ofNat (q + i))), .val (.int (Int32.ofNat len)), .val (.int (Int32.ofNat i)), z] [.int (cv A (o + i))])) := c3.trans (by
        refine Xl.aget hexec hAl rfl (hA.get (i := o + i) (by omega)) rfl rfl (hb hbytes d12) ?_
        exact Steps.refl _)
      have c5 : Steps p.tables e below (s₁.setTop (entryFrame m #[.ref b, .int (Int32.ofNat o), .ref d, .int (Int32.ofNat q), .int (Int32.ofNat len)] 7)) (Tl.setTop (mkF m 15 #[.val (.ref b), .val (.int (Int32.ofNat (o + i))), .val (.ref d), .val (.int (Int32.ofNat (q + i))), .val (.int (Int32.ofNat len)), .val (.int (Int32.ofNat i)), .val (.int (cv A (o + i)))] [])) := c4.trans (by
        refine XS.istoreS Xl.here hexec rfl (hb hbytes d13) rfl rfl hz ?_
        exact Steps.refl _)
      have c6 : Steps p.tables e below (s₁.setTop (entryFrame m #[.ref b, .int (Int32.ofNat o), .ref d, .int (Int32.ofNat q), .int (Int32.ofNat len)] 7)) (Tl.setTop (mkF m 31 #[.val (.ref b), .val (.int (Int32.ofNat (o + i))), .val (.ref d), .val (.int (Int32.ofNat (q + i))), .val (.int (Int32.ofNat len)), .val (.int (Int32.ofNat i)), .val (.int (cv A (o + i)))] [.int (lo8 (cv A (o + i))), .int (Int32.ofNat (q + i)), .ref d])) := c5.trans (by
        refine XS.iload Xl.here hexec rfl (hb hbytes d15) rfl ?_
        refine sipushV Xl.here hexec rfl 255 (hb hbytes d17) (by decide) ?_
        refine XS.icmpYes Xl.here hexec rfl (pc0 := 20) rfl (hb hbytes d20) rfl (ii_le_t (hp i (by omega))) (by decide) rfl ?_
        refine XS.aloadN Xl.here hexec rfl (hb hbytes d26) rfl rfl ?_
        refine XS.iloadN Xl.here hexec rfl (hb hbytes d27) rfl ?_
        refine XS.iload Xl.here hexec rfl (hb hbytes d28) rfl ?_
        refine i2b Xl.here hexec rfl (hb hbytes d30) rfl ?_
        exact Steps.refl _)
      obtain ⟨T7, X7, p7, st7⟩ := Xl.aput hexec hBk rfl hlt rfl (fits_lo8 (cv A (o + i))) (g := (mkF m 31 #[.val (.ref b), .val (.int (Int32.ofNat (o + i))), .val (.ref d), .val (.int (Int32.ofNat (q + i))), .val (.int (Int32.ofNat len)), .val (.int (Int32.ofNat i)), .val (.int (cv A (o + i)))] [.int (lo8 (cv A (o + i))), .int (Int32.ofNat (q + i)), .ref d])) rfl (rest := []) rfl (hb hbytes d31)
      have c8 : Steps p.tables e below (s₁.setTop (entryFrame m #[.ref b, .int (Int32.ofNat o), .ref d, .int (Int32.ofNat q), .int (Int32.ofNat len)] 7)) (T7.setTop (mkF m 32 #[.val (.ref b), .val (.int (Int32.ofNat (o + i))), .val (.ref d), .val (.int (Int32.ofNat (q + i))), .val (.int (Int32.ofNat len)), .val (.int (Int32.ofNat i)), .val (.int (cv A (o + i)))] [])) := c6.trans (st7 _ (Steps.refl _))
      have c9 : Steps p.tables e below (s₁.setTop (entryFrame m #[.ref b, .int (Int32.ofNat o), .ref d, .int (Int32.ofNat q), .int (Int32.ofNat len)] 7)) (T7.setTop (mkF m 3 #[.val (.ref b), .val (.int (Int32.ofNat (o + i) + 1)), .val (.ref d), .val (.int (Int32.ofNat (q + i) + 1)), .val (.int (Int32.ofNat len)), .val (.int (Int32.ofNat i + 1)), .val (.int (cv A (o + i)))] [])) := c8.trans (by
        refine iincV X7.here hexec rfl 1 (hb hbytes d32) (by decide) rfl rfl ?_
        refine iincV X7.here hexec rfl 1 (hb hbytes d35) (by decide) rfl rfl ?_
        refine iincV X7.here hexec rfl 1 (hb hbytes d38) (by decide) rfl rfl ?_
        refine XS.goto X7.here hexec rfl (pc0 := 41) rfl (hb hbytes d41) (by decide) rfl ?_
        exact Steps.refl _)
      have c10 : Steps p.tables e below (s₁.setTop (entryFrame m #[.ref b, .int (Int32.ofNat o), .ref d, .int (Int32.ofNat q), .int (Int32.ofNat len)] 7)) (T7.setTop (mkF m 3 #[.val (.ref b), .val (.int (Int32.ofNat (o + (i + 1)))), .val (.ref d), .val (.int (Int32.ofNat (q + (i + 1)))), .val (.int (Int32.ofNat len)), .val (.int (Int32.ofNat (i + 1))), .val (.int (cv A (o + i)))] [])) := by
        have := c9
        rw [succ32, succ32, succ32] at this
        exact this
      exact ih (i + 1) (by omega) _ (Or.inr ⟨_, rfl, rfl⟩) T7 _ (by rw [copyLocs_step, ← List.append_assoc]; exact X7) (pl.trans p7) (fl.step (by omega) hlt (by simp)) c10
  obtain ⟨T9, B9, z9, X9, p9, f9, g9⟩ := loop len 0 (by omega) .unset (Or.inl rfl) s₁ B (by simpa [copyLocs] using X0) ⟨hB0.1, fun _ _ => rfl, rfl⟩ (Laid.zero _ _ _) c2
  have c11 : Steps p.tables e below (s₁.setTop (entryFrame m #[.ref b, .int (Int32.ofNat o), .ref d, .int (Int32.ofNat q), .int (Int32.ofNat len)] 7)) (T9.setTop (mkF m 46 #[.val (.ref b), .val (.int (Int32.ofNat (o + len))), .val (.ref d), .val (.int (Int32.ofNat (q + len))), .val (.int (Int32.ofNat len)), .val (.int (Int32.ofNat len)), z9] [.int (Int32.ofNat len)])) := g9.trans (by
    refine XS.iload X9.here hexec rfl (hb hbytes d3) rfl ?_
    refine XS.iload X9.here hexec rfl (hb hbytes d5) rfl ?_
    refine XS.icmpYes X9.here hexec rfl (pc0 := 7) rfl (hb hbytes d7) rfl (ii_ge_t (nlt32 (by omega) (Nat.le_refl _))) (by decide) rfl ?_
    refine XS.iload X9.here hexec rfl (hb hbytes d44) rfl ?_
    exact Steps.refl _)
  exact ⟨T9, some (.int (Int32.ofNat len)), _, _, _, X9, by simp, rfl, rfl, (fun h => by cases h), ⟨rfl, B9, p9.from hh0, f9⟩, fun fs hl => c11.trans (X9.ireturnOut hexec hret rfl (Or.inl rfl) (hb hbytes d46) hl)⟩
end Cmp5
namespace Cmp3
def yN : MethodName := ⟨"java/lang/StringUTF16", "compress", "([CII)[B"⟩
abbrev yB : ByteArray := jdk_52_method_16_code
theorem d0 : decode yB 0 = .ok (.iload_n 2, 1) := by decide +kernel
theorem d1 : decode yB 1 = .ok (.newarray .byte, 2) := by decide +kernel
theorem d3 : decode yB 3 = .ok (.astore_n 3, 1) := by decide +kernel
theorem d4 : decode yB 4 = .ok (.aload_n 0, 1) := by decide +kernel
theorem d5 : decode yB 5 = .ok (.iload_n 1, 1) := by decide +kernel
theorem d6 : decode yB 6 = .ok (.aload_n 3, 1) := by decide +kernel
theorem d7 : decode yB 7 = .ok (.iconst 0, 1) := by decide +kernel
theorem d8 : decode yB 8 = .ok (.iload_n 2, 1) := by decide +kernel
theorem d9 : decode yB 9 = .ok (.invokestatic 115, 3) := by decide +kernel
theorem d12 : decode yB 12 = .ok (.istore 4, 2) := by decide +kernel
theorem d14 : decode yB 14 = .ok (.iload 4, 2) := by decide +kernel
theorem d16 : decode yB 16 = .ok (.iload_n 2, 1) := by decide +kernel
theorem d17 : decode yB 17 = .ok (.if_icmp (.eq) 40, 3) := by decide +kernel
theorem d57 : decode yB 57 = .ok (.aload_n 3, 1) := by decide +kernel
theorem d58 : decode yB 58 = .ok (.areturn, 1) := by decide +kernel
def site : List Cond := [.arrayClass .byte, Cmp5.tab] ++ staticW U16 115 Cmp5.yN
def tab : Cond := tabOf yN yB 6 (some (.array .byte)) site
def P (b : Addr) (A : Cell) (o len : Nat) (args : Array Value) (s : State) : Prop := args = #[.ref b, .int (Int32.ofNat o), .int (Int32.ofNat len)] ∧ Ch b A s ∧ o + len ≤ A.slots.size ∧ len ≤ 536870912 ∧ ∀ i, i < len → ¬ 255 < cv A (o + i)
def E (b : Addr) (A : Cell) (o len : Nat) (r : Option Value) (s u : State) : Prop := NewArr .byte "[B" len (fun j => .int (lo8 (cv A (o + j)))) r s u ∧ u.heap.size = s.heap.size + 1
/-- no char of the range above 255: a new byte[] of their low bytes -/
theorem law (l : Launch) (b : Addr) (A : Cell) (o len : Nat) : Law l yN 3 3 1 18 yB 6 (some (.array .byte)) site (P b A o len) (E b A o len) [] 1 len := by
  refine Law.of_walk (plainFor_of_name (by decide +kernel)) (by decide +kernel) (by decide +kernel) (by decide) (fun _ _ h => by rw [h.1]; rfl) (fun _ U U' hal hh h => ⟨h.1, h.2.1.mv hal hh, h.2.2⟩) (fun r U U' V V' h1 hal h2 h => ⟨NewArr.mv r U U' V V' h1 hal h2 h.1, by rw [h1, h2]; exact h.2⟩) ?_
  intro p e s m args below meth c s₁ X0 hexec hbytes hml hret hlk hnm hown hh0 W hP
  obtain ⟨rfl, hA, l1, l2, hp⟩ := hP
  have a31 := hA.1.2.2.2
  have c1 : Steps p.tables e below (s₁.setTop (entryFrame m #[.ref b, .int (Int32.ofNat o), .int (Int32.ofNat len)] 6)) (s₁.setTop (mkF m 0 #[.val (.ref b), .val (.int (Int32.ofNat o)), .val (.int (Int32.ofNat len)), .unset, .unset, .unset] [])) := entry rfl
  have c2 : Steps p.tables e below (s₁.setTop (entryFrame m #[.ref b, .int (Int32.ofNat o), .int (Int32.ofNat len)] 6)) (s₁.setTop (mkF m 1 #[.val (.ref b), .val (.int (Int32.ofNat o)), .val (.int (Int32.ofNat len)), .unset, .unset, .unset] [.int (Int32.ofNat len)])) := c1.trans (by
    refine XS.iloadN X0.here hexec rfl (hb hbytes d0) rfl ?_
    exact Steps.refl _)
  obtain ⟨T3, B3, X3, ba3, bs3, bv3, bh3, bf3, st3⟩ := X0.anew hexec (atype := .byte) (wk W (.arrayClass .byte)) rfl (by show len * 1 ≤ _; omega) (by omega) (g := (mkF m 1 #[.val (.ref b), .val (.int (Int32.ofNat o)), .val (.int (Int32.ofNat len)), .unset, .unset, .unset] [.int (Int32.ofNat len)])) rfl (hb hbytes d1) (rest := []) rfl (Nat.le_refl _) (by show 0 + len ≤ len; omega)
  rw [hh0] at ba3 st3
  have kp3 : XT.Kept s T3 := (XT.Kept.of_eq hh0).push bh3
  have hA3 := hA.keep X3.warmed.alike (kp3 _ _ hA.1.1)
  have hne : b ≠ s.heap.size := hA.1.ne
  have c4 : Steps p.tables e below (s₁.setTop (entryFrame m #[.ref b, .int (Int32.ofNat o), .int (Int32.ofNat len)] 6)) (T3.setTop (mkF m 3 #[.val (.ref b), .val (.int (Int32.ofNat o)), .val (.int (Int32.ofNat len)), .unset, .unset, .unset] [.ref s.heap.size])) := c2.trans (st3 _ (Steps.refl _))
  have c5 : Steps p.tables e below (s₁.setTop (entryFrame m #[.ref b, .int (Int32.ofNat o), .int (Int32.ofNat len)] 6)) (T3.setTop (mkF m 9 #[.val (.ref b), .val (.int (Int32.ofNat o)), .val (.int (Int32.ofNat len)), .val (.ref s.heap.size), .unset, .unset] [.int (Int32.ofNat len), .int 0, .ref s.heap.size, .int (Int32.ofNat o), .ref b])) := c4.trans (by
    refine XS.astoreN X3.here hexec rfl (hb hbytes d3) rfl rfl rfl ?_
    refine XS.aloadN X3.here hexec rfl (hb hbytes d4) rfl rfl ?_
    refine XS.iloadN X3.here hexec rfl (hb hbytes d5) rfl ?_
    refine XS.aloadN X3.here hexec rfl (hb hbytes d6) rfl rfl ?_
    refine iconstV X3.here hexec rfl 0 (hb hbytes d7) (by decide) ?_
    refine XS.iloadN X3.here hexec rfl (hb hbytes d8) rfl ?_
    exact Steps.refl _)
  obtain ⟨v6, T6, X6, E6, g6⟩ := X3.callS hexec (Cmp5.law l b A s.heap.size B3 o 0 len) hown (wks W (staticW U16 115 Cmp5.yN)) (wk W Cmp5.tab) (W := 0) (Nat.le_of_ble_eq_true rfl) (Nat.le_of_ble_eq_true rfl) (Nat.le_refl _) (by show 0 + len + 0 ≤ len; omega) (g := (mkF m 9 #[.val (.ref b), .val (.int (Int32.ofNat o)), .val (.int (Int32.ofNat len)), .val (.ref s.heap.size), .unset, .unset] [.int (Int32.ofNat len), .int (Int32.ofNat 0), .ref s.heap.size, .int (Int32.ofNat o), .ref b])) rfl (by rw [hml]; rfl) c5 (argsL := [.ref b, .int (Int32.ofNat o), .ref s.heap.size, .int (Int32.ofNat 0), .int (Int32.ofNat len)]) (rest := []) rfl rfl (by show 2 * 0 + 0 ≤ _; decide) (hb hbytes d9) (⟨rfl, hA3, ba3, hne, l1, by rw [bs3]; simp, hp⟩)
  obtain ⟨rfl, B6, p6, f6⟩ := E6
  have c7 : Steps p.tables e below (s₁.setTop (entryFrame m #[.ref b, .int (Int32.ofNat o), .int (Int32.ofNat len)] 6)) (T6.setTop (mkF m 12 #[.val (.ref b), .val (.int (Int32.ofNat o)), .val (.int (Int32.ofNat len)), .val (.ref s.heap.size), .unset, .unset] [.int (Int32.ofNat len)])) := g6
  have c8 : Steps p.tables e below (s₁.setTop (entryFrame m #[.ref b, .int (Int32.ofNat o), .int (Int32.ofNat len)] 6)) (T6.setTop (mkF m 58 #[.val (.ref b), .val (.int (Int32.ofNat o)), .val (.int (Int32.ofNat len)), .val (.ref s.heap.size), .val (.int (Int32.ofNat len)), .unset] [.ref s.heap.size])) := c7.trans (by
    refine XS.istore X6.here hexec rfl (hb hbytes d12) rfl rfl ?_
    refine XS.iload X6.here hexec rfl (hb hbytes d14) rfl ?_
    refine XS.iloadN X6.here hexec rfl (hb hbytes d16) rfl ?_
    refine XS.icmpYes X6.here hexec rfl (pc0 := 17) rfl (hb hbytes d17) rfl (ii_eq_t rfl) (by decide) rfl ?_
    refine XS.aloadN X6.here hexec rfl (hb hbytes d57) rfl rfl ?_
    exact Steps.refl _)
  have X8 := X6.wide (L' := []) (cells' := 1) (slots' := len) (fun x hx hlt => by
    simp only [List.nil_append, copyLocs, List.mem_map, List.mem_range] at hx
    obtain ⟨i, -, rfl⟩ := hx
    exact absurd hlt (Nat.lt_irrefl _)) (Nat.le_refl _) (by omega)
  exact ⟨T6, some (.ref s.heap.size), _, _, _, X8, rfl, rfl, rfl, (fun h => by cases h), ⟨⟨rfl, B6, ba3.like (X3.warmed.alike.symm.trans X6.warmed.alike) p6.1 f6.1 f6.2.1 f6.2.2.1, f6.2.1.trans bv3, by rw [X6.warmed.alike.findClass, f6.1]; exact bf3, by rw [f6.2.2.1, bs3]; simp, fun j hj => by rw [f6.2.2.2 j, if_pos (by omega)]; rfl, kp3.put p6 (Nat.le_refl _)⟩, by rw [p6.2.2, bh3, hh0]; simp⟩, fun fs hl => c8.trans (X8.areturnOut hexec rfl hret rfl (hb hbytes d58) hl)⟩
end Cmp3
namespace CodL
def yN : MethodName := ⟨"java/lang/StringUTF16", "coderFromArrayLen", "([BI)B"⟩
abbrev yB : ByteArray := jdk_52_method_15_code
theorem d0 : decode yB 0 = .ok (.iload_n 1, 1) := by decide +kernel
theorem d1 : decode yB 1 = .ok (.aload_n 0, 1) := by decide +kernel
theorem d2 : decode yB 2 = .ok (.arraylength, 1) := by decide +kernel
theorem d3 : decode yB 3 = .ok (.isub, 1) := by decide +kernel
theorem d4 : decode yB 4 = .ok (.bipush 31, 2) := by decide +kernel
theorem d6 : decode yB 6 = .ok (.iushr, 1) := by decide +kernel
theorem d7 : decode yB 7 = .ok (.i2b, 1) := by decide +kernel
theorem d8 : decode yB 8 = .ok (.ireturn, 1) := by decide +kernel
def site : List Cond := []
def tab : Cond := tabOf yN yB 2 (some .byte) site
def P (d : Addr) (B : Cell) (args : Array Value) (s : State) : Prop := args = #[.ref d, .int (Int32.ofNat B.slots.size)] ∧ Arr .byte d B s
def E (r : Option Value) (s u : State) : Prop := XT.PureE (some (.int 0)) r s u
/-- an array as long as the number of chars: LATIN1 -/
theorem law (l : Launch) (d : Addr) (B : Cell) : Law l yN 2 2 0 0 yB 2 (some .byte) site (P d B) E [] 0 0 := by
  refine Law.of_walk (plainFor_of_name (by decide +kernel)) (by decide +kernel) (by decide +kernel) (by decide) (fun _ _ h => by rw [h.1]; rfl) (fun _ U U' hal hh h => ⟨h.1, h.2.mv hal hh⟩) (fun r U U' V V' h1 hal h2 h => XT.PureE.mv r U U' V V' h1 hal h2 h) ?_
  intro p e s m args below meth c s₁ X0 hexec hbytes hml hret hlk hnm hown hh0 W hP
  obtain ⟨rfl, hB⟩ := hP
  have hB0 := hB.mv X0.warmed.alike hh0
  have c1 : Steps p.tables e below (s₁.setTop (entryFrame m #[.ref d, .int (Int32.ofNat B.slots.size)] 2)) (s₁.setTop (mkF m 0 #[.val (.ref d), .val (.int (Int32.ofNat B.slots.size))] [])) := entry rfl
  have c2 : Steps p.tables e below (s₁.setTop (entryFrame m #[.ref d, .int (Int32.ofNat B.slots.size)] 2)) (s₁.setTop (mkF m 2 #[.val (.ref d), .val (.int (Int32.ofNat B.slots.size))] [.ref d, .int (Int32.ofNat B.slots.size)])) := c1.trans (by
    refine XS.iloadN X0.here hexec rfl (hb hbytes d0) rfl ?_
    refine XS.aloadN X0.here hexec rfl (hb hbytes d1) rfl rfl ?_
    exact Steps.refl _)
  have c3 : Steps p.tables e below (s₁.setTop (entryFrame m #[.ref d, .int (Int32.ofNat B.slots.size)] 2)) (s₁.setTop (mkF m 8 #[.val (.ref d), .val (.int (Int32.ofNat B.slots.size))] [.int (lo8 (ushr (Int32.ofNat B.slots.size - Int32.ofNat B.slots.size) 31))])) := c2.trans (by
    refine X0.alen hexec hB0 rfl rfl (hb hbytes d2) ?_
    refine XS.isub X0.here hexec rfl (hb hbytes d3) rfl ?_
    refine bipushV X0.here hexec rfl 31 (hb hbytes d4) (by decide) ?_
    refine iushr X0.here hexec rfl (hb hbytes d6) rfl ?_
    refine i2b X0.here hexec rfl (hb hbytes d7) rfl ?_
    exact Steps.refl _)
  have e0 : lo8 (ushr (Int32.ofNat B.slots.size - Int32.ofNat B.slots.size) 31) = 0 := by rw [Int32.sub_self]; decide
  rw [e0] at c3
  exact ⟨s₁, some (.int 0), _, _, _, X0, rfl, rfl, rfl, (fun h => by cases h), ⟨rfl, hh0⟩, fun fs hl => c3.trans (X0.ireturnOut hexec hret rfl (Or.inr (Or.inr (Or.inl rfl))) (hb hbytes d8) hl)⟩
end CodL
/-- the String at a is Latin-1 over a new byte[] (the heap's one new cell): the low bytes of the len chars of A from o on; every cell but a is kept -/
def Got (a : Addr) (D : Cell) (fV fC : Field) (A : Cell) (o len : Nat) (r : Option Value) (s u : State) : Prop := r = none ∧ ∃ D' V : Cell, Blank "java/lang/String" a D' u ∧ Same D D' [fV.slot, fC.slot] ∧ D'.slots[fV.slot]? = some (.ref s.heap.size) ∧ D'.slots[fC.slot]? = some (.int 0) ∧ Arr .byte s.heap.size V u ∧ V.vm = .none ∧ u.vm.findClass "[B" = some V.cls ∧ V.slots.size = len ∧ (∀ j, j < len → V.slots[j]? = some (.int (lo8 (cv A (o + j))))) ∧ (∀ (y : Addr) (c : Cell), y ≠ a → s.heap[y]? = some c → u.heap[y]? = some c) ∧ u.heap.size = s.heap.size + 1
theorem Got.mv {a : Addr} {D A : Cell} {fV fC : Field} {o len : Nat} : ∀ r (U U' V V' : State), U'.heap = U.heap → V.vm.Alike V'.vm → V'.heap = V.heap → Got a D fV fC A o len r U V → Got a D fV fC A o len r U' V' :=
  fun r U U' V V' h1 hal h2 ⟨e0, D', X, a1, a2, a3, a4, a5, a6, a7, a8, a9, a10, a11⟩ => ⟨e0, D', X, a1.mv hal h2, a2, by rw [h1]; exact a3, a4, by rw [h1]; exact a5.mv hal h2, a6, by rw [hal.findClass]; exact a7, a8, a9, by rw [h1, h2]; exact a10, by rw [h1, h2]; exact a11⟩
namespace New4
def yN : MethodName := ⟨"java/lang/String", "<init>", "([CIILjava/lang/Void;)V"⟩
abbrev yB : ByteArray := jdk_42_method_149_code
theorem d0 : decode yB 0 = .ok (.aload_n 0, 1) := by decide +kernel
theorem d1 : decode yB 1 = .ok (.invokespecial 1, 3) := by decide +kernel
theorem d4 : decode yB 4 = .ok (.iload_n 3, 1) := by decide +kernel
theorem d5 : decode yB 5 = .ok (.ifCond (.ne) 22, 3) := by decide +kernel
theorem d27 : decode yB 27 = .ok (.getstatic 38, 3) := by decide +kernel
theorem d30 : decode yB 30 = .ok (.ifCond (.eq) 28, 3) := by decide +kernel
theorem d33 : decode yB 33 = .ok (.aload_n 1, 1) := by decide +kernel
theorem d34 : decode yB 34 = .ok (.iload_n 2, 1) := by decide +kernel
theorem d35 : decode yB 35 = .ok (.iload_n 3, 1) := by decide +kernel
theorem d36 : decode yB 36 = .ok (.invokestatic 177, 3) := by decide +kernel
theorem d39 : decode yB 39 = .ok (.astore 5, 2) := by decide +kernel
theorem d41 : decode yB 41 = .ok (.aload_n 0, 1) := by decide +kernel
theorem d42 : decode yB 42 = .ok (.aload 5, 2) := by decide +kernel
theorem d44 : decode yB 44 = .ok (.iload_n 3, 1) := by decide +kernel
theorem d45 : decode yB 45 = .ok (.invokestatic 47, 3) := by decide +kernel
theorem d48 : decode yB 48 = .ok (.putfield 15, 3) := by decide +kernel
theorem d51 : decode yB 51 = .ok (.aload_n 0, 1) := by decide +kernel
theorem d52 : decode yB 52 = .ok (.aload 5, 2) := by decide +kernel
theorem d54 : decode yB 54 = .ok (.putfield 9, 3) := by decide +kernel
theorem d57 : decode yB 57 = .ok (.return_, 1) := by decide +kernel
def site : List Cond := [.fieldLink "java/lang/String" 38 "java/lang/String" "COMPACT_STRINGS" "Z", Cmp3.tab, CodL.tab, .laysFinal "java/lang/String" "java/lang/String" "value" "[B", .fieldLink "java/lang/String" 9 "java/lang/String" "value" "[B", .laysFinal "java/lang/String" "java/lang/String" "coder" "B", .fieldLink "java/lang/String" 15 "java/lang/String" "coder" "B"] ++ objW "java/lang/String" 1 ++ staticW "java/lang/String" 177 Cmp3.yN ++ staticW "java/lang/String" 47 CodL.yN
def tab : Cond := tabOf yN yB 6 none site
def P (a : Addr) (D : Cell) (fV fC : Field) (b : Addr) (A : Cell) (z : Int32) (o len : Nat) (args : Array Value) (s : State) : Prop := args = #[.ref a, .ref b, .int (Int32.ofNat o), .int (Int32.ofNat len), .null] ∧ Blank "java/lang/String" a D s ∧ Found "java/lang/String" "value" "[B" fV s ∧ Found "java/lang/String" "coder" "B" fC s ∧ Ch b A s ∧ StaticIs s "java/lang/String" "COMPACT_STRINGS" "Z" (.int z) ∧ ¬ z = 0 ∧ 0 < len ∧ o + len ≤ A.slots.size ∧ len ≤ 536870912 ∧ ∀ i, i < len → ¬ 255 < cv A (o + i)
def E (a : Addr) (D : Cell) (fV fC : Field) (A : Cell) (o len : Nat) (r : Option Value) (s u : State) : Prop := Got a D fV fC A o len r s u
/-- len > 0, no char of the range above 255: a Latin-1 String of their low bytes -/
theorem law (l : Launch) (a : Addr) (D : Cell) (fV fC : Field) (b : Addr) (A : Cell) (z : Int32) (o len : Nat) : Law l yN 5 4 2 35 yB 6 none site (P a D fV fC b A z o len) (E a D fV fC A o len) [⟨a, fC.slot⟩, ⟨a, fV.slot⟩] 1 len := by
  refine Law.of_walk (plainFor_of_name (by decide +kernel)) (by decide +kernel) (by decide +kernel) (by decide) (fun _ _ h => by rw [h.1]; rfl) (fun _ U U' hal hh h => ⟨h.1, h.2.1.mv hal hh, h.2.2.1.al hal, h.2.2.2.1.al hal, h.2.2.2.2.1.mv hal hh, h.2.2.2.2.2.1.there hal hh, h.2.2.2.2.2.2⟩) (fun r U U' V V' h1 hal h2 h => Got.mv r U U' V V' h1 hal h2 h) ?_
  intro p e s m args below meth c s₁ X0 hexec hbytes hml hret hlk hnm hown hh0 W hP
  obtain ⟨rfl, hB, f1, f2, hA, s1, hz, l0, l1, l2, hp⟩ := hP
  have a31 := hA.1.2.2.2
  have c1 : Steps p.tables e below (s₁.setTop (entryFrame m #[.ref a, .ref b, .int (Int32.ofNat o), .int (Int32.ofNat len), .null] 6)) (s₁.setTop (mkF m 0 #[.val (.ref a), .val (.ref b), .val (.int (Int32.ofNat o)), .val (.int (Int32.ofNat len)), .val .null, .unset] [])) := entry rfl
  have c2 : Steps p.tables e below (s₁.setTop (entryFrame m #[.ref a, .ref b, .int (Int32.ofNat o), .int (Int32.ofNat len), .null] 6)) (s₁.setTop (mkF m 1 #[.val (.ref a), .val (.ref b), .val (.int (Int32.ofNat o)), .val (.int (Int32.ofNat len)), .val .null, .unset] [.ref a])) := c1.trans (by
    refine XS.aloadN X0.here hexec rfl (hb hbytes d0) rfl rfl ?_
    exact Steps.refl _)
  obtain ⟨T3, X3, q3, st3⟩ := X0.oinit hexec hown (wks W (objW "java/lang/String" 1)) (g := (mkF m 1 #[.val (.ref a), .val (.ref b), .val (.int (Int32.ofNat o)), .val (.int (Int32.ofNat len)), .val .null, .unset] [.ref a])) rfl (by rw [hml]; rfl) (rest := []) rfl (hb hbytes d1) (W := 0) (by show 2 * 0 + 0 ≤ _; decide) (Nat.le_of_ble_eq_true rfl) (Nat.le_of_ble_eq_true rfl)
  have hh3 := q3.trans hh0
  have c4 : Steps p.tables e below (s₁.setTop (entryFrame m #[.ref a, .ref b, .int (Int32.ofNat o), .int (Int32.ofNat len), .null] 6)) (T3.setTop (mkF m 27 #[.val (.ref a), .val (.ref b), .val (.int (Int32.ofNat o)), .val (.int (Int32.ofNat len)), .val .null, .unset] [])) := (c2.trans (st3 _ (Steps.refl _))).trans (by
    refine XS.iloadN X3.here hexec rfl (hb hbytes d4) rfl ?_
    refine XS.ifYes X3.here hexec rfl (pc0 := 5) rfl (hb hbytes d5) rfl (i0_ne_t (nz32 (by omega) l0)) (by decide) rfl ?_
    exact Steps.refl _)
  obtain ⟨T5, X5, q5, st5⟩ := X3.sget hexec hown (wk W (.fieldLink "java/lang/String" 38 "java/lang/String" "COMPACT_STRINGS" "Z")) s1 (fun _ _ h => by rw [hh3]; exact h) (g := (mkF m 27 #[.val (.ref a), .val (.ref b), .val (.int (Int32.ofNat o)), .val (.int (Int32.ofNat len)), .val .null, .unset] [])) rfl (hb hbytes d27)
  have hh5 := q5.trans hh3
  have c6 : Steps p.tables e below (s₁.setTop (entryFrame m #[.ref a, .ref b, .int (Int32.ofNat o), .int (Int32.ofNat len), .null] 6)) (T5.setTop (mkF m 30 #[.val (.ref a), .val (.ref b), .val (.int (Int32.ofNat o)), .val (.int (Int32.ofNat len)), .val .null, .unset] [.int z])) := c4.trans (st5 _ (Steps.refl _))
  have c7 : Steps p.tables e below (s₁.setTop (entryFrame m #[.ref a, .ref b, .int (Int32.ofNat o), .int (Int32.ofNat len), .null] 6)) (T5.setTop (mkF m 36 #[.val (.ref a), .val (.ref b), .val (.int (Int32.ofNat o)), .val (.int (Int32.ofNat len)), .val .null, .unset] [.int (Int32.ofNat len), .int (Int32.ofNat o), .ref b])) := c6.trans (by
    refine XS.ifNo X5.here hexec rfl (hb hbytes d30) rfl (i0_eq_f hz) ?_
    refine XS.aloadN X5.here hexec rfl (hb hbytes d33) rfl rfl ?_
    refine XS.iloadN X5.here hexec rfl (hb hbytes d34) rfl ?_
    refine XS.iloadN X5.here hexec rfl (hb hbytes d35) rfl ?_
    exact Steps.refl _)
  obtain ⟨v8, T8, X8, E8, g8⟩ := X5.callS hexec (Cmp3.law l b A o len) hown (wks W (staticW "java/lang/String" 177 Cmp3.yN)) (wk W Cmp3.tab) (W := 0) (Nat.le_of_ble_eq_true rfl) (Nat.le_of_ble_eq_true rfl) (Nat.le_refl _) (by show 0 + len ≤ len; omega) (g := (mkF m 36 #[.val (.ref a), .val (.ref b), .val (.int (Int32.ofNat o)), .val (.int (Int32.ofNat len)), .val .null, .unset] [.int (Int32.ofNat len), .int (Int32.ofNat o), .ref b])) rfl (by rw [hml]; rfl) c7 (argsL := [.ref b, .int (Int32.ofNat o), .int (Int32.ofNat len)]) (rest := []) rfl rfl (by show 2 * 0 + 0 ≤ _; decide) (hb hbytes d36) (⟨rfl, hA.mv X5.warmed.alike hh5, l1, l2, hp⟩)
  obtain ⟨e8, z8⟩ := E8
  obtain ⟨rfl, N, n1, n2, n3, n4, n5, n6⟩ := NewArr.mv _ T5 s _ _ hh5.symm (Vm.Alike.refl _) rfl e8
  rw [hh5] at z8
  have hB1 := hB.keep X8.warmed.alike (n6 _ _ hB.1)
  have hne : s.heap.size ≠ a := (Nat.ne_of_lt (Array.getElem?_eq_some_iff.mp hB.1).1).symm
  have c9 : Steps p.tables e below (s₁.setTop (entryFrame m #[.ref a, .ref b, .int (Int32.ofNat o), .int (Int32.ofNat len), .null] 6)) (T8.setTop (mkF m 39 #[.val (.ref a), .val (.ref b), .val (.int (Int32.ofNat o)), .val (.int (Int32.ofNat len)), .val .null, .unset] [.ref s.heap.size])) := g8
  have c10 : Steps p.tables e below (s₁.setTop (entryFrame m #[.ref a, .ref b, .int (Int32.ofNat o), .int (Int32.ofNat len), .null] 6)) (T8.setTop (mkF m 45 #[.val (.ref a), .val (.ref b), .val (.int (Int32.ofNat o)), .val (.int (Int32.ofNat len)), .val .null, .val (.ref s.heap.size)] [.int (Int32.ofNat N.slots.size), .ref s.heap.size, .ref a])) := by
    have hc : Steps p.tables e below (s₁.setTop (entryFrame m #[.ref a, .ref b, .int (Int32.ofNat o), .int (Int32.ofNat len), .null] 6)) (T8.setTop (mkF m 45 #[.val (.ref a), .val (.ref b), .val (.int (Int32.ofNat o)), .val (.int (Int32.ofNat len)), .val .null, .val (.ref s.heap.size)] [.int (Int32.ofNat len), .ref s.heap.size, .ref a])) := c9.trans (by
      refine XS.astore X8.here hexec rfl (hb hbytes d39) rfl rfl rfl ?_
      refine XS.aloadN X8.here hexec rfl (hb hbytes d41) rfl rfl ?_
      refine XS.aload X8.here hexec rfl (hb hbytes d42) rfl rfl ?_
      refine XS.iloadN X8.here hexec rfl (hb hbytes d44) rfl ?_
      exact Steps.refl _)
    rw [n4]; exact hc
  obtain ⟨v11, T11, X11, E11, g11⟩ := X8.callS hexec (CodL.law l s.heap.size N) hown (wks W (staticW "java/lang/String" 47 CodL.yN)) (wk W CodL.tab) (W := 1) (Nat.le_of_ble_eq_true rfl) (Nat.le_of_ble_eq_true rfl) (Nat.le_refl _) (by show 0 + len + 0 ≤ len; omega) (g := (mkF m 45 #[.val (.ref a), .val (.ref b), .val (.int (Int32.ofNat o)), .val (.int (Int32.ofNat len)), .val .null, .val (.ref s.heap.size)] [.int (Int32.ofNat N.slots.size), .ref s.heap.size, .ref a])) rfl (by rw [hml]; rfl) c10 (argsL := [.ref s.heap.size, .int (Int32.ofNat N.slots.size)]) (rest := [.ref a]) rfl rfl (by show 2 * 0 + (1 + 0) ≤ _; decide) (hb hbytes d45) (⟨rfl, n1⟩)
  obtain ⟨rfl, q11⟩ := E11
  have hB11 := hB1.mv (X8.warmed.alike.symm.trans X11.warmed.alike) q11
  have c12 : Steps p.tables e below (s₁.setTop (entryFrame m #[.ref a, .ref b, .int (Int32.ofNat o), .int (Int32.ofNat len), .null] 6)) (T11.setTop (mkF m 48 #[.val (.ref a), .val (.ref b), .val (.int (Int32.ofNat o)), .val (.int (Int32.ofNat len)), .val .null, .val (.ref s.heap.size)] [.int 0, .ref a])) := g11
  obtain ⟨T13, X13, p13, bl13, sl13, st13⟩ := X11.finit hexec hown (wk W (.fieldLink "java/lang/String" 15 "java/lang/String" "coder" "B")) (Or.inr ⟨_, (wk W (.laysFinal "java/lang/String" "java/lang/String" "coder" "B"))⟩) (Or.inl ⟨rfl, hnm⟩) f2 (Or.inl rfl) hB11 (t := .byte) (by decide +kernel) rfl (g := (mkF m 48 #[.val (.ref a), .val (.ref b), .val (.int (Int32.ofNat o)), .val (.int (Int32.ofNat len)), .val .null, .val (.ref s.heap.size)] [.int 0, .ref a])) rfl (rest := []) rfl (hb hbytes d48)
  have c14 : Steps p.tables e below (s₁.setTop (entryFrame m #[.ref a, .ref b, .int (Int32.ofNat o), .int (Int32.ofNat len), .null] 6)) (T13.setTop (mkF m 54 #[.val (.ref a), .val (.ref b), .val (.int (Int32.ofNat o)), .val (.int (Int32.ofNat len)), .val .null, .val (.ref s.heap.size)] [.ref s.heap.size, .ref a])) := (c12.trans (st13 _ (Steps.refl _))).trans (by
    refine XS.aloadN X13.here hexec rfl (hb hbytes d51) rfl rfl ?_
    refine XS.aload X13.here hexec rfl (hb hbytes d52) rfl rfl ?_
    exact Steps.refl _)
  obtain ⟨T15, X15, p15, bl15, sl15, st15⟩ := X13.finit hexec hown (wk W (.fieldLink "java/lang/String" 9 "java/lang/String" "value" "[B")) (Or.inr ⟨_, (wk W (.laysFinal "java/lang/String" "java/lang/String" "value" "[B"))⟩) (Or.inl ⟨rfl, hnm⟩) f1 (Or.inl rfl) bl13 (t := (.array .byte)) (by decide +kernel) rfl (g := (mkF m 54 #[.val (.ref a), .val (.ref b), .val (.int (Int32.ofNat o)), .val (.int (Int32.ofNat len)), .val .null, .val (.ref s.heap.size)] [.ref s.heap.size, .ref a])) rfl (rest := []) rfl (hb hbytes d54)
  have c16 : Steps p.tables e below (s₁.setTop (entryFrame m #[.ref a, .ref b, .int (Int32.ofNat o), .int (Int32.ofNat len), .null] 6)) (T15.setTop (mkF m 57 #[.val (.ref a), .val (.ref b), .val (.int (Int32.ofNat o)), .val (.int (Int32.ofNat len)), .val .null, .val (.ref s.heap.size)] [])) := c14.trans (st15 _ (Steps.refl _))
  have ap := apart (Or.inr ⟨_, (wk W (.laysFinal "java/lang/String" "java/lang/String" "value" "[B"))⟩) (Or.inr ⟨_, (wk W (.laysFinal "java/lang/String" "java/lang/String" "coder" "B"))⟩) f1 f2 (t₁ := .array .byte) (t₂ := .byte) (by decide +kernel) (by decide +kernel) (by decide)
  have al := X8.warmed.alike.symm.trans X15.warmed.alike
  have n7 : T11.heap[s.heap.size]? = some N := by rw [q11]; exact n1.1
  exact ⟨T15, none, _, _, _, X15, by simp, rfl, by omega, (fun _ => rfl), ⟨rfl, _, N, bl15, ((Same.refl D _).set _ (by simp)).set _ (by simp), sl15, (Cell.slots_setSlot_ne _ ap).trans sl13, n1.keep al (p15.other hne (p13.other hne n7)), n2, by rw [al.findClass]; exact n3, n4, n5, fun y c h1 h2 => p15.other h1 (p13.other h1 (by rw [q11]; exact n6 y c h2)), by rw [p15.2.2, p13.2.2, q11]; exact z8⟩, fun fs hl => c16.trans (X15.returnOut hexec hret (hb hbytes d57) hl)⟩
end New4
namespace New1
def yN : MethodName := ⟨"java/lang/String", "<init>", "([C)V"⟩
abbrev yB : ByteArray := jdk_42_method_3_code
theorem d0 : decode yB 0 = .ok (.aload_n 0, 1) := by decide +kernel
theorem d1 : decode yB 1 = .ok (.aload_n 1, 1) := by decide +kernel
theorem d2 : decode yB 2 = .ok (.iconst 0, 1) := by decide +kernel
theorem d3 : decode yB 3 = .ok (.aload_n 1, 1) := by decide +kernel
theorem d4 : decode yB 4 = .ok (.arraylength, 1) := by decide +kernel
theorem d5 : decode yB 5 = .ok (.aconst_null, 1) := by decide +kernel
theorem d6 : decode yB 6 = .ok (.invokespecial 27, 3) := by decide +kernel
theorem d9 : decode yB 9 = .ok (.return_, 1) := by decide +kernel
def site : List Cond := [New4.tab] ++ initW "java/lang/String" 27 New4.yN
def tab : Cond := tabOf yN yB 2 none site
def P (a : Addr) (D : Cell) (fV fC : Field) (b : Addr) (A : Cell) (z : Int32) (args : Array Value) (s : State) : Prop := args = #[.ref a, .ref b] ∧ Blank "java/lang/String" a D s ∧ Found "java/lang/String" "value" "[B" fV s ∧ Found "java/lang/String" "coder" "B" fC s ∧ Ch b A s ∧ StaticIs s "java/lang/String" "COMPACT_STRINGS" "Z" (.int z) ∧ ¬ z = 0 ∧ 0 < A.slots.size ∧ A.slots.size ≤ 536870912 ∧ ∀ i, i < A.slots.size → ¬ 255 < cv A i
def E (a : Addr) (D : Cell) (fV fC : Field) (A : Cell) (r : Option Value) (s u : State) : Prop := Got a D fV fC A 0 A.slots.size r s u
/-- new String(chars), not empty, no char above 255: a Latin-1 String of their low bytes -/
theorem law (l : Launch) (a : Addr) (D : Cell) (fV fC : Field) (b : Addr) (A : Cell) (z : Int32) : Law l yN 2 1 3 52 yB 2 none site (P a D fV fC b A z) (E a D fV fC A) [⟨a, fC.slot⟩, ⟨a, fV.slot⟩] 1 A.slots.size := by
  refine Law.of_walk (plainFor_of_name (by decide +kernel)) (by decide +kernel) (by decide +kernel) (by decide) (fun _ _ h => by rw [h.1]; rfl) (fun _ U U' hal hh h => ⟨h.1, h.2.1.mv hal hh, h.2.2.1.al hal, h.2.2.2.1.al hal, h.2.2.2.2.1.mv hal hh, h.2.2.2.2.2.1.there hal hh, h.2.2.2.2.2.2⟩) (fun r U U' V V' h1 hal h2 h => Got.mv r U U' V V' h1 hal h2 h) ?_
  intro p e s m args below meth c s₁ X0 hexec hbytes hml hret hlk hnm hown hh0 W hP
  obtain ⟨rfl, hB, f1, f2, hA, s1, hz, l0, l2, hp⟩ := hP
  have c1 : Steps p.tables e below (s₁.setTop (entryFrame m #[.ref a, .ref b] 2)) (s₁.setTop (mkF m 0 #[.val (.ref a), .val (.ref b)] [])) := entry rfl
  have c2 : Steps p.tables e below (s₁.setTop (entryFrame m #[.ref a, .ref b] 2)) (s₁.setTop (mkF m 6 #[.val (.ref a), .val (.ref b)] [.null, .int (Int32.ofNat A.slots.size), .int 0, .ref b, .ref a])) := c1.trans (by
    refine XS.aloadN X0.here hexec rfl (hb hbytes d0) rfl rfl ?_
    refine XS.aloadN X0.here hexec rfl (hb hbytes d1) rfl rfl ?_
    refine iconstV X0.here hexec rfl 0 (hb hbytes d2) (by decide) ?_
    refine XS.aloadN X0.here hexec rfl (hb hbytes d3) rfl rfl ?_
    refine X0.alen hexec (hA.1.mv X0.warmed.alike hh0) rfl rfl (hb hbytes d4) ?_
    refine XS.aconstNull X0.here hexec rfl (hb hbytes d5) ?_
    exact Steps.refl _)
  obtain ⟨v3, T3, X3, E3, g3⟩ := X0.callN hexec (New4.law l a D fV fC b A z 0 A.slots.size) rfl hown (wks W (initW "java/lang/String" 27 New4.yN)) (W New4.tab (by simp only [site, List.mem_cons, List.mem_append, true_or, or_true])) (W := 0) (Nat.le_of_ble_eq_true rfl) (Nat.le_of_ble_eq_true rfl) (Nat.le_refl _) (by show 0 + A.slots.size ≤ A.slots.size; omega) (g := (mkF m 6 #[.val (.ref a), .val (.ref b)] [.null, .int (Int32.ofNat A.slots.size), .int (Int32.ofNat 0), .ref b, .ref a])) rfl (by rw [hml]; rfl) c2 (argsL := [.ref b, .int (Int32.ofNat 0), .int (Int32.ofNat A.slots.size), .null]) (rest := []) rfl rfl (by show 2 * 0 + 0 ≤ _; decide) (hb hbytes d6) (⟨rfl, hB.mv X0.warmed.alike hh0, f1.al X0.warmed.alike, f2.al X0.warmed.alike, hA.mv X0.warmed.alike hh0, s1.there X0.warmed.alike hh0, hz, l0, by omega, l2, fun i hi => by rw [Nat.zero_add]; exact hp i hi⟩)
  have e0 := Got.mv _ s₁ s _ _ hh0.symm (Vm.Alike.refl _) rfl E3
  obtain rfl := e0.1
  have c4 : Steps p.tables e below (s₁.setTop (entryFrame m #[.ref a, .ref b] 2)) (T3.setTop (mkF m 9 #[.val (.ref a), .val (.ref b)] [])) := g3
  exact ⟨T3, none, _, _, _, X3, by simp, rfl, by omega, (fun _ => rfl), e0, fun fs hl => c4.trans (X3.returnOut hexec hret (hb hbytes d9) hl)⟩
theorem pays {l : Launch} {R : Room} {p : Program} {e : Env} {below : List Frame} {s : State} {sargs : Array Value} {len W : Nat} (a : Addr) (D : Cell) (fV fC : Field) (b : Addr) (A : Cell) (z : Int32) (htab : tab.before sargs s = true) (hfr : 4 ≤ R.frames) (hlo : W + 65 ≤ R.locals) :
    Back l R p e below s sargs yN len W (fun A₁ a₁ => A₁.cells + 1 ≤ R.cells ∧ A₁.slots + A.slots.size ≤ R.slots ∧ P a D fV fC b A z a₁ A₁.U) (fun A₁ _ v₁ B₁ => E a D fV fC A v₁ A₁.U B₁.U ∧ B₁.locs = A₁.locs ++ [⟨a, fC.slot⟩, ⟨a, fV.slot⟩] ∧ B₁.cells = A₁.cells + 1 ∧ B₁.slots = A₁.slots + A.slots.size) :=
  (law l a D fV fC b A z).pays htab hfr (by omega)
end New1
end StrChars
namespace StrChars.Road
open Jvm Sem ClassFile Op Lib Jvm.Stand Jvm.Free Jvm.Free.XT
open Jvm.Lib.Cold (StaticIs)
abbrev ST : String := "java/lang/String"
/-- every table word that New1's law asks, flat -/
abbrev words : List Jvm.Cond := [.code New1.yN New1.yB 2 none, .initialized ST, .methodLink ST 27 New4.yN, .instanceMethod New4.yN,
  .code New4.yN New4.yB 6 none, .fieldLink ST 38 ST "COMPACT_STRINGS" "Z", .laysFinal ST ST "value" "[B", .fieldLink ST 9 ST "value" "[B", .laysFinal ST ST "coder" "B", .fieldLink ST 15 ST "coder" "B",
  .methodLink ST 1 Lib.objectInit, .instanceMethod Lib.objectInit, .code Lib.objectInit ⟨#[0xb1]⟩ 1 none, .methodLink ST 177 Cmp3.yN, .static Cmp3.yN, .methodLink ST 47 CodL.yN, .static CodL.yN,
  .code Cmp3.yN Cmp3.yB 6 (some (.array .byte)), .initialized U16, .arrayClass .byte, .methodLink U16 115 Cmp5.yN, .static Cmp5.yN, .code Cmp5.yN Cmp5.yB 7 (some .int), .code CodL.yN CodL.yB 2 (some .byte)]
theorem tab_of {a : Array Value} {s : State} (h : ∀ w ∈ words, w.before a s = true) : New1.tab.before a s = true := by
  have h5 : Cmp5.tab.before a s = true := unparts (wk h (.code Cmp5.yN Cmp5.yB 7 (some .int))) (wks h (.initialized Cmp5.yN.cls :: Cmp5.site))
  have hc : CodL.tab.before a s = true := unparts (wk h (.code CodL.yN CodL.yB 2 (some .byte))) (wks h (.initialized CodL.yN.cls :: CodL.site))
  have q5 : ∀ w ∈ Cmp5.tab :: words, w.before a s = true := fun w hw => (List.mem_cons.mp hw).elim (fun e => e ▸ h5) (h w)
  have h3 : Cmp3.tab.before a s = true := unparts (wk q5 (.code Cmp3.yN Cmp3.yB 6 (some (.array .byte)))) (wks q5 (.initialized Cmp3.yN.cls :: Cmp3.site))
  have q3 : ∀ w ∈ Cmp3.tab :: CodL.tab :: words, w.before a s = true := fun w hw => (List.mem_cons.mp hw).elim (fun e => e ▸ h3) fun hw => (List.mem_cons.mp hw).elim (fun e => e ▸ hc) (h w)
  have h4 : New4.tab.before a s = true := unparts (wk q3 (.code New4.yN New4.yB 6 none)) (wks q3 (.initialized New4.yN.cls :: New4.site))
  have q4 : ∀ w ∈ New4.tab :: words, w.before a s = true := fun w hw => (List.mem_cons.mp hw).elim (fun e => e ▸ h4) (h w)
  exact unparts (wk q4 (.code New1.yN New1.yB 2 none)) (wks q4 (.initialized New1.yN.cls :: New1.site))
/-- the words ride from the start Z to the walk's own state -/
theorem moved {Z s : State} {a0 args : Array Value} (hZ : Z.Warmed39 s.vm) (hw : ∀ d ∈ words, d.before a0 Z = true) : ∀ d ∈ words, d.before args s = true := fun d hd => by
  have q := hw d hd
  have t : ∀ d ∈ words, d = .arrayClass .byte ∨ (d.onTables && d.keepsFace) = true := by decide +kernel
  rcases t d hd with rfl | t
  · exact RoadKit.mvA hZ q
  · exact RoadKit.mv hZ q t
/-- WHAT COMES BACK, over the tables of the start Z: h the heap at the call, h' behind it -/
def Q (Z : State) (x : Addr) (A : Cell) (h : Heap) (v : Option Value) (h' : Heap) (L : List Loc) : Prop := v = none ∧ (∀ y ∈ L, y.base = x) ∧ RoadKit.Keep h h' [x] ∧ h'.size = h.size + 1 ∧ RoadKit.Exa Z h' x ST ∧ RoadKit.Fld Z h' x ST "value" "[B" (.ref h.size) ∧ RoadKit.Fld Z h' x ST "coder" "B" (.int 0) ∧
  (∃ V : Cell, RoadKit.Arr Z h' h.size V .byte ∧ V.vm = .none ∧ Z.vm.findClass "[B" = some V.cls ∧ V.slots.size = A.slots.size ∧ ∀ j, j < A.slots.size → V.slots[j]? = some (.int (lo8 (cv A j)))) ∧
  ∀ (O n d : String) (w : Value), RoadKit.Fld Z h x O n d w → RoadKit.slotOf Z O n d ≠ RoadKit.slotOf Z ST "value" "[B" → RoadKit.slotOf Z O n d ≠ RoadKit.slotOf Z ST "coder" "B" → RoadKit.Fld Z h' x O n d w
/-- **new String(chars) AT A CALL, IN THE ROAD'S FORM**: for specialBack behind newO: x the fresh String, b the char[] with the cell A -/
theorem back {p : Program} {l : Launch} {e : Env} {R : Room} {s : State} {args : Array Value} {below : List Frame} {len W : Nat} {Z : State} {a0 : Array Value} {h : Heap} (hZ : Z.Warmed39 s.vm) (hw : ∀ d ∈ words, d.before a0 Z = true) {kI : Nat} (wi : (Jvm.Cond.instantiable ST kI).before a0 Z = true)
    {x b : Addr} {A : Cell} {z : Int32} {v0 c0 : Value} (E : RoadKit.Exa Z h x ST) (V : RoadKit.Fld Z h x ST "value" "[B" v0) (C : RoadKit.Fld Z h x ST "coder" "B" c0) (K : RoadKit.Arr Z h b A .char) (hty : Typed .char A) (S : RoadKit.Sta Z h ST "COMPACT_STRINGS" "Z" (.int z)) (hz : ¬ z = 0)
    (l0 : 0 < A.slots.size) (l2 : A.slots.size ≤ 536870912) (hp : ∀ i, i < A.slots.size → ¬ 255 < cv A i) (hfr : 4 ≤ R.frames) (hlo : W + 65 ≤ R.locals) :
    Back l R p e below s args New1.yN len W (fun P a => a = #[.ref x, .ref b] ∧ P.U.heap = h ∧ P.cells + 1 ≤ R.cells ∧ P.slots + A.slots.size ≤ R.slots)
      (fun P _ v B => ∃ L, Q Z x A h v B.U.heap L ∧ B.locs = P.locs ++ L ∧ B.cells = P.cells + 1 ∧ B.slots = P.slots + A.slots.size) := by
  intro m meth c P g ig mk a X hg hsize hdg hW hn hp'
  obtain ⟨rfl, rfl, r1, r2⟩ := hp'
  have al : Z.vm.Alike P.U.vm := hZ.alike.trans X.warmed.alike
  obtain ⟨D, cfV, kV, iV, fV, hD, gV, stV, knV, obV, asV, slV⟩ := id V
  obtain ⟨D', cfC, kC, iC, fC, hD', gC, stC, -, -, asC, slC⟩ := id C
  cases hD.symm.trans hD'
  obtain ⟨D2, kD, e1, e2, e3, e4, e5⟩ := id E
  cases hD.symm.trans e1
  obtain ⟨c2, k2, i1, i2, i3, -⟩ := Cond.instantiable_spec wi
  cases e2.symm.trans i1
  cases e3.symm.trans i2
  obtain ⟨kU, u1, u2⟩ := al.2.2 _ _ e3
  have hB : Blank ST x D P.U := ⟨hD, ⟨knV, fun q hq => by rw [hq] at obV; cases obV⟩, by rw [al.findClass]; exact e2, kU, u1, by rw [u2]; exact i3, by rw [u2]; exact e5 i3⟩
  have F1 : Found ST "value" "[B" fV P.U := ⟨SBG.found_only al ⟨cfV, kV, iV, gV⟩, stV⟩
  have F2 : Found ST "coder" "B" fC P.U := ⟨SBG.found_only al ⟨cfC, kC, iC, gC⟩, stC⟩
  have hA : Ch b A P.U := ⟨⟨K.1, State.isArrayOf_alike al K.2.1, K.2.2, by omega⟩, hty⟩
  have hS : StaticIs P.U ST "COMPACT_STRINGS" "Z" (.int z) := by
    obtain ⟨cfS, iS, kS, fS, st, cS, t1, t2, t3, t4, t5, t6, t7⟩ := S
    exact StaticIs.there (s := { Z with heap := P.U.heap }) ⟨cfS, iS, kS, fS, st, cS, t1, t2, t3, t4, t5, (fun q => by rw [q] at t6; cases t6), t7⟩ al rfl
  obtain ⟨v, B, X', ⟨⟨hv, E', V', q1, q2, q3, q4, q5, q6, q7, q8, q9, q10, q11⟩, hl, hc, hs⟩, st⟩ := New1.pays x D fV fC b A z (tab_of (moved hZ hw)) hfr hlo m meth c P g ig mk _ X hg hsize hdg hW hn ⟨r1, r2, rfl, hB, F1, F2, hA, hS, hz, l0, l2, hp⟩
  have al' : Z.vm.Alike B.U.vm := hZ.alike.trans X'.warmed.alike
  have hsz : E'.slots.size = D.slots.size := by
    obtain ⟨-, -, -, kB, w1, w2, w3⟩ := q1
    obtain ⟨kB', y1, y2⟩ := al'.2.2 _ _ e3
    rw [q2.2.1] at w1
    cases w1.symm.trans y1
    rw [w3, e5 i3, y2]
  refine ⟨v, B, X', ⟨_, ⟨hv, ?_, ⟨by omega, fun y cy hy hn' => q10 y cy (by simpa using hn') hy, fun y cy hy => ?_⟩, q11, ⟨E', _, q1.1, by rw [q2.2.1]; exact e2, by rw [q2.2.1]; exact e3, by rw [q2.1]; exact obV, fun _ => by rw [hsz]; exact e5 i3⟩,
    ⟨E', cfV, kV, iV, fV, q1.1, gV, stV, by rw [q2.1]; exact knV, by rw [q2.1]; exact obV, by rw [q2.2.1]; exact asV, q3⟩, ⟨E', cfC, kC, iC, fC, q1.1, gC, stC, by rw [q2.1]; exact knV, by rw [q2.1]; exact obV, by rw [q2.2.1]; exact asC, q4⟩,
    ⟨V', ⟨q5.1, State.isArrayOf_alike al'.symm q5.2.1, q5.2.2.1⟩, q6, by rw [← al'.findClass]; exact q7, q8, fun j hj => by have := q9 j hj; rwa [Nat.zero_add] at this⟩, fun O n d w F n1 n2 => ?_⟩, hl, hc, hs⟩, st⟩
  · intro y hy
    simp only [List.mem_cons, List.not_mem_nil, or_false] at hy
    rcases hy with rfl | rfl <;> rfl
  · by_cases q : y = x
    · subst q
      cases hD.symm.trans hy
      exact ⟨E', q1.1, q2.2.1, q2.1, hsz⟩
    · exact ⟨cy, q10 y cy q hy, rfl, rfl, rfl⟩
  · obtain ⟨D3, cf, k, i, f, g1, g2, g3, g4, g5, g6, g7⟩ := F
    cases hD.symm.trans g1
    simp only [RoadKit.slotOf, g2, gV, gC, Option.map_some, Option.getD_some] at n1 n2
    exact ⟨E', cf, k, i, f, q1.1, g2, g3, by rw [q2.1]; exact g4, by rw [q2.1]; exact g5, by rw [q2.2.1]; exact g6, by rw [q2.2.2 f.slot (by simp [n1, n2])]; exact g7⟩
end StrChars.Road
namespace StrChars.Road
open Jvm Sem ClassFile Op Lib Jvm.Stand Jvm.Free Jvm.Free.XT
/-- WHAT COMES BACK, the byte[] as a list of values -/
def QA (Z : State) (x : Addr) (zn : Int32) (cs : List Int32) (h : Heap) (v : Option Value) (h' : Heap) (L : List Loc) : Prop := v = none ∧ (∀ y ∈ L, y.base = x) ∧ RoadKit.Keep h h' [x] ∧ h'.size = h.size + 1 ∧ RoadKit.Exa Z h' x ST ∧ RoadKit.Fld Z h' x ST "value" "[B" (.ref h.size) ∧ RoadKit.Fld Z h' x ST "coder" "B" (.int 0) ∧
  (∃ kb, Z.vm.findClass "[B" = some kb ∧ RoadKit.Arv Z h' h.size kb .byte zn (cs.map fun c => .int (lo8 c)) (.int 0)) ∧
  ∀ (O n d : String) (w : Value), RoadKit.Fld Z h x O n d w → RoadKit.slotOf Z O n d ≠ RoadKit.slotOf Z ST "value" "[B" → RoadKit.slotOf Z O n d ≠ RoadKit.slotOf Z ST "coder" "B" → RoadKit.Fld Z h' x O n d w
/-- **new String(chars) AT A CALL, THE ARRAYS AS LISTS**: the char[] at b holds cs, not empty, no char above 255 -/
theorem backArv {p : Program} {l : Launch} {e : Env} {R : Room} {s : State} {args : Array Value} {below : List Frame} {len W : Nat} {Z : State} {a0 : Array Value} {h : Heap} (hZ : Z.Warmed39 s.vm) (hw : ∀ d ∈ words, d.before a0 Z = true) {kI : Nat} (wi : (Jvm.Cond.instantiable ST kI).before a0 Z = true)
    {x b : Addr} {k : ClassId} {zn z : Int32} {cs : List Int32} {dv v0 c0 : Value} (E : RoadKit.Exa Z h x ST) (V : RoadKit.Fld Z h x ST "value" "[B" v0) (C : RoadKit.Fld Z h x ST "coder" "B" c0) (K : RoadKit.Arv Z h b k .char zn (cs.map Value.int) dv) (S : RoadKit.Sta Z h ST "COMPACT_STRINGS" "Z" (.int z)) (hz : ¬ z = 0)
    (hlen : zn.toNatClampNeg = cs.length) (h0 : 0 < cs.length) (hbig : cs.length ≤ 536870912) (hall : ∀ c ∈ cs, ¬ 255 < c) (hfr : 4 ≤ R.frames) (hlo : W + 65 ≤ R.locals) :
    Back l R p e below s args New1.yN len W (fun P a => a = #[.ref x, .ref b] ∧ P.U.heap = h ∧ P.cells + 1 ≤ R.cells ∧ P.slots + cs.length ≤ R.slots)
      (fun P _ v B => ∃ L, QA Z x zn cs h v B.U.heap L ∧ B.locs = P.locs ++ L ∧ B.cells = P.cells + 1 ∧ B.slots = P.slots + cs.length) := by
  obtain ⟨A, K1, K2, K3, K4, K5, K6⟩ := K
  have e : A.slots.size = cs.length := K3.trans hlen
  have hat : ∀ (i : Nat) (hi : i < cs.length), A.slots[i]? = some (.int cs[i]) := fun i hi => by rw [K5 i (by omega)]; simp [List.getD_eq_getElem?_getD, hi]
  have hcv : ∀ (i : Nat) (hi : i < cs.length), cv A i = cs[i] := fun i hi => by unfold cv; rw [hat i hi]
  have hty : Typed .char A := fun i v hv => by
    have hi : i < A.slots.size := (Array.getElem?_eq_some_iff.mp hv).1
    have q := K5 i hi
    rw [hv] at q
    rw [Option.some.inj q]
    exact K6 i hi
  refine Back.mono (back hZ hw wi E V C K1 hty S hz (by omega) (by omega) (fun i hi => by rw [hcv i (by omega)]; exact hall _ (List.getElem_mem _)) hfr hlo) (fun P a hp => ⟨hp.1, hp.2.1, hp.2.2.1, by rw [e]; exact hp.2.2.2⟩) (fun P a v B hp hq => ?_)
  obtain ⟨L, ⟨q1, q2, q3, q4, q5, q6, q7, ⟨V', v1, v2, v3, v4, v5⟩, q9⟩, hl, hc, hs⟩ := hq
  refine ⟨L, ⟨q1, q2, q3, q4, q5, q6, q7, ⟨V'.cls, v3, V', v1, rfl, by rw [v4, e, hlen], K4, fun i hi => ?_, fun i hi => ?_⟩, q9⟩, hl, hc, by rw [hs, e]⟩
  · have hi' : i < cs.length := by omega
    rw [v5 i (by omega), hcv i hi']; simp [List.getD_eq_getElem?_getD, hi']
  · have hi' : i < cs.length := by omega
    simp only [List.getD_eq_getElem?_getD, List.getElem?_map, List.getElem?_eq_getElem hi', Option.map_some, Option.getD_some]
    exact fits_lo8 _
end StrChars.Road
namespace StrChars.Road
open Jvm Sem ClassFile Op Lib Jvm.Stand Jvm.Free Jvm.Free.XT
/-- WHAT COMES BACK, in the writer's own shape -/
def QV (Z : State) (x : Addr) (N : Int32) (bs : List Int32) (h : Heap) (n0 : Nat) (v : Option Value) (h' : Heap) (L : List Loc) : Prop := v = none ∧ RoadKit.Fr n0 L ∧ RoadKit.Keep h h' [x] ∧ RoadKit.Exa Z h' x ST ∧ RoadKit.Fld Z h' x ST "coder" "B" (.int 0) ∧
  ∃ (t : Addr) (kb : ClassId), n0 ≤ t ∧ h.size ≤ t ∧ ¬ t = x ∧ RoadKit.Fld Z h' x ST "value" "[B" (.ref t) ∧ RoadKit.Arv Z h' t kb .byte N (bs.map Value.int) (.int 0)
/-- **new String(chars) AT A CALL, FOR THE WRITER**: a char[] of n known ints, each 0 to 255 -/
theorem backV {p : Program} {l : Launch} {e : Env} {R : Room} {s : State} {args : Array Value} {below : List Frame} {len W : Nat} {Z : State} {a0 : Array Value} {h : Heap} (hZ : Z.Warmed39 s.vm) (hw : ∀ d ∈ words, d.before a0 Z = true) {kI : Nat} (wi : (Jvm.Cond.instantiable ST kI).before a0 Z = true)
    {x b : Addr} {kC : ClassId} {cs bs : List Int32} {d v0 c0 : Value} {z N : Int32} {n n0 : Nat} (hx0 : n0 ≤ x) (hh0 : n0 ≤ h.size) (E : RoadKit.Exa Z h x ST) (V : RoadKit.Fld Z h x ST "value" "[B" v0) (C : RoadKit.Fld Z h x ST "coder" "B" c0) (K : RoadKit.Arv Z h b kC .char N (cs.map Value.int) d) (S : RoadKit.Sta Z h ST "COMPACT_STRINGS" "Z" (.int z)) (hz : ¬ z = 0)
    (hn : cs.length = n) (hN : N = Int32.ofNat n) (l0 : 0 < n) (l2 : n ≤ 4000) (hp : ∀ c ∈ cs, ¬ c < 0 ∧ ¬ (255 : Int32) < c) (hb : bs = cs.map (fun c => c.toInt8.toInt32)) (hfr : 4 ≤ R.frames) (hlo : W + 65 ≤ R.locals) :
    Back l R p e below s args (⟨"java/lang/String", "<init>", "([C)V"⟩ : MethodName) len W (fun P a => a = #[.ref x, .ref b] ∧ P.U.heap = h ∧ P.cells + 1 ≤ R.cells ∧ P.slots + n ≤ R.slots)
      (fun P _ v B => ∃ L, QV Z x N bs h n0 v B.U.heap L ∧ B.locs = P.locs ++ L ∧ B.cells = P.cells + 1 ∧ B.slots = P.slots + n) := by
  subst hn hN hb
  refine Back.mono (backArv hZ hw wi E V C K S hz (n32 (by omega)) l0 (by omega) (fun c hc => (hp c hc).2) hfr hlo) (fun P a hp => hp) (fun P a v B hp hq => ?_)
  obtain ⟨L, ⟨q1, q2, q3, q4, q5, q6, q7, ⟨kb, v1, v2⟩, q9⟩, hl, hc, hs⟩ := hq
  exact ⟨L, ⟨q1, fun y hy => by rw [q2 y hy]; exact hx0, q3, q5, q7, h.size, kb, hh0, Nat.le_refl _, Nat.ne_of_gt E.lt, q6, by rw [List.map_map]; exact v2⟩, hl, hc, hs⟩
end StrChars.Road
end Jvm.Pilot.@@N@@
namespace Jvm.Pilot.@@N@@
open Jvm Jvm.ClassFile Sem Op Lib Jvm.Free Jvm.Stand Jvm.LawKit Jvm.RoadKit Bundle Jvm.Pilot.@@N@@.Jvm.D
section Own
variable {p : Program} {l : Launch} {e : Env} {R rm : Room} {s : State} {m : MethodId} {args : Array Value} {below : List Frame} {meth : Method} {c : Code} {T : State} {locs : List Loc} {cells slots : Nat} {Z : State} {a0 : Array Value} {h : Heap}
/-- the run comes to the end of the invocation, and what is asked holds there -/
def own_Goes (p : Program) (e : Env) (below : List Frame) (G : Outcome → State → Prop) (S : State) : Prop := ∃ s₂ o, Steps p.tables e below S s₂ ∧ s₂.status = .running ∧ Ended s₂ below o ∧ G o s₂
theorem own_go {G : Outcome → State → Prop} {S S' : State} (h : ∀ t, Steps p.tables e below S' t → Steps p.tables e below S t) (k : own_Goes p e below G S') : own_Goes p e below G S := by
  obtain ⟨s₂, o, h1, h2⟩ := k
  exact ⟨s₂, o, h _ h1, h2⟩
theorem own_tr {G : Outcome → State → Prop} {S S' : State} (h : Steps p.tables e below S S') (k : own_Goes p e below G S') : own_Goes p e below G S := own_go (fun _ q => h.trans q) k
abbrev own_End (s : State) (rm : Room) (Q : Option Value → Heap → List Loc → Prop) : Outcome → State → Prop := fun o U' => ∃ v L, o = .returned v ∧ Q v U'.heap L ∧ FrameEnd s o U' L rm.cells rm.slots
/-- a body's contract: with these arguments, over this heap, it returns and leaves what Q says -/
def own_Met (l : Launch) (Z : State) (y : MethodName) (bytes : ByteArray) (maxL : Nat) (ret : Option FieldType) (ws : List Jvm.Cond) (rm : Room) (as : Array Value) (h0 : Heap) (Q : Option Value → Heap → List Loc → Prop) : Prop :=
  MetFree l y (head1 (Jvm.Cond.code y bytes maxL ret :: ws) rm) (fun a U => a = as ∧ Z.Warmed39 U.vm ∧ U.heap = h0) (fun _ _ _ _ _ => True) (fun _ U o U' => ∃ v L, o = .returned v ∧ Q v U'.heap L ∧ FrameEnd U o U' L rm.cells rm.slots)
theorem own_met {y : MethodName} {bytes : ByteArray} {maxL : Nat} {ret : Option FieldType} {ws : List Jvm.Cond} {as : Array Value} {h0 : Heap} {Q : Option Value → Heap → List Loc → Prop} (hp : plainFor y = true)
    (body : ∀ (p : Program) (e : Env) (s : State) (m : MethodId) (below : List Frame) (meth : Method) (c : Code) (s₁ : State), p.tables.exec = Jvm.exec → c.code = bytes → c.maxLocals = maxL → s.vm.findClass y.cls = some m.cls → meth.name = y.name → meth.sig.returnType = ret → meth.locks = false → Z.Warmed39 s.vm → s₁.heap = h0 →
      Stand p l e rm s m as below meth c s₁ [] 0 0 → own_Goes p e below (own_End s rm Q) (s₁.setTop (entryFrame m as maxL))) : own_Met l Z y bytes maxL ret ws rm as h0 Q := by
  refine MetFree.of_bodySF hp hisR ?_
  intro p e s m args below meth c s₁ Bd hml hP hK
  obtain ⟨rfl, hZ, hh⟩ := hP
  exact body p e s m below meth c s₁ Bd.exec Bd.bytes hml (findClass_of_methodNamed Bd.named) (name_of_methodNamed Bd.named Bd.method).1 Bd.returns Bd.notSynchronized hZ (by rw [← hh, Bd.state]; rfl) (Stand.of_body Bd)
/-- the returns -/
theorem own_retV {Q : Option Value → Heap → List Loc → Prop} (X : Stand p l e rm s m args below meth c T locs cells slots) (hx : p.tables.exec = Jvm.exec) (hlk : meth.locks = false) {pc : Nat} {Ls : Array Slot} {w : Value} {t : FieldType} {i : Instr} {rest : List Value} (hret : meth.sig.returnType = some t) (hn : narrow t w = w)
    (hi : (i = .ireturn ∧ (t = .int ∨ t = .boolean ∨ t = .byte ∨ t = .char ∨ t = .short) ∧ ∃ z, w = .int z) ∨ (i = .lreturn ∧ t = .long ∧ ∃ z, w = .long z) ∨ (i = .dreturn ∧ t = .double ∧ ∃ z, w = .double z) ∨ (i = .freturn ∧ t = .float ∧ ∃ z, w = .float z) ∨ (i = .areturn ∧ t.isReference = true ∧ w.isRef = true))
    (hd : decode c.code pc = .ok (i, 1)) (hc : cells ≤ rm.cells) (hs : slots ≤ rm.slots) (hq : Q (some w) T.heap locs) : own_Goes p e below (own_End s rm Q) (T.setTop (mkF m pc Ls (w :: rest))) := by
  obtain ⟨fs, hr, hrun, hended, hW, hsame⟩ := X.leave (v := some w) (fun h => by rw [hret] at h; cases h) hlk
  exact ⟨_, _, retOut X hx hret hn hi hd hr, hrun, hended, _, _, rfl, hq, ⟨_, rfl⟩, hW, hsame.mono hc hs⟩
theorem own_retI {Q : Option Value → Heap → List Loc → Prop} (X : Stand p l e rm s m args below meth c T locs cells slots) (hx : p.tables.exec = Jvm.exec) (hlk : meth.locks = false) {pc : Nat} {Ls : Array Slot} {z : Int32} {rest : List Value} (hret : meth.sig.returnType = some .int)
    (hd : decode c.code pc = .ok (.ireturn, 1)) (hc : cells ≤ rm.cells) (hs : slots ≤ rm.slots) (hq : Q (some (.int z)) T.heap locs) : own_Goes p e below (own_End s rm Q) (T.setTop (mkF m pc Ls (.int z :: rest))) :=
  own_retV X hx hlk hret rfl (Or.inl ⟨rfl, Or.inl rfl, z, rfl⟩) hd hc hs hq
theorem own_retJ {Q : Option Value → Heap → List Loc → Prop} (X : Stand p l e rm s m args below meth c T locs cells slots) (hx : p.tables.exec = Jvm.exec) (hlk : meth.locks = false) {pc : Nat} {Ls : Array Slot} {z : Int64} {rest : List Value} (hret : meth.sig.returnType = some .long)
    (hd : decode c.code pc = .ok (.lreturn, 1)) (hc : cells ≤ rm.cells) (hs : slots ≤ rm.slots) (hq : Q (some (.long z)) T.heap locs) : own_Goes p e below (own_End s rm Q) (T.setTop (mkF m pc Ls (.long z :: rest))) :=
  own_retV X hx hlk hret rfl (Or.inr (Or.inl ⟨rfl, rfl, z, rfl⟩)) hd hc hs hq
theorem own_retD {Q : Option Value → Heap → List Loc → Prop} (X : Stand p l e rm s m args below meth c T locs cells slots) (hx : p.tables.exec = Jvm.exec) (hlk : meth.locks = false) {pc : Nat} {Ls : Array Slot} {z : UInt64} {rest : List Value} (hret : meth.sig.returnType = some .double)
    (hd : decode c.code pc = .ok (.dreturn, 1)) (hc : cells ≤ rm.cells) (hs : slots ≤ rm.slots) (hq : Q (some (.double z)) T.heap locs) : own_Goes p e below (own_End s rm Q) (T.setTop (mkF m pc Ls (.double z :: rest))) :=
  own_retV X hx hlk hret rfl (Or.inr (Or.inr (Or.inl ⟨rfl, rfl, z, rfl⟩))) hd hc hs hq
theorem own_retR {Q : Option Value → Heap → List Loc → Prop} (X : Stand p l e rm s m args below meth c T locs cells slots) (hx : p.tables.exec = Jvm.exec) (hlk : meth.locks = false) {pc : Nat} {Ls : Array Slot} {w : Value} {t : FieldType} {rest : List Value} (hret : meth.sig.returnType = some t) (ht : t.isReference = true) (hw : w.isRef = true)
    (hd : decode c.code pc = .ok (.areturn, 1)) (hc : cells ≤ rm.cells) (hs : slots ≤ rm.slots) (hq : Q (some w) T.heap locs) : own_Goes p e below (own_End s rm Q) (T.setTop (mkF m pc Ls (w :: rest))) :=
  own_retV X hx hlk hret (by cases t <;> first | rfl | cases ht) (Or.inr (Or.inr (Or.inr (Or.inr ⟨rfl, ht, hw⟩)))) hd hc hs hq
theorem own_retN {Q : Option Value → Heap → List Loc → Prop} (X : Stand p l e rm s m args below meth c T locs cells slots) (hx : p.tables.exec = Jvm.exec) (hlk : meth.locks = false) {pc : Nat} {Ls : Array Slot} {z z' : Int32} {t : FieldType} {rest : List Value} (hret : meth.sig.returnType = some t) (ht : t = .boolean ∨ t = .byte ∨ t = .char ∨ t = .short) (hz : nar t z = z')
    (hd : decode c.code pc = .ok (.ireturn, 1)) (hc : cells ≤ rm.cells) (hs : slots ≤ rm.slots) (hq : Q (some (.int z')) T.heap locs) : own_Goes p e below (own_End s rm Q) (T.setTop (mkF m pc Ls (.int z :: rest))) := by
  subst hz
  obtain ⟨fs, hr, hrun, hended, hW, hsame⟩ := X.leave (v := some (.int (nar t z))) (fun h => by rw [hret] at h; cases h) hlk
  exact ⟨_, _, retN X hx hret ht hd hr, hrun, hended, _, _, rfl, hq, ⟨_, rfl⟩, hW, hsame.mono hc hs⟩
theorem own_ret0 {Q : Option Value → Heap → List Loc → Prop} (X : Stand p l e rm s m args below meth c T locs cells slots) (hx : p.tables.exec = Jvm.exec) (hlk : meth.locks = false) {pc : Nat} {Ls : Array Slot} (hret : meth.sig.returnType = none)
    (hd : decode c.code pc = .ok (.return_, 1)) (hc : cells ≤ rm.cells) (hs : slots ≤ rm.slots) (hq : Q none T.heap locs) : own_Goes p e below (own_End s rm Q) (T.setTop (mkF m pc Ls [])) := by
  obtain ⟨fs, hr, hrun, hended, hW, hsame⟩ := X.leave (v := none) (fun _ => rfl) hlk
  exact ⟨_, _, X.returnOut hx hret hd hr, hrun, hended, _, _, rfl, hq, ⟨_, rfl⟩, hW, hsame.mono hc hs⟩
/-- a static call by the callee's contract -/
theorem own_callS (X : Stand p l e R s m args below meth c T locs cells slots) (hx : p.tables.exec = Jvm.exec) (hZ : Z.Warmed39 s.vm) {own : String} {index : Nat} {y : MethodName} {bytes : ByteArray} {maxL : Nat} {ret : Option FieldType} (hown : s.vm.findClass own = some m.cls)
    (w1 : (Jvm.Cond.methodLink own index y).before a0 Z = true) (w2 : (Jvm.Cond.static y).before a0 Z = true) (w3 : (Jvm.Cond.initialized y.cls).before a0 Z = true) (w4 : (Jvm.Cond.code y bytes maxL ret).before a0 Z = true) (hy : y.cls ≠ "java/lang/invoke/MethodHandle" ∧ y.cls ≠ "java/lang/invoke/VarHandle")
    {as : List Value} {Q : Option Value → Heap → List Loc → Prop} (hM : own_Met l Z y bytes maxL ret [] rm as.toArray h Q) (eT : T.heap = h) {ps : List FieldType} {rt : Option FieldType} (hpd : parseMethodDescriptor y.desc = some ⟨ps, rt⟩) (hlen : as.length = ps.length)
    {pc : Nat} {Ls : Array Slot} {rest : List Value} {W : Nat} (hsize : Ls.size = c.maxLocals) (hW : (rest.map fun v => v.category).sum ≤ W) (hf : rm.frames + 1 ≤ R.frames) (hl : W + (maxL + 11) + rm.locals ≤ R.locals) (hd : decode c.code pc = .ok (.invokestatic index, 3)) (hc : cells + rm.cells ≤ R.cells) (hs : slots + rm.slots ≤ R.slots) :
    ∃ (v : Option Value) (T' : State) (L' : List Loc), Stand p l e R s m args below meth c T' (locs ++ L') (cells + rm.cells) (slots + rm.slots) ∧ Q v T'.heap L' ∧ ∀ target, Steps p.tables e below (T'.setTop (mkF m (pc + 3) Ls (v.toList ++ rest))) target → Steps p.tables e below (T.setTop (mkF m pc Ls (as.reverse ++ rest))) target := by
  obtain ⟨v, _, ⟨T', L', k', n'⟩, -, X', ⟨Lc, hQ, hl', hk', hn'⟩, st⟩ := Jvm.LawKit.callS X hx (y := y) hown (mvT hZ w1) (mvT hZ w2) (mvT hZ w3) (mvT hZ w4) hy (backOf (W := W) hM hZ w4 w3 hf hl) (g := mkF m pc Ls (as.reverse ++ rest)) rfl hsize (argsL := as) (rest := rest) (lenOf hpd hlen) rfl (by show 2 * 0 + _ ≤ _; omega) hd (fun _ _ => ⟨rfl, eT, hc, hs⟩)
  dsimp only [Pt.U, Pt.locs, Pt.cells, Pt.slots] at X' hl' hk' hn' st hQ
  subst hl' hk' hn'
  exact ⟨v, T', Lc, X', hQ, st⟩
/-- an instance method by the contract of the body that the receiver's class selects -/
theorem own_callV (X : Stand p l e R s m args below meth c T locs cells slots) (hx : p.tables.exec = Jvm.exec) (hZ : Z.Warmed39 s.vm) {own C : String} {index : Nat} {y : MethodName} {bytes : ByteArray} {maxL : Nat} {ret : Option FieldType} (hown : s.vm.findClass own = some m.cls)
    (w1 : (Jvm.Cond.methodLink own index y).before a0 Z = true) (w2 : (Jvm.Cond.declares y).before a0 Z = true) (w3 : (Jvm.Cond.selects C y y).before a0 Z = true) (w4 : (Jvm.Cond.instanceMethod y).before a0 Z = true) (w5 : (Jvm.Cond.initialized y.cls).before a0 Z = true) (w6 : (Jvm.Cond.code y bytes maxL ret).before a0 Z = true) (hy : y.cls ≠ "java/lang/invoke/MethodHandle" ∧ y.cls ≠ "java/lang/invoke/VarHandle")
    {b : Addr} {as : List Value} {Q : Option Value → Heap → List Loc → Prop} (hM : own_Met l Z y bytes maxL ret [] rm (Value.ref b :: as).toArray h Q) (eT : T.heap = h) (E : Exa Z h b C) {ps : List FieldType} {rt : Option FieldType} (hpd : parseMethodDescriptor y.desc = some ⟨ps, rt⟩) (hlen : as.length = ps.length)
    {pc : Nat} {Ls : Array Slot} {rest : List Value} {W : Nat} (hsize : Ls.size = c.maxLocals) (hW : (rest.map fun v => v.category).sum ≤ W) (hf : rm.frames + 1 ≤ R.frames) (hl : W + (maxL + 11) + rm.locals ≤ R.locals) (hd : decode c.code pc = .ok (.invokevirtual index, 3)) (hc : cells + rm.cells ≤ R.cells) (hs : slots + rm.slots ≤ R.slots) :
    ∃ (v : Option Value) (T' : State) (L' : List Loc), Stand p l e R s m args below meth c T' (locs ++ L') (cells + rm.cells) (slots + rm.slots) ∧ Q v T'.heap L' ∧ ∀ target, Steps p.tables e below (T'.setTop (mkF m (pc + 3) Ls (v.toList ++ rest))) target → Steps p.tables e below (T.setTop (mkF m pc Ls (as.reverse ++ Value.ref b :: rest))) target := by
  obtain ⟨cq, kq, qa, qb, qc⟩ := isOf hZ eT E
  obtain ⟨v, _, ⟨T', L', k', n'⟩, -, X', ⟨Lc, hQ, hl', hk', hn'⟩, st⟩ := X.virtualBack hx (y := y) (z := y) hown (mvT hZ w1) (mvT hZ w2) (notFace_of_selects (args := #[]) (mvT hZ w3)) (mvT hZ w3) (mvT hZ w4) hy (backOf (W := W) hM hZ w6 w5 hf hl) qa qc (g := mkF m pc Ls (as.reverse ++ Value.ref b :: rest)) rfl hsize (Steps.refl _) (argsL := as) (rest := rest) (lenOf hpd hlen) rfl (by show 2 * 0 + _ ≤ _; omega) hd (fun _ _ => ⟨rfl, eT, hc, hs⟩)
  dsimp only [Pt.U, Pt.locs, Pt.cells, Pt.slots] at X' hl' hk' hn' st hQ
  subst hl' hk' hn'
  exact ⟨v, T', Lc, X', hQ, fun _ q => st.trans q⟩
/-- a constructor by its contract -/
theorem own_callI (X : Stand p l e R s m args below meth c T locs cells slots) (hx : p.tables.exec = Jvm.exec) (hZ : Z.Warmed39 s.vm) {own : String} {index : Nat} {y : MethodName} {bytes : ByteArray} {maxL : Nat} (hy1 : y.name = "<init>") (hown : s.vm.findClass own = some m.cls)
    (w1 : (Jvm.Cond.methodLink own index y).before a0 Z = true) (w4 : (Jvm.Cond.instanceMethod y).before a0 Z = true) (w5 : (Jvm.Cond.initialized y.cls).before a0 Z = true) (w6 : (Jvm.Cond.code y bytes maxL none).before a0 Z = true) (hy : y.cls ≠ "java/lang/invoke/MethodHandle" ∧ y.cls ≠ "java/lang/invoke/VarHandle")
    {b : Addr} {as : List Value} {Q : Option Value → Heap → List Loc → Prop} (hM : own_Met l Z y bytes maxL none [] rm (Value.ref b :: as).toArray h Q) (eT : T.heap = h) {ps : List FieldType} {rt : Option FieldType} (hpd : parseMethodDescriptor y.desc = some ⟨ps, rt⟩) (hlen : as.length = ps.length)
    {pc : Nat} {Ls : Array Slot} {rest : List Value} {W : Nat} (hsize : Ls.size = c.maxLocals) (hW : (rest.map fun v => v.category).sum ≤ W) (hf : rm.frames + 1 ≤ R.frames) (hl : W + (maxL + 11) + rm.locals ≤ R.locals) (hd : decode c.code pc = .ok (.invokespecial index, 3)) (hc : cells + rm.cells ≤ R.cells) (hs : slots + rm.slots ≤ R.slots) :
    ∃ (v : Option Value) (T' : State) (L' : List Loc), Stand p l e R s m args below meth c T' (locs ++ L') (cells + rm.cells) (slots + rm.slots) ∧ Q v T'.heap L' ∧ ∀ target, Steps p.tables e below (T'.setTop (mkF m (pc + 3) Ls (v.toList ++ rest))) target → Steps p.tables e below (T.setTop (mkF m pc Ls (as.reverse ++ Value.ref b :: rest))) target := by
  obtain ⟨v, _, ⟨T', L', k', n'⟩, -, X', ⟨Lc, hQ, hl', hk', hn'⟩, st⟩ := X.specialBack hx (y := y) hy1 hown (mvT hZ w1) (mvT hZ w4) (mvT hZ w6) hy (backOf (W := W) hM hZ w6 w5 hf hl) (g := mkF m pc Ls (as.reverse ++ Value.ref b :: rest)) rfl hsize (Steps.refl _) (a := b) (argsL := as) (rest := rest) (lenOf hpd hlen) rfl (by show 2 * 0 + _ ≤ _; omega) hd (fun _ _ => ⟨rfl, eT, hc, hs⟩)
  dsimp only [Pt.U, Pt.locs, Pt.cells, Pt.slots] at X' hl' hk' hn' st hQ
  subst hl' hk' hn'
  exact ⟨v, T', Lc, X', hQ, fun _ q => st.trans q⟩
end Own
section OwnPrivate
variable {p : Program} {l : Launch} {e : Env} {R rm : Room} {s : State} {m : MethodId} {args : Array Value} {below : List Frame} {meth : Method} {c : Code} {T : State} {locs : List Loc} {cells slots : Nat} {Z : State} {a0 : Array Value} {h : Heap}
/-- a private method by its contract -/
theorem own_callP (X : Stand p l e R s m args below meth c T locs cells slots) (hx : p.tables.exec = Jvm.exec) (hZ : Z.Warmed39 s.vm) {own : String} {index kk : Nat} {y : MethodName} {bytes : ByteArray} {maxL : Nat} {ret : Option FieldType} (hown : s.vm.findClass own = some m.cls)
    (w1 : (Jvm.Cond.methodLink own index y).before a0 Z = true) (wp : (Jvm.Cond.privateMethod y).before a0 Z = true) (wi : (Jvm.Cond.instantiable y.cls kk).before a0 Z = true) (w4 : (Jvm.Cond.instanceMethod y).before a0 Z = true) (w5 : (Jvm.Cond.initialized y.cls).before a0 Z = true) (w6 : (Jvm.Cond.code y bytes maxL ret).before a0 Z = true) (hy : y.cls ≠ "java/lang/invoke/MethodHandle" ∧ y.cls ≠ "java/lang/invoke/VarHandle")
    {b : Addr} {as : List Value} {Q : Option Value → Heap → List Loc → Prop} (hM : own_Met l Z y bytes maxL ret [] rm (Value.ref b :: as).toArray h Q) (eT : T.heap = h) (E : Exa Z h b y.cls) {ps : List FieldType} {rt : Option FieldType} (hpd : parseMethodDescriptor y.desc = some ⟨ps, rt⟩) (hlen : as.length = ps.length)
    {pc : Nat} {Ls : Array Slot} {rest : List Value} {W : Nat} (hsize : Ls.size = c.maxLocals) (hW : (rest.map fun v => v.category).sum ≤ W) (hf : rm.frames + 1 ≤ R.frames) (hl : W + (maxL + 11) + rm.locals ≤ R.locals) (hd : decode c.code pc = .ok (.invokevirtual index, 3)) (hc : cells + rm.cells ≤ R.cells) (hs : slots + rm.slots ≤ R.slots) :
    ∃ (v : Option Value) (T' : State) (L' : List Loc), Stand p l e R s m args below meth c T' (locs ++ L') (cells + rm.cells) (slots + rm.slots) ∧ Q v T'.heap L' ∧ ∀ target, Steps p.tables e below (T'.setTop (mkF m (pc + 3) Ls (v.toList ++ rest))) target → Steps p.tables e below (T.setTop (mkF m pc Ls (as.reverse ++ Value.ref b :: rest))) target := by
  obtain ⟨cell, hc1, hc2⟩ := E.cell
  have hpv : s.PrivateAt y := Cond.privateMethod_at (mvP hZ wp (args := #[]))
  obtain ⟨cI, kI, i1, i2, -, i4, -⟩ := Cond.instantiable_spec (mvT (args := args) hZ wi)
  have hni : kI.isInterface = false := by
    cases hq : kI.isInterface
    · rfl
    · rw [hq] at i4; simp at i4
  have hsel : (Jvm.Cond.selects y.cls y y).before args s = true := selects_self_of_private i1 i2 hni hpv (mvT hZ w4) hy
  obtain ⟨v, _, ⟨T', L', k', n'⟩, -, X', ⟨Lc, hQ, hl', hk', hn'⟩, st⟩ := X.privateBack hx (y := y) hown (mvT hZ w1) (mvT hZ w4) hsel hpv (mvT hZ w6) hy (backOf (W := W) hM hZ w6 w5 hf hl) (g := mkF m pc Ls (as.reverse ++ Value.ref b :: rest)) rfl hsize (Steps.refl _) (a := b) (by rw [eT]; exact hc1) hc2 (argsL := as) (rest := rest) (lenOf hpd hlen) rfl (by show 2 * 0 + _ ≤ _; omega) hd (fun _ _ => ⟨rfl, eT, hc, hs⟩)
  dsimp only [Pt.U, Pt.locs, Pt.cells, Pt.slots] at X' hl' hk' hn' st hQ
  subst hl' hk' hn'
  exact ⟨v, T', Lc, X', hQ, fun _ q => st.trans q⟩
end OwnPrivate

section OwnStr
variable {p : Program} {l : Launch} {e : Env} {R rm : Room} {s : State} {m : MethodId} {args : Array Value} {below : List Frame} {meth : Method} {c : Code} {T : State} {locs : List Loc} {cells slots : Nat} {Z : State} {a0 : Array Value} {h : Heap}
theorem own_pdStr : parseMethodDescriptor "([C)V" = some ⟨[.array .char], none⟩ := by decide +kernel
/-- new String(char[]) -/
theorem own_newStr (X : Stand p l e R s m args below meth c T locs cells slots) (hx : p.tables.exec = Jvm.exec) (hZ : Z.Warmed39 s.vm) {own : String} {index : Nat} {bytes : ByteArray} (hown : s.vm.findClass own = some m.cls)
    (w1 : (Jvm.Cond.methodLink own index ⟨"java/lang/String", "<init>", "([C)V"⟩).before a0 Z = true) (w4 : (Jvm.Cond.instanceMethod ⟨"java/lang/String", "<init>", "([C)V"⟩).before a0 Z = true) (w6 : (Jvm.Cond.code ⟨"java/lang/String", "<init>", "([C)V"⟩ bytes 2 none).before a0 Z = true) (wi : (Jvm.Cond.instantiable "java/lang/String" 4).before a0 Z = true)
    (hws : ∀ d ∈ StrChars.Road.words, d.before a0 Z = true) {x b : Addr} {kC : ClassId} {cs : List Int32} {d v0 c0 : Value} {z N : Int32} {n n0 : Nat} (hx0 : n0 ≤ x) (hh0 : n0 ≤ h.size) (E : Exa Z h x "java/lang/String") (V : Fld Z h x "java/lang/String" "value" "[B" v0) (C : Fld Z h x "java/lang/String" "coder" "B" c0)
    (K : Arv Z h b kC .char N (cs.map Value.int) d) (S : Sta Z h "java/lang/String" "COMPACT_STRINGS" "Z" (.int z)) (hz : ¬ z = 0) (hn : cs.length = n) (hN : N = Int32.ofNat n) (l0 : 0 < n) (l2 : n ≤ 4000) (hp : ∀ c ∈ cs, ¬ c < 0 ∧ ¬ (255 : Int32) < c) (eT : T.heap = h)
    {pc : Nat} {Ls : Array Slot} {rest : List Value} {W : Nat} (hsize : Ls.size = c.maxLocals) (hW : (rest.map fun v => v.category).sum ≤ W) (hf : 4 ≤ R.frames) (hl : W + 65 ≤ R.locals) (hd : decode c.code pc = .ok (.invokespecial index, 3)) (hc : cells + 1 ≤ R.cells) (hs : slots + n ≤ R.slots) :
    ∃ (T' : State) (L' : List Loc), Stand p l e R s m args below meth c T' (locs ++ L') (cells + 1) (slots + n) ∧ StrChars.Road.QV Z x N (cs.map fun c => c.toInt8.toInt32) h n0 none T'.heap L' ∧ ∀ target, Steps p.tables e below (T'.setTop (mkF m (pc + 3) Ls rest)) target → Steps p.tables e below (T.setTop (mkF m pc Ls (Value.ref b :: Value.ref x :: rest))) target := by
  obtain ⟨v, _, ⟨T', L', k', n'⟩, -, X', ⟨Lc, hQ, hl', hk', hn'⟩, st⟩ := X.specialBack hx (y := ⟨"java/lang/String", "<init>", "([C)V"⟩) rfl hown (mvT hZ w1) (mvT hZ w4) (mvT hZ w6) (by decide) (StrChars.Road.backV (W := W) hZ hws wi (cs := cs) (bs := cs.map fun c => c.toInt8.toInt32) (n := n) hx0 hh0 E V C K S hz hn hN l0 l2 hp rfl hf hl) (g := mkF m pc Ls (Value.ref b :: Value.ref x :: rest)) rfl hsize (Steps.refl _) (a := x) (argsL := [Value.ref b]) (rest := rest) (lenOf own_pdStr rfl) rfl (by show 2 * 0 + _ ≤ _; omega) hd (fun _ _ => ⟨rfl, eT, hc, hs⟩)
  dsimp only [Pt.U, Pt.locs, Pt.cells, Pt.slots] at X' hl' hk' hn' st hQ
  subst hl' hk' hn'
  have hv : v = none := hQ.1
  subst hv
  exact ⟨T', Lc, X', hQ, fun _ q => st.trans q⟩
end OwnStr

theorem own_ch (x : Int32) : ¬ nar .char ((x &&& (255 : Int32)).toUInt32.toUInt16.toUInt32.toInt32) < 0 ∧ ¬ (255 : Int32) < nar .char ((x &&& (255 : Int32)).toUInt32.toUInt16.toUInt32.toInt32) := by
  have t : ∀ k : Fin 256, ¬ nar .char ((Int32.ofNat k.val).toUInt32.toUInt16.toUInt32.toInt32) < 0 ∧ ¬ (255 : Int32) < nar .char ((Int32.ofNat k.val).toUInt32.toUInt16.toUInt32.toInt32) := by decide +kernel
  have h : (x &&& 255).toInt = x.toInt % 2 ^ 8 := Jvm.Kit.i32_mask x 255 (k := 8) (by decide) (by decide)
  have e : Int32.ofNat (x &&& 255).toInt.toNat = (x &&& 255) := by
    rw [← Int32.toInt_inj, Int32.toInt_ofNat_of_lt (by omega)]; omega
  have q := t ⟨(x &&& 255).toInt.toNat, by omega⟩
  simp only [e] at q
  exact q
theorem own_nz {args : Array Value} {s : State} {t : Term} {z : Int32} (v : t.eval args s none [] s = some (.int z)) (h : (Jvm.Cond.not (Jvm.Cond.eq t (Jvm.Term.int 0))).value args s none s [] = some true) : ¬ z = 0 := fun q => by
  have h1 := not_v h
  rw [eq_i v (Term.int_eval _) (by rw [q])] at h1
  cases h1

theorem own_d7_0 : decode prog_3_method_1_code 0 = .ok (.aload_n 0, 1) := by decide +kernel
theorem own_d7_1 : decode prog_3_method_1_code 1 = .ok (.invokespecial 1, 3) := by decide +kernel
theorem own_t36 : (Jvm.Cond.methodLink "com/example/kleio/kleio/ChainHead" (1 : Nat) ({ cls := "java/lang/Object", name := "<init>", desc := "()V" } : Jvm.MethodName)) ∈ tables_1 := List.mem_of_getElem? (i := 36) rfl
theorem own_t12 : (Jvm.Cond.instanceMethod ({ cls := "java/lang/Object", name := "<init>", desc := "()V" } : Jvm.MethodName)) ∈ tables_1 := List.mem_of_getElem? (i := 12) rfl
theorem own_t13 : (Jvm.Cond.code ({ cls := "java/lang/Object", name := "<init>", desc := "()V" } : Jvm.MethodName) object_method_1_code (1 : Nat) (Option.none : Option Jvm.ClassFile.FieldType)) ∈ tables_1 := List.mem_of_getElem? (i := 13) rfl
theorem own_d7_4 : decode prog_3_method_1_code 4 = .ok (.aload_n 0, 1) := by decide +kernel
theorem own_d7_5 : decode prog_3_method_1_code 5 = .ok (.lload_n 1, 1) := by decide +kernel
theorem own_d7_6 : decode prog_3_method_1_code 6 = .ok (.putfield 7, 3) := by decide +kernel
theorem own_t37 : (Jvm.Cond.fieldLink "com/example/kleio/kleio/ChainHead" (7 : Nat) "com/example/kleio/kleio/ChainHead" "seq" "J") ∈ tables_1 := List.mem_of_getElem? (i := 37) rfl
theorem own_t38 : (Jvm.Cond.laysFinal "com/example/kleio/kleio/ChainHead" "com/example/kleio/kleio/ChainHead" "seq" "J") ∈ tables_1 := List.mem_of_getElem? (i := 38) rfl
theorem own_t31 : (Jvm.Cond.instantiable "com/example/kleio/kleio/ChainHead" (2 : Nat)) ∈ tables_1 := List.mem_of_getElem? (i := 31) rfl
theorem own_d7_9 : decode prog_3_method_1_code 9 = .ok (.aload_n 0, 1) := by decide +kernel
theorem own_d7_10 : decode prog_3_method_1_code 10 = .ok (.aload_n 3, 1) := by decide +kernel
theorem own_d7_11 : decode prog_3_method_1_code 11 = .ok (.putfield 13, 3) := by decide +kernel
theorem own_t39 : (Jvm.Cond.fieldLink "com/example/kleio/kleio/ChainHead" (13 : Nat) "com/example/kleio/kleio/ChainHead" "hash" "Ljava/lang/String;") ∈ tables_1 := List.mem_of_getElem? (i := 39) rfl
theorem own_t40 : (Jvm.Cond.laysFinal "com/example/kleio/kleio/ChainHead" "com/example/kleio/kleio/ChainHead" "hash" "Ljava/lang/String;") ∈ tables_1 := List.mem_of_getElem? (i := 40) rfl
theorem own_pn0 : plainName "com/example/kleio/kleio/ChainHead" = true := by first | (simp [plainName, overriddenIn]; done) | decide +kernel
theorem own_d7_14 : decode prog_3_method_1_code 14 = .ok (.return_, 1) := by decide +kernel
def own_Q7 (Z : State) (r0 : Addr) (y1 : Int64) (r2 : Addr) (h0 : Heap) (n0 : Nat) (v : Option Value) (h : Heap) (L : List Loc) : Prop := v = none ∧ Fr n0 L ∧ Keep h0 h [r0] ∧ Exa Z h r0 "com/example/kleio/kleio/ChainHead" ∧ Fld Z h r0 "com/example/kleio/kleio/ChainHead" "seq" "J" (.long y1) ∧ Fld Z h r0 "com/example/kleio/kleio/ChainHead" "hash" "Ljava/lang/String;" (.ref r2)
abbrev own_R7 : Room := { frames := 1, cells := 0, slots := 0, locals := 12 }
theorem own_ef7 (m : MethodId) (z0 : Addr) (z1 : Int64) (z2 : Addr) : entryFrame m #[(.ref z0), (.long z1), (.ref z2)] 4 = mkF m 0 #[.val (.ref z0), .val (.long z1), .second, .val (.ref z2)] [] := by first | (simp [entryFrame, mkF, argsToLocals, Value.category]; done) | rfl
set_option maxRecDepth 65536 in
set_option maxHeartbeats 40000000 in
theorem rm7 (l : Launch) (Z : State) (a0 : Array Value) (hw : ∀ d ∈ tables_1, d.before a0 Z = true) (ws : List Jvm.Cond) (r0 : Addr) (y1 : Int64) (r2 : Addr) (h0 : Heap) (n0 : Nat) (Z0 : n0 ≤ h0.size) (g_r0 : n0 ≤ r0) (E_r0 : Exa Z h0 r0 "com/example/kleio/kleio/ChainHead") (F_s : Fld Z h0 r0 "com/example/kleio/kleio/ChainHead" "seq" "J" (.long (0 : Int64))) (F_h : Fld Z h0 r0 "com/example/kleio/kleio/ChainHead" "hash" "Ljava/lang/String;" .null) : own_Met l Z (⟨"com/example/kleio/kleio/ChainHead", "<init>", "(JLjava/lang/String;)V"⟩ : MethodName) prog_3_method_1_code 4 none ws own_R7 #[(.ref r0), (.long y1), (.ref r2)] h0 (own_Q7 Z r0 y1 r2 h0 n0) := by
  refine own_met (plainFor_of_name own_pn0) ?_
  intro p e s m below meth c s₁ hx hby hml hown hnm hret hlk hZ e0 X0
  have N0 := Fr.nil n0
  have hml : c.maxLocals = 4 := hml
  have hown : s.vm.findClass "com/example/kleio/kleio/ChainHead" = some m.cls := hown
  have hret : meth.sig.returnType = none := hret
  have hby : c.code = prog_3_method_1_code := hby
  have hnm : meth.name = "<init>" := hnm
  rw [own_ef7]
  show own_Goes p e below _ (s₁.setTop (mkF m 0 #[.val (.ref r0), .val (.long y1), .second, .val (.ref r2)] []))
  refine own_go (fun t k => XS.aloadN X0.here hx rfl (hb hby own_d7_0) rfl rfl k) ?_
  show own_Goes p e below _ (s₁.setTop (mkF m 1 #[.val (.ref r0), .val (.long y1), .second, .val (.ref r2)] [(.ref r0)]))
  obtain ⟨T1, X1, e1, st1⟩ := initO X0 hx hZ hown (hw _ own_t36) (hw _ own_t12) (hw _ own_t13) e0 (g := (mkF m 1 #[.val (.ref r0), .val (.long y1), .second, .val (.ref r2)] [(.ref r0)])) rfl (by rw [hml]; rfl) rfl (hb hby own_d7_1) (by decide) (W := 0) (by show 2 * 0 + _ ≤ _; exact Nat.le_of_eq rfl) (by decide)
  refine own_go st1 ?_
  show own_Goes p e below _ (T1.setTop (mkF m 4 #[.val (.ref r0), .val (.long y1), .second, .val (.ref r2)] []))
  refine own_go (fun t k => XS.aloadN X1.here hx rfl (hb hby own_d7_4) rfl rfl k) ?_
  show own_Goes p e below _ (T1.setTop (mkF m 5 #[.val (.ref r0), .val (.long y1), .second, .val (.ref r2)] [(.ref r0)]))
  refine own_go (fun t k => XS.lloadN X1.here hx rfl (hb hby own_d7_5) rfl k) ?_
  show own_Goes p e below _ (T1.setTop (mkF m 6 #[.val (.ref r0), .val (.long y1), .second, .val (.ref r2)] [(.long y1), (.ref r0)]))
  obtain ⟨T2, h2, X2, e2, W2, st2⟩ := putF X1 hx hZ hown (host := "") (Or.inl (hw _ own_t37)) Via.refl e1 F_s E_r0 (Or.inr ⟨(hw _ own_t38), rfl, hnm⟩) (hw _ own_t31) (ty := .long) (by decide) rfl rfl (g := (mkF m 6 #[.val (.ref r0), .val (.long y1), .second, .val (.ref r2)] [(.long y1), (.ref r0)])) rfl rfl (hb hby own_d7_6)
  have N2 := Fr.snoc X2 N0 g_r0
  have Fw2 := F_s.same W2
  refine own_go st2 ?_
  show own_Goes p e below _ (T2.setTop (mkF m 9 #[.val (.ref r0), .val (.long y1), .second, .val (.ref r2)] []))
  refine own_go (fun t k => XS.aloadN X2.here hx rfl (hb hby own_d7_9) rfl rfl k) ?_
  show own_Goes p e below _ (T2.setTop (mkF m 10 #[.val (.ref r0), .val (.long y1), .second, .val (.ref r2)] [(.ref r0)]))
  refine own_go (fun t k => XS.aloadN X2.here hx rfl (hb hby own_d7_10) rfl rfl k) ?_
  show own_Goes p e below _ (T2.setTop (mkF m 11 #[.val (.ref r0), .val (.long y1), .second, .val (.ref r2)] [(.ref r2), (.ref r0)]))
  have ff4 : Fld Z h2 r0 "com/example/kleio/kleio/ChainHead" "hash" "Ljava/lang/String;" .null := (F_h.other W2 (Or.inr (slot_ne (Or.inr (hw _ own_t40)) (Or.inr (hw _ own_t38)) (by decide) (t := (.object "java/lang/String")) (t' := .long) (by decide) (by decide))))
  obtain ⟨T3, h3, X3, e3, W3, st3⟩ := putF X2 hx hZ hown (host := "") (Or.inl (hw _ own_t39)) Via.refl e2 ff4 (E_r0.wr W2) (Or.inr ⟨(hw _ own_t40), rfl, hnm⟩) (hw _ own_t31) (ty := (.object "java/lang/String")) (by decide) rfl rfl (g := (mkF m 11 #[.val (.ref r0), .val (.long y1), .second, .val (.ref r2)] [(.ref r2), (.ref r0)])) rfl rfl (hb hby own_d7_11)
  have N3 := Fr.snoc X3 N2 g_r0
  have Fw3 := ff4.same W3
  refine own_go st3 ?_
  show own_Goes p e below _ (T3.setTop (mkF m 14 #[.val (.ref r0), .val (.long y1), .second, .val (.ref r2)] []))
  have ff5 : Fld Z h3 r0 "com/example/kleio/kleio/ChainHead" "seq" "J" (.long y1) := (Fw2.other W3 (Or.inr (slot_ne (Or.inr (hw _ own_t38)) (Or.inr (hw _ own_t40)) (by decide) (t := .long) (t' := (.object "java/lang/String")) (by decide) (by decide))))
  exact own_ret0 X3 hx hlk hret (hb hby own_d7_14) (by decide) (by decide) (by show own_Q7 Z r0 y1 r2 h0 n0 _ T3.heap _; rw [e3]; exact ⟨rfl, N3, (((Keep.refl h0 ([r0] : List Addr)).wr W2 (Or.inl (List.mem_of_getElem? (i := 0) rfl))).wr W3 (Or.inl (List.mem_of_getElem? (i := 0) rfl))), ((E_r0.wr W2).wr W3), ff5, Fw3⟩)
theorem own_d9_0 : decode prog_3_method_2_code 0 = .ok (.aload_n 0, 1) := by decide +kernel
theorem own_d9_1 : decode prog_3_method_2_code 1 = .ok (.getfield 7, 3) := by decide +kernel
theorem own_d9_4 : decode prog_3_method_2_code 4 = .ok (.lreturn, 1) := by decide +kernel
def own_Q9 (r0 : Addr) (q_s : Int64) (h0 : Heap) (n0 : Nat) (v : Option Value) (h : Heap) (L : List Loc) : Prop := v = some (.long q_s) ∧ Fr n0 L ∧ h = h0
abbrev own_R9 : Room := { frames := 0, cells := 0, slots := 0, locals := 0 }
theorem own_ef9 (m : MethodId) (z0 : Addr) : entryFrame m #[(.ref z0)] 1 = mkF m 0 #[.val (.ref z0)] [] := by first | (simp [entryFrame, mkF, argsToLocals, Value.category]; done) | rfl
set_option maxRecDepth 65536 in
set_option maxHeartbeats 40000000 in
theorem rm9 (l : Launch) (Z : State) (a0 : Array Value) (hw : ∀ d ∈ tables_1, d.before a0 Z = true) (ws : List Jvm.Cond) (r0 : Addr) (q_s : Int64) (h0 : Heap) (n0 : Nat) (F_s : Fld Z h0 r0 "com/example/kleio/kleio/ChainHead" "seq" "J" (.long q_s)) : own_Met l Z (⟨"com/example/kleio/kleio/ChainHead", "seq", "()J"⟩ : MethodName) prog_3_method_2_code 1 (some .long) ws own_R9 #[(.ref r0)] h0 (own_Q9 r0 q_s h0 n0) := by
  refine own_met (plainFor_of_name own_pn0) ?_
  intro p e s m below meth c s₁ hx hby hml hown hnm hret hlk hZ e0 X0
  have N0 := Fr.nil n0
  have hml : c.maxLocals = 1 := hml
  have hown : s.vm.findClass "com/example/kleio/kleio/ChainHead" = some m.cls := hown
  have hret : meth.sig.returnType = (some .long) := hret
  have hby : c.code = prog_3_method_2_code := hby
  have hnm : meth.name = "seq" := hnm
  rw [own_ef9]
  show own_Goes p e below _ (s₁.setTop (mkF m 0 #[.val (.ref r0)] []))
  refine own_go (fun t k => XS.aloadN X0.here hx rfl (hb hby own_d9_0) rfl rfl k) ?_
  show own_Goes p e below _ (s₁.setTop (mkF m 1 #[.val (.ref r0)] [(.ref r0)]))
  obtain ⟨T6, X6, e6, st6⟩ := getF X0 hx hZ hown (host := "") (Or.inl (hw _ own_t37)) Via.refl e0 F_s (g := (mkF m 1 #[.val (.ref r0)] [(.ref r0)])) rfl rfl (hb hby own_d9_1)
  refine own_go st6 ?_
  show own_Goes p e below _ (T6.setTop (mkF m 4 #[.val (.ref r0)] [(.long q_s)]))
  exact own_retJ X6 hx hlk hret (hb hby own_d9_4) (by decide) (by decide) ⟨rfl, N0, e6⟩
theorem own_d10_0 : decode prog_3_method_3_code 0 = .ok (.aload_n 0, 1) := by decide +kernel
theorem own_d10_1 : decode prog_3_method_3_code 1 = .ok (.getfield 13, 3) := by decide +kernel
theorem own_d10_4 : decode prog_3_method_3_code 4 = .ok (.areturn, 1) := by decide +kernel
def own_Q10 (r0 : Addr) (q_h : Addr) (h0 : Heap) (n0 : Nat) (v : Option Value) (h : Heap) (L : List Loc) : Prop := v = some (.ref q_h) ∧ Fr n0 L ∧ h = h0
abbrev own_R10 : Room := { frames := 0, cells := 0, slots := 0, locals := 0 }
theorem own_ef10 (m : MethodId) (z0 : Addr) : entryFrame m #[(.ref z0)] 1 = mkF m 0 #[.val (.ref z0)] [] := by first | (simp [entryFrame, mkF, argsToLocals, Value.category]; done) | rfl
set_option maxRecDepth 65536 in
set_option maxHeartbeats 40000000 in
theorem rm10 (l : Launch) (Z : State) (a0 : Array Value) (hw : ∀ d ∈ tables_1, d.before a0 Z = true) (ws : List Jvm.Cond) (r0 : Addr) (q_h : Addr) (h0 : Heap) (n0 : Nat) (F_h : Fld Z h0 r0 "com/example/kleio/kleio/ChainHead" "hash" "Ljava/lang/String;" (.ref q_h)) : own_Met l Z (⟨"com/example/kleio/kleio/ChainHead", "hash", "()Ljava/lang/String;"⟩ : MethodName) prog_3_method_3_code 1 (some (.object "java/lang/String")) ws own_R10 #[(.ref r0)] h0 (own_Q10 r0 q_h h0 n0) := by
  refine own_met (plainFor_of_name own_pn0) ?_
  intro p e s m below meth c s₁ hx hby hml hown hnm hret hlk hZ e0 X0
  have N0 := Fr.nil n0
  have hml : c.maxLocals = 1 := hml
  have hown : s.vm.findClass "com/example/kleio/kleio/ChainHead" = some m.cls := hown
  have hret : meth.sig.returnType = (some (.object "java/lang/String")) := hret
  have hby : c.code = prog_3_method_3_code := hby
  have hnm : meth.name = "hash" := hnm
  rw [own_ef10]
  show own_Goes p e below _ (s₁.setTop (mkF m 0 #[.val (.ref r0)] []))
  refine own_go (fun t k => XS.aloadN X0.here hx rfl (hb hby own_d10_0) rfl rfl k) ?_
  show own_Goes p e below _ (s₁.setTop (mkF m 1 #[.val (.ref r0)] [(.ref r0)]))
  obtain ⟨T7, X7, e7, st7⟩ := getF X0 hx hZ hown (host := "") (Or.inl (hw _ own_t39)) Via.refl e0 F_h (g := (mkF m 1 #[.val (.ref r0)] [(.ref r0)])) rfl rfl (hb hby own_d10_1)
  refine own_go st7 ?_
  show own_Goes p e below _ (T7.setTop (mkF m 4 #[.val (.ref r0)] [(.ref q_h)]))
  exact own_retR X7 hx hlk hret rfl rfl (hb hby own_d10_4) (by decide) (by decide) ⟨rfl, N0, e7⟩
theorem own_d11_0 : decode prog_1_method_1_code 0 = .ok (.aload_n 0, 1) := by decide +kernel
theorem own_d11_1 : decode prog_1_method_1_code 1 = .ok (.invokespecial 1, 3) := by decide +kernel
theorem own_t60 : (Jvm.Cond.methodLink "com/example/kleio/kleio/AppendResult" (1 : Nat) ({ cls := "java/lang/Object", name := "<init>", desc := "()V" } : Jvm.MethodName)) ∈ tables_1 := List.mem_of_getElem? (i := 60) rfl
theorem own_d11_4 : decode prog_1_method_1_code 4 = .ok (.aload_n 0, 1) := by decide +kernel
theorem own_d11_5 : decode prog_1_method_1_code 5 = .ok (.lload_n 1, 1) := by decide +kernel
theorem own_d11_6 : decode prog_1_method_1_code 6 = .ok (.putfield 7, 3) := by decide +kernel
theorem own_t61 : (Jvm.Cond.fieldLink "com/example/kleio/kleio/AppendResult" (7 : Nat) "com/example/kleio/kleio/AppendResult" "seq" "J") ∈ tables_1 := List.mem_of_getElem? (i := 61) rfl
theorem own_t62 : (Jvm.Cond.laysFinal "com/example/kleio/kleio/AppendResult" "com/example/kleio/kleio/AppendResult" "seq" "J") ∈ tables_1 := List.mem_of_getElem? (i := 62) rfl
theorem own_t46 : (Jvm.Cond.instantiable "com/example/kleio/kleio/AppendResult" (3 : Nat)) ∈ tables_1 := List.mem_of_getElem? (i := 46) rfl
theorem own_d11_9 : decode prog_1_method_1_code 9 = .ok (.aload_n 0, 1) := by decide +kernel
theorem own_d11_10 : decode prog_1_method_1_code 10 = .ok (.aload_n 3, 1) := by decide +kernel
theorem own_d11_11 : decode prog_1_method_1_code 11 = .ok (.putfield 13, 3) := by decide +kernel
theorem own_t63 : (Jvm.Cond.fieldLink "com/example/kleio/kleio/AppendResult" (13 : Nat) "com/example/kleio/kleio/AppendResult" "hash" "Ljava/lang/String;") ∈ tables_1 := List.mem_of_getElem? (i := 63) rfl
theorem own_t64 : (Jvm.Cond.laysFinal "com/example/kleio/kleio/AppendResult" "com/example/kleio/kleio/AppendResult" "hash" "Ljava/lang/String;") ∈ tables_1 := List.mem_of_getElem? (i := 64) rfl
theorem own_d11_14 : decode prog_1_method_1_code 14 = .ok (.aload_n 0, 1) := by decide +kernel
theorem own_d11_15 : decode prog_1_method_1_code 15 = .ok (.aload 4, 2) := by decide +kernel
theorem own_d11_17 : decode prog_1_method_1_code 17 = .ok (.putfield 17, 3) := by decide +kernel
theorem own_t65 : (Jvm.Cond.fieldLink "com/example/kleio/kleio/AppendResult" (17 : Nat) "com/example/kleio/kleio/AppendResult" "failure" "Ljava/lang/String;") ∈ tables_1 := List.mem_of_getElem? (i := 65) rfl
theorem own_t66 : (Jvm.Cond.laysFinal "com/example/kleio/kleio/AppendResult" "com/example/kleio/kleio/AppendResult" "failure" "Ljava/lang/String;") ∈ tables_1 := List.mem_of_getElem? (i := 66) rfl
theorem own_pn1 : plainName "com/example/kleio/kleio/AppendResult" = true := by first | (simp [plainName, overriddenIn]; done) | decide +kernel
theorem own_d11_20 : decode prog_1_method_1_code 20 = .ok (.return_, 1) := by decide +kernel
def own_Q11 (Z : State) (r0 : Addr) (y1 : Int64) (r2 : Addr) (h0 : Heap) (n0 : Nat) (v : Option Value) (h : Heap) (L : List Loc) : Prop := v = none ∧ Fr n0 L ∧ Keep h0 h [r0] ∧ Exa Z h r0 "com/example/kleio/kleio/AppendResult" ∧ Fld Z h r0 "com/example/kleio/kleio/AppendResult" "seq" "J" (.long y1) ∧ Fld Z h r0 "com/example/kleio/kleio/AppendResult" "hash" "Ljava/lang/String;" (.ref r2) ∧ Fld Z h r0 "com/example/kleio/kleio/AppendResult" "failure" "Ljava/lang/String;" .null
abbrev own_R11 : Room := { frames := 1, cells := 0, slots := 0, locals := 12 }
theorem own_ef11 (m : MethodId) (z0 : Addr) (z1 : Int64) (z2 : Addr) : entryFrame m #[(.ref z0), (.long z1), (.ref z2), .null] 5 = mkF m 0 #[.val (.ref z0), .val (.long z1), .second, .val (.ref z2), .val .null] [] := by first | (simp [entryFrame, mkF, argsToLocals, Value.category]; done) | rfl
set_option maxRecDepth 65536 in
set_option maxHeartbeats 40000000 in
theorem rm11 (l : Launch) (Z : State) (a0 : Array Value) (hw : ∀ d ∈ tables_1, d.before a0 Z = true) (ws : List Jvm.Cond) (r0 : Addr) (y1 : Int64) (r2 : Addr) (h0 : Heap) (n0 : Nat) (Z0 : n0 ≤ h0.size) (g_r0 : n0 ≤ r0) (E_r0 : Exa Z h0 r0 "com/example/kleio/kleio/AppendResult") (F_s : Fld Z h0 r0 "com/example/kleio/kleio/AppendResult" "seq" "J" (.long (0 : Int64))) (F_h : Fld Z h0 r0 "com/example/kleio/kleio/AppendResult" "hash" "Ljava/lang/String;" .null) (F_f : Fld Z h0 r0 "com/example/kleio/kleio/AppendResult" "failure" "Ljava/lang/String;" .null) : own_Met l Z (⟨"com/example/kleio/kleio/AppendResult", "<init>", "(JLjava/lang/String;Ljava/lang/String;)V"⟩ : MethodName) prog_1_method_1_code 5 none ws own_R11 #[(.ref r0), (.long y1), (.ref r2), .null] h0 (own_Q11 Z r0 y1 r2 h0 n0) := by
  refine own_met (plainFor_of_name own_pn1) ?_
  intro p e s m below meth c s₁ hx hby hml hown hnm hret hlk hZ e0 X0
  have N0 := Fr.nil n0
  have hml : c.maxLocals = 5 := hml
  have hown : s.vm.findClass "com/example/kleio/kleio/AppendResult" = some m.cls := hown
  have hret : meth.sig.returnType = none := hret
  have hby : c.code = prog_1_method_1_code := hby
  have hnm : meth.name = "<init>" := hnm
  rw [own_ef11]
  show own_Goes p e below _ (s₁.setTop (mkF m 0 #[.val (.ref r0), .val (.long y1), .second, .val (.ref r2), .val .null] []))
  refine own_go (fun t k => XS.aloadN X0.here hx rfl (hb hby own_d11_0) rfl rfl k) ?_
  show own_Goes p e below _ (s₁.setTop (mkF m 1 #[.val (.ref r0), .val (.long y1), .second, .val (.ref r2), .val .null] [(.ref r0)]))
  obtain ⟨T8, X8, e8, st8⟩ := initO X0 hx hZ hown (hw _ own_t60) (hw _ own_t12) (hw _ own_t13) e0 (g := (mkF m 1 #[.val (.ref r0), .val (.long y1), .second, .val (.ref r2), .val .null] [(.ref r0)])) rfl (by rw [hml]; rfl) rfl (hb hby own_d11_1) (by decide) (W := 0) (by show 2 * 0 + _ ≤ _; exact Nat.le_of_eq rfl) (by decide)
  refine own_go st8 ?_
  show own_Goes p e below _ (T8.setTop (mkF m 4 #[.val (.ref r0), .val (.long y1), .second, .val (.ref r2), .val .null] []))
  refine own_go (fun t k => XS.aloadN X8.here hx rfl (hb hby own_d11_4) rfl rfl k) ?_
  show own_Goes p e below _ (T8.setTop (mkF m 5 #[.val (.ref r0), .val (.long y1), .second, .val (.ref r2), .val .null] [(.ref r0)]))
  refine own_go (fun t k => XS.lloadN X8.here hx rfl (hb hby own_d11_5) rfl k) ?_
  show own_Goes p e below _ (T8.setTop (mkF m 6 #[.val (.ref r0), .val (.long y1), .second, .val (.ref r2), .val .null] [(.long y1), (.ref r0)]))
  obtain ⟨T9, h9, X9, e9, W9, st9⟩ := putF X8 hx hZ hown (host := "") (Or.inl (hw _ own_t61)) Via.refl e8 F_s E_r0 (Or.inr ⟨(hw _ own_t62), rfl, hnm⟩) (hw _ own_t46) (ty := .long) (by decide) rfl rfl (g := (mkF m 6 #[.val (.ref r0), .val (.long y1), .second, .val (.ref r2), .val .null] [(.long y1), (.ref r0)])) rfl rfl (hb hby own_d11_6)
  have N9 := Fr.snoc X9 N0 g_r0
  have Fw9 := F_s.same W9
  refine own_go st9 ?_
  show own_Goes p e below _ (T9.setTop (mkF m 9 #[.val (.ref r0), .val (.long y1), .second, .val (.ref r2), .val .null] []))
  refine own_go (fun t k => XS.aloadN X9.here hx rfl (hb hby own_d11_9) rfl rfl k) ?_
  show own_Goes p e below _ (T9.setTop (mkF m 10 #[.val (.ref r0), .val (.long y1), .second, .val (.ref r2), .val .null] [(.ref r0)]))
  refine own_go (fun t k => XS.aloadN X9.here hx rfl (hb hby own_d11_10) rfl rfl k) ?_
  show own_Goes p e below _ (T9.setTop (mkF m 11 #[.val (.ref r0), .val (.long y1), .second, .val (.ref r2), .val .null] [(.ref r2), (.ref r0)]))
  have ff11 : Fld Z h9 r0 "com/example/kleio/kleio/AppendResult" "hash" "Ljava/lang/String;" .null := (F_h.other W9 (Or.inr (slot_ne (Or.inr (hw _ own_t64)) (Or.inr (hw _ own_t62)) (by decide) (t := (.object "java/lang/String")) (t' := .long) (by decide) (by decide))))
  obtain ⟨T10, h10, X10, e10, W10, st10⟩ := putF X9 hx hZ hown (host := "") (Or.inl (hw _ own_t63)) Via.refl e9 ff11 (E_r0.wr W9) (Or.inr ⟨(hw _ own_t64), rfl, hnm⟩) (hw _ own_t46) (ty := (.object "java/lang/String")) (by decide) rfl rfl (g := (mkF m 11 #[.val (.ref r0), .val (.long y1), .second, .val (.ref r2), .val .null] [(.ref r2), (.ref r0)])) rfl rfl (hb hby own_d11_11)
  have N10 := Fr.snoc X10 N9 g_r0
  have Fw10 := ff11.same W10
  refine own_go st10 ?_
  show own_Goes p e below _ (T10.setTop (mkF m 14 #[.val (.ref r0), .val (.long y1), .second, .val (.ref r2), .val .null] []))
  refine own_go (fun t k => XS.aloadN X10.here hx rfl (hb hby own_d11_14) rfl rfl k) ?_
  show own_Goes p e below _ (T10.setTop (mkF m 15 #[.val (.ref r0), .val (.long y1), .second, .val (.ref r2), .val .null] [(.ref r0)]))
  refine own_go (fun t k => XS.aload X10.here hx rfl (hb hby own_d11_15) rfl rfl k) ?_
  show own_Goes p e below _ (T10.setTop (mkF m 17 #[.val (.ref r0), .val (.long y1), .second, .val (.ref r2), .val .null] [.null, (.ref r0)]))
  have ff13 : Fld Z h10 r0 "com/example/kleio/kleio/AppendResult" "failure" "Ljava/lang/String;" .null := ((F_f.other W9 (Or.inr (slot_ne (Or.inr (hw _ own_t66)) (Or.inr (hw _ own_t62)) (by decide) (t := (.object "java/lang/String")) (t' := .long) (by decide) (by decide)))).other W10 (Or.inr (slot_ne (Or.inr (hw _ own_t66)) (Or.inr (hw _ own_t64)) (by decide) (t := (.object "java/lang/String")) (t' := (.object "java/lang/String")) (by decide) (by decide))))
  obtain ⟨T12, h12, X12, e12, W12, st12⟩ := putF X10 hx hZ hown (host := "") (Or.inl (hw _ own_t65)) Via.refl e10 ff13 ((E_r0.wr W9).wr W10) (Or.inr ⟨(hw _ own_t66), rfl, hnm⟩) (hw _ own_t46) (ty := (.object "java/lang/String")) (by decide) rfl rfl (g := (mkF m 17 #[.val (.ref r0), .val (.long y1), .second, .val (.ref r2), .val .null] [.null, (.ref r0)])) rfl rfl (hb hby own_d11_17)
  have N12 := Fr.snoc X12 N10 g_r0
  have Fw12 := ff13.same W12
  refine own_go st12 ?_
  show own_Goes p e below _ (T12.setTop (mkF m 20 #[.val (.ref r0), .val (.long y1), .second, .val (.ref r2), .val .null] []))
  have ff14 : Fld Z h12 r0 "com/example/kleio/kleio/AppendResult" "seq" "J" (.long y1) := ((Fw9.other W10 (Or.inr (slot_ne (Or.inr (hw _ own_t62)) (Or.inr (hw _ own_t64)) (by decide) (t := .long) (t' := (.object "java/lang/String")) (by decide) (by decide)))).other W12 (Or.inr (slot_ne (Or.inr (hw _ own_t62)) (Or.inr (hw _ own_t66)) (by decide) (t := .long) (t' := (.object "java/lang/String")) (by decide) (by decide))))
  have ff15 : Fld Z h12 r0 "com/example/kleio/kleio/AppendResult" "hash" "Ljava/lang/String;" (.ref r2) := (Fw10.other W12 (Or.inr (slot_ne (Or.inr (hw _ own_t64)) (Or.inr (hw _ own_t66)) (by decide) (t := (.object "java/lang/String")) (t' := (.object "java/lang/String")) (by decide) (by decide))))
  exact own_ret0 X12 hx hlk hret (hb hby own_d11_20) (by decide) (by decide) (by show own_Q11 Z r0 y1 r2 h0 n0 _ T12.heap _; rw [e12]; exact ⟨rfl, N12, ((((Keep.refl h0 ([r0] : List Addr)).wr W9 (Or.inl (List.mem_of_getElem? (i := 0) rfl))).wr W10 (Or.inl (List.mem_of_getElem? (i := 0) rfl))).wr W12 (Or.inl (List.mem_of_getElem? (i := 0) rfl))), (((E_r0.wr W9).wr W10).wr W12), ff14, ff15, Fw12⟩)
theorem own_d8_0 : decode prog_1_method_2_code 0 = .ok (.new 8, 3) := by decide +kernel
theorem own_t45 : (Jvm.Cond.classLink "com/example/kleio/kleio/AppendResult" (8 : Nat) "com/example/kleio/kleio/AppendResult") ∈ tables_1 := List.mem_of_getElem? (i := 45) rfl
theorem own_t43 : (Jvm.Cond.initialized "com/example/kleio/kleio/AppendResult") ∈ tables_1 := List.mem_of_getElem? (i := 43) rfl
theorem own_d8_3 : decode prog_1_method_2_code 3 = .ok (.dup, 1) := by decide +kernel
theorem own_d8_4 : decode prog_1_method_2_code 4 = .ok (.aload_n 0, 1) := by decide +kernel
theorem own_d8_5 : decode prog_1_method_2_code 5 = .ok (.invokevirtual 20, 3) := by decide +kernel
theorem own_t47 : (Jvm.Cond.methodLink "com/example/kleio/kleio/AppendResult" (20 : Nat) ({ cls := "com/example/kleio/kleio/ChainHead", name := "seq", desc := "()J" } : Jvm.MethodName)) ∈ tables_1 := List.mem_of_getElem? (i := 47) rfl
theorem own_pd0 : parseMethodDescriptor "()J" = some ⟨[], some .long⟩ := by decide +kernel
theorem own_t48 : (Jvm.Cond.declares ({ cls := "com/example/kleio/kleio/ChainHead", name := "seq", desc := "()J" } : Jvm.MethodName)) ∈ tables_1 := List.mem_of_getElem? (i := 48) rfl
theorem own_t50 : (Jvm.Cond.selects "com/example/kleio/kleio/ChainHead" ({ cls := "com/example/kleio/kleio/ChainHead", name := "seq", desc := "()J" } : Jvm.MethodName) ({ cls := "com/example/kleio/kleio/ChainHead", name := "seq", desc := "()J" } : Jvm.MethodName)) ∈ tables_1 := List.mem_of_getElem? (i := 50) rfl
theorem own_t49 : (Jvm.Cond.instanceMethod ({ cls := "com/example/kleio/kleio/ChainHead", name := "seq", desc := "()J" } : Jvm.MethodName)) ∈ tables_1 := List.mem_of_getElem? (i := 49) rfl
theorem own_t32 : (Jvm.Cond.initialized "com/example/kleio/kleio/ChainHead") ∈ tables_1 := List.mem_of_getElem? (i := 32) rfl
theorem own_t51 : (Jvm.Cond.code ({ cls := "com/example/kleio/kleio/ChainHead", name := "seq", desc := "()J" } : Jvm.MethodName) prog_3_method_2_code (1 : Nat) (Option.some Jvm.ClassFile.FieldType.long)) ∈ tables_1 := List.mem_of_getElem? (i := 51) rfl
theorem own_d8_8 : decode prog_1_method_2_code 8 = .ok (.aload_n 0, 1) := by decide +kernel
theorem own_d8_9 : decode prog_1_method_2_code 9 = .ok (.invokevirtual 25, 3) := by decide +kernel
theorem own_t52 : (Jvm.Cond.methodLink "com/example/kleio/kleio/AppendResult" (25 : Nat) ({ cls := "com/example/kleio/kleio/ChainHead", name := "hash", desc := "()Ljava/lang/String;" } : Jvm.MethodName)) ∈ tables_1 := List.mem_of_getElem? (i := 52) rfl
theorem own_pd1 : parseMethodDescriptor "()Ljava/lang/String;" = some ⟨[], some (.object "java/lang/String")⟩ := by decide +kernel
theorem own_t53 : (Jvm.Cond.declares ({ cls := "com/example/kleio/kleio/ChainHead", name := "hash", desc := "()Ljava/lang/String;" } : Jvm.MethodName)) ∈ tables_1 := List.mem_of_getElem? (i := 53) rfl
theorem own_t55 : (Jvm.Cond.selects "com/example/kleio/kleio/ChainHead" ({ cls := "com/example/kleio/kleio/ChainHead", name := "hash", desc := "()Ljava/lang/String;" } : Jvm.MethodName) ({ cls := "com/example/kleio/kleio/ChainHead", name := "hash", desc := "()Ljava/lang/String;" } : Jvm.MethodName)) ∈ tables_1 := List.mem_of_getElem? (i := 55) rfl
theorem own_t54 : (Jvm.Cond.instanceMethod ({ cls := "com/example/kleio/kleio/ChainHead", name := "hash", desc := "()Ljava/lang/String;" } : Jvm.MethodName)) ∈ tables_1 := List.mem_of_getElem? (i := 54) rfl
theorem own_t56 : (Jvm.Cond.code ({ cls := "com/example/kleio/kleio/ChainHead", name := "hash", desc := "()Ljava/lang/String;" } : Jvm.MethodName) prog_3_method_3_code (1 : Nat) (Option.some (Jvm.ClassFile.FieldType.object "java/lang/String"))) ∈ tables_1 := List.mem_of_getElem? (i := 56) rfl
theorem own_d8_12 : decode prog_1_method_2_code 12 = .ok (.aconst_null, 1) := by decide +kernel
theorem own_d8_13 : decode prog_1_method_2_code 13 = .ok (.invokespecial 28, 3) := by decide +kernel
theorem own_t57 : (Jvm.Cond.methodLink "com/example/kleio/kleio/AppendResult" (28 : Nat) ({ cls := "com/example/kleio/kleio/AppendResult", name := "<init>", desc := "(JLjava/lang/String;Ljava/lang/String;)V" } : Jvm.MethodName)) ∈ tables_1 := List.mem_of_getElem? (i := 57) rfl
theorem own_pd2 : parseMethodDescriptor "(JLjava/lang/String;Ljava/lang/String;)V" = some ⟨[.long, (.object "java/lang/String"), (.object "java/lang/String")], none⟩ := by decide +kernel
theorem own_t58 : (Jvm.Cond.instanceMethod ({ cls := "com/example/kleio/kleio/AppendResult", name := "<init>", desc := "(JLjava/lang/String;Ljava/lang/String;)V" } : Jvm.MethodName)) ∈ tables_1 := List.mem_of_getElem? (i := 58) rfl
theorem own_t59 : (Jvm.Cond.code ({ cls := "com/example/kleio/kleio/AppendResult", name := "<init>", desc := "(JLjava/lang/String;Ljava/lang/String;)V" } : Jvm.MethodName) prog_1_method_1_code (5 : Nat) (Option.none : Option Jvm.ClassFile.FieldType)) ∈ tables_1 := List.mem_of_getElem? (i := 59) rfl
theorem own_d8_16 : decode prog_1_method_2_code 16 = .ok (.areturn, 1) := by decide +kernel
def own_Q8 (Z : State) (r0 : Addr) (q_s : Int64) (q_h : Addr) (h0 : Heap) (n0 : Nat) (v : Option Value) (h : Heap) (L : List Loc) : Prop := ∃ b : Addr, v = some (.ref b) ∧ Fr n0 L ∧ Keep h0 h [] ∧ h0.size ≤ b ∧ Exa Z h b "com/example/kleio/kleio/AppendResult" ∧ Fld Z h b "com/example/kleio/kleio/AppendResult" "seq" "J" (.long q_s) ∧ Fld Z h b "com/example/kleio/kleio/AppendResult" "hash" "Ljava/lang/String;" (.ref q_h) ∧ Fld Z h b "com/example/kleio/kleio/AppendResult" "failure" "Ljava/lang/String;" .null
abbrev own_R8 : Room := { frames := 2, cells := 1, slots := 3, locals := 29 }
theorem own_ef8 (m : MethodId) (z0 : Addr) : entryFrame m #[(.ref z0)] 1 = mkF m 0 #[.val (.ref z0)] [] := by first | (simp [entryFrame, mkF, argsToLocals, Value.category]; done) | rfl
set_option maxRecDepth 65536 in
set_option maxHeartbeats 40000000 in
theorem rm8 (l : Launch) (Z : State) (a0 : Array Value) (hw : ∀ d ∈ tables_1, d.before a0 Z = true) (ws : List Jvm.Cond) (r0 : Addr) (q_s : Int64) (q_h : Addr) (h0 : Heap) (n0 : Nat) (Z0 : n0 ≤ h0.size) (E_r0 : Exa Z h0 r0 "com/example/kleio/kleio/ChainHead") (F_s : Fld Z h0 r0 "com/example/kleio/kleio/ChainHead" "seq" "J" (.long q_s)) (F_h : Fld Z h0 r0 "com/example/kleio/kleio/ChainHead" "hash" "Ljava/lang/String;" (.ref q_h)) : own_Met l Z (⟨"com/example/kleio/kleio/AppendResult", "appended", "(Lcom/example/kleio/kleio/ChainHead;)Lcom/example/kleio/kleio/AppendResult;"⟩ : MethodName) prog_1_method_2_code 1 (some (.object "com/example/kleio/kleio/AppendResult")) ws own_R8 #[(.ref r0)] h0 (own_Q8 Z r0 q_s q_h h0 n0) := by
  refine own_met (plainFor_of_name own_pn1) ?_
  intro p e s m below meth c s₁ hx hby hml hown hnm hret hlk hZ e0 X0
  have N0 := Fr.nil n0
  have hml : c.maxLocals = 1 := hml
  have hown : s.vm.findClass "com/example/kleio/kleio/AppendResult" = some m.cls := hown
  have hret : meth.sig.returnType = (some (.object "com/example/kleio/kleio/AppendResult")) := hret
  have hby : c.code = prog_1_method_2_code := hby
  have hnm : meth.name = "appended" := hnm
  rw [own_ef8]
  show own_Goes p e below _ (s₁.setTop (mkF m 0 #[.val (.ref r0)] []))
  obtain ⟨T16, h16, X16, e16, E16, A16, D16, -, st16⟩ := newO X0 hx hZ hown (hw _ own_t45) (hw _ own_t46) (hw _ own_t43) e0 (g := (mkF m 0 #[.val (.ref r0)] [])) rfl (hb hby own_d8_0) (by decide) (by decide)
  obtain ⟨b16, q16⟩ : ∃ z, z = h0.size := ⟨_, rfl⟩
  rw [← q16] at A16 D16 st16
  have lt_b16 : h0.size ≤ b16 := Nat.le_of_eq q16.symm
  have ne_r0_b16 : r0 ≠ b16 := Nat.ne_of_lt (Nat.lt_of_lt_of_le E_r0.lt lt_b16)
  have g_b16 : n0 ≤ b16 := Nat.le_trans Z0 lt_b16
  have sz_b16 : h0.size ≤ b16 := Nat.le_trans (Keep.refl h0 ([] : List Addr)).1 lt_b16
  have F16_seq : Fld Z h16 b16 "com/example/kleio/kleio/AppendResult" "seq" "J" (.long (0 : Int64)) := D16 (Or.inr (hw _ own_t62)) (ty := .long) (by decide)
  have F16_hash : Fld Z h16 b16 "com/example/kleio/kleio/AppendResult" "hash" "Ljava/lang/String;" .null := D16 (Or.inr (hw _ own_t64)) (ty := (.object "java/lang/String")) (by decide)
  have F16_failure : Fld Z h16 b16 "com/example/kleio/kleio/AppendResult" "failure" "Ljava/lang/String;" .null := D16 (Or.inr (hw _ own_t66)) (ty := (.object "java/lang/String")) (by decide)
  refine own_go st16 ?_
  show own_Goes p e below _ (T16.setTop (mkF m 3 #[.val (.ref r0)] [(.ref b16)]))
  refine own_go (fun t k => XS.dup X16.here hx rfl (hb hby own_d8_3) rfl rfl k) ?_
  show own_Goes p e below _ (T16.setTop (mkF m 4 #[.val (.ref r0)] [(.ref b16), (.ref b16)]))
  refine own_go (fun t k => XS.aloadN X16.here hx rfl (hb hby own_d8_4) rfl rfl k) ?_
  show own_Goes p e below _ (T16.setTop (mkF m 5 #[.val (.ref r0)] [(.ref r0), (.ref b16), (.ref b16)]))
  obtain ⟨_, T17, L17, X17, ⟨rfl, N17q, e17⟩, st17⟩ := own_callV X16 hx hZ hown (hw _ own_t47) (hw _ own_t48) (hw _ own_t50) (hw _ own_t49) (hw _ own_t32) (hw _ own_t51) (by decide) (b := r0) (as := []) (rm9 l Z a0 hw [] r0 q_s h16 n0 (F_s.ext E16)) e16 (E_r0.ext E16) own_pd0 rfl (pc := 5) (Ls := #[.val (.ref r0)]) (rest := [(.ref b16), (.ref b16)]) (W := 2) (by rw [hml]; rfl) (Nat.le_of_eq rfl) (by decide) (by decide) (hb hby own_d8_5) (by decide) (by decide)
  have N17 := Fr.app N0 N17q
  refine own_go st17 ?_
  show own_Goes p e below _ (T17.setTop (mkF m 8 #[.val (.ref r0)] [(.long q_s), (.ref b16), (.ref b16)]))
  refine own_go (fun t k => XS.aloadN X17.here hx rfl (hb hby own_d8_8) rfl rfl k) ?_
  show own_Goes p e below _ (T17.setTop (mkF m 9 #[.val (.ref r0)] [(.ref r0), (.long q_s), (.ref b16), (.ref b16)]))
  obtain ⟨_, T18, L18, X18, ⟨rfl, N18q, e18⟩, st18⟩ := own_callV X17 hx hZ hown (hw _ own_t52) (hw _ own_t53) (hw _ own_t55) (hw _ own_t54) (hw _ own_t32) (hw _ own_t56) (by decide) (b := r0) (as := []) (rm10 l Z a0 hw [] r0 q_h h16 n0 (F_h.ext E16)) e17 (E_r0.ext E16) own_pd1 rfl (pc := 9) (Ls := #[.val (.ref r0)]) (rest := [(.long q_s), (.ref b16), (.ref b16)]) (W := 4) (by rw [hml]; rfl) (Nat.le_of_eq rfl) (by decide) (by decide) (hb hby own_d8_9) (by decide) (by decide)
  have N18 := Fr.app N17 N18q
  refine own_go st18 ?_
  show own_Goes p e below _ (T18.setTop (mkF m 12 #[.val (.ref r0)] [(.ref q_h), (.long q_s), (.ref b16), (.ref b16)]))
  refine own_go (fun t k => XS.aconstNull X18.here hx rfl (hb hby own_d8_12) k) ?_
  show own_Goes p e below _ (T18.setTop (mkF m 13 #[.val (.ref r0)] [.null, (.ref q_h), (.long q_s), (.ref b16), (.ref b16)]))
  obtain ⟨_, T19, L19, X19, ⟨rfl, N19q, K19, G19_0, G19_1, G19_2, G19_3⟩, st19⟩ := own_callI X18 hx hZ rfl hown (hw _ own_t57) (hw _ own_t58) (hw _ own_t43) (hw _ own_t59) (by decide) (b := b16) (as := [(.long q_s), (.ref q_h), .null]) (rm11 l Z a0 hw [] b16 q_s q_h h16 n0 (Nat.le_trans Z0 E16.1) g_b16 A16 F16_seq F16_hash F16_failure) e18 own_pd2 rfl (pc := 13) (Ls := #[.val (.ref r0)]) (rest := [(.ref b16)]) (W := 1) (by rw [hml]; rfl) (Nat.le_of_eq rfl) (by decide) (by decide) (hb hby own_d8_13) (by decide) (by decide)
  have N19 := Fr.app N18 N19q
  refine own_go st19 ?_
  show own_Goes p e below _ (T19.setTop (mkF m 16 #[.val (.ref r0)] [(.ref b16)]))
  exact own_retR X19 hx hlk hret rfl rfl (hb hby own_d8_16) (by decide) (by decide) (⟨_, rfl, N19, (((Keep.refl h0 ([] : List Addr)).ext E16).trans K19 (fun x hx => by cases List.mem_singleton.mp hx; exact Or.inr sz_b16)), sz_b16, G19_0, G19_1, G19_2, G19_3⟩)
theorem own_d12_0 : decode prog_1_method_4_code 0 = .ok (.aload_n 0, 1) := by decide +kernel
theorem own_d12_1 : decode prog_1_method_4_code 1 = .ok (.getfield 17, 3) := by decide +kernel
theorem own_d12_4 : decode prog_1_method_4_code 4 = .ok (.ifnonnull 7, 3) := by decide +kernel
theorem own_d12_7 : decode prog_1_method_4_code 7 = .ok (.iconst 1, 1) := by decide +kernel
theorem own_d12_8 : decode prog_1_method_4_code 8 = .ok (.goto 4, 3) := by decide +kernel
theorem own_d12_12 : decode prog_1_method_4_code 12 = .ok (.ireturn, 1) := by decide +kernel
def own_Q12 (r0 : Addr) (h0 : Heap) (n0 : Nat) (v : Option Value) (h : Heap) (L : List Loc) : Prop := v = some (.int (1 : Int32)) ∧ Fr n0 L ∧ h = h0
abbrev own_R12 : Room := { frames := 0, cells := 0, slots := 0, locals := 0 }
theorem own_ef12 (m : MethodId) (z0 : Addr) : entryFrame m #[(.ref z0)] 1 = mkF m 0 #[.val (.ref z0)] [] := by first | (simp [entryFrame, mkF, argsToLocals, Value.category]; done) | rfl
set_option maxRecDepth 65536 in
set_option maxHeartbeats 40000000 in
theorem rm12 (l : Launch) (Z : State) (a0 : Array Value) (hw : ∀ d ∈ tables_1, d.before a0 Z = true) (ws : List Jvm.Cond) (r0 : Addr) (h0 : Heap) (n0 : Nat) (F_f : Fld Z h0 r0 "com/example/kleio/kleio/AppendResult" "failure" "Ljava/lang/String;" .null) : own_Met l Z (⟨"com/example/kleio/kleio/AppendResult", "isAppended", "()Z"⟩ : MethodName) prog_1_method_4_code 1 (some .boolean) ws own_R12 #[(.ref r0)] h0 (own_Q12 r0 h0 n0) := by
  refine own_met (plainFor_of_name own_pn1) ?_
  intro p e s m below meth c s₁ hx hby hml hown hnm hret hlk hZ e0 X0
  have N0 := Fr.nil n0
  have hml : c.maxLocals = 1 := hml
  have hown : s.vm.findClass "com/example/kleio/kleio/AppendResult" = some m.cls := hown
  have hret : meth.sig.returnType = (some .boolean) := hret
  have hby : c.code = prog_1_method_4_code := hby
  have hnm : meth.name = "isAppended" := hnm
  rw [own_ef12]
  show own_Goes p e below _ (s₁.setTop (mkF m 0 #[.val (.ref r0)] []))
  refine own_go (fun t k => XS.aloadN X0.here hx rfl (hb hby own_d12_0) rfl rfl k) ?_
  show own_Goes p e below _ (s₁.setTop (mkF m 1 #[.val (.ref r0)] [(.ref r0)]))
  obtain ⟨T20, X20, e20, st20⟩ := getF X0 hx hZ hown (host := "") (Or.inl (hw _ own_t65)) Via.refl e0 F_f (g := (mkF m 1 #[.val (.ref r0)] [(.ref r0)])) rfl rfl (hb hby own_d12_1)
  refine own_go st20 ?_
  show own_Goes p e below _ (T20.setTop (mkF m 4 #[.val (.ref r0)] [.null]))
  refine own_go (fun t k => XS.ifnonnullNo X20.here hx rfl (hb hby own_d12_4) rfl k) ?_
  show own_Goes p e below _ (T20.setTop (mkF m 7 #[.val (.ref r0)] []))
  refine own_go (fun t k => XS.iconst X20.here hx rfl (hb hby own_d12_7) k) ?_
  show own_Goes p e below _ (T20.setTop (mkF m 8 #[.val (.ref r0)] [(.int (1 : Int32))]))
  refine own_go (fun t k => XS.goto X20.here hx rfl (pc0 := 8) (pc' := 12) rfl (hb hby own_d12_8) (by decide) (by decide) k) ?_
  show own_Goes p e below _ (T20.setTop (mkF m 12 #[.val (.ref r0)] [(.int (1 : Int32))]))
  exact own_retN X20 hx hlk hret (by simp) (z' := (1 : Int32)) rfl (hb hby own_d12_12) (by decide) (by decide) ⟨rfl, N0, e20⟩
theorem own_d13_0 : decode prog_1_method_7_code 0 = .ok (.aload_n 0, 1) := by decide +kernel
theorem own_d13_1 : decode prog_1_method_7_code 1 = .ok (.getfield 17, 3) := by decide +kernel
theorem own_d13_4 : decode prog_1_method_7_code 4 = .ok (.areturn, 1) := by decide +kernel
def own_Q13 (r0 : Addr) (h0 : Heap) (n0 : Nat) (v : Option Value) (h : Heap) (L : List Loc) : Prop := v = some .null ∧ Fr n0 L ∧ h = h0
abbrev own_R13 : Room := { frames := 0, cells := 0, slots := 0, locals := 0 }
theorem own_ef13 (m : MethodId) (z0 : Addr) : entryFrame m #[(.ref z0)] 1 = mkF m 0 #[.val (.ref z0)] [] := by first | (simp [entryFrame, mkF, argsToLocals, Value.category]; done) | rfl
set_option maxRecDepth 65536 in
set_option maxHeartbeats 40000000 in
theorem rm13 (l : Launch) (Z : State) (a0 : Array Value) (hw : ∀ d ∈ tables_1, d.before a0 Z = true) (ws : List Jvm.Cond) (r0 : Addr) (h0 : Heap) (n0 : Nat) (F_f : Fld Z h0 r0 "com/example/kleio/kleio/AppendResult" "failure" "Ljava/lang/String;" .null) : own_Met l Z (⟨"com/example/kleio/kleio/AppendResult", "failure", "()Ljava/lang/String;"⟩ : MethodName) prog_1_method_7_code 1 (some (.object "java/lang/String")) ws own_R13 #[(.ref r0)] h0 (own_Q13 r0 h0 n0) := by
  refine own_met (plainFor_of_name own_pn1) ?_
  intro p e s m below meth c s₁ hx hby hml hown hnm hret hlk hZ e0 X0
  have N0 := Fr.nil n0
  have hml : c.maxLocals = 1 := hml
  have hown : s.vm.findClass "com/example/kleio/kleio/AppendResult" = some m.cls := hown
  have hret : meth.sig.returnType = (some (.object "java/lang/String")) := hret
  have hby : c.code = prog_1_method_7_code := hby
  have hnm : meth.name = "failure" := hnm
  rw [own_ef13]
  show own_Goes p e below _ (s₁.setTop (mkF m 0 #[.val (.ref r0)] []))
  refine own_go (fun t k => XS.aloadN X0.here hx rfl (hb hby own_d13_0) rfl rfl k) ?_
  show own_Goes p e below _ (s₁.setTop (mkF m 1 #[.val (.ref r0)] [(.ref r0)]))
  obtain ⟨T21, X21, e21, st21⟩ := getF X0 hx hZ hown (host := "") (Or.inl (hw _ own_t65)) Via.refl e0 F_f (g := (mkF m 1 #[.val (.ref r0)] [(.ref r0)])) rfl rfl (hb hby own_d13_1)
  refine own_go st21 ?_
  show own_Goes p e below _ (T21.setTop (mkF m 4 #[.val (.ref r0)] [.null]))
  exact own_retR X21 hx hlk hret rfl rfl (hb hby own_d13_4) (by decide) (by decide) ⟨rfl, N0, e21⟩
theorem own_d15_0 : decode prog_1_method_8_code 0 = .ok (.aload_n 0, 1) := by decide +kernel
theorem own_d15_1 : decode prog_1_method_8_code 1 = .ok (.getfield 17, 3) := by decide +kernel
theorem own_d15_4 : decode prog_1_method_8_code 4 = .ok (.ifnull 20, 3) := by decide +kernel
theorem own_d15_24 : decode prog_1_method_8_code 24 = .ok (.return_, 1) := by decide +kernel
def own_Q15 (r0 : Addr) (h0 : Heap) (n0 : Nat) (v : Option Value) (h : Heap) (L : List Loc) : Prop := v = none ∧ Fr n0 L ∧ h = h0
abbrev own_R15 : Room := { frames := 0, cells := 0, slots := 0, locals := 0 }
theorem own_ef15 (m : MethodId) (z0 : Addr) : entryFrame m #[(.ref z0)] 1 = mkF m 0 #[.val (.ref z0)] [] := by first | (simp [entryFrame, mkF, argsToLocals, Value.category]; done) | rfl
set_option maxRecDepth 65536 in
set_option maxHeartbeats 40000000 in
theorem rm15 (l : Launch) (Z : State) (a0 : Array Value) (hw : ∀ d ∈ tables_1, d.before a0 Z = true) (ws : List Jvm.Cond) (r0 : Addr) (h0 : Heap) (n0 : Nat) (F_f : Fld Z h0 r0 "com/example/kleio/kleio/AppendResult" "failure" "Ljava/lang/String;" .null) : own_Met l Z (⟨"com/example/kleio/kleio/AppendResult", "requireAppended", "()V"⟩ : MethodName) prog_1_method_8_code 1 none ws own_R15 #[(.ref r0)] h0 (own_Q15 r0 h0 n0) := by
  refine own_met (plainFor_of_name own_pn1) ?_
  intro p e s m below meth c s₁ hx hby hml hown hnm hret hlk hZ e0 X0
  have N0 := Fr.nil n0
  have hml : c.maxLocals = 1 := hml
  have hown : s.vm.findClass "com/example/kleio/kleio/AppendResult" = some m.cls := hown
  have hret : meth.sig.returnType = none := hret
  have hby : c.code = prog_1_method_8_code := hby
  have hnm : meth.name = "requireAppended" := hnm
  rw [own_ef15]
  show own_Goes p e below _ (s₁.setTop (mkF m 0 #[.val (.ref r0)] []))
  refine own_go (fun t k => XS.aloadN X0.here hx rfl (hb hby own_d15_0) rfl rfl k) ?_
  show own_Goes p e below _ (s₁.setTop (mkF m 1 #[.val (.ref r0)] [(.ref r0)]))
  obtain ⟨T22, X22, e22, st22⟩ := getF X0 hx hZ hown (host := "") (Or.inl (hw _ own_t65)) Via.refl e0 F_f (g := (mkF m 1 #[.val (.ref r0)] [(.ref r0)])) rfl rfl (hb hby own_d15_1)
  refine own_go st22 ?_
  show own_Goes p e below _ (T22.setTop (mkF m 4 #[.val (.ref r0)] [.null]))
  refine own_go (fun t k => XS.ifnullYes X22.here hx rfl (pc0 := 4) (pc' := 24) rfl (hb hby own_d15_4) rfl (by decide) (by decide) k) ?_
  show own_Goes p e below _ (T22.setTop (mkF m 24 #[.val (.ref r0)] []))
  exact own_ret0 X22 hx hlk hret (hb hby own_d15_24) (by decide) (by decide) ⟨rfl, N0, e22⟩
theorem own_d14_0 : decode prog_1_method_5_code 0 = .ok (.aload_n 0, 1) := by decide +kernel
theorem own_d14_1 : decode prog_1_method_5_code 1 = .ok (.invokevirtual 31, 3) := by decide +kernel
theorem own_t82 : (Jvm.Cond.methodLink "com/example/kleio/kleio/AppendResult" (31 : Nat) ({ cls := "com/example/kleio/kleio/AppendResult", name := "requireAppended", desc := "()V" } : Jvm.MethodName)) ∈ tables_1 := List.mem_of_getElem? (i := 82) rfl
theorem own_pd3 : parseMethodDescriptor "()V" = some ⟨[], none⟩ := by decide +kernel
theorem own_t84 : (Jvm.Cond.privateMethod ({ cls := "com/example/kleio/kleio/AppendResult", name := "requireAppended", desc := "()V" } : Jvm.MethodName)) ∈ tables_1 := List.mem_of_getElem? (i := 84) rfl
theorem own_t83 : (Jvm.Cond.instanceMethod ({ cls := "com/example/kleio/kleio/AppendResult", name := "requireAppended", desc := "()V" } : Jvm.MethodName)) ∈ tables_1 := List.mem_of_getElem? (i := 83) rfl
theorem own_t85 : (Jvm.Cond.code ({ cls := "com/example/kleio/kleio/AppendResult", name := "requireAppended", desc := "()V" } : Jvm.MethodName) prog_1_method_8_code (1 : Nat) (Option.none : Option Jvm.ClassFile.FieldType)) ∈ tables_1 := List.mem_of_getElem? (i := 85) rfl
theorem own_d14_4 : decode prog_1_method_5_code 4 = .ok (.aload_n 0, 1) := by decide +kernel
theorem own_d14_5 : decode prog_1_method_5_code 5 = .ok (.getfield 7, 3) := by decide +kernel
theorem own_d14_8 : decode prog_1_method_5_code 8 = .ok (.lreturn, 1) := by decide +kernel
def own_Q14 (r0 : Addr) (q_s : Int64) (h0 : Heap) (n0 : Nat) (v : Option Value) (h : Heap) (L : List Loc) : Prop := v = some (.long q_s) ∧ Fr n0 L ∧ h = h0
abbrev own_R14 : Room := { frames := 1, cells := 0, slots := 0, locals := 12 }
theorem own_ef14 (m : MethodId) (z0 : Addr) : entryFrame m #[(.ref z0)] 1 = mkF m 0 #[.val (.ref z0)] [] := by first | (simp [entryFrame, mkF, argsToLocals, Value.category]; done) | rfl
set_option maxRecDepth 65536 in
set_option maxHeartbeats 40000000 in
theorem rm14 (l : Launch) (Z : State) (a0 : Array Value) (hw : ∀ d ∈ tables_1, d.before a0 Z = true) (ws : List Jvm.Cond) (r0 : Addr) (q_s : Int64) (h0 : Heap) (n0 : Nat) (E_r0 : Exa Z h0 r0 "com/example/kleio/kleio/AppendResult") (F_f : Fld Z h0 r0 "com/example/kleio/kleio/AppendResult" "failure" "Ljava/lang/String;" .null) (F_s : Fld Z h0 r0 "com/example/kleio/kleio/AppendResult" "seq" "J" (.long q_s)) : own_Met l Z (⟨"com/example/kleio/kleio/AppendResult", "seq", "()J"⟩ : MethodName) prog_1_method_5_code 1 (some .long) ws own_R14 #[(.ref r0)] h0 (own_Q14 r0 q_s h0 n0) := by
  refine own_met (plainFor_of_name own_pn1) ?_
  intro p e s m below meth c s₁ hx hby hml hown hnm hret hlk hZ e0 X0
  have N0 := Fr.nil n0
  have hml : c.maxLocals = 1 := hml
  have hown : s.vm.findClass "com/example/kleio/kleio/AppendResult" = some m.cls := hown
  have hret : meth.sig.returnType = (some .long) := hret
  have hby : c.code = prog_1_method_5_code := hby
  have hnm : meth.name = "seq" := hnm
  rw [own_ef14]
  show own_Goes p e below _ (s₁.setTop (mkF m 0 #[.val (.ref r0)] []))
  refine own_go (fun t k => XS.aloadN X0.here hx rfl (hb hby own_d14_0) rfl rfl k) ?_
  show own_Goes p e below _ (s₁.setTop (mkF m 1 #[.val (.ref r0)] [(.ref r0)]))
  obtain ⟨_, T23, L23, X23, ⟨rfl, N23q, e23⟩, st23⟩ := own_callP X0 hx hZ hown (hw _ own_t82) (hw _ own_t84) (hw _ own_t46) (hw _ own_t83) (hw _ own_t43) (hw _ own_t85) (by decide) (b := r0) (as := []) (rm15 l Z a0 hw [] r0 h0 n0 F_f) e0 E_r0 own_pd3 rfl (pc := 1) (Ls := #[.val (.ref r0)]) (rest := []) (W := 0) (by rw [hml]; rfl) (Nat.le_of_eq rfl) (by decide) (by decide) (hb hby own_d14_1) (by decide) (by decide)
  have N23 := Fr.app N0 N23q
  refine own_go st23 ?_
  show own_Goes p e below _ (T23.setTop (mkF m 4 #[.val (.ref r0)] []))
  refine own_go (fun t k => XS.aloadN X23.here hx rfl (hb hby own_d14_4) rfl rfl k) ?_
  show own_Goes p e below _ (T23.setTop (mkF m 5 #[.val (.ref r0)] [(.ref r0)]))
  obtain ⟨T24, X24, e24, st24⟩ := getF X23 hx hZ hown (host := "") (Or.inl (hw _ own_t61)) Via.refl e23 F_s (g := (mkF m 5 #[.val (.ref r0)] [(.ref r0)])) rfl rfl (hb hby own_d14_5)
  refine own_go st24 ?_
  show own_Goes p e below _ (T24.setTop (mkF m 8 #[.val (.ref r0)] [(.long q_s)]))
  exact own_retJ X24 hx hlk hret (hb hby own_d14_8) (by decide) (by decide) ⟨rfl, N23, e24⟩
theorem own_d16_0 : decode prog_1_method_6_code 0 = .ok (.aload_n 0, 1) := by decide +kernel
theorem own_d16_1 : decode prog_1_method_6_code 1 = .ok (.invokevirtual 31, 3) := by decide +kernel
theorem own_d16_4 : decode prog_1_method_6_code 4 = .ok (.aload_n 0, 1) := by decide +kernel
theorem own_d16_5 : decode prog_1_method_6_code 5 = .ok (.getfield 13, 3) := by decide +kernel
theorem own_d16_8 : decode prog_1_method_6_code 8 = .ok (.areturn, 1) := by decide +kernel
def own_Q16 (r0 : Addr) (q_h : Addr) (h0 : Heap) (n0 : Nat) (v : Option Value) (h : Heap) (L : List Loc) : Prop := v = some (.ref q_h) ∧ Fr n0 L ∧ h = h0
abbrev own_R16 : Room := { frames := 1, cells := 0, slots := 0, locals := 12 }
theorem own_ef16 (m : MethodId) (z0 : Addr) : entryFrame m #[(.ref z0)] 1 = mkF m 0 #[.val (.ref z0)] [] := by first | (simp [entryFrame, mkF, argsToLocals, Value.category]; done) | rfl
set_option maxRecDepth 65536 in
set_option maxHeartbeats 40000000 in
theorem rm16 (l : Launch) (Z : State) (a0 : Array Value) (hw : ∀ d ∈ tables_1, d.before a0 Z = true) (ws : List Jvm.Cond) (r0 : Addr) (q_h : Addr) (h0 : Heap) (n0 : Nat) (E_r0 : Exa Z h0 r0 "com/example/kleio/kleio/AppendResult") (F_f : Fld Z h0 r0 "com/example/kleio/kleio/AppendResult" "failure" "Ljava/lang/String;" .null) (F_h : Fld Z h0 r0 "com/example/kleio/kleio/AppendResult" "hash" "Ljava/lang/String;" (.ref q_h)) : own_Met l Z (⟨"com/example/kleio/kleio/AppendResult", "hash", "()Ljava/lang/String;"⟩ : MethodName) prog_1_method_6_code 1 (some (.object "java/lang/String")) ws own_R16 #[(.ref r0)] h0 (own_Q16 r0 q_h h0 n0) := by
  refine own_met (plainFor_of_name own_pn1) ?_
  intro p e s m below meth c s₁ hx hby hml hown hnm hret hlk hZ e0 X0
  have N0 := Fr.nil n0
  have hml : c.maxLocals = 1 := hml
  have hown : s.vm.findClass "com/example/kleio/kleio/AppendResult" = some m.cls := hown
  have hret : meth.sig.returnType = (some (.object "java/lang/String")) := hret
  have hby : c.code = prog_1_method_6_code := hby
  have hnm : meth.name = "hash" := hnm
  rw [own_ef16]
  show own_Goes p e below _ (s₁.setTop (mkF m 0 #[.val (.ref r0)] []))
  refine own_go (fun t k => XS.aloadN X0.here hx rfl (hb hby own_d16_0) rfl rfl k) ?_
  show own_Goes p e below _ (s₁.setTop (mkF m 1 #[.val (.ref r0)] [(.ref r0)]))
  obtain ⟨_, T25, L25, X25, ⟨rfl, N25q, e25⟩, st25⟩ := own_callP X0 hx hZ hown (hw _ own_t82) (hw _ own_t84) (hw _ own_t46) (hw _ own_t83) (hw _ own_t43) (hw _ own_t85) (by decide) (b := r0) (as := []) (rm15 l Z a0 hw [] r0 h0 n0 F_f) e0 E_r0 own_pd3 rfl (pc := 1) (Ls := #[.val (.ref r0)]) (rest := []) (W := 0) (by rw [hml]; rfl) (Nat.le_of_eq rfl) (by decide) (by decide) (hb hby own_d16_1) (by decide) (by decide)
  have N25 := Fr.app N0 N25q
  refine own_go st25 ?_
  show own_Goes p e below _ (T25.setTop (mkF m 4 #[.val (.ref r0)] []))
  refine own_go (fun t k => XS.aloadN X25.here hx rfl (hb hby own_d16_4) rfl rfl k) ?_
  show own_Goes p e below _ (T25.setTop (mkF m 5 #[.val (.ref r0)] [(.ref r0)]))
  obtain ⟨T26, X26, e26, st26⟩ := getF X25 hx hZ hown (host := "") (Or.inl (hw _ own_t63)) Via.refl e25 F_h (g := (mkF m 5 #[.val (.ref r0)] [(.ref r0)])) rfl rfl (hb hby own_d16_5)
  refine own_go st26 ?_
  show own_Goes p e below _ (T26.setTop (mkF m 8 #[.val (.ref r0)] [(.ref q_h)]))
  exact own_retR X26 hx hlk hret rfl rfl (hb hby own_d16_8) (by decide) (by decide) ⟨rfl, N25, e26⟩
theorem own_d17_0 : decode jdk_42_method_66_code 0 = .ok (.aload_n 0, 1) := by decide +kernel
theorem own_d17_1 : decode jdk_42_method_66_code 1 = .ok (.aload_n 1, 1) := by decide +kernel
theorem own_d17_2 : decode jdk_42_method_66_code 2 = .ok (.if_acmp .ne 5, 3) := by decide +kernel
theorem own_d17_5 : decode jdk_42_method_66_code 5 = .ok (.iconst 1, 1) := by decide +kernel
theorem own_pn2 : plainName "java/lang/String" = true := by first | (simp [plainName, overriddenIn]; done) | decide +kernel
theorem own_d17_6 : decode jdk_42_method_66_code 6 = .ok (.ireturn, 1) := by decide +kernel
def own_Q17 (r0 : Addr) (h0 : Heap) (n0 : Nat) (v : Option Value) (h : Heap) (L : List Loc) : Prop := v = some (.int (1 : Int32)) ∧ Fr n0 L ∧ h = h0
abbrev own_R17 : Room := { frames := 0, cells := 0, slots := 0, locals := 0 }
theorem own_ef17 (m : MethodId) (z1 : Addr) : entryFrame m #[(.ref z1), (.ref z1)] 3 = mkF m 0 #[.val (.ref z1), .val (.ref z1), .unset] [] := by first | (simp [entryFrame, mkF, argsToLocals, Value.category]; done) | rfl
set_option maxRecDepth 65536 in
set_option maxHeartbeats 40000000 in
theorem rm17 (l : Launch) (Z : State) (a0 : Array Value) (hw : ∀ d ∈ tables_1, d.before a0 Z = true) (ws : List Jvm.Cond) (r0 : Addr) (h0 : Heap) (n0 : Nat) : own_Met l Z (⟨"java/lang/String", "equals", "(Ljava/lang/Object;)Z"⟩ : MethodName) jdk_42_method_66_code 3 (some .boolean) ws own_R17 #[(.ref r0), (.ref r0)] h0 (own_Q17 r0 h0 n0) := by
  refine own_met (plainFor_of_name own_pn2) ?_
  intro p e s m below meth c s₁ hx hby hml hown hnm hret hlk hZ e0 X0
  have N0 := Fr.nil n0
  have hml : c.maxLocals = 3 := hml
  have hown : s.vm.findClass "java/lang/String" = some m.cls := hown
  have hret : meth.sig.returnType = (some .boolean) := hret
  have hby : c.code = jdk_42_method_66_code := hby
  have hnm : meth.name = "equals" := hnm
  rw [own_ef17]
  show own_Goes p e below _ (s₁.setTop (mkF m 0 #[.val (.ref r0), .val (.ref r0), .unset] []))
  refine own_go (fun t k => XS.aloadN X0.here hx rfl (hb hby own_d17_0) rfl rfl k) ?_
  show own_Goes p e below _ (s₁.setTop (mkF m 1 #[.val (.ref r0), .val (.ref r0), .unset] [(.ref r0)]))
  refine own_go (fun t k => XS.aloadN X0.here hx rfl (hb hby own_d17_1) rfl rfl k) ?_
  show own_Goes p e below _ (s₁.setTop (mkF m 2 #[.val (.ref r0), .val (.ref r0), .unset] [(.ref r0), (.ref r0)]))
  have hd27 : r0 = r0 := rfl
  refine own_go (fun t k => Jvm.RoadKit.acmp (g := (mkF m 2 #[.val (.ref r0), .val (.ref r0), .unset] [(.ref r0), (.ref r0)])) X0 hx rfl rfl rfl (pc0 := 2) (pc' := 5) (same := true) rfl (hb hby own_d17_2) rfl (decide_eq_true (congrArg Value.ref hd27)) (by decide) (by decide) k) ?_
  show own_Goes p e below _ (s₁.setTop (mkF m 5 #[.val (.ref r0), .val (.ref r0), .unset] []))
  refine own_go (fun t k => XS.iconst X0.here hx rfl (hb hby own_d17_5) k) ?_
  show own_Goes p e below _ (s₁.setTop (mkF m 6 #[.val (.ref r0), .val (.ref r0), .unset] [(.int (1 : Int32))]))
  exact own_retN X0 hx hlk hret (by simp) (z' := (1 : Int32)) rfl (hb hby own_d17_6) (by decide) (by decide) ⟨rfl, N0, e0⟩
theorem own_hp (a b c : Int32) : ∀ z ∈ ([nar .char ((a &&& (255 : Int32)).toUInt32.toUInt16.toUInt32.toInt32), nar .char ((b &&& (255 : Int32)).toUInt32.toUInt16.toUInt32.toInt32), nar .char ((c &&& (255 : Int32)).toUInt32.toUInt16.toUInt32.toInt32)] : List Int32), ¬ z < 0 ∧ ¬ (255 : Int32) < z := by
  intro z hz
  simp only [List.mem_cons, List.not_mem_nil, or_false] at hz
  rcases hz with rfl | rfl | rfl
  · exact own_ch a
  · exact own_ch b
  · exact own_ch c
theorem own_t0 : (Jvm.Cond.arrayClass Jvm.ClassFile.FieldType.char) ∈ tables_1 := List.mem_of_getElem? (i := 0) rfl
theorem own_t1 : (Jvm.Cond.classLink "com/example/kleio/kleio/AppendResultAppendedPinLaw" (7 : Nat) "java/lang/String") ∈ tables_1 := List.mem_of_getElem? (i := 1) rfl
theorem own_t2 : (Jvm.Cond.instantiable "java/lang/String" (4 : Nat)) ∈ tables_1 := List.mem_of_getElem? (i := 2) rfl
theorem own_t3 : (Jvm.Cond.initialized "java/lang/String") ∈ tables_1 := List.mem_of_getElem? (i := 3) rfl
theorem own_t27 : (Jvm.Cond.laysFinal "java/lang/String" "java/lang/String" "coder" "B") ∈ tables_1 := List.mem_of_getElem? (i := 27) rfl
theorem own_t29 : (Jvm.Cond.laysFinal "java/lang/String" "java/lang/String" "value" "[B") ∈ tables_1 := List.mem_of_getElem? (i := 29) rfl
theorem own_t4 : (Jvm.Cond.methodLink "com/example/kleio/kleio/AppendResultAppendedPinLaw" (9 : Nat) ({ cls := "java/lang/String", name := "<init>", desc := "([C)V" } : Jvm.MethodName)) ∈ tables_1 := List.mem_of_getElem? (i := 4) rfl
theorem own_t5 : (Jvm.Cond.instanceMethod ({ cls := "java/lang/String", name := "<init>", desc := "([C)V" } : Jvm.MethodName)) ∈ tables_1 := List.mem_of_getElem? (i := 5) rfl
theorem own_t6 : (Jvm.Cond.code ({ cls := "java/lang/String", name := "<init>", desc := "([C)V" } : Jvm.MethodName) jdk_42_method_3_code (2 : Nat) (Option.none : Option Jvm.ClassFile.FieldType)) ∈ tables_1 := List.mem_of_getElem? (i := 6) rfl
theorem own_t30 : (Jvm.Cond.classLink "com/example/kleio/kleio/AppendResultAppendedPinLaw" (12 : Nat) "com/example/kleio/kleio/ChainHead") ∈ tables_1 := List.mem_of_getElem? (i := 30) rfl
theorem own_t33 : (Jvm.Cond.methodLink "com/example/kleio/kleio/AppendResultAppendedPinLaw" (14 : Nat) ({ cls := "com/example/kleio/kleio/ChainHead", name := "<init>", desc := "(JLjava/lang/String;)V" } : Jvm.MethodName)) ∈ tables_1 := List.mem_of_getElem? (i := 33) rfl
theorem own_pd4 : parseMethodDescriptor "(JLjava/lang/String;)V" = some ⟨[.long, (.object "java/lang/String")], none⟩ := by decide +kernel
theorem own_t34 : (Jvm.Cond.instanceMethod ({ cls := "com/example/kleio/kleio/ChainHead", name := "<init>", desc := "(JLjava/lang/String;)V" } : Jvm.MethodName)) ∈ tables_1 := List.mem_of_getElem? (i := 34) rfl
theorem own_t35 : (Jvm.Cond.code ({ cls := "com/example/kleio/kleio/ChainHead", name := "<init>", desc := "(JLjava/lang/String;)V" } : Jvm.MethodName) prog_3_method_1_code (4 : Nat) (Option.none : Option Jvm.ClassFile.FieldType)) ∈ tables_1 := List.mem_of_getElem? (i := 35) rfl
theorem own_t41 : (Jvm.Cond.methodLink "com/example/kleio/kleio/AppendResultAppendedPinLaw" (17 : Nat) ({ cls := "com/example/kleio/kleio/AppendResult", name := "appended", desc := "(Lcom/example/kleio/kleio/ChainHead;)Lcom/example/kleio/kleio/AppendResult;" } : Jvm.MethodName)) ∈ tables_1 := List.mem_of_getElem? (i := 41) rfl
theorem own_pd5 : parseMethodDescriptor "(Lcom/example/kleio/kleio/ChainHead;)Lcom/example/kleio/kleio/AppendResult;" = some ⟨[(.object "com/example/kleio/kleio/ChainHead")], some (.object "com/example/kleio/kleio/AppendResult")⟩ := by decide +kernel
theorem own_t42 : (Jvm.Cond.static ({ cls := "com/example/kleio/kleio/AppendResult", name := "appended", desc := "(Lcom/example/kleio/kleio/ChainHead;)Lcom/example/kleio/kleio/AppendResult;" } : Jvm.MethodName)) ∈ tables_1 := List.mem_of_getElem? (i := 42) rfl
theorem own_t44 : (Jvm.Cond.code ({ cls := "com/example/kleio/kleio/AppendResult", name := "appended", desc := "(Lcom/example/kleio/kleio/ChainHead;)Lcom/example/kleio/kleio/AppendResult;" } : Jvm.MethodName) prog_1_method_2_code (1 : Nat) (Option.some (Jvm.ClassFile.FieldType.object "com/example/kleio/kleio/AppendResult"))) ∈ tables_1 := List.mem_of_getElem? (i := 44) rfl
theorem own_t67 : (Jvm.Cond.methodLink "com/example/kleio/kleio/AppendResultAppendedPinLaw" (23 : Nat) ({ cls := "com/example/kleio/kleio/AppendResult", name := "isAppended", desc := "()Z" } : Jvm.MethodName)) ∈ tables_1 := List.mem_of_getElem? (i := 67) rfl
theorem own_pd6 : parseMethodDescriptor "()Z" = some ⟨[], some .boolean⟩ := by decide +kernel
theorem own_t68 : (Jvm.Cond.declares ({ cls := "com/example/kleio/kleio/AppendResult", name := "isAppended", desc := "()Z" } : Jvm.MethodName)) ∈ tables_1 := List.mem_of_getElem? (i := 68) rfl
theorem own_t70 : (Jvm.Cond.selects "com/example/kleio/kleio/AppendResult" ({ cls := "com/example/kleio/kleio/AppendResult", name := "isAppended", desc := "()Z" } : Jvm.MethodName) ({ cls := "com/example/kleio/kleio/AppendResult", name := "isAppended", desc := "()Z" } : Jvm.MethodName)) ∈ tables_1 := List.mem_of_getElem? (i := 70) rfl
theorem own_t69 : (Jvm.Cond.instanceMethod ({ cls := "com/example/kleio/kleio/AppendResult", name := "isAppended", desc := "()Z" } : Jvm.MethodName)) ∈ tables_1 := List.mem_of_getElem? (i := 69) rfl
theorem own_t71 : (Jvm.Cond.code ({ cls := "com/example/kleio/kleio/AppendResult", name := "isAppended", desc := "()Z" } : Jvm.MethodName) prog_1_method_4_code (1 : Nat) (Option.some Jvm.ClassFile.FieldType.boolean)) ∈ tables_1 := List.mem_of_getElem? (i := 71) rfl
theorem own_t72 : (Jvm.Cond.methodLink "com/example/kleio/kleio/AppendResultAppendedPinLaw" (27 : Nat) ({ cls := "com/example/kleio/kleio/AppendResult", name := "failure", desc := "()Ljava/lang/String;" } : Jvm.MethodName)) ∈ tables_1 := List.mem_of_getElem? (i := 72) rfl
theorem own_t73 : (Jvm.Cond.declares ({ cls := "com/example/kleio/kleio/AppendResult", name := "failure", desc := "()Ljava/lang/String;" } : Jvm.MethodName)) ∈ tables_1 := List.mem_of_getElem? (i := 73) rfl
theorem own_t75 : (Jvm.Cond.selects "com/example/kleio/kleio/AppendResult" ({ cls := "com/example/kleio/kleio/AppendResult", name := "failure", desc := "()Ljava/lang/String;" } : Jvm.MethodName) ({ cls := "com/example/kleio/kleio/AppendResult", name := "failure", desc := "()Ljava/lang/String;" } : Jvm.MethodName)) ∈ tables_1 := List.mem_of_getElem? (i := 75) rfl
theorem own_t74 : (Jvm.Cond.instanceMethod ({ cls := "com/example/kleio/kleio/AppendResult", name := "failure", desc := "()Ljava/lang/String;" } : Jvm.MethodName)) ∈ tables_1 := List.mem_of_getElem? (i := 74) rfl
theorem own_t76 : (Jvm.Cond.code ({ cls := "com/example/kleio/kleio/AppendResult", name := "failure", desc := "()Ljava/lang/String;" } : Jvm.MethodName) prog_1_method_7_code (1 : Nat) (Option.some (Jvm.ClassFile.FieldType.object "java/lang/String"))) ∈ tables_1 := List.mem_of_getElem? (i := 76) rfl
theorem own_t77 : (Jvm.Cond.methodLink "com/example/kleio/kleio/AppendResultAppendedPinLaw" (31 : Nat) ({ cls := "com/example/kleio/kleio/AppendResult", name := "seq", desc := "()J" } : Jvm.MethodName)) ∈ tables_1 := List.mem_of_getElem? (i := 77) rfl
theorem own_t78 : (Jvm.Cond.declares ({ cls := "com/example/kleio/kleio/AppendResult", name := "seq", desc := "()J" } : Jvm.MethodName)) ∈ tables_1 := List.mem_of_getElem? (i := 78) rfl
theorem own_t80 : (Jvm.Cond.selects "com/example/kleio/kleio/AppendResult" ({ cls := "com/example/kleio/kleio/AppendResult", name := "seq", desc := "()J" } : Jvm.MethodName) ({ cls := "com/example/kleio/kleio/AppendResult", name := "seq", desc := "()J" } : Jvm.MethodName)) ∈ tables_1 := List.mem_of_getElem? (i := 80) rfl
theorem own_t79 : (Jvm.Cond.instanceMethod ({ cls := "com/example/kleio/kleio/AppendResult", name := "seq", desc := "()J" } : Jvm.MethodName)) ∈ tables_1 := List.mem_of_getElem? (i := 79) rfl
theorem own_t81 : (Jvm.Cond.code ({ cls := "com/example/kleio/kleio/AppendResult", name := "seq", desc := "()J" } : Jvm.MethodName) prog_1_method_5_code (1 : Nat) (Option.some Jvm.ClassFile.FieldType.long)) ∈ tables_1 := List.mem_of_getElem? (i := 81) rfl
theorem own_t86 : (Jvm.Cond.methodLink "com/example/kleio/kleio/AppendResultAppendedPinLaw" (35 : Nat) ({ cls := "com/example/kleio/kleio/AppendResult", name := "hash", desc := "()Ljava/lang/String;" } : Jvm.MethodName)) ∈ tables_1 := List.mem_of_getElem? (i := 86) rfl
theorem own_t87 : (Jvm.Cond.declares ({ cls := "com/example/kleio/kleio/AppendResult", name := "hash", desc := "()Ljava/lang/String;" } : Jvm.MethodName)) ∈ tables_1 := List.mem_of_getElem? (i := 87) rfl
theorem own_t89 : (Jvm.Cond.selects "com/example/kleio/kleio/AppendResult" ({ cls := "com/example/kleio/kleio/AppendResult", name := "hash", desc := "()Ljava/lang/String;" } : Jvm.MethodName) ({ cls := "com/example/kleio/kleio/AppendResult", name := "hash", desc := "()Ljava/lang/String;" } : Jvm.MethodName)) ∈ tables_1 := List.mem_of_getElem? (i := 89) rfl
theorem own_t88 : (Jvm.Cond.instanceMethod ({ cls := "com/example/kleio/kleio/AppendResult", name := "hash", desc := "()Ljava/lang/String;" } : Jvm.MethodName)) ∈ tables_1 := List.mem_of_getElem? (i := 88) rfl
theorem own_t90 : (Jvm.Cond.code ({ cls := "com/example/kleio/kleio/AppendResult", name := "hash", desc := "()Ljava/lang/String;" } : Jvm.MethodName) prog_1_method_6_code (1 : Nat) (Option.some (Jvm.ClassFile.FieldType.object "java/lang/String"))) ∈ tables_1 := List.mem_of_getElem? (i := 90) rfl
theorem own_t91 : (Jvm.Cond.methodLink "com/example/kleio/kleio/AppendResultAppendedPinLaw" (38 : Nat) ({ cls := "java/lang/String", name := "equals", desc := "(Ljava/lang/Object;)Z" } : Jvm.MethodName)) ∈ tables_1 := List.mem_of_getElem? (i := 91) rfl
theorem own_pd7 : parseMethodDescriptor "(Ljava/lang/Object;)Z" = some ⟨[(.object "java/lang/Object")], some .boolean⟩ := by decide +kernel
theorem own_t92 : (Jvm.Cond.declares ({ cls := "java/lang/String", name := "equals", desc := "(Ljava/lang/Object;)Z" } : Jvm.MethodName)) ∈ tables_1 := List.mem_of_getElem? (i := 92) rfl
theorem own_t94 : (Jvm.Cond.selects "java/lang/String" ({ cls := "java/lang/String", name := "equals", desc := "(Ljava/lang/Object;)Z" } : Jvm.MethodName) ({ cls := "java/lang/String", name := "equals", desc := "(Ljava/lang/Object;)Z" } : Jvm.MethodName)) ∈ tables_1 := List.mem_of_getElem? (i := 94) rfl
theorem own_t93 : (Jvm.Cond.instanceMethod ({ cls := "java/lang/String", name := "equals", desc := "(Ljava/lang/Object;)Z" } : Jvm.MethodName)) ∈ tables_1 := List.mem_of_getElem? (i := 93) rfl
theorem own_t95 : (Jvm.Cond.code ({ cls := "java/lang/String", name := "equals", desc := "(Ljava/lang/Object;)Z" } : Jvm.MethodName) jdk_42_method_66_code (3 : Nat) (Option.some Jvm.ClassFile.FieldType.boolean)) ∈ tables_1 := List.mem_of_getElem? (i := 95) rfl
theorem own_pn3 : plainName "com/example/kleio/kleio/AppendResultAppendedPinLaw" = true := by first | (simp [plainName, overriddenIn]; done) | decide +kernel
def own_f0 (y0 : Int64) : Int32 := (if y0 = y0 then (1 : Int32) else (0 : Int32))
def own_Q0 (y0 : Int64) (x1 : Int32) (x2 : Int32) (x3 : Int32) (z_cs : Int32) (h0 : Heap) (n0 : Nat) (v : Option Value) (h : Heap) (L : List Loc) : Prop := v = some (.int (own_f0 y0)) ∧ Fr n0 L ∧ True
theorem own_ef0 (m : MethodId) (z0 : Int64) (z1 : Int32) (z2 : Int32) (z3 : Int32) : entryFrame m #[(.long z0), (.int z1), (.int z2), (.int z3)] maxLocals = mkF m 0 #[.val (.long z0), .second, .val (.int z1), .val (.int z2), .val (.int z3), .unset, .unset, .unset, .unset, .unset] [] := by first | (simp [entryFrame, mkF, argsToLocals, Value.category, maxLocals]; done) | rfl
set_option maxRecDepth 65536 in
set_option maxHeartbeats 40000000 in
theorem rm0 (l : Launch) (Z : State) (a0 : Array Value) (hw : ∀ d ∈ tables_1, d.before a0 Z = true) (ws : List Jvm.Cond) (y0 : Int64) (x1 : Int32) (x2 : Int32) (x3 : Int32) (z_cs : Int32) (h0 : Heap) (n0 : Nat) (Z0 : n0 ≤ h0.size) (O0 : Old Z n0 h0) (S_CS : Sta Z Z.heap "java/lang/String" "COMPACT_STRINGS" "Z" (.int z_cs)) (z_CS : ¬ z_cs = 0) : own_Met l Z x code maxLocals ret ws room_1 #[(.long y0), (.int x1), (.int x2), (.int x3)] h0 (own_Q0 y0 x1 x2 x3 z_cs h0 n0) := by
  refine own_met (plainFor_of_name own_pn3) ?_
  intro p e s m below meth c s₁ hx hby hml hown hnm hret hlk hZ e0 X0
  have N0 := Fr.nil n0
  have hml : c.maxLocals = 10 := hml
  have hown : s.vm.findClass "com/example/kleio/kleio/AppendResultAppendedPinLaw" = some m.cls := hown
  have hret : meth.sig.returnType = (some .boolean) := hret
  have hby : c.code = code := hby
  have hnm : meth.name = "law" := hnm
  rw [own_ef0]
  have hws : ∀ d ∈ StrChars.Road.words, d.before a0 Z = true := fun d hd => hw d ((by decide +kernel : ∀ d ∈ StrChars.Road.words, d ∈ tables_1) d hd)
  show own_Goes p e below _ (s₁.setTop (mkF m 0 #[.val (.long y0), .second, .val (.int x1), .val (.int x2), .val (.int x3), .unset, .unset, .unset, .unset, .unset] []))
  refine own_go (fun t k => XS.iconst X0.here hx rfl (hb hby at_0) k) ?_
  show own_Goes p e below _ (s₁.setTop (mkF m 1 #[.val (.long y0), .second, .val (.int x1), .val (.int x2), .val (.int x3), .unset, .unset, .unset, .unset, .unset] [(.int (3 : Int32))]))
  obtain ⟨T28, h28, k28, X28, e28, E28, A28, st28⟩ := newP X0 hx hZ (aty := .char) (hw _ own_t0) e0 (g := (mkF m 1 #[.val (.long y0), .second, .val (.int x1), .val (.int x2), .val (.int x3), .unset, .unset, .unset, .unset, .unset] [(.int (3 : Int32))])) rfl (hb hby at_1) rfl (by decide) (cap := 3) (by decide) (by decide) (by decide) (by decide)
  obtain ⟨b28, q28⟩ : ∃ z, z = h0.size := ⟨_, rfl⟩
  rw [← q28] at A28 st28
  have lt_b28 : h0.size ≤ b28 := Nat.le_of_eq q28.symm
  have g_b28 : n0 ≤ b28 := Nat.le_trans Z0 lt_b28
  have V28 : Arv Z h28 b28 k28 .char (3 : Int32) [(.int (0 : Int32)), (.int (0 : Int32)), (.int (0 : Int32))] (.int (0 : Int32)) := (Arv.new A28 (by decide)).pad (pad_rep [] (.int (0 : Int32)) 3)
  refine own_go st28 ?_
  show own_Goes p e below _ (T28.setTop (mkF m 3 #[.val (.long y0), .second, .val (.int x1), .val (.int x2), .val (.int x3), .unset, .unset, .unset, .unset, .unset] [(.ref b28)]))
  refine own_go (fun t k => XS.astore X28.here hx rfl (hb hby at_3) rfl rfl (l' := #[.val (.long y0), .second, .val (.int x1), .val (.int x2), .val (.int x3), .val (.ref b28), .unset, .unset, .unset, .unset]) rfl k) ?_
  show own_Goes p e below _ (T28.setTop (mkF m 5 #[.val (.long y0), .second, .val (.int x1), .val (.int x2), .val (.int x3), .val (.ref b28), .unset, .unset, .unset, .unset] []))
  refine own_go (fun t k => XS.aload X28.here hx rfl (hb hby at_5) rfl rfl k) ?_
  show own_Goes p e below _ (T28.setTop (mkF m 7 #[.val (.long y0), .second, .val (.int x1), .val (.int x2), .val (.int x3), .val (.ref b28), .unset, .unset, .unset, .unset] [(.ref b28)]))
  refine own_go (fun t k => XS.iconst X28.here hx rfl (hb hby at_7) k) ?_
  show own_Goes p e below _ (T28.setTop (mkF m 8 #[.val (.long y0), .second, .val (.int x1), .val (.int x2), .val (.int x3), .val (.ref b28), .unset, .unset, .unset, .unset] [(.int (0 : Int32)), (.ref b28)]))
  refine own_go (fun t k => XS.iloadN X28.here hx rfl (hb hby at_8) rfl k) ?_
  show own_Goes p e below _ (T28.setTop (mkF m 9 #[.val (.long y0), .second, .val (.int x1), .val (.int x2), .val (.int x3), .val (.ref b28), .unset, .unset, .unset, .unset] [(.int x1), (.int (0 : Int32)), (.ref b28)]))
  refine own_go (fun t k => XS.sipush X28.here hx rfl (hb hby at_9) k) ?_
  show own_Goes p e below _ (T28.setTop (mkF m 12 #[.val (.long y0), .second, .val (.int x1), .val (.int x2), .val (.int x3), .val (.ref b28), .unset, .unset, .unset, .unset] [(.int (255 : Int32)), (.int x1), (.int (0 : Int32)), (.ref b28)]))
  refine own_go (fun t k => XS.iand X28.here hx rfl (hb hby at_12) rfl k) ?_
  show own_Goes p e below _ (T28.setTop (mkF m 13 #[.val (.long y0), .second, .val (.int x1), .val (.int x2), .val (.int x3), .val (.ref b28), .unset, .unset, .unset, .unset] [(.int (x1 &&& (255 : Int32))), (.int (0 : Int32)), (.ref b28)]))
  refine own_go (fun t k => XS.i2c X28.here hx rfl (hb hby at_13) rfl k) ?_
  show own_Goes p e below _ (T28.setTop (mkF m 14 #[.val (.long y0), .second, .val (.int x1), .val (.int x2), .val (.int x3), .val (.ref b28), .unset, .unset, .unset, .unset] [(.int ((x1 &&& (255 : Int32)).toUInt32.toUInt16.toUInt32.toInt32)), (.int (0 : Int32)), (.ref b28)]))
  obtain ⟨cl29, Ar29, qa29, sa29, na29, ha29, ga29⟩ := id V28
  obtain ⟨T29, h29, X29, e29, W29, st29⟩ := stC X28 hx hZ e28 Ar29 (j := (0 : Int32)) (inb_of sa29 ⟨by decide, by decide⟩) (g := (mkF m 14 #[.val (.long y0), .second, .val (.int x1), .val (.int x2), .val (.int x3), .val (.ref b28), .unset, .unset, .unset, .unset] [(.int ((x1 &&& (255 : Int32)).toUInt32.toUInt16.toUInt32.toInt32)), (.int (0 : Int32)), (.ref b28)])) rfl rfl (hb hby at_14)
  have V29 : Arv Z h29 b28 k28 .char (3 : Int32) [(.int (nar .char ((x1 &&& (255 : Int32)).toUInt32.toUInt16.toUInt32.toInt32))), (.int (0 : Int32)), (.int (0 : Int32))] (.int (0 : Int32)) := Arv.set Ar29 qa29 sa29 na29 ha29 ga29 (fits_nar_char _) W29 0 rfl (Nat.le_of_ble_eq_true rfl)
  have N29 := Fr.snoc X29 N0 g_b28
  refine own_go st29 ?_
  show own_Goes p e below _ (T29.setTop (mkF m 15 #[.val (.long y0), .second, .val (.int x1), .val (.int x2), .val (.int x3), .val (.ref b28), .unset, .unset, .unset, .unset] []))
  refine own_go (fun t k => XS.aload X29.here hx rfl (hb hby at_15) rfl rfl k) ?_
  show own_Goes p e below _ (T29.setTop (mkF m 17 #[.val (.long y0), .second, .val (.int x1), .val (.int x2), .val (.int x3), .val (.ref b28), .unset, .unset, .unset, .unset] [(.ref b28)]))
  refine own_go (fun t k => XS.iconst X29.here hx rfl (hb hby at_17) k) ?_
  show own_Goes p e below _ (T29.setTop (mkF m 18 #[.val (.long y0), .second, .val (.int x1), .val (.int x2), .val (.int x3), .val (.ref b28), .unset, .unset, .unset, .unset] [(.int (1 : Int32)), (.ref b28)]))
  refine own_go (fun t k => XS.iloadN X29.here hx rfl (hb hby at_18) rfl k) ?_
  show own_Goes p e below _ (T29.setTop (mkF m 19 #[.val (.long y0), .second, .val (.int x1), .val (.int x2), .val (.int x3), .val (.ref b28), .unset, .unset, .unset, .unset] [(.int x2), (.int (1 : Int32)), (.ref b28)]))
  refine own_go (fun t k => XS.sipush X29.here hx rfl (hb hby at_19) k) ?_
  show own_Goes p e below _ (T29.setTop (mkF m 22 #[.val (.long y0), .second, .val (.int x1), .val (.int x2), .val (.int x3), .val (.ref b28), .unset, .unset, .unset, .unset] [(.int (255 : Int32)), (.int x2), (.int (1 : Int32)), (.ref b28)]))
  refine own_go (fun t k => XS.iand X29.here hx rfl (hb hby at_22) rfl k) ?_
  show own_Goes p e below _ (T29.setTop (mkF m 23 #[.val (.long y0), .second, .val (.int x1), .val (.int x2), .val (.int x3), .val (.ref b28), .unset, .unset, .unset, .unset] [(.int (x2 &&& (255 : Int32))), (.int (1 : Int32)), (.ref b28)]))
  refine own_go (fun t k => XS.i2c X29.here hx rfl (hb hby at_23) rfl k) ?_
  show own_Goes p e below _ (T29.setTop (mkF m 24 #[.val (.long y0), .second, .val (.int x1), .val (.int x2), .val (.int x3), .val (.ref b28), .unset, .unset, .unset, .unset] [(.int ((x2 &&& (255 : Int32)).toUInt32.toUInt16.toUInt32.toInt32)), (.int (1 : Int32)), (.ref b28)]))
  obtain ⟨cl30, Ar30, qa30, sa30, na30, ha30, ga30⟩ := id V29
  obtain ⟨T30, h30, X30, e30, W30, st30⟩ := stC X29 hx hZ e29 Ar30 (j := (1 : Int32)) (inb_of sa30 ⟨by decide, by decide⟩) (g := (mkF m 24 #[.val (.long y0), .second, .val (.int x1), .val (.int x2), .val (.int x3), .val (.ref b28), .unset, .unset, .unset, .unset] [(.int ((x2 &&& (255 : Int32)).toUInt32.toUInt16.toUInt32.toInt32)), (.int (1 : Int32)), (.ref b28)])) rfl rfl (hb hby at_24)
  have V30 : Arv Z h30 b28 k28 .char (3 : Int32) [(.int (nar .char ((x1 &&& (255 : Int32)).toUInt32.toUInt16.toUInt32.toInt32))), (.int (nar .char ((x2 &&& (255 : Int32)).toUInt32.toUInt16.toUInt32.toInt32))), (.int (0 : Int32))] (.int (0 : Int32)) := Arv.set Ar30 qa30 sa30 na30 ha30 ga30 (fits_nar_char _) W30 1 rfl (Nat.le_of_ble_eq_true rfl)
  have N30 := Fr.snoc X30 N29 g_b28
  refine own_go st30 ?_
  show own_Goes p e below _ (T30.setTop (mkF m 25 #[.val (.long y0), .second, .val (.int x1), .val (.int x2), .val (.int x3), .val (.ref b28), .unset, .unset, .unset, .unset] []))
  refine own_go (fun t k => XS.aload X30.here hx rfl (hb hby at_25) rfl rfl k) ?_
  show own_Goes p e below _ (T30.setTop (mkF m 27 #[.val (.long y0), .second, .val (.int x1), .val (.int x2), .val (.int x3), .val (.ref b28), .unset, .unset, .unset, .unset] [(.ref b28)]))
  refine own_go (fun t k => XS.iconst X30.here hx rfl (hb hby at_27) k) ?_
  show own_Goes p e below _ (T30.setTop (mkF m 28 #[.val (.long y0), .second, .val (.int x1), .val (.int x2), .val (.int x3), .val (.ref b28), .unset, .unset, .unset, .unset] [(.int (2 : Int32)), (.ref b28)]))
  refine own_go (fun t k => XS.iload X30.here hx rfl (hb hby at_28) rfl k) ?_
  show own_Goes p e below _ (T30.setTop (mkF m 30 #[.val (.long y0), .second, .val (.int x1), .val (.int x2), .val (.int x3), .val (.ref b28), .unset, .unset, .unset, .unset] [(.int x3), (.int (2 : Int32)), (.ref b28)]))
  refine own_go (fun t k => XS.sipush X30.here hx rfl (hb hby at_30) k) ?_
  show own_Goes p e below _ (T30.setTop (mkF m 33 #[.val (.long y0), .second, .val (.int x1), .val (.int x2), .val (.int x3), .val (.ref b28), .unset, .unset, .unset, .unset] [(.int (255 : Int32)), (.int x3), (.int (2 : Int32)), (.ref b28)]))
  refine own_go (fun t k => XS.iand X30.here hx rfl (hb hby at_33) rfl k) ?_
  show own_Goes p e below _ (T30.setTop (mkF m 34 #[.val (.long y0), .second, .val (.int x1), .val (.int x2), .val (.int x3), .val (.ref b28), .unset, .unset, .unset, .unset] [(.int (x3 &&& (255 : Int32))), (.int (2 : Int32)), (.ref b28)]))
  refine own_go (fun t k => XS.i2c X30.here hx rfl (hb hby at_34) rfl k) ?_
  show own_Goes p e below _ (T30.setTop (mkF m 35 #[.val (.long y0), .second, .val (.int x1), .val (.int x2), .val (.int x3), .val (.ref b28), .unset, .unset, .unset, .unset] [(.int ((x3 &&& (255 : Int32)).toUInt32.toUInt16.toUInt32.toInt32)), (.int (2 : Int32)), (.ref b28)]))
  obtain ⟨cl31, Ar31, qa31, sa31, na31, ha31, ga31⟩ := id V30
  obtain ⟨T31, h31, X31, e31, W31, st31⟩ := stC X30 hx hZ e30 Ar31 (j := (2 : Int32)) (inb_of sa31 ⟨by decide, by decide⟩) (g := (mkF m 35 #[.val (.long y0), .second, .val (.int x1), .val (.int x2), .val (.int x3), .val (.ref b28), .unset, .unset, .unset, .unset] [(.int ((x3 &&& (255 : Int32)).toUInt32.toUInt16.toUInt32.toInt32)), (.int (2 : Int32)), (.ref b28)])) rfl rfl (hb hby at_35)
  have V31 : Arv Z h31 b28 k28 .char (3 : Int32) [(.int (nar .char ((x1 &&& (255 : Int32)).toUInt32.toUInt16.toUInt32.toInt32))), (.int (nar .char ((x2 &&& (255 : Int32)).toUInt32.toUInt16.toUInt32.toInt32))), (.int (nar .char ((x3 &&& (255 : Int32)).toUInt32.toUInt16.toUInt32.toInt32)))] (.int (0 : Int32)) := Arv.set Ar31 qa31 sa31 na31 ha31 ga31 (fits_nar_char _) W31 2 rfl (Nat.le_of_ble_eq_true rfl)
  have N31 := Fr.snoc X31 N30 g_b28
  refine own_go st31 ?_
  show own_Goes p e below _ (T31.setTop (mkF m 36 #[.val (.long y0), .second, .val (.int x1), .val (.int x2), .val (.int x3), .val (.ref b28), .unset, .unset, .unset, .unset] []))
  obtain ⟨T32, h32, X32, e32, E32, A32, D32, -, st32⟩ := newO X31 hx hZ hown (hw _ own_t1) (hw _ own_t2) (hw _ own_t3) e31 (g := (mkF m 36 #[.val (.long y0), .second, .val (.int x1), .val (.int x2), .val (.int x3), .val (.ref b28), .unset, .unset, .unset, .unset] [])) rfl (hb hby at_36) (by decide) (by decide)
  obtain ⟨b32, q32⟩ : ∃ z, z = h31.size := ⟨_, rfl⟩
  rw [← q32] at A32 D32 st32
  have lt_b32 : h31.size ≤ b32 := Nat.le_of_eq q32.symm
  have ne_b28_b32 : b28 ≠ b32 := Nat.ne_of_lt (Nat.lt_of_lt_of_le V31.lt lt_b32)
  have g_b32 : n0 ≤ b32 := Nat.le_trans (Nat.le_trans (Nat.le_trans (Nat.le_trans (Nat.le_trans Z0 E28.1) (Keep.of_wr W29).1) (Keep.of_wr W30).1) (Keep.of_wr W31).1) lt_b32
  have F32_coder : Fld Z h32 b32 "java/lang/String" "coder" "B" (.int (0 : Int32)) := D32 (Or.inr (hw _ own_t27)) (ty := .byte) (by decide)
  have F32_value : Fld Z h32 b32 "java/lang/String" "value" "[B" .null := D32 (Or.inr (hw _ own_t29)) (ty := (.array .byte)) (by decide)
  refine own_go st32 ?_
  show own_Goes p e below _ (T32.setTop (mkF m 39 #[.val (.long y0), .second, .val (.int x1), .val (.int x2), .val (.int x3), .val (.ref b28), .unset, .unset, .unset, .unset] [(.ref b32)]))
  refine own_go (fun t k => XS.dup X32.here hx rfl (hb hby at_39) rfl rfl k) ?_
  show own_Goes p e below _ (T32.setTop (mkF m 40 #[.val (.long y0), .second, .val (.int x1), .val (.int x2), .val (.int x3), .val (.ref b28), .unset, .unset, .unset, .unset] [(.ref b32), (.ref b32)]))
  refine own_go (fun t k => XS.aload X32.here hx rfl (hb hby at_40) rfl rfl k) ?_
  show own_Goes p e below _ (T32.setTop (mkF m 42 #[.val (.long y0), .second, .val (.int x1), .val (.int x2), .val (.int x3), .val (.ref b28), .unset, .unset, .unset, .unset] [(.ref b28), (.ref b32), (.ref b32)]))
  have oo34 : Old Z n0 h32 := (((((O0.ext E28).wr W29 g_b28).wr W30 g_b28).wr W31 g_b28).ext E32)
  obtain ⟨T33, L33, X33, ⟨-, N33q, K33, G33_0, G33_1, t33, k33, -, lt_t33, -, G33_2, G33_3⟩, st33⟩ := own_newStr X32 hx hZ hown (hw _ own_t4) (hw _ own_t5) (hw _ own_t6) (hw _ own_t2) hws (cs := ([(nar .char ((x1 &&& (255 : Int32)).toUInt32.toUInt16.toUInt32.toInt32)), (nar .char ((x2 &&& (255 : Int32)).toUInt32.toUInt16.toUInt32.toInt32)), (nar .char ((x3 &&& (255 : Int32)).toUInt32.toUInt16.toUInt32.toInt32))] : List Int32)) (n := 3) g_b32 (Nat.le_trans (Nat.le_trans (Nat.le_trans (Nat.le_trans (Nat.le_trans Z0 E28.1) (Keep.of_wr W29).1) (Keep.of_wr W30).1) (Keep.of_wr W31).1) E32.1) A32 F32_value F32_coder (V31.ext E32) (S_CS.ext oo34.2) z_CS rfl rfl (by decide) (by decide) (own_hp x1 x2 x3) e32 (pc := 42) (Ls := #[.val (.long y0), .second, .val (.int x1), .val (.int x2), .val (.int x3), .val (.ref b28), .unset, .unset, .unset, .unset]) (rest := [(.ref b32)]) (W := 1) (by rw [hml]; rfl) (Nat.le_of_eq rfl) (by decide) (by decide) (hb hby at_42) (by decide) (by decide)
  have ne_b28_t33 : b28 ≠ t33 := Nat.ne_of_lt (Nat.lt_of_lt_of_le (V31.ext E32).lt lt_t33)
  have ne_b32_t33 : b32 ≠ t33 := Nat.ne_of_lt (Nat.lt_of_lt_of_le A32.lt lt_t33)
  have g_t33 : n0 ≤ t33 := Nat.le_trans (Nat.le_trans (Nat.le_trans (Nat.le_trans (Nat.le_trans (Nat.le_trans Z0 E28.1) (Keep.of_wr W29).1) (Keep.of_wr W30).1) (Keep.of_wr W31).1) E32.1) lt_t33
  have N33 := Fr.app N31 N33q
  refine own_go st33 ?_
  show own_Goes p e below _ (T33.setTop (mkF m 45 #[.val (.long y0), .second, .val (.int x1), .val (.int x2), .val (.int x3), .val (.ref b28), .unset, .unset, .unset, .unset] [(.ref b32)]))
  refine own_go (fun t k => XS.astore X33.here hx rfl (hb hby at_45) rfl rfl (l' := #[.val (.long y0), .second, .val (.int x1), .val (.int x2), .val (.int x3), .val (.ref b28), .val (.ref b32), .unset, .unset, .unset]) rfl k) ?_
  show own_Goes p e below _ (T33.setTop (mkF m 47 #[.val (.long y0), .second, .val (.int x1), .val (.int x2), .val (.int x3), .val (.ref b28), .val (.ref b32), .unset, .unset, .unset] []))
  obtain ⟨T35, h35, X35, e35, E35, A35, D35, -, st35⟩ := newO X33 hx hZ hown (hw _ own_t30) (hw _ own_t31) (hw _ own_t32) rfl (g := (mkF m 47 #[.val (.long y0), .second, .val (.int x1), .val (.int x2), .val (.int x3), .val (.ref b28), .val (.ref b32), .unset, .unset, .unset] [])) rfl (hb hby at_47) (by decide) (by decide)
  obtain ⟨b35, q35⟩ : ∃ z, z = T33.heap.size := ⟨_, rfl⟩
  rw [← q35] at A35 D35 st35
  have lt_b35 : T33.heap.size ≤ b35 := Nat.le_of_eq q35.symm
  have ne_b28_b35 : b28 ≠ b35 := Nat.ne_of_lt (Nat.lt_of_lt_of_le ((V31.ext E32).keep K33 (fun z => ne_b28_b32 (List.mem_singleton.mp z))).lt lt_b35)
  have ne_b32_b35 : b32 ≠ b35 := Nat.ne_of_lt (Nat.lt_of_lt_of_le G33_0.lt lt_b35)
  have ne_t33_b35 : t33 ≠ b35 := Nat.ne_of_lt (Nat.lt_of_lt_of_le G33_3.lt lt_b35)
  have g_b35 : n0 ≤ b35 := Nat.le_trans (Nat.le_trans (Nat.le_trans (Nat.le_trans (Nat.le_trans (Nat.le_trans (Nat.le_trans Z0 E28.1) (Keep.of_wr W29).1) (Keep.of_wr W30).1) (Keep.of_wr W31).1) E32.1) K33.1) lt_b35
  have F35_seq : Fld Z h35 b35 "com/example/kleio/kleio/ChainHead" "seq" "J" (.long (0 : Int64)) := D35 (Or.inr (hw _ own_t38)) (ty := .long) (by decide)
  have F35_hash : Fld Z h35 b35 "com/example/kleio/kleio/ChainHead" "hash" "Ljava/lang/String;" .null := D35 (Or.inr (hw _ own_t40)) (ty := (.object "java/lang/String")) (by decide)
  refine own_go st35 ?_
  show own_Goes p e below _ (T35.setTop (mkF m 50 #[.val (.long y0), .second, .val (.int x1), .val (.int x2), .val (.int x3), .val (.ref b28), .val (.ref b32), .unset, .unset, .unset] [(.ref b35)]))
  refine own_go (fun t k => XS.dup X35.here hx rfl (hb hby at_50) rfl rfl k) ?_
  show own_Goes p e below _ (T35.setTop (mkF m 51 #[.val (.long y0), .second, .val (.int x1), .val (.int x2), .val (.int x3), .val (.ref b28), .val (.ref b32), .unset, .unset, .unset] [(.ref b35), (.ref b35)]))
  refine own_go (fun t k => XS.lloadN X35.here hx rfl (hb hby at_51) rfl k) ?_
  show own_Goes p e below _ (T35.setTop (mkF m 52 #[.val (.long y0), .second, .val (.int x1), .val (.int x2), .val (.int x3), .val (.ref b28), .val (.ref b32), .unset, .unset, .unset] [(.long y0), (.ref b35), (.ref b35)]))
  refine own_go (fun t k => XS.aload X35.here hx rfl (hb hby at_52) rfl rfl k) ?_
  show own_Goes p e below _ (T35.setTop (mkF m 54 #[.val (.long y0), .second, .val (.int x1), .val (.int x2), .val (.int x3), .val (.ref b28), .val (.ref b32), .unset, .unset, .unset] [(.ref b32), (.long y0), (.ref b35), (.ref b35)]))
  obtain ⟨_, T36, L36, X36, ⟨rfl, N36q, K36, G36_0, G36_1, G36_2⟩, st36⟩ := own_callI X35 hx hZ rfl hown (hw _ own_t33) (hw _ own_t34) (hw _ own_t32) (hw _ own_t35) (by decide) (b := b35) (as := [(.long y0), (.ref b32)]) (rm7 l Z a0 hw [] b35 y0 b32 h35 n0 (Nat.le_trans (Nat.le_trans (Nat.le_trans (Nat.le_trans (Nat.le_trans (Nat.le_trans (Nat.le_trans Z0 E28.1) (Keep.of_wr W29).1) (Keep.of_wr W30).1) (Keep.of_wr W31).1) E32.1) K33.1) E35.1) g_b35 A35 F35_seq F35_hash) e35 own_pd4 rfl (pc := 54) (Ls := #[.val (.long y0), .second, .val (.int x1), .val (.int x2), .val (.int x3), .val (.ref b28), .val (.ref b32), .unset, .unset, .unset]) (rest := [(.ref b35)]) (W := 1) (by rw [hml]; rfl) (Nat.le_of_eq rfl) (by decide) (by decide) (hb hby at_54) (by decide) (by decide)
  have N36 := Fr.app N33 N36q
  refine own_go st36 ?_
  show own_Goes p e below _ (T36.setTop (mkF m 57 #[.val (.long y0), .second, .val (.int x1), .val (.int x2), .val (.int x3), .val (.ref b28), .val (.ref b32), .unset, .unset, .unset] [(.ref b35)]))
  refine own_go (fun t k => XS.astore X36.here hx rfl (hb hby at_57) rfl rfl (l' := #[.val (.long y0), .second, .val (.int x1), .val (.int x2), .val (.int x3), .val (.ref b28), .val (.ref b32), .val (.ref b35), .unset, .unset]) rfl k) ?_
  show own_Goes p e below _ (T36.setTop (mkF m 59 #[.val (.long y0), .second, .val (.int x1), .val (.int x2), .val (.int x3), .val (.ref b28), .val (.ref b32), .val (.ref b35), .unset, .unset] []))
  refine own_go (fun t k => XS.aload X36.here hx rfl (hb hby at_59) rfl rfl k) ?_
  show own_Goes p e below _ (T36.setTop (mkF m 61 #[.val (.long y0), .second, .val (.int x1), .val (.int x2), .val (.int x3), .val (.ref b28), .val (.ref b32), .val (.ref b35), .unset, .unset] [(.ref b35)]))
  obtain ⟨_, T37, L37, X37, ⟨b37, rfl, N37q, K37, lt_b37, G37_0, G37_1, G37_2, G37_3⟩, st37⟩ := own_callS X36 hx hZ hown (hw _ own_t41) (hw _ own_t42) (hw _ own_t43) (hw _ own_t44) (by decide) (as := [(.ref b35)]) (rm8 l Z a0 hw [] b35 y0 b32 T36.heap n0 (Nat.le_trans (Nat.le_trans (Nat.le_trans (Nat.le_trans (Nat.le_trans (Nat.le_trans (Nat.le_trans (Nat.le_trans Z0 E28.1) (Keep.of_wr W29).1) (Keep.of_wr W30).1) (Keep.of_wr W31).1) E32.1) K33.1) E35.1) K36.1) G36_0 G36_1 G36_2) rfl own_pd5 rfl (pc := 61) (Ls := #[.val (.long y0), .second, .val (.int x1), .val (.int x2), .val (.int x3), .val (.ref b28), .val (.ref b32), .val (.ref b35), .unset, .unset]) (rest := []) (W := 0) (by rw [hml]; rfl) (Nat.le_of_eq rfl) (by decide) (by decide) (hb hby at_61) (by decide) (by decide)
  have N37 := Fr.app N36 N37q
  have ne_b28_b37 : b28 ≠ b37 := Nat.ne_of_lt (Nat.lt_of_lt_of_le ((((V31.ext E32).keep K33 (fun z => ne_b28_b32 (List.mem_singleton.mp z))).ext E35).keep K36 (fun z => ne_b28_b35 (List.mem_singleton.mp z))).lt lt_b37)
  have ne_b32_b37 : b32 ≠ b37 := Nat.ne_of_lt (Nat.lt_of_lt_of_le ((G33_0.ext E35).keep K36).lt lt_b37)
  have ne_t33_b37 : t33 ≠ b37 := Nat.ne_of_lt (Nat.lt_of_lt_of_le ((G33_3.ext E35).keep K36 (fun z => ne_t33_b35 (List.mem_singleton.mp z))).lt lt_b37)
  have ne_b35_b37 : b35 ≠ b37 := Nat.ne_of_lt (Nat.lt_of_lt_of_le G36_0.lt lt_b37)
  have g_b37 : n0 ≤ b37 := Nat.le_trans (Nat.le_trans (Nat.le_trans (Nat.le_trans (Nat.le_trans (Nat.le_trans (Nat.le_trans (Nat.le_trans (Nat.le_trans Z0 E28.1) (Keep.of_wr W29).1) (Keep.of_wr W30).1) (Keep.of_wr W31).1) E32.1) K33.1) E35.1) K36.1) lt_b37
  refine own_go st37 ?_
  show own_Goes p e below _ (T37.setTop (mkF m 64 #[.val (.long y0), .second, .val (.int x1), .val (.int x2), .val (.int x3), .val (.ref b28), .val (.ref b32), .val (.ref b35), .unset, .unset] [(.ref b37)]))
  refine own_go (fun t k => XS.astore X37.here hx rfl (hb hby at_64) rfl rfl (l' := #[.val (.long y0), .second, .val (.int x1), .val (.int x2), .val (.int x3), .val (.ref b28), .val (.ref b32), .val (.ref b35), .val (.ref b37), .unset]) rfl k) ?_
  show own_Goes p e below _ (T37.setTop (mkF m 66 #[.val (.long y0), .second, .val (.int x1), .val (.int x2), .val (.int x3), .val (.ref b28), .val (.ref b32), .val (.ref b35), .val (.ref b37), .unset] []))
  refine own_go (fun t k => XS.aload X37.here hx rfl (hb hby at_66) rfl rfl k) ?_
  show own_Goes p e below _ (T37.setTop (mkF m 68 #[.val (.long y0), .second, .val (.int x1), .val (.int x2), .val (.int x3), .val (.ref b28), .val (.ref b32), .val (.ref b35), .val (.ref b37), .unset] [(.ref b37)]))
  obtain ⟨_, T38, L38, X38, ⟨rfl, N38q, e38⟩, st38⟩ := own_callV X37 hx hZ hown (hw _ own_t67) (hw _ own_t68) (hw _ own_t70) (hw _ own_t69) (hw _ own_t43) (hw _ own_t71) (by decide) (b := b37) (as := []) (rm12 l Z a0 hw [] b37 T37.heap n0 G37_3) rfl G37_0 own_pd6 rfl (pc := 68) (Ls := #[.val (.long y0), .second, .val (.int x1), .val (.int x2), .val (.int x3), .val (.ref b28), .val (.ref b32), .val (.ref b35), .val (.ref b37), .unset]) (rest := []) (W := 0) (by rw [hml]; rfl) (Nat.le_of_eq rfl) (by decide) (by decide) (hb hby at_68) (by decide) (by decide)
  have N38 := Fr.app N37 N38q
  refine own_go st38 ?_
  show own_Goes p e below _ (T38.setTop (mkF m 71 #[.val (.long y0), .second, .val (.int x1), .val (.int x2), .val (.int x3), .val (.ref b28), .val (.ref b32), .val (.ref b35), .val (.ref b37), .unset] [(.int (1 : Int32))]))
  have hd39 : ¬ ((1 : Int32) = (0 : Int32)) := (by decide)
  refine own_go (fun t k => XS.ifYes X38.here hx rfl (pc0 := 71) (pc' := 76) rfl (hb hby at_71) rfl ((if0 _ _).trans (feq hd39).2) (by decide) (by decide) k) ?_
  show own_Goes p e below _ (T38.setTop (mkF m 76 #[.val (.long y0), .second, .val (.int x1), .val (.int x2), .val (.int x3), .val (.ref b28), .val (.ref b32), .val (.ref b35), .val (.ref b37), .unset] []))
  refine own_go (fun t k => XS.aload X38.here hx rfl (hb hby at_76) rfl rfl k) ?_
  show own_Goes p e below _ (T38.setTop (mkF m 78 #[.val (.long y0), .second, .val (.int x1), .val (.int x2), .val (.int x3), .val (.ref b28), .val (.ref b32), .val (.ref b35), .val (.ref b37), .unset] [(.ref b37)]))
  obtain ⟨_, T40, L40, X40, ⟨rfl, N40q, e40⟩, st40⟩ := own_callV X38 hx hZ hown (hw _ own_t72) (hw _ own_t73) (hw _ own_t75) (hw _ own_t74) (hw _ own_t43) (hw _ own_t76) (by decide) (b := b37) (as := []) (rm13 l Z a0 hw [] b37 T37.heap n0 G37_3) e38 G37_0 own_pd1 rfl (pc := 78) (Ls := #[.val (.long y0), .second, .val (.int x1), .val (.int x2), .val (.int x3), .val (.ref b28), .val (.ref b32), .val (.ref b35), .val (.ref b37), .unset]) (rest := []) (W := 0) (by rw [hml]; rfl) (Nat.le_of_eq rfl) (by decide) (by decide) (hb hby at_78) (by decide) (by decide)
  have N40 := Fr.app N38 N40q
  refine own_go st40 ?_
  show own_Goes p e below _ (T40.setTop (mkF m 81 #[.val (.long y0), .second, .val (.int x1), .val (.int x2), .val (.int x3), .val (.ref b28), .val (.ref b32), .val (.ref b35), .val (.ref b37), .unset] [.null]))
  refine own_go (fun t k => XS.ifnullYes X40.here hx rfl (pc0 := 81) (pc' := 86) rfl (hb hby at_81) rfl (by decide) (by decide) k) ?_
  show own_Goes p e below _ (T40.setTop (mkF m 86 #[.val (.long y0), .second, .val (.int x1), .val (.int x2), .val (.int x3), .val (.ref b28), .val (.ref b32), .val (.ref b35), .val (.ref b37), .unset] []))
  refine own_go (fun t k => XS.aload X40.here hx rfl (hb hby at_86) rfl rfl k) ?_
  show own_Goes p e below _ (T40.setTop (mkF m 88 #[.val (.long y0), .second, .val (.int x1), .val (.int x2), .val (.int x3), .val (.ref b28), .val (.ref b32), .val (.ref b35), .val (.ref b37), .unset] [(.ref b37)]))
  obtain ⟨_, T41, L41, X41, ⟨rfl, N41q, e41⟩, st41⟩ := own_callV X40 hx hZ hown (hw _ own_t77) (hw _ own_t78) (hw _ own_t80) (hw _ own_t79) (hw _ own_t43) (hw _ own_t81) (by decide) (b := b37) (as := []) (rm14 l Z a0 hw [] b37 y0 T37.heap n0 G37_0 G37_3 G37_1) e40 G37_0 own_pd0 rfl (pc := 88) (Ls := #[.val (.long y0), .second, .val (.int x1), .val (.int x2), .val (.int x3), .val (.ref b28), .val (.ref b32), .val (.ref b35), .val (.ref b37), .unset]) (rest := []) (W := 0) (by rw [hml]; rfl) (Nat.le_of_eq rfl) (by decide) (by decide) (hb hby at_88) (by decide) (by decide)
  have N41 := Fr.app N40 N41q
  refine own_go st41 ?_
  show own_Goes p e below _ (T41.setTop (mkF m 91 #[.val (.long y0), .second, .val (.int x1), .val (.int x2), .val (.int x3), .val (.ref b28), .val (.ref b32), .val (.ref b35), .val (.ref b37), .unset] [(.long y0)]))
  refine own_go (fun t k => XS.lloadN X41.here hx rfl (hb hby at_91) rfl k) ?_
  show own_Goes p e below _ (T41.setTop (mkF m 92 #[.val (.long y0), .second, .val (.int x1), .val (.int x2), .val (.int x3), .val (.ref b28), .val (.ref b32), .val (.ref b35), .val (.ref b37), .unset] [(.long y0), (.long y0)]))
  refine own_go (fun t k => XS.lcmp X41.here hx rfl (hb hby at_92) rfl k) ?_
  show own_Goes p e below _ (T41.setTop (mkF m 93 #[.val (.long y0), .second, .val (.int x1), .val (.int x2), .val (.int x3), .val (.ref b28), .val (.ref b32), .val (.ref b35), .val (.ref b37), .unset] [(.int (lcmpW y0 y0))]))
  by_cases hc42 : y0 = y0
  · refine own_go (fun t k => XS.ifYes X41.here hx rfl (pc0 := 93) (pc' := 98) rfl (hb hby at_93) rfl ((if0 _ _).trans (teq ((lw_eq _ _).mpr hc42)).1) (by decide) (by decide) k) ?_
    show own_Goes p e below _ (T41.setTop (mkF m 98 #[.val (.long y0), .second, .val (.int x1), .val (.int x2), .val (.int x3), .val (.ref b28), .val (.ref b32), .val (.ref b35), .val (.ref b37), .unset] []))
    refine own_go (fun t k => XS.aload X41.here hx rfl (hb hby at_98) rfl rfl k) ?_
    show own_Goes p e below _ (T41.setTop (mkF m 100 #[.val (.long y0), .second, .val (.int x1), .val (.int x2), .val (.int x3), .val (.ref b28), .val (.ref b32), .val (.ref b35), .val (.ref b37), .unset] [(.ref b37)]))
    obtain ⟨_, T43, L43, X43, ⟨rfl, N43q, e43⟩, st43⟩ := own_callV X41 hx hZ hown (hw _ own_t86) (hw _ own_t87) (hw _ own_t89) (hw _ own_t88) (hw _ own_t43) (hw _ own_t90) (by decide) (b := b37) (as := []) (rm16 l Z a0 hw [] b37 b32 T37.heap n0 G37_0 G37_3 G37_2) e41 G37_0 own_pd1 rfl (pc := 100) (Ls := #[.val (.long y0), .second, .val (.int x1), .val (.int x2), .val (.int x3), .val (.ref b28), .val (.ref b32), .val (.ref b35), .val (.ref b37), .unset]) (rest := []) (W := 0) (by rw [hml]; rfl) (Nat.le_of_eq rfl) (by decide) (by decide) (hb hby at_100) (by decide) (by decide)
    have N43 := Fr.app N41 N43q
    refine own_go st43 ?_
    show own_Goes p e below _ (T43.setTop (mkF m 103 #[.val (.long y0), .second, .val (.int x1), .val (.int x2), .val (.int x3), .val (.ref b28), .val (.ref b32), .val (.ref b35), .val (.ref b37), .unset] [(.ref b32)]))
    refine own_go (fun t k => XS.astore X43.here hx rfl (hb hby at_103) rfl rfl (l' := #[.val (.long y0), .second, .val (.int x1), .val (.int x2), .val (.int x3), .val (.ref b28), .val (.ref b32), .val (.ref b35), .val (.ref b37), .val (.ref b32)]) rfl k) ?_
    show own_Goes p e below _ (T43.setTop (mkF m 105 #[.val (.long y0), .second, .val (.int x1), .val (.int x2), .val (.int x3), .val (.ref b28), .val (.ref b32), .val (.ref b35), .val (.ref b37), .val (.ref b32)] []))
    refine own_go (fun t k => XS.aload X43.here hx rfl (hb hby at_105) rfl rfl k) ?_
    show own_Goes p e below _ (T43.setTop (mkF m 107 #[.val (.long y0), .second, .val (.int x1), .val (.int x2), .val (.int x3), .val (.ref b28), .val (.ref b32), .val (.ref b35), .val (.ref b37), .val (.ref b32)] [(.ref b32)]))
    refine own_go (fun t k => XS.ifnonnullYes X43.here hx rfl (pc0 := 107) (pc' := 112) rfl (hb hby at_107) rfl (by decide) (by decide) k) ?_
    show own_Goes p e below _ (T43.setTop (mkF m 112 #[.val (.long y0), .second, .val (.int x1), .val (.int x2), .val (.int x3), .val (.ref b28), .val (.ref b32), .val (.ref b35), .val (.ref b37), .val (.ref b32)] []))
    refine own_go (fun t k => XS.aload X43.here hx rfl (hb hby at_112) rfl rfl k) ?_
    show own_Goes p e below _ (T43.setTop (mkF m 114 #[.val (.long y0), .second, .val (.int x1), .val (.int x2), .val (.int x3), .val (.ref b28), .val (.ref b32), .val (.ref b35), .val (.ref b37), .val (.ref b32)] [(.ref b32)]))
    refine own_go (fun t k => XS.aload X43.here hx rfl (hb hby at_114) rfl rfl k) ?_
    show own_Goes p e below _ (T43.setTop (mkF m 116 #[.val (.long y0), .second, .val (.int x1), .val (.int x2), .val (.int x3), .val (.ref b28), .val (.ref b32), .val (.ref b35), .val (.ref b37), .val (.ref b32)] [(.ref b32), (.ref b32)]))
    have ff45 : Exa Z T37.heap b32 "java/lang/String" := (((G33_0.ext E35).keep K36).keep K37)
    obtain ⟨_, T44, L44, X44, ⟨rfl, N44q, e44⟩, st44⟩ := own_callV X43 hx hZ hown (hw _ own_t91) (hw _ own_t92) (hw _ own_t94) (hw _ own_t93) (hw _ own_t3) (hw _ own_t95) (by decide) (b := b32) (as := [(.ref b32)]) (rm17 l Z a0 hw [] b32 T37.heap n0) e43 ff45 own_pd7 rfl (pc := 116) (Ls := #[.val (.long y0), .second, .val (.int x1), .val (.int x2), .val (.int x3), .val (.ref b28), .val (.ref b32), .val (.ref b35), .val (.ref b37), .val (.ref b32)]) (rest := []) (W := 0) (by rw [hml]; rfl) (Nat.le_of_eq rfl) (by decide) (by decide) (hb hby at_116) (by decide) (by decide)
    have N44 := Fr.app N43 N44q
    refine own_go st44 ?_
    show own_Goes p e below _ (T44.setTop (mkF m 119 #[.val (.long y0), .second, .val (.int x1), .val (.int x2), .val (.int x3), .val (.ref b28), .val (.ref b32), .val (.ref b35), .val (.ref b37), .val (.ref b32)] [(.int (1 : Int32))]))
    exact own_retN X44 hx hlk hret (by simp) (z' := (1 : Int32)) rfl (hb hby at_119) (by decide) (by decide) ⟨by rw [own_f0, if_pos hc42], N44, trivial⟩
  · refine own_go (fun t k => XS.ifNo X41.here hx rfl (hb hby at_93) rfl ((if0 _ _).trans (feq (fun q => hc42 ((lw_eq _ _).mp q))).1) k) ?_
    show own_Goes p e below _ (T41.setTop (mkF m 96 #[.val (.long y0), .second, .val (.int x1), .val (.int x2), .val (.int x3), .val (.ref b28), .val (.ref b32), .val (.ref b35), .val (.ref b37), .unset] []))
    refine own_go (fun t k => XS.iconst X41.here hx rfl (hb hby at_96) k) ?_
    show own_Goes p e below _ (T41.setTop (mkF m 97 #[.val (.long y0), .second, .val (.int x1), .val (.int x2), .val (.int x3), .val (.ref b28), .val (.ref b32), .val (.ref b35), .val (.ref b37), .unset] [(.int (0 : Int32))]))
    exact own_retN X41 hx hlk hret (by simp) (z' := (0 : Int32)) rfl (hb hby at_97) (by decide) (by decide) ⟨by rw [own_f0, if_neg hc42], N41, trivial⟩
theorem own_law (a : Int64) : own_f0 a = 1 := by
  unfold own_f0
  rw [if_pos rfl]
set_option maxRecDepth 65536 in
set_option maxHeartbeats 40000000 in
theorem comes_1 {Post : Tables → Env → Array Value → State → Outcome → State → Prop} (hpost : ∀ tb e args s v u, (limb_1_1.after args s (.returned v) u = true ∧ limb_1_2.after args s (.returned v) u = true) → FrameEnd s (.returned v) u (Jvm.fieldLocs frame_1_writes args s ++ Jvm.arrayLocs frame_1_arrays args s ++ Jvm.staticLocs frame_1_statics s) 24 128 → Post tb e args s (.returned v) u) :
    ArmFor flags0 classFile x code maxLocals ret World_1 tables_1 room_1 Calls_1 rest_1 Pre_1 Post := by
  intro l hfl _ _ p e ha hc hk s m args below hf hA hF happ hP
  obtain ⟨hcalls, hrest, hpre⟩ := hP
  obtain ⟨-, -, -, hnamed, -, -, -, hat⟩ := (Spec.applies_iff hf).mp happ
  obtain ⟨hg, hn⟩ := and_e (Cond.before_iff.mp (show (Jvm.Cond.and given_1 narrow_1).before args s = true from hpre))
  obtain ⟨gg1, gg2⟩ := and_e hg
  obtain ⟨gg3, gg4⟩ := and_e gg2
  obtain ⟨gg5, gg6⟩ := and_e gg4
  obtain ⟨gg7, gg8⟩ := and_e gg6
  obtain ⟨w0, w1, w2, w3, rfl⟩ : ∃ w0 w1 w2 w3 : Value, args = #[w0, w1, w2, w3] := by
    have hs : args.size = 4 := by simpa [Cond.value, given_1] using gg1
    obtain ⟨L⟩ := args
    match L, hs with
    | [w0, w1, w2, w3], _ => exact ⟨w0, w1, w2, w3, rfl⟩
  have hw := fun d (hd : d ∈ tables_1) => atoms_spec (ws := Jvm.Cond.code x code maxLocals ret :: tables_1) hat d (List.mem_cons_of_mem _ hd)
  have hfit : Fit s := fun {y c} hc i hi => by
    obtain ⟨ha, rfl⟩ := Array.getElem?_eq_some_iff.mp hc
    have q := List.all_eq_true.mp ((Array.all_eq_true_iff_forall_mem.mp hF) _ (Array.getElem_mem ha)) i (List.mem_range.mpr hi)
    simpa [Array.getElem?_eq_getElem hi] using q
  obtain ⟨hsets, hown0⟩ := atoms_of _ (rest_1_c_eq ▸ (show rest_1_c.before _ s = true from hrest))
  have hr0 := Cond.before_iff.mp hown0
  obtain ⟨i0, ei0⟩ := isL_v gg3
  obtain rfl : w0 = (.long i0) := Option.some.inj ei0
  obtain ⟨i1, ei1⟩ := is_v gg5
  obtain rfl : w1 = (.int i1) := Option.some.inj ei1
  obtain ⟨i2, ei2⟩ := is_v gg7
  obtain rfl : w2 = (.int i2) := Option.some.inj ei2
  obtain ⟨i3, ei3⟩ := is_v gg8
  obtain rfl : w3 = (.int i3) := Option.some.inj ei3
  obtain ⟨z_cs, v_cs⟩ := is_v (Cond.before_iff.mp (hsets _ (List.mem_of_getElem? (i := 1) rfl)))
  have S_CS := Sta.start v_cs (Or.inl (hsets _ (List.mem_of_getElem? (i := 0) rfl)))
  have z_CS : ¬ z_cs = 0 := own_nz v_cs (Cond.before_iff.mp (hsets _ (List.mem_of_getElem? (i := 2) rfl)))
  obtain ⟨n, o, h1, h2, h3, v, L, rfl, hQ, hq⟩ := rm0 l s _ hw tables_1 i0 i1 i2 i3 z_cs s.heap s.heap.size (Nat.le_refl _) (Old.start s) S_CS z_CS p e ha hc hk s m _ below hf ((Spec.applies_iff_loose hf).mp happ).1 ⟨rfl, State.Warmed39.refl s, rfl⟩ trivial
  obtain ⟨hv, N, -⟩ := hQ
  rw [show (own_f0 i0 : Int32) = 1 from own_law i0] at hv
  subst hv
  refine ⟨n, _, h1, h2, h3, hpost _ _ _ _ _ _ ⟨Cond.after_iff.mpr rfl, Cond.after_iff.mpr (eq_i res_at (Term.int_eval (1)) rfl)⟩ ⟨hq.1, hq.2.1, (hq.2.2.sift fun y hy => Or.inr (N y hy)).mono (by decide) (by decide)⟩⟩
theorem main_1_1 : Claimed_1_1 := comes_1 fun _ _ _ _ _ _ h hF => ⟨h.1, hF⟩
theorem main_1_2 : Claimed_1_2 := comes_1 fun _ _ _ _ _ _ h hF => ⟨h.2, hF⟩
end Jvm.Pilot.@@N@@
namespace Jvm.Pilot.@@N@@
open Jvm Jvm.ClassFile Sem Op Lib Jvm.Free Jvm.Stand Jvm.Pilot.@@N@@.Jvm.D
/-! MADE BY PROGRAM (witnessworld.py) out of the Statement's table words and the real class files: 21 classes; the members and pool entries that the words name. The judged class is class 1, her method 1. -/
namespace start1
open Jvm.ClassFile
def u (s : String) : CpInfo := .utf8 (stringToUtf16 s)
/-- a pool by its gaps: so many unusable entries, then the entry; so many at the end -/
def gap : Nat → List CpInfo → List CpInfo
  | 0, r => r
  | n + 1, r => .unusable :: gap n r
def poolList (es : List (Nat × CpInfo)) (last : Nat) : List CpInfo := es.foldr (fun e r => gap e.1 (e.2 :: r)) (gap last [])
def pool (es : List (Nat × CpInfo)) (last : Nat) : Array CpInfo := ⟨poolList es last⟩
def fileOf (pool : Array CpInfo) (this : Nat) (attrs : Array Attribute := #[]) (ms : Array MethodInfo := #[]) (fl : Nat := 33) (sup : Nat := 0) (ifs : Array Nat := #[]) (fds : Array FieldInfo := #[]) : ClassFile where
  minorVersion := 0
  majorVersion := 65
  constantPool := pool
  accessFlags := fl
  thisClass := this
  superClass := sup
  interfaces := ifs
  fields := fds
  methods := ms
  attributes := attrs
def plain (name : String) (sup : Option ClassId) : Class where
  name := name
  kind := .ordinary
  loader := none
  accessFlags := 33
  super := sup
  interfaces := #[]
  cf := none
  fields := #[]
  methods := #[]
  instanceTypes := #[]
  staticTypes := #[]
  resolved := #[]
  callSites := []
  init := .initialized
  statics := none
  mirror := none

def pool0 : Array CpInfo := pool [(5, u "<init>"), (0, u "()V"), (1, .class_ 10), (1, u "java/lang/Object")] 113

def k0c0 : Code := { maxStack := 0, maxLocals := 1, code := object_method_1_code, exceptionTable := #[], attributes := #[] }
def k0m0 : Method := { name := "<init>", desc := "()V", sig := { parameters := [], returnType := none }, accessFlags := 1, code := some k0c0 }
/-- java/lang/Object -/
def k0 : Class := { plain "java/lang/Object" none with
  accessFlags := 33
  interfaces := #[]
  cf := some (fileOf pool0 8 #[] #[{ accessFlags := 1, nameIndex := 5, descriptorIndex := 6, attributes := #[] }] 33 0 #[] #[])
  fields := #[]
  methods := #[k0m0]
  instanceTypes := #[]
  staticTypes := #[]
  resolved := Array.replicate 124 none
  statics := none }

def pool1 : Array CpInfo := pool [(2, .class_ 4), (1, u "java/lang/Object"), (0, u "<init>"), (0, u "()V"), (0, .class_ 8), (0, u "java/lang/String"), (0, .methodref 7 10), (0, .nameAndType 5 11), (0, u "([C)V"), (0, .class_ 13), (0, u "com/example/kleio/kleio/ChainHead"), (0, .methodref 12 15), (0, .nameAndType 5 16), (0, u "(JLjava/lang/String;)V"), (0, .methodref 18 19), (0, .class_ 20), (0, .nameAndType 21 22), (0, u "com/example/kleio/kleio/AppendResult"), (0, u "appended"), (0, u "(Lcom/example/kleio/kleio/ChainHead;)Lcom/example/kleio/kleio/AppendResult;"), (0, .methodref 18 24), (0, .nameAndType 25 26), (0, u "isAppended"), (0, u "()Z"), (0, .methodref 18 28), (0, .nameAndType 29 30), (0, u "failure"), (0, u "()Ljava/lang/String;"), (0, .methodref 18 32), (0, .nameAndType 33 34), (0, u "seq"), (0, u "()J"), (0, .methodref 18 36), (0, .nameAndType 37 30), (0, u "hash"), (0, .methodref 7 39), (0, .nameAndType 40 41), (0, u "equals"), (0, u "(Ljava/lang/Object;)Z"), (0, .class_ 43), (0, u "com/example/kleio/kleio/AppendResultAppendedPinLaw"), (2, u "law"), (0, u "(JIII)Z")] 5

def k1m0 : Method := { name := "<init>", desc := "()V", sig := { parameters := [], returnType := none }, accessFlags := 1, code := none }
def k1c1 : Code := { maxStack := 5, maxLocals := 10, code := code, exceptionTable := #[], attributes := #[] }
def k1m1 : Method := { name := "law", desc := "(JIII)Z", sig := { parameters := [.long, .int, .int, .int], returnType := some .boolean }, accessFlags := 9, code := some k1c1 }
/-- com/example/kleio/kleio/AppendResultAppendedPinLaw -/
def k1 : Class := { plain "com/example/kleio/kleio/AppendResultAppendedPinLaw" (some 0) with
  accessFlags := 49
  interfaces := #[]
  cf := some (fileOf pool1 42 #[] #[{ accessFlags := 1, nameIndex := 5, descriptorIndex := 6, attributes := #[] }, { accessFlags := 9, nameIndex := 46, descriptorIndex := 47, attributes := #[] }] 49 2 #[] #[])
  fields := #[]
  methods := #[k1m0, k1m1]
  instanceTypes := #[]
  staticTypes := #[]
  resolved := Array.replicate 53 none
  statics := none }

def pool2 : Array CpInfo := pool [(1, .class_ 2), (0, u "java/io/Serializable"), (0, .class_ 4), (0, u "java/lang/Object")] 2

/-- java/io/Serializable -/
def k2 : Class := { plain "java/io/Serializable" (some 0) with
  accessFlags := 1537
  interfaces := #[]
  cf := some (fileOf pool2 1 #[] #[] 1537 3 #[] #[])
  fields := #[]
  methods := #[]
  instanceTypes := #[]
  staticTypes := #[]
  resolved := Array.replicate 7 none
  statics := none }

def pool3 : Array CpInfo := pool [(1, .class_ 2), (0, u "java/lang/Comparable"), (0, .class_ 4), (0, u "java/lang/Object")] 7

/-- java/lang/Comparable -/
def k3 : Class := { plain "java/lang/Comparable" (some 0) with
  accessFlags := 1537
  interfaces := #[]
  cf := some (fileOf pool3 1 #[] #[] 1537 3 #[] #[])
  fields := #[]
  methods := #[]
  instanceTypes := #[]
  staticTypes := #[]
  resolved := Array.replicate 12 none
  statics := none }

def pool4 : Array CpInfo := pool [(2, .class_ 4), (1, u "java/lang/CharSequence"), (42, .class_ 48), (0, u "java/lang/CharSequence$1CodePointIterator"), (10, .class_ 60), (0, u "java/lang/CharSequence$1CharIterator"), (5, .class_ 67), (0, u "java/lang/Object")] 63

/-- java/lang/CharSequence -/
def k4 : Class := { plain "java/lang/CharSequence" (some 0) with
  accessFlags := 1537
  interfaces := #[]
  cf := some (fileOf pool4 2 #[.nestMembers #[47, 59]] #[] 1537 66 #[] #[])
  fields := #[]
  methods := #[]
  instanceTypes := #[]
  staticTypes := #[]
  resolved := Array.replicate 131 none
  statics := none }

def pool5 : Array CpInfo := pool [(1, .class_ 2), (0, u "java/lang/constant/Constable"), (0, .class_ 4), (0, u "java/lang/Object")] 6

/-- java/lang/constant/Constable -/
def k5 : Class := { plain "java/lang/constant/Constable" (some 0) with
  accessFlags := 1537
  interfaces := #[]
  cf := some (fileOf pool5 1 #[] #[] 1537 3 #[] #[])
  fields := #[]
  methods := #[]
  instanceTypes := #[]
  staticTypes := #[]
  resolved := Array.replicate 11 none
  statics := none }

def pool6 : Array CpInfo := pool [(1, .class_ 2), (0, u "java/lang/constant/ConstantDesc"), (0, .class_ 4), (0, u "java/lang/Object")] 32

/-- java/lang/constant/ConstantDesc -/
def k6 : Class := { plain "java/lang/constant/ConstantDesc" (some 0) with
  accessFlags := 1537
  interfaces := #[]
  cf := some (fileOf pool6 1 #[] #[] 1537 3 #[] #[])
  fields := #[]
  methods := #[]
  instanceTypes := #[]
  staticTypes := #[]
  resolved := Array.replicate 37 none
  statics := none }

def pool7 : Array CpInfo := pool [(1, .methodref 2 3), (0, .class_ 4), (0, .nameAndType 5 6), (0, u "java/lang/Object"), (0, u "<init>"), (0, u "()V"), (2, .fieldref 10 11), (0, .class_ 12), (0, .nameAndType 13 14), (0, u "java/lang/String"), (0, u "value"), (0, u "[B"), (0, .fieldref 10 16), (0, .nameAndType 17 18), (0, u "coder"), (0, u "B"), (2, u "hash"), (0, u "I"), (2, u "hashIsZero"), (0, u "Z"), (0, .methodref 10 28), (0, .nameAndType 5 29), (0, u "([CIILjava/lang/Void;)V"), (8, .fieldref 10 39), (0, .nameAndType 40 26), (0, u "COMPACT_STRINGS"), (1, .class_ 44), (1, u "java/lang/StringUTF16"), (0, u "compress"), (1, .methodref 42 48), (0, .nameAndType 49 50), (0, u "coderFromArrayLen"), (0, u "([BI)B"), (126, .methodref 42 178), (0, .nameAndType 45 179), (0, u "([CII)[B"), (363, u "equals"), (29, u "(Ljava/lang/Object;)Z"), (1, .class_ 576), (0, u "java/lang/CharSequence"), (22, u "CASE_INSENSITIVE_ORDER"), (0, u "Ljava/util/Comparator;"), (409, u "([C)V"), (90, u "serialPersistentFields"), (0, u "[Ljava/io/ObjectStreamField;"), (0, .class_ 1104), (0, u "java/lang/String$CaseInsensitiveComparator"), (1, .class_ 1107), (0, u "java/io/Serializable"), (0, .class_ 1109), (0, u "java/lang/Comparable"), (0, .class_ 1111), (0, u "java/lang/constant/Constable"), (0, .class_ 1113), (0, u "java/lang/constant/ConstantDesc"), (2, u "serialVersionUID"), (0, u "J"), (3, u "REPL"), (0, u "C"), (2, u "LATIN1"), (1, u "UTF16")] 323

def k7m0 : Method := { name := "<init>", desc := "()V", sig := { parameters := [], returnType := none }, accessFlags := 1, code := none }
def k7c1 : Code := { maxStack := 5, maxLocals := 2, code := jdk_42_method_3_code, exceptionTable := #[], attributes := #[] }
def k7m1 : Method := { name := "<init>", desc := "([C)V", sig := { parameters := [(.array .char)], returnType := none }, accessFlags := 1, code := some k7c1 }
def k7c2 : Code := { maxStack := 2, maxLocals := 3, code := jdk_42_method_66_code, exceptionTable := #[], attributes := #[] }
def k7m2 : Method := { name := "equals", desc := "(Ljava/lang/Object;)Z", sig := { parameters := [(.object "java/lang/Object")], returnType := some .boolean }, accessFlags := 1, code := some k7c2 }
def k7c3 : Code := { maxStack := 4, maxLocals := 6, code := jdk_42_method_149_code, exceptionTable := #[], attributes := #[] }
def k7m3 : Method := { name := "<init>", desc := "([CIILjava/lang/Void;)V", sig := { parameters := [(.array .char), .int, .int, (.object "java/lang/Void")], returnType := none }, accessFlags := 2, code := some k7c3 }
/-- java/lang/String -/
def k7 : Class := { plain "java/lang/String" (some 0) with
  accessFlags := 49
  interfaces := #[2, 3, 4, 5, 6]
  cf := some (fileOf pool7 10 #[.nestMembers #[1103]] #[{ accessFlags := 1, nameIndex := 5, descriptorIndex := 6, attributes := #[] }, { accessFlags := 1, nameIndex := 5, descriptorIndex := 1010, attributes := #[] }, { accessFlags := 1, nameIndex := 543, descriptorIndex := 573, attributes := #[] }, { accessFlags := 2, nameIndex := 5, descriptorIndex := 29, attributes := #[] }] 49 2 #[1106, 1108, 575, 1110, 1112] #[{ accessFlags := 18, nameIndex := 13, descriptorIndex := 14, attributes := #[] }, { accessFlags := 18, nameIndex := 17, descriptorIndex := 18, attributes := #[] }, { accessFlags := 2, nameIndex := 21, descriptorIndex := 22, attributes := #[] }, { accessFlags := 2, nameIndex := 25, descriptorIndex := 26, attributes := #[] }, { accessFlags := 26, nameIndex := 1116, descriptorIndex := 1117, attributes := #[] }, { accessFlags := 24, nameIndex := 40, descriptorIndex := 26, attributes := #[] }, { accessFlags := 26, nameIndex := 1101, descriptorIndex := 1102, attributes := #[] }, { accessFlags := 26, nameIndex := 1121, descriptorIndex := 1122, attributes := #[] }, { accessFlags := 25, nameIndex := 599, descriptorIndex := 600, attributes := #[] }, { accessFlags := 24, nameIndex := 1125, descriptorIndex := 18, attributes := #[] }, { accessFlags := 24, nameIndex := 1127, descriptorIndex := 18, attributes := #[] }])
  fields := #[{ name := "value", type := (.array .byte), accessFlags := 18, slot := 0, constantValue := 0 }, { name := "coder", type := .byte, accessFlags := 18, slot := 1, constantValue := 0 }, { name := "hash", type := .int, accessFlags := 2, slot := 2, constantValue := 0 }, { name := "hashIsZero", type := .boolean, accessFlags := 2, slot := 3, constantValue := 0 }, { name := "serialVersionUID", type := .long, accessFlags := 26, slot := 0, constantValue := 0 }, { name := "COMPACT_STRINGS", type := .boolean, accessFlags := 24, slot := 1, constantValue := 0 }, { name := "serialPersistentFields", type := (.array (.object "java/io/ObjectStreamField")), accessFlags := 26, slot := 2, constantValue := 0 }, { name := "REPL", type := .char, accessFlags := 26, slot := 3, constantValue := 0 }, { name := "CASE_INSENSITIVE_ORDER", type := (.object "java/util/Comparator"), accessFlags := 25, slot := 4, constantValue := 0 }, { name := "LATIN1", type := .byte, accessFlags := 24, slot := 5, constantValue := 0 }, { name := "UTF16", type := .byte, accessFlags := 24, slot := 6, constantValue := 0 }]
  methods := #[k7m0, k7m1, k7m2, k7m3]
  instanceTypes := #[(.array .byte), .byte, .int, .boolean]
  staticTypes := #[.long, .boolean, (.array (.object "java/io/ObjectStreamField")), .char, (.object "java/util/Comparator"), .byte, .byte]
  resolved := Array.replicate 1451 none
  statics := some 0 }

def pool8 : Array CpInfo := pool [(6, .class_ 8), (1, u "java/lang/Object"), (0, u "<init>"), (0, u "()V"), (1, .class_ 14), (1, u "java/lang/StringUTF16"), (31, u "$assertionsDisabled"), (0, u "Z"), (13, u "HI_BYTE_SHIFT"), (0, u "I"), (2, u "LO_BYTE_SHIFT"), (49, .methodref 12 116), (0, .nameAndType 117 118), (0, u "compress"), (0, u "([CI[BII)I"), (3, u "([CII)[B"), (138, u "coderFromArrayLen"), (0, u "([BI)B"), (106, .class_ 371), (1, u "java/lang/StringUTF16$LinesSpliterator"), (58, u "MAX_LENGTH"), (196, .class_ 628), (0, u "java/lang/StringUTF16$CodePointsSpliterator"), (0, .class_ 630), (0, u "java/lang/StringUTF16$CharsSpliterator")] 4

def k8m0 : Method := { name := "<init>", desc := "()V", sig := { parameters := [], returnType := none }, accessFlags := 0, code := none }
def k8c1 : Code := { maxStack := 2, maxLocals := 2, code := jdk_52_method_15_code, exceptionTable := #[], attributes := #[] }
def k8m1 : Method := { name := "coderFromArrayLen", desc := "([BI)B", sig := { parameters := [(.array .byte), .int], returnType := some .byte }, accessFlags := 8, code := some k8c1 }
def k8c2 : Code := { maxStack := 5, maxLocals := 6, code := jdk_52_method_16_code, exceptionTable := #[], attributes := #[] }
def k8m2 : Method := { name := "compress", desc := "([CII)[B", sig := { parameters := [(.array .char), .int, .int], returnType := some (.array .byte) }, accessFlags := 9, code := some k8c2 }
def k8c3 : Code := { maxStack := 3, maxLocals := 7, code := jdk_52_method_21_code, exceptionTable := #[], attributes := #[] }
def k8m3 : Method := { name := "compress", desc := "([CI[BII)I", sig := { parameters := [(.array .char), .int, (.array .byte), .int, .int], returnType := some .int }, accessFlags := 9, code := some k8c3 }
/-- java/lang/StringUTF16 -/
def k8 : Class := { plain "java/lang/StringUTF16" (some 0) with
  accessFlags := 48
  interfaces := #[]
  cf := some (fileOf pool8 12 #[.nestMembers #[627, 629, 369]] #[{ accessFlags := 0, nameIndex := 9, descriptorIndex := 10, attributes := #[] }, { accessFlags := 8, nameIndex := 261, descriptorIndex := 262, attributes := #[] }, { accessFlags := 9, nameIndex := 117, descriptorIndex := 122, attributes := #[] }, { accessFlags := 9, nameIndex := 117, descriptorIndex := 118, attributes := #[] }] 48 6 #[] #[{ accessFlags := 26, nameIndex := 61, descriptorIndex := 62, attributes := #[] }, { accessFlags := 26, nameIndex := 65, descriptorIndex := 62, attributes := #[] }, { accessFlags := 24, nameIndex := 430, descriptorIndex := 62, attributes := #[] }, { accessFlags := 4120, nameIndex := 46, descriptorIndex := 47, attributes := #[] }])
  fields := #[{ name := "HI_BYTE_SHIFT", type := .int, accessFlags := 26, slot := 0, constantValue := 0 }, { name := "LO_BYTE_SHIFT", type := .int, accessFlags := 26, slot := 1, constantValue := 0 }, { name := "MAX_LENGTH", type := .int, accessFlags := 24, slot := 2, constantValue := 0 }, { name := "$assertionsDisabled", type := .boolean, accessFlags := 4120, slot := 3, constantValue := 0 }]
  methods := #[k8m0, k8m1, k8m2, k8m3]
  instanceTypes := #[]
  staticTypes := #[.int, .int, .int, .boolean]
  resolved := Array.replicate 635 none
  statics := none }

def pool9 : Array CpInfo := pool [(1, .methodref 2 3), (0, .class_ 4), (0, .nameAndType 5 6), (0, u "java/lang/Object"), (0, u "<init>"), (0, u "()V"), (0, .fieldref 8 9), (0, .class_ 10), (0, .nameAndType 11 12), (0, u "com/example/kleio/kleio/ChainHead"), (0, u "seq"), (0, u "J"), (0, .fieldref 8 14), (0, .nameAndType 15 16), (0, u "hash"), (0, u "Ljava/lang/String;"), (10, u "(JLjava/lang/String;)V"), (2, u "EMPTY"), (0, u "Lcom/example/kleio/kleio/ChainHead;"), (2, u "()J"), (0, u "()Ljava/lang/String;")] 3

def k9c0 : Code := { maxStack := 3, maxLocals := 4, code := prog_3_method_1_code, exceptionTable := #[], attributes := #[] }
def k9m0 : Method := { name := "<init>", desc := "(JLjava/lang/String;)V", sig := { parameters := [.long, (.object "java/lang/String")], returnType := none }, accessFlags := 0, code := some k9c0 }
def k9c1 : Code := { maxStack := 2, maxLocals := 1, code := prog_3_method_2_code, exceptionTable := #[], attributes := #[] }
def k9m1 : Method := { name := "seq", desc := "()J", sig := { parameters := [], returnType := some .long }, accessFlags := 0, code := some k9c1 }
def k9c2 : Code := { maxStack := 1, maxLocals := 1, code := prog_3_method_3_code, exceptionTable := #[], attributes := #[] }
def k9m2 : Method := { name := "hash", desc := "()Ljava/lang/String;", sig := { parameters := [], returnType := some (.object "java/lang/String") }, accessFlags := 0, code := some k9c2 }
/-- com/example/kleio/kleio/ChainHead -/
def k9 : Class := { plain "com/example/kleio/kleio/ChainHead" (some 0) with
  accessFlags := 48
  interfaces := #[]
  cf := some (fileOf pool9 8 #[] #[{ accessFlags := 0, nameIndex := 5, descriptorIndex := 27, attributes := #[] }, { accessFlags := 0, nameIndex := 11, descriptorIndex := 34, attributes := #[] }, { accessFlags := 0, nameIndex := 15, descriptorIndex := 35, attributes := #[] }] 48 2 #[] #[{ accessFlags := 24, nameIndex := 30, descriptorIndex := 31, attributes := #[] }, { accessFlags := 18, nameIndex := 11, descriptorIndex := 12, attributes := #[] }, { accessFlags := 18, nameIndex := 15, descriptorIndex := 16, attributes := #[] }])
  fields := #[{ name := "EMPTY", type := (.object "com/example/kleio/kleio/ChainHead"), accessFlags := 24, slot := 0, constantValue := 0 }, { name := "seq", type := .long, accessFlags := 18, slot := 0, constantValue := 0 }, { name := "hash", type := (.object "java/lang/String"), accessFlags := 18, slot := 1, constantValue := 0 }]
  methods := #[k9m0, k9m1, k9m2]
  instanceTypes := #[.long, (.object "java/lang/String")]
  staticTypes := #[(.object "com/example/kleio/kleio/ChainHead")]
  resolved := Array.replicate 39 none
  statics := none }

def pool10 : Array CpInfo := pool [(1, .methodref 2 3), (0, .class_ 4), (0, .nameAndType 5 6), (0, u "java/lang/Object"), (0, u "<init>"), (0, u "()V"), (0, .fieldref 8 9), (0, .class_ 10), (0, .nameAndType 11 12), (0, u "com/example/kleio/kleio/AppendResult"), (0, u "seq"), (0, u "J"), (0, .fieldref 8 14), (0, .nameAndType 15 16), (0, u "hash"), (0, u "Ljava/lang/String;"), (0, .fieldref 8 18), (0, .nameAndType 19 16), (0, u "failure"), (0, .methodref 21 22), (0, .class_ 23), (0, .nameAndType 11 24), (0, u "com/example/kleio/kleio/ChainHead"), (0, u "()J"), (0, .methodref 21 26), (0, .nameAndType 15 27), (0, u "()Ljava/lang/String;"), (0, .methodref 8 29), (0, .nameAndType 5 30), (0, u "(JLjava/lang/String;Ljava/lang/String;)V"), (0, .methodref 8 32), (0, .nameAndType 33 6), (0, u "requireAppended"), (15, u "appended"), (0, u "(Lcom/example/kleio/kleio/ChainHead;)Lcom/example/kleio/kleio/AppendResult;"), (2, u "isAppended"), (0, u "()Z")] 25

def k10c0 : Code := { maxStack := 3, maxLocals := 5, code := prog_1_method_1_code, exceptionTable := #[], attributes := #[] }
def k10m0 : Method := { name := "<init>", desc := "(JLjava/lang/String;Ljava/lang/String;)V", sig := { parameters := [.long, (.object "java/lang/String"), (.object "java/lang/String")], returnType := none }, accessFlags := 2, code := some k10c0 }
def k10c1 : Code := { maxStack := 6, maxLocals := 1, code := prog_1_method_2_code, exceptionTable := #[], attributes := #[] }
def k10m1 : Method := { name := "appended", desc := "(Lcom/example/kleio/kleio/ChainHead;)Lcom/example/kleio/kleio/AppendResult;", sig := { parameters := [(.object "com/example/kleio/kleio/ChainHead")], returnType := some (.object "com/example/kleio/kleio/AppendResult") }, accessFlags := 8, code := some k10c1 }
def k10c2 : Code := { maxStack := 1, maxLocals := 1, code := prog_1_method_4_code, exceptionTable := #[], attributes := #[] }
def k10m2 : Method := { name := "isAppended", desc := "()Z", sig := { parameters := [], returnType := some .boolean }, accessFlags := 1, code := some k10c2 }
def k10c3 : Code := { maxStack := 2, maxLocals := 1, code := prog_1_method_5_code, exceptionTable := #[], attributes := #[] }
def k10m3 : Method := { name := "seq", desc := "()J", sig := { parameters := [], returnType := some .long }, accessFlags := 1, code := some k10c3 }
def k10c4 : Code := { maxStack := 1, maxLocals := 1, code := prog_1_method_6_code, exceptionTable := #[], attributes := #[] }
def k10m4 : Method := { name := "hash", desc := "()Ljava/lang/String;", sig := { parameters := [], returnType := some (.object "java/lang/String") }, accessFlags := 1, code := some k10c4 }
def k10c5 : Code := { maxStack := 1, maxLocals := 1, code := prog_1_method_7_code, exceptionTable := #[], attributes := #[] }
def k10m5 : Method := { name := "failure", desc := "()Ljava/lang/String;", sig := { parameters := [], returnType := some (.object "java/lang/String") }, accessFlags := 1, code := some k10c5 }
def k10c6 : Code := { maxStack := 3, maxLocals := 1, code := prog_1_method_8_code, exceptionTable := #[], attributes := #[] }
def k10m6 : Method := { name := "requireAppended", desc := "()V", sig := { parameters := [], returnType := none }, accessFlags := 2, code := some k10c6 }
/-- com/example/kleio/kleio/AppendResult -/
def k10 : Class := { plain "com/example/kleio/kleio/AppendResult" (some 0) with
  accessFlags := 49
  interfaces := #[]
  cf := some (fileOf pool10 8 #[] #[{ accessFlags := 2, nameIndex := 5, descriptorIndex := 30, attributes := #[] }, { accessFlags := 8, nameIndex := 49, descriptorIndex := 50, attributes := #[] }, { accessFlags := 1, nameIndex := 53, descriptorIndex := 54, attributes := #[] }, { accessFlags := 1, nameIndex := 11, descriptorIndex := 24, attributes := #[] }, { accessFlags := 1, nameIndex := 15, descriptorIndex := 27, attributes := #[] }, { accessFlags := 1, nameIndex := 19, descriptorIndex := 27, attributes := #[] }, { accessFlags := 2, nameIndex := 33, descriptorIndex := 6, attributes := #[] }] 49 2 #[] #[{ accessFlags := 18, nameIndex := 11, descriptorIndex := 12, attributes := #[] }, { accessFlags := 18, nameIndex := 15, descriptorIndex := 16, attributes := #[] }, { accessFlags := 18, nameIndex := 19, descriptorIndex := 16, attributes := #[] }])
  fields := #[{ name := "seq", type := .long, accessFlags := 18, slot := 0, constantValue := 0 }, { name := "hash", type := (.object "java/lang/String"), accessFlags := 18, slot := 1, constantValue := 0 }, { name := "failure", type := (.object "java/lang/String"), accessFlags := 18, slot := 2, constantValue := 0 }]
  methods := #[k10m0, k10m1, k10m2, k10m3, k10m4, k10m5, k10m6]
  instanceTypes := #[.long, (.object "java/lang/String"), (.object "java/lang/String")]
  staticTypes := #[]
  resolved := Array.replicate 80 none
  statics := none }

def pool11 : Array CpInfo := pool [(4, .class_ 6), (1, u "java/lang/Object"), (0, u "<init>"), (0, u "()V"), (5, .class_ 16), (1, u "java/lang/StringLatin1"), (104, u "$assertionsDisabled"), (0, u "Z"), (98, .class_ 223), (1, u "java/lang/StringLatin1$LinesSpliterator"), (166, .class_ 391), (0, u "java/lang/StringLatin1$CharsSpliterator")] 3

def k11m0 : Method := { name := "<init>", desc := "()V", sig := { parameters := [], returnType := none }, accessFlags := 0, code := none }
/-- java/lang/StringLatin1 -/
def k11 : Class := { plain "java/lang/StringLatin1" (some 0) with
  accessFlags := 48
  interfaces := #[]
  cf := some (fileOf pool11 14 #[.nestMembers #[390, 221]] #[{ accessFlags := 0, nameIndex := 7, descriptorIndex := 8, attributes := #[] }] 48 4 #[] #[{ accessFlags := 4120, nameIndex := 121, descriptorIndex := 122, attributes := #[] }])
  fields := #[{ name := "$assertionsDisabled", type := .boolean, accessFlags := 4120, slot := 0, constantValue := 0 }]
  methods := #[k11m0]
  instanceTypes := #[]
  staticTypes := #[.boolean]
  resolved := Array.replicate 395 none
  statics := none }

def pool12 : Array CpInfo := pool [(2, .class_ 4), (1, u "java/lang/Object"), (0, u "<init>"), (0, u "()V"), (17, .class_ 26), (1, u "jdk/internal/util/Preconditions"), (28, .class_ 56), (0, u "jdk/internal/util/Preconditions$4"), (57, .class_ 115), (0, u "jdk/internal/util/Preconditions$1"), (7, u "SIOOBE_FORMATTER"), (0, u "Ljava/util/function/BiFunction;"), (0, .class_ 126), (0, u "jdk/internal/util/Preconditions$2"), (3, u "AIOOBE_FORMATTER"), (0, .class_ 132), (0, u "jdk/internal/util/Preconditions$3"), (3, u "IOOBE_FORMATTER")] 57

def k12m0 : Method := { name := "<init>", desc := "()V", sig := { parameters := [], returnType := none }, accessFlags := 1, code := none }
/-- jdk/internal/util/Preconditions -/
def k12 : Class := { plain "jdk/internal/util/Preconditions" (some 0) with
  accessFlags := 33
  interfaces := #[]
  cf := some (fileOf pool12 24 #[.nestMembers #[55, 131, 125, 114]] #[{ accessFlags := 1, nameIndex := 5, descriptorIndex := 6, attributes := #[] }] 33 2 #[] #[{ accessFlags := 25, nameIndex := 123, descriptorIndex := 124, attributes := #[] }, { accessFlags := 25, nameIndex := 130, descriptorIndex := 124, attributes := #[] }, { accessFlags := 25, nameIndex := 136, descriptorIndex := 124, attributes := #[] }])
  fields := #[{ name := "SIOOBE_FORMATTER", type := (.object "java/util/function/BiFunction"), accessFlags := 25, slot := 0, constantValue := 0 }, { name := "AIOOBE_FORMATTER", type := (.object "java/util/function/BiFunction"), accessFlags := 25, slot := 1, constantValue := 0 }, { name := "IOOBE_FORMATTER", type := (.object "java/util/function/BiFunction"), accessFlags := 25, slot := 2, constantValue := 0 }]
  methods := #[k12m0]
  instanceTypes := #[]
  staticTypes := #[(.object "java/util/function/BiFunction"), (.object "java/util/function/BiFunction"), (.object "java/util/function/BiFunction")]
  resolved := Array.replicate 194 none
  statics := some 1 }

def pool13 : Array CpInfo := pool [(9, u "<init>"), (6, .class_ 18), (1, u "java/lang/Object"), (0, u "()V"), (1, .class_ 23), (1, u "jdk/internal/util/ArraysSupport"), (0, u "LOG2_ARRAY_LONG_INDEX_SCALE"), (0, u "I"), (2, u "U"), (0, u "Ljdk/internal/misc/Unsafe;"), (8, u "BIG_ENDIAN"), (0, u "Z"), (8, u "LOG2_BYTE_BIT_SIZE"), (4, u "LOG2_ARRAY_INT_INDEX_SCALE"), (54, u "JLA"), (0, u "Ljdk/internal/access/JavaLangAccess;"), (11, u "LOG2_ARRAY_BOOLEAN_INDEX_SCALE"), (9, u "LOG2_ARRAY_BYTE_INDEX_SCALE"), (5, u "LOG2_ARRAY_CHAR_INDEX_SCALE"), (5, u "LOG2_ARRAY_SHORT_INDEX_SCALE"), (18, u "LOG2_ARRAY_FLOAT_INDEX_SCALE"), (24, u "LOG2_ARRAY_DOUBLE_INDEX_SCALE"), (89, u "T_BOOLEAN"), (2, u "T_CHAR"), (1, u "T_FLOAT"), (1, u "T_DOUBLE"), (1, u "T_BYTE"), (1, u "T_SHORT"), (1, u "T_INT"), (1, u "T_LONG"), (1, u "SOFT_MAX_ARRAY_LENGTH")] 83

def k13m0 : Method := { name := "<init>", desc := "()V", sig := { parameters := [], returnType := none }, accessFlags := 2, code := none }
/-- jdk/internal/util/ArraysSupport -/
def k13 : Class := { plain "jdk/internal/util/ArraysSupport" (some 0) with
  accessFlags := 33
  interfaces := #[]
  cf := some (fileOf pool13 21 #[] #[{ accessFlags := 2, nameIndex := 9, descriptorIndex := 19, attributes := #[] }] 33 16 #[] #[{ accessFlags := 24, nameIndex := 28, descriptorIndex := 29, attributes := #[] }, { accessFlags := 26, nameIndex := 38, descriptorIndex := 39, attributes := #[] }, { accessFlags := 25, nameIndex := 121, descriptorIndex := 25, attributes := #[] }, { accessFlags := 25, nameIndex := 131, descriptorIndex := 25, attributes := #[] }, { accessFlags := 25, nameIndex := 137, descriptorIndex := 25, attributes := #[] }, { accessFlags := 25, nameIndex := 143, descriptorIndex := 25, attributes := #[] }, { accessFlags := 25, nameIndex := 53, descriptorIndex := 25, attributes := #[] }, { accessFlags := 25, nameIndex := 24, descriptorIndex := 25, attributes := #[] }, { accessFlags := 25, nameIndex := 162, descriptorIndex := 25, attributes := #[] }, { accessFlags := 25, nameIndex := 187, descriptorIndex := 25, attributes := #[] }, { accessFlags := 26, nameIndex := 48, descriptorIndex := 25, attributes := #[] }, { accessFlags := 25, nameIndex := 277, descriptorIndex := 25, attributes := #[] }, { accessFlags := 25, nameIndex := 280, descriptorIndex := 25, attributes := #[] }, { accessFlags := 25, nameIndex := 282, descriptorIndex := 25, attributes := #[] }, { accessFlags := 25, nameIndex := 284, descriptorIndex := 25, attributes := #[] }, { accessFlags := 25, nameIndex := 286, descriptorIndex := 25, attributes := #[] }, { accessFlags := 25, nameIndex := 288, descriptorIndex := 25, attributes := #[] }, { accessFlags := 25, nameIndex := 290, descriptorIndex := 25, attributes := #[] }, { accessFlags := 25, nameIndex := 292, descriptorIndex := 25, attributes := #[] }, { accessFlags := 26, nameIndex := 108, descriptorIndex := 109, attributes := #[] }, { accessFlags := 25, nameIndex := 294, descriptorIndex := 25, attributes := #[] }])
  fields := #[{ name := "U", type := (.object "jdk/internal/misc/Unsafe"), accessFlags := 24, slot := 0, constantValue := 0 }, { name := "BIG_ENDIAN", type := .boolean, accessFlags := 26, slot := 1, constantValue := 0 }, { name := "LOG2_ARRAY_BOOLEAN_INDEX_SCALE", type := .int, accessFlags := 25, slot := 2, constantValue := 0 }, { name := "LOG2_ARRAY_BYTE_INDEX_SCALE", type := .int, accessFlags := 25, slot := 3, constantValue := 0 }, { name := "LOG2_ARRAY_CHAR_INDEX_SCALE", type := .int, accessFlags := 25, slot := 4, constantValue := 0 }, { name := "LOG2_ARRAY_SHORT_INDEX_SCALE", type := .int, accessFlags := 25, slot := 5, constantValue := 0 }, { name := "LOG2_ARRAY_INT_INDEX_SCALE", type := .int, accessFlags := 25, slot := 6, constantValue := 0 }, { name := "LOG2_ARRAY_LONG_INDEX_SCALE", type := .int, accessFlags := 25, slot := 7, constantValue := 0 }, { name := "LOG2_ARRAY_FLOAT_INDEX_SCALE", type := .int, accessFlags := 25, slot := 8, constantValue := 0 }, { name := "LOG2_ARRAY_DOUBLE_INDEX_SCALE", type := .int, accessFlags := 25, slot := 9, constantValue := 0 }, { name := "LOG2_BYTE_BIT_SIZE", type := .int, accessFlags := 26, slot := 10, constantValue := 0 }, { name := "T_BOOLEAN", type := .int, accessFlags := 25, slot := 11, constantValue := 0 }, { name := "T_CHAR", type := .int, accessFlags := 25, slot := 12, constantValue := 0 }, { name := "T_FLOAT", type := .int, accessFlags := 25, slot := 13, constantValue := 0 }, { name := "T_DOUBLE", type := .int, accessFlags := 25, slot := 14, constantValue := 0 }, { name := "T_BYTE", type := .int, accessFlags := 25, slot := 15, constantValue := 0 }, { name := "T_SHORT", type := .int, accessFlags := 25, slot := 16, constantValue := 0 }, { name := "T_INT", type := .int, accessFlags := 25, slot := 17, constantValue := 0 }, { name := "T_LONG", type := .int, accessFlags := 25, slot := 18, constantValue := 0 }, { name := "JLA", type := (.object "jdk/internal/access/JavaLangAccess"), accessFlags := 26, slot := 19, constantValue := 0 }, { name := "SOFT_MAX_ARRAY_LENGTH", type := .int, accessFlags := 25, slot := 20, constantValue := 0 }]
  methods := #[k13m0]
  instanceTypes := #[]
  staticTypes := #[(.object "jdk/internal/misc/Unsafe"), .boolean, .int, .int, .int, .int, .int, .int, .int, .int, .int, .int, .int, .int, .int, .int, .int, .int, .int, (.object "jdk/internal/access/JavaLangAccess"), .int]
  resolved := Array.replicate 378 none
  statics := none }

def pool14 : Array CpInfo := pool [(1, u "java/lang/Cloneable"), (0, .class_ 1), (0, u "java/lang/Object"), (0, .class_ 3)] 3

/-- java/lang/Cloneable -/
def k14 : Class := { plain "java/lang/Cloneable" (some 0) with
  accessFlags := 1537
  interfaces := #[]
  cf := some (fileOf pool14 2 #[] #[] 1537 4 #[] #[])
  fields := #[]
  methods := #[]
  instanceTypes := #[]
  staticTypes := #[]
  resolved := Array.replicate 8 none
  statics := none }

/-- the primitive byte -/
def k15 : Class := { plain "byte" none with kind := .primitive 'B', accessFlags := 0x411 }
/-- [B -/
def k16 : Class := { plain "[B" (some 0) with kind := .array 15 .byte, interfaces := #[14, 2], accessFlags := 1041 }

/-- the primitive char -/
def k17 : Class := { plain "char" none with kind := .primitive 'C', accessFlags := 0x411 }
/-- [C -/
def k18 : Class := { plain "[C" (some 0) with kind := .array 17 .char, interfaces := #[14, 2], accessFlags := 1041 }

/-- the primitive int -/
def k19 : Class := { plain "int" none with kind := .primitive 'I', accessFlags := 0x411 }
/-- [I -/
def k20 : Class := { plain "[I" (some 0) with kind := .array 19 .int, interfaces := #[14, 2], accessFlags := 1041 }

def heap : Heap := #[{ cls := 7, slots := #[.long 0, .int 1, .null, .int 0, .null, .int 0, .int 0], vm := .statics 7 },
  { cls := 12, slots := #[.null, .null, .null], vm := .statics 12 }]
def classes : Array Class := #[k0, k1, k2, k3, k4, k5, k6, k7, k8, k9, k10, k11, k12, k13, k14, k15, k16, k17, k18, k19, k20]
def interned : List (Array UInt16 × Addr) := []
def slotsUsed : Nat := 10
def theMethod : MethodId := ⟨1, 1⟩
def args0 : Array Value := #[.long 5, .int 65, .int 66, .int 67]
def aboutOver (below : List Frame) : State where
  vm := { classes := classes, interned := interned.toArray }
  heap := heap
  slotsUsed := slotsUsed
  threads := #[{ frames := .invoking theMethod args0 :: below }]
def below0 : List Frame := [.native { method := ⟨0, 0⟩, args := #[] }]
def about1 : State := aboutOver below0
def p0 : Program := .bare "" "" ""
def e0 : Env := launch0.env 0 0 0
theorem w_frames : about1.frames = Frame.invoking theMethod args0 :: below0 := rfl
set_option maxRecDepth 65536 in
theorem w_args : argsFit about1.vm theMethod args0 = true := by decide +kernel
set_option maxRecDepth 65536 in
theorem w_heap : heapFits about1 = true := by decide +kernel
set_option maxRecDepth 65536 in
theorem w_runnable : about1.curStatus? = some .runnable := by decide +kernel
set_option maxRecDepth 65536 in
theorem w_alone : about1.alone = true := by decide +kernel
set_option maxRecDepth 65536 in
theorem w_named : about1.methodNamed? x = some theMethod := by decide +kernel
set_option maxRecDepth 65536 in
theorem w_hears : about1.hears theMethod below0 = true := by decide +kernel
set_option maxRecDepth 65536 in
theorem w_ripe : about1.ripe theMethod args0 below0 = true := by decide +kernel
theorem w_running : about1.status = .running := rfl
set_option maxRecDepth 65536 in
theorem w_room : about1.hasRoom e0.platform room_1 = true :=
  launch0.hasRoom_least _ room_1 (by decide +kernel) (by decide +kernel) (by decide +kernel) (by decide +kernel) (by decide +kernel) (by decide +kernel)
theorem allAtoms_all (ts : List Jvm.Cond) (a : Array Jvm.Value) (st : Jvm.State) : (allAtoms ts).before a st = ts.all (fun c => c.before a st) := by
  induction ts with
  | nil => rfl
  | cons c t ih =>
    show (Jvm.Cond.and c (allAtoms t)).before a st = _
    rw [Jvm.Cond.before_and, ih, List.all_cons]
def words1 : List Jvm.Cond := Jvm.Cond.code x code maxLocals ret :: tables_1
/-- a 'code' word, met by the world's own term for the bytes: nothing is compared byte by byte -/
theorem code_word {y : MethodName} {bytes : ByteArray} {mx : Nat} {rt : Option FieldType} {a : Array Value} {s : State} {m : MethodId} {meth : Method} {c : Code} (h1 : s.methodNamed? y = some m) (h2 : s.vm.method? m = some meth) (h3 : meth.code = some c) (h4 : c.code = bytes)
    (h5 : (c.maxLocals == mx && c.exceptionTable.isEmpty && decide (c.maxStack ≤ mostOperands) && decide (meth.sig.returnType = rt) && !meth.locks && decide (parseMethodDescriptor y.desc = some meth.sig)) = true) : (Jvm.Cond.code y bytes mx rt).before a s = true := by
  simp only [Bool.and_eq_true, beq_iff_eq, Bool.not_eq_true', decide_eq_true_eq] at h5
  obtain ⟨⟨⟨⟨⟨g1, g2⟩, g3⟩, g4⟩, g5⟩, g6⟩ := h5
  simp [Cond.before, Cond.holds, Cond.value, h1, h2, h3, h4, g1, g2, g3, g4, g5, g6]
def isCode : Jvm.Cond → Bool
  | .code _ _ _ _ => true
  | _ => false
theorem all_split {L : List Jvm.Cond} {P : Jvm.Cond → Bool} (h1 : L.all (fun c => isCode c || P c) = true) (h2 : ∀ c ∈ L.filter isCode, P c = true) : L.all P = true := by
  refine List.all_eq_true.mpr fun c hc => ?_
  have h := List.all_eq_true.mp h1 c hc
  rcases Bool.eq_false_or_eq_true (isCode c) with hi | hi
  · exact h2 c (List.mem_filter.mpr ⟨hc, hi⟩)
  · simpa [hi] using h
set_option maxRecDepth 65536 in
theorem w_c0 : (Jvm.Cond.code x code maxLocals ret).before args0 about1 = true := code_word (m := ⟨1, 1⟩) (meth := k1m1) (c := k1c1) (by decide +kernel) rfl rfl rfl (by decide +kernel)
set_option maxRecDepth 65536 in
theorem w_c1 : (Jvm.Cond.code ({ cls := "java/lang/String", name := "<init>", desc := "([C)V" } : Jvm.MethodName) jdk_42_method_3_code (2 : Nat) (Option.none : Option Jvm.ClassFile.FieldType)).before args0 about1 = true := code_word (m := ⟨7, 1⟩) (meth := k7m1) (c := k7c1) (by decide +kernel) rfl rfl rfl (by decide +kernel)
set_option maxRecDepth 65536 in
theorem w_c2 : (Jvm.Cond.code ({ cls := "java/lang/String", name := "<init>", desc := "([CIILjava/lang/Void;)V" } : Jvm.MethodName) jdk_42_method_149_code (6 : Nat) (Option.none : Option Jvm.ClassFile.FieldType)).before args0 about1 = true := code_word (m := ⟨7, 3⟩) (meth := k7m3) (c := k7c3) (by decide +kernel) rfl rfl rfl (by decide +kernel)
set_option maxRecDepth 65536 in
theorem w_c3 : (Jvm.Cond.code ({ cls := "java/lang/Object", name := "<init>", desc := "()V" } : Jvm.MethodName) object_method_1_code (1 : Nat) (Option.none : Option Jvm.ClassFile.FieldType)).before args0 about1 = true := code_word (m := ⟨0, 0⟩) (meth := k0m0) (c := k0c0) (by decide +kernel) rfl rfl rfl (by decide +kernel)
set_option maxRecDepth 65536 in
theorem w_c4 : (Jvm.Cond.code ({ cls := "java/lang/StringUTF16", name := "compress", desc := "([CII)[B" } : Jvm.MethodName) jdk_52_method_16_code (6 : Nat) (Option.some (Jvm.ClassFile.FieldType.array Jvm.ClassFile.FieldType.byte))).before args0 about1 = true := code_word (m := ⟨8, 2⟩) (meth := k8m2) (c := k8c2) (by decide +kernel) rfl rfl rfl (by decide +kernel)
set_option maxRecDepth 65536 in
theorem w_c5 : (Jvm.Cond.code ({ cls := "java/lang/StringUTF16", name := "compress", desc := "([CI[BII)I" } : Jvm.MethodName) jdk_52_method_21_code (7 : Nat) (Option.some Jvm.ClassFile.FieldType.int)).before args0 about1 = true := code_word (m := ⟨8, 3⟩) (meth := k8m3) (c := k8c3) (by decide +kernel) rfl rfl rfl (by decide +kernel)
set_option maxRecDepth 65536 in
theorem w_c6 : (Jvm.Cond.code ({ cls := "java/lang/StringUTF16", name := "coderFromArrayLen", desc := "([BI)B" } : Jvm.MethodName) jdk_52_method_15_code (2 : Nat) (Option.some Jvm.ClassFile.FieldType.byte)).before args0 about1 = true := code_word (m := ⟨8, 1⟩) (meth := k8m1) (c := k8c1) (by decide +kernel) rfl rfl rfl (by decide +kernel)
set_option maxRecDepth 65536 in
theorem w_c7 : (Jvm.Cond.code ({ cls := "com/example/kleio/kleio/ChainHead", name := "<init>", desc := "(JLjava/lang/String;)V" } : Jvm.MethodName) prog_3_method_1_code (4 : Nat) (Option.none : Option Jvm.ClassFile.FieldType)).before args0 about1 = true := code_word (m := ⟨9, 0⟩) (meth := k9m0) (c := k9c0) (by decide +kernel) rfl rfl rfl (by decide +kernel)
set_option maxRecDepth 65536 in
theorem w_c8 : (Jvm.Cond.code ({ cls := "com/example/kleio/kleio/AppendResult", name := "appended", desc := "(Lcom/example/kleio/kleio/ChainHead;)Lcom/example/kleio/kleio/AppendResult;" } : Jvm.MethodName) prog_1_method_2_code (1 : Nat) (Option.some (Jvm.ClassFile.FieldType.object "com/example/kleio/kleio/AppendResult"))).before args0 about1 = true := code_word (m := ⟨10, 1⟩) (meth := k10m1) (c := k10c1) (by decide +kernel) rfl rfl rfl (by decide +kernel)
set_option maxRecDepth 65536 in
theorem w_c9 : (Jvm.Cond.code ({ cls := "com/example/kleio/kleio/ChainHead", name := "seq", desc := "()J" } : Jvm.MethodName) prog_3_method_2_code (1 : Nat) (Option.some Jvm.ClassFile.FieldType.long)).before args0 about1 = true := code_word (m := ⟨9, 1⟩) (meth := k9m1) (c := k9c1) (by decide +kernel) rfl rfl rfl (by decide +kernel)
set_option maxRecDepth 65536 in
theorem w_c10 : (Jvm.Cond.code ({ cls := "com/example/kleio/kleio/ChainHead", name := "hash", desc := "()Ljava/lang/String;" } : Jvm.MethodName) prog_3_method_3_code (1 : Nat) (Option.some (Jvm.ClassFile.FieldType.object "java/lang/String"))).before args0 about1 = true := code_word (m := ⟨9, 2⟩) (meth := k9m2) (c := k9c2) (by decide +kernel) rfl rfl rfl (by decide +kernel)
set_option maxRecDepth 65536 in
theorem w_c11 : (Jvm.Cond.code ({ cls := "com/example/kleio/kleio/AppendResult", name := "<init>", desc := "(JLjava/lang/String;Ljava/lang/String;)V" } : Jvm.MethodName) prog_1_method_1_code (5 : Nat) (Option.none : Option Jvm.ClassFile.FieldType)).before args0 about1 = true := code_word (m := ⟨10, 0⟩) (meth := k10m0) (c := k10c0) (by decide +kernel) rfl rfl rfl (by decide +kernel)
set_option maxRecDepth 65536 in
theorem w_c12 : (Jvm.Cond.code ({ cls := "com/example/kleio/kleio/AppendResult", name := "isAppended", desc := "()Z" } : Jvm.MethodName) prog_1_method_4_code (1 : Nat) (Option.some Jvm.ClassFile.FieldType.boolean)).before args0 about1 = true := code_word (m := ⟨10, 2⟩) (meth := k10m2) (c := k10c2) (by decide +kernel) rfl rfl rfl (by decide +kernel)
set_option maxRecDepth 65536 in
theorem w_c13 : (Jvm.Cond.code ({ cls := "com/example/kleio/kleio/AppendResult", name := "failure", desc := "()Ljava/lang/String;" } : Jvm.MethodName) prog_1_method_7_code (1 : Nat) (Option.some (Jvm.ClassFile.FieldType.object "java/lang/String"))).before args0 about1 = true := code_word (m := ⟨10, 5⟩) (meth := k10m5) (c := k10c5) (by decide +kernel) rfl rfl rfl (by decide +kernel)
set_option maxRecDepth 65536 in
theorem w_c14 : (Jvm.Cond.code ({ cls := "com/example/kleio/kleio/AppendResult", name := "seq", desc := "()J" } : Jvm.MethodName) prog_1_method_5_code (1 : Nat) (Option.some Jvm.ClassFile.FieldType.long)).before args0 about1 = true := code_word (m := ⟨10, 3⟩) (meth := k10m3) (c := k10c3) (by decide +kernel) rfl rfl rfl (by decide +kernel)
set_option maxRecDepth 65536 in
theorem w_c15 : (Jvm.Cond.code ({ cls := "com/example/kleio/kleio/AppendResult", name := "requireAppended", desc := "()V" } : Jvm.MethodName) prog_1_method_8_code (1 : Nat) (Option.none : Option Jvm.ClassFile.FieldType)).before args0 about1 = true := code_word (m := ⟨10, 6⟩) (meth := k10m6) (c := k10c6) (by decide +kernel) rfl rfl rfl (by decide +kernel)
set_option maxRecDepth 65536 in
theorem w_c16 : (Jvm.Cond.code ({ cls := "com/example/kleio/kleio/AppendResult", name := "hash", desc := "()Ljava/lang/String;" } : Jvm.MethodName) prog_1_method_6_code (1 : Nat) (Option.some (Jvm.ClassFile.FieldType.object "java/lang/String"))).before args0 about1 = true := code_word (m := ⟨10, 4⟩) (meth := k10m4) (c := k10c4) (by decide +kernel) rfl rfl rfl (by decide +kernel)
set_option maxRecDepth 65536 in
theorem w_c17 : (Jvm.Cond.code ({ cls := "java/lang/String", name := "equals", desc := "(Ljava/lang/Object;)Z" } : Jvm.MethodName) jdk_42_method_66_code (3 : Nat) (Option.some Jvm.ClassFile.FieldType.boolean)).before args0 about1 = true := code_word (m := ⟨7, 2⟩) (meth := k7m2) (c := k7c2) (by decide +kernel) rfl rfl rfl (by decide +kernel)
def codes1 : List Jvm.Cond := [Jvm.Cond.code x code maxLocals ret, Jvm.Cond.code ({ cls := "java/lang/String", name := "<init>", desc := "([C)V" } : Jvm.MethodName) jdk_42_method_3_code (2 : Nat) (Option.none : Option Jvm.ClassFile.FieldType), Jvm.Cond.code ({ cls := "java/lang/String", name := "<init>", desc := "([CIILjava/lang/Void;)V" } : Jvm.MethodName) jdk_42_method_149_code (6 : Nat) (Option.none : Option Jvm.ClassFile.FieldType), Jvm.Cond.code ({ cls := "java/lang/Object", name := "<init>", desc := "()V" } : Jvm.MethodName) object_method_1_code (1 : Nat) (Option.none : Option Jvm.ClassFile.FieldType), Jvm.Cond.code ({ cls := "java/lang/StringUTF16", name := "compress", desc := "([CII)[B" } : Jvm.MethodName) jdk_52_method_16_code (6 : Nat) (Option.some (Jvm.ClassFile.FieldType.array Jvm.ClassFile.FieldType.byte)), Jvm.Cond.code ({ cls := "java/lang/StringUTF16", name := "compress", desc := "([CI[BII)I" } : Jvm.MethodName) jdk_52_method_21_code (7 : Nat) (Option.some Jvm.ClassFile.FieldType.int), Jvm.Cond.code ({ cls := "java/lang/StringUTF16", name := "coderFromArrayLen", desc := "([BI)B" } : Jvm.MethodName) jdk_52_method_15_code (2 : Nat) (Option.some Jvm.ClassFile.FieldType.byte), Jvm.Cond.code ({ cls := "com/example/kleio/kleio/ChainHead", name := "<init>", desc := "(JLjava/lang/String;)V" } : Jvm.MethodName) prog_3_method_1_code (4 : Nat) (Option.none : Option Jvm.ClassFile.FieldType), Jvm.Cond.code ({ cls := "com/example/kleio/kleio/AppendResult", name := "appended", desc := "(Lcom/example/kleio/kleio/ChainHead;)Lcom/example/kleio/kleio/AppendResult;" } : Jvm.MethodName) prog_1_method_2_code (1 : Nat) (Option.some (Jvm.ClassFile.FieldType.object "com/example/kleio/kleio/AppendResult")), Jvm.Cond.code ({ cls := "com/example/kleio/kleio/ChainHead", name := "seq", desc := "()J" } : Jvm.MethodName) prog_3_method_2_code (1 : Nat) (Option.some Jvm.ClassFile.FieldType.long), Jvm.Cond.code ({ cls := "com/example/kleio/kleio/ChainHead", name := "hash", desc := "()Ljava/lang/String;" } : Jvm.MethodName) prog_3_method_3_code (1 : Nat) (Option.some (Jvm.ClassFile.FieldType.object "java/lang/String")), Jvm.Cond.code ({ cls := "com/example/kleio/kleio/AppendResult", name := "<init>", desc := "(JLjava/lang/String;Ljava/lang/String;)V" } : Jvm.MethodName) prog_1_method_1_code (5 : Nat) (Option.none : Option Jvm.ClassFile.FieldType), Jvm.Cond.code ({ cls := "com/example/kleio/kleio/AppendResult", name := "isAppended", desc := "()Z" } : Jvm.MethodName) prog_1_method_4_code (1 : Nat) (Option.some Jvm.ClassFile.FieldType.boolean), Jvm.Cond.code ({ cls := "com/example/kleio/kleio/AppendResult", name := "failure", desc := "()Ljava/lang/String;" } : Jvm.MethodName) prog_1_method_7_code (1 : Nat) (Option.some (Jvm.ClassFile.FieldType.object "java/lang/String")), Jvm.Cond.code ({ cls := "com/example/kleio/kleio/AppendResult", name := "seq", desc := "()J" } : Jvm.MethodName) prog_1_method_5_code (1 : Nat) (Option.some Jvm.ClassFile.FieldType.long), Jvm.Cond.code ({ cls := "com/example/kleio/kleio/AppendResult", name := "requireAppended", desc := "()V" } : Jvm.MethodName) prog_1_method_8_code (1 : Nat) (Option.none : Option Jvm.ClassFile.FieldType), Jvm.Cond.code ({ cls := "com/example/kleio/kleio/AppendResult", name := "hash", desc := "()Ljava/lang/String;" } : Jvm.MethodName) prog_1_method_6_code (1 : Nat) (Option.some (Jvm.ClassFile.FieldType.object "java/lang/String")), Jvm.Cond.code ({ cls := "java/lang/String", name := "equals", desc := "(Ljava/lang/Object;)Z" } : Jvm.MethodName) jdk_42_method_66_code (3 : Nat) (Option.some Jvm.ClassFile.FieldType.boolean)]
set_option maxRecDepth 65536 in
theorem codes_eq : words1.filter isCode = codes1 := rfl
theorem w_codes : ∀ c ∈ words1.filter isCode, c.before args0 about1 = true := by
  rw [codes_eq]
  intro c hc
  simp only [codes1, List.mem_cons, List.not_mem_nil, or_false] at hc
  rcases hc with rfl | rfl | rfl | rfl | rfl | rfl | rfl | rfl | rfl | rfl | rfl | rfl | rfl | rfl | rfl | rfl | rfl | rfl
  · exact w_c0
  · exact w_c1
  · exact w_c2
  · exact w_c3
  · exact w_c4
  · exact w_c5
  · exact w_c6
  · exact w_c7
  · exact w_c8
  · exact w_c9
  · exact w_c10
  · exact w_c11
  · exact w_c12
  · exact w_c13
  · exact w_c14
  · exact w_c15
  · exact w_c16
  · exact w_c17
set_option maxRecDepth 65536 in
theorem w_t1 : (words1.take 24).all (fun c => isCode c || c.before args0 about1) = true := by decide +kernel
set_option maxRecDepth 65536 in
theorem w_t2 : ((words1.drop 24).take 24).all (fun c => isCode c || c.before args0 about1) = true := by decide +kernel
set_option maxRecDepth 65536 in
theorem w_t3 : (((words1.drop 24).drop 24).take 24).all (fun c => isCode c || c.before args0 about1) = true := by decide +kernel
set_option maxRecDepth 65536 in
theorem w_t4 : ((((words1.drop 24).drop 24).drop 24).take 24).all (fun c => isCode c || c.before args0 about1) = true := by decide +kernel
set_option maxRecDepth 65536 in
theorem w_t5 : ((((words1.drop 24).drop 24).drop 24).drop 24).all (fun c => isCode c || c.before args0 about1) = true := by decide +kernel
theorem w_tables : (allAtoms (Jvm.Cond.code x code maxLocals ret :: tables_1)).before args0 about1 = true := by
  rw [allAtoms_all]
  show words1.all (fun c => c.before args0 about1) = true
  refine all_split ?_ w_codes
  rw [← List.take_append_drop 24 words1, List.all_append, w_t1, ← List.take_append_drop 24 (words1.drop 24), List.all_append, w_t2, ← List.take_append_drop 24 ((words1.drop 24).drop 24), List.all_append, w_t3, ← List.take_append_drop 24 (((words1.drop 24).drop 24).drop 24), List.all_append, w_t4, w_t5]
  rfl
set_option maxRecDepth 65536 in
theorem w_rest : rest_1_c.before args0 about1 = true := by decide +kernel
set_option maxRecDepth 65536 in
theorem w_case : (Jvm.Cond.and given_1 narrow_1).before args0 about1 = true := by decide +kernel
theorem w_applies : (headSpec (Jvm.Cond.code x code maxLocals ret :: tables_1) room_1).applies x e0.platform about1 = true :=
  (Spec.applies_iff w_frames).mpr ⟨w_running, w_runnable, w_alone, w_named, w_hears, w_ripe, w_room, w_tables⟩
theorem atStart : AtStart classFile x code maxLocals ret World_1 tables_1 room_1 Calls_1 rest_1 Pre_1 launch0 p0 e0 about1 theMethod args0 below0 :=
  ⟨lists_1, trivial, launch0.admits_env _ _ _, launch0.least_env, fairChoices_fair.cas, fairChoices_fair.clock, w_frames, w_args, w_heap, w_applies, trivial, w_rest, w_case⟩
end start1
theorem witness_1 : WitnessClaimed_1 := ⟨start1.p0, start1.e0, start1.about1, start1.theMethod, start1.args0, start1.below0, start1.atStart⟩
end Jvm.Pilot.@@N@@
