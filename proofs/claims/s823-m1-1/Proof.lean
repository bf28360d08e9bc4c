import JvmDerived
import JvmDerived.Pilot.@@N@@Statement
import JvmDerived.Pilot.@@N@@Code
set_option linter.unusedVariables false
set_option linter.unusedSimpArgs false
@@BLOCK:NumsL.lean.txt@@
/- laws to paste: Road.backV, Road.lenW, Road.chN, Road.codOf (cut by pick.py; bodies as the Statement names them) -/
namespace Jvm.Pilot.@@N@@
namespace StrChars
open Jvm Sem ClassFile Op Lib Jvm.Stand Jvm.Free.XT Jvm.Free.ALB Jvm.Free.JM Jvm.Free
open Jvm.Lib.Cold (StaticIs)
/-- a char array whose places are chars -/
def Ch (a : Addr) (A : Cell) (U : State) : Prop := Arr .char a A U ∧ Typed .char A
theorem Ch.mv {a : Addr} {A : Cell} {U U' : State} (h : Ch a A U) (hal : U.vm.Alike U'.vm) (hh : U'.heap = U.heap) : Ch a A U' := ⟨h.1.mv hal hh, h.2⟩
theorem Ch.keep {a : Addr} {A : Cell} {U U' : State} (h : Ch a A U) (hal : U.vm.Alike U'.vm) (hk : U'.heap[a]? = some A) : Ch a A U' := ⟨h.1.keep hal hk, h.2⟩
/-- what place i of a char[]'s cell holds -/
def cv (A : Cell) (i : Nat) : Int32 := match A.slots[i]? with | some (.int x) => x | _ => 0
theorem Ch.get {a : Addr} {A : Cell} {U : State} (h : Ch a A U) {i : Nat} (hi : i < A.slots.size) : A.slots[i]? = some (.int (cv A i)) := by
  have e := Array.getElem?_eq_getElem hi
  have f := h.2 i _ e
  unfold cv; rw [e]
  generalize A.slots[i] = v at f
  cases v <;> simp [fits] at f ⊢
/-- the byte that i2b leaves of a char -/
def lo8 (x : Int32) : Int32 := x.toInt8.toInt32
theorem fits_lo8 (y : Int32) : fits .byte (.int (lo8 y)) = true := by
  have h1 := y.toInt8.le_toInt
  have h2 := y.toInt8.toInt_lt
  simp only [lo8, fits, Bool.and_eq_true, decide_eq_true_eq, Int32.le_iff_toInt_le, Int8.toInt_toInt32, show (-128 : Int32).toInt = -128 from by decide, show (127 : Int32).toInt = 127 from by decide]
  omega
/-- A' is A but that each place j of lo .. hi - 1 holds f j -/
def Laid (A A' : Cell) (lo hi : Nat) (f : Nat → Value) : Prop := A'.cls = A.cls ∧ A'.vm = A.vm ∧ A'.slots.size = A.slots.size ∧ ∀ i, A'.slots[i]? = if lo ≤ i ∧ i < hi then some (f i) else A.slots[i]?
theorem Laid.zero (A : Cell) (lo : Nat) (f : Nat → Value) : Laid A A lo (lo + 0) f := ⟨rfl, rfl, rfl, fun i => by rw [if_neg (by omega)]⟩
theorem Laid.step {A Ak : Cell} {lo k : Nat} {f : Nat → Value} {v : Value} (h : Laid A Ak lo k f) (hlo : lo ≤ k) (hk : k < Ak.slots.size) (hv : v = f k) : Laid A (Ak.setSlot k v) lo (k + 1) f := by
  refine ⟨h.1, h.2.1, by simpa [Cell.setSlot] using h.2.2.1, fun i => ?_⟩
  by_cases e : k = i
  · subst e; rw [Cell.slots_setSlot_self v hk, if_pos (by omega), hv]
  · rw [Cell.slots_setSlot_ne v e, h.2.2.2 i]
    by_cases q : lo ≤ i ∧ i < k
    · rw [if_pos q, if_pos (by omega)]
    · rw [if_neg q, if_neg (by omega)]
def U16 : String := "java/lang/StringUTF16"
namespace Cmp5
def yN : MethodName := ⟨"java/lang/StringUTF16", "compress", "([CI[BII)I"⟩
abbrev yB : ByteArray := jdk_52_method_21_code
theorem d0 : decode yB 0 = .ok (.iconst 0, 1) := by decide +kernel
theorem d1 : decode yB 1 = .ok (.istore 5, 2) := by decide +kernel
theorem d3 : decode yB 3 = .ok (.iload 5, 2) := by decide +kernel
theorem d5 : decode yB 5 = .ok (.iload 4, 2) := by decide +kernel
theorem d7 : decode yB 7 = .ok (.if_icmp (.ge) 37, 3) := by decide +kernel
theorem d10 : decode yB 10 = .ok (.aload_n 0, 1) := by decide +kernel
theorem d11 : decode yB 11 = .ok (.iload_n 1, 1) := by decide +kernel
theorem d12 : decode yB 12 = .ok (.caload, 1) := by decide +kernel
theorem d13 : decode yB 13 = .ok (.istore 6, 2) := by decide +kernel
theorem d15 : decode yB 15 = .ok (.iload 6, 2) := by decide +kernel
theorem d17 : decode yB 17 = .ok (.sipush 255, 3) := by decide +kernel
theorem d20 : decode yB 20 = .ok (.if_icmp (.le) 6, 3) := by decide +kernel
theorem d26 : decode yB 26 = .ok (.aload_n 2, 1) := by decide +kernel
theorem d27 : decode yB 27 = .ok (.iload_n 3, 1) := by decide +kernel
theorem d28 : decode yB 28 = .ok (.iload 6, 2) := by decide +kernel
theorem d30 : decode yB 30 = .ok (.i2b, 1) := by decide +kernel
theorem d31 : decode yB 31 = .ok (.bastore, 1) := by decide +kernel
theorem d32 : decode yB 32 = .ok (.iinc 1 1, 3) := by decide +kernel
theorem d35 : decode yB 35 = .ok (.iinc 3 1, 3) := by decide +kernel
theorem d38 : decode yB 38 = .ok (.iinc 5 1, 3) := by decide +kernel
theorem d41 : decode yB 41 = .ok (.goto (-38), 3) := by decide +kernel
theorem d44 : decode yB 44 = .ok (.iload 4, 2) := by decide +kernel
theorem d46 : decode yB 46 = .ok (.ireturn, 1) := by decide +kernel
def site : List Cond := []
def tab : Cond := tabOf yN yB 7 (some .int) site
def P (b : Addr) (A : Cell) (d : Addr) (B : Cell) (o q len : Nat) (args : Array Value) (s : State) : Prop := args = #[.ref b, .int (Int32.ofNat o), .ref d, .int (Int32.ofNat q), .int (Int32.ofNat len)] ∧ Ch b A s ∧ Arr .byte d B s ∧ b ≠ d ∧ o + len ≤ A.slots.size ∧ q + len ≤ B.slots.size ∧ ∀ i, i < len → ¬ 255 < cv A (o + i)
def E (b : Addr) (A : Cell) (d : Addr) (B : Cell) (o q len : Nat) (r : Option Value) (s u : State) : Prop := r = some (.int (Int32.ofNat len)) ∧ ∃ B', Put d B' s u ∧ Laid B B' q (q + len) (fun j => Value.int (lo8 (cv A (o + (j - q)))))
/-- no char of the range above 255: len; the places written hold each char's low byte -/
theorem law (l : Launch) (b : Addr) (A : Cell) (d : Addr) (B : Cell) (o q len : Nat) : Law l yN 5 5 0 0 yB 7 (some .int) site (P b A d B o q len) (E b A d B o q len) (copyLocs d q len) 0 0 := by
  refine Law.of_walk (plainFor_of_name (by decide +kernel)) (by decide +kernel) (by decide +kernel) (by decide) (fun _ _ h => by rw [h.1]; rfl) (fun _ U U' hal hh h => ⟨h.1, h.2.1.mv hal hh, h.2.2.1.mv hal hh, h.2.2.2⟩) (fun r U U' V V' h1 hal h2 h => ⟨h.1, h.2.elim fun B' q => ⟨B', q.1.mv h1 h2, q.2⟩⟩) ?_
  intro p e s m args below meth c s₁ X0 hexec hbytes hml hret hlk hnm hown hh0 W hP
  obtain ⟨rfl, hA, hB, hne, l1, l2, hp⟩ := hP
  have c1 : Steps p.tables e below (s₁.setTop (entryFrame m #[.ref b, .int (Int32.ofNat o), .ref d, .int (Int32.ofNat q), .int (Int32.ofNat len)] 7)) (s₁.setTop (mkF m 0 #[.val (.ref b), .val (.int (Int32.ofNat o)), .val (.ref d), .val (.int (Int32.ofNat q)), .val (.int (Int32.ofNat len)), .unset, .unset] [])) := entry rfl
  have hA0 := hA.1.mv X0.warmed.alike hh0
  have hB0 := hB.mv X0.warmed.alike hh0
  have a31 := hA.1.2.2.2
  have c2 : Steps p.tables e below (s₁.setTop (entryFrame m #[.ref b, .int (Int32.ofNat o), .ref d, .int (Int32.ofNat q), .int (Int32.ofNat len)] 7)) (s₁.setTop (mkF m 3 #[.val (.ref b), .val (.int (Int32.ofNat o)), .val (.ref d), .val (.int (Int32.ofNat q)), .val (.int (Int32.ofNat len)), .val (.int 0), .unset] [])) := c1.trans (by
    refine iconstV X0.here hexec rfl 0 (hb hbytes d0) (by decide) ?_
    refine XS.istore X0.here hexec rfl (hb hbytes d1) rfl rfl ?_
    exact Steps.refl _)
  have loop : ∀ (r i : Nat), i + r = len → ∀ (z : Slot), (z = .unset ∨ ∃ w, z = .val w ∧ w.category = 1) → ∀ (Tl : State) (Bk : Cell), Stand p l e { frames := 0, locals := 0, cells := 0, slots := 0 } s m #[.ref b, .int (Int32.ofNat o), .ref d, .int (Int32.ofNat q), .int (Int32.ofNat len)] below meth c Tl ([] ++ copyLocs d q i) 0 0 → Put d Bk s₁ Tl → Laid B Bk q (q + i) (fun j => Value.int (lo8 (cv A (o + (j - q))))) →
      Steps p.tables e below (s₁.setTop (entryFrame m #[.ref b, .int (Int32.ofNat o), .ref d, .int (Int32.ofNat q), .int (Int32.ofNat len)] 7)) (Tl.setTop (mkF m 3 #[.val (.ref b), .val (.int (Int32.ofNat (o + i))), .val (.ref d), .val (.int (Int32.ofNat (q + i))), .val (.int (Int32.ofNat len)), .val (.int (Int32.ofNat i)), z] [])) → ∃ (T' : State) (B' : Cell) (z' : Slot), Stand p l e { frames := 0, locals := 0, cells := 0, slots := 0 } s m #[.ref b, .int (Int32.ofNat o), .ref d, .int (Int32.ofNat q), .int (Int32.ofNat len)] below meth c T' ([] ++ copyLocs d q len) 0 0 ∧ Put d B' s₁ T' ∧ Laid B B' q (q + len) (fun j => Value.int (lo8 (cv A (o + (j - q))))) ∧
      Steps p.tables e below (s₁.setTop (entryFrame m #[.ref b, .int (Int32.ofNat o), .ref d, .int (Int32.ofNat q), .int (Int32.ofNat len)] 7)) (T'.setTop (mkF m 3 #[.val (.ref b), .val (.int (Int32.ofNat (o + len))), .val (.ref d), .val (.int (Int32.ofNat (q + len))), .val (.int (Int32.ofNat len)), .val (.int (Int32.ofNat len)), z'] [])) := by
    intro r
    induction r with
    | zero =>
      intro i hi z hz Tl Bk Xl pl fl cl
      have hil : i = len := by omega
      rw [hil] at Xl fl cl
      exact ⟨Tl, Bk, z, Xl, pl, fl, cl⟩
    | succ r ih =>
      intro i hi z hz Tl Bk Xl pl fl cl
      have all := X0.warmed.alike.symm.trans Xl.warmed.alike
      have hAl := hA0.keep all (pl.other hne hA0.1)
      have hBk := hB0.like all pl.1 fl.1 fl.2.1 fl.2.2.1
      have hlt : q + i < Bk.slots.size := by rw [fl.2.2.1]; omega
      have c3 : Steps p.tables e below (s₁.setTop (entryFrame m #[.ref b, .int (Int32.ofNat o), .ref d, .int (Int32.ofNat q), .int (Int32.ofNat len)] 7)) (Tl.setTop (mkF m 12 #[.val (.ref b), .val (.int (Int32.ofNat (o + i))), .val (.ref d), .val (.int (Int32.ofNat (q + i))), .val (.int (Int32.ofNat len)), .val (.int (Int32.ofNat i)), z] [.int (Int32.ofNat (o + i)), .ref b])) := cl.trans (by
        refine XS.iload Xl.here hexec rfl (hb hbytes d3) rfl ?_
        refine XS.iload Xl.here hexec rfl (hb hbytes d5) rfl ?_
        refine XS.icmpNo Xl.here hexec rfl (hb hbytes d7) rfl (ii_ge_f (lt32 (by omega) (by omega))) ?_
        refine XS.aloadN Xl.here hexec rfl (hb hbytes d10) rfl rfl ?_
        refine XS.iloadN Xl.here hexec rfl (hb hbytes d11) rfl ?_
        exact Steps.refl _)
      have c4 : Steps p.tables e below (s₁.setTop (entryFrame m #[.ref b, .int (Int32.ofNat o), .ref d, .int (Int32.ofNat q), .int (Int32.ofNat len)] 7)) (Tl.setTop (mkF m 13 #[.val (.ref b), .val (.int (Int32.ofNat (o + i))), .val (.ref d), .val (.int (Int32.ofNat (q + i))), .val (.int (Int32.ofNat len)), .val (.int (Int32.ofNat i)), z] [.int (cv A (o + i))])) := c3.trans (by
        refine Xl.aget hexec hAl rfl (hA.get (i := o + i) (by omega)) rfl rfl (hb hbytes d12) ?_
        exact Steps.refl _)
      have c5 : Steps p.tables e below (s₁.setTop (entryFrame m #[.ref b, .int (Int32.ofNat o), .ref d, .int (Int32.ofNat q), .int (Int32.ofNat len)] 7)) (Tl.setTop (mkF m 15 #[.val (.ref b), .val (.int (Int32.ofNat (o + i))), .val (.ref d), .val (.int (Int32.ofNat (q + i))), .val (.int (Int32.ofNat len)), .val (.int (Int32.ofNat i)), .val (.int (cv A (o + i)))] [])) := c4.trans (by
        refine XS.istoreS Xl.here hexec rfl (hb hbytes d13) rfl rfl hz ?_
        exact Steps.refl _)
      have c6 : Steps p.tables e below (s₁.setTop (entryFrame m #[.ref b, .int (Int32.ofNat o), .ref d, .int (Int32.ofNat q), .int (Int32.ofNat len)] 7)) (Tl.setTop (mkF m 31 #[.val (.ref b), .val (.int (Int32.ofNat (o + i))), .val (.ref d), .val (.int (Int32.ofNat (q + i))), .val (.int (Int32.ofNat len)), .val (.int (Int32.ofNat i)), .val (.int (cv A (o + i)))] [.int (lo8 (cv A (o + i))), .int (Int32.ofNat (q + i)), .ref d])) := c5.trans (by
        refine XS.iload Xl.here hexec rfl (hb hbytes d15) rfl ?_
        refine sipushV Xl.here hexec rfl 255 (hb hbytes d17) (by decide) ?_
        refine XS.icmpYes Xl.here hexec rfl (pc0 := 20) rfl (hb hbytes d20) rfl (ii_le_t (hp i (by omega))) (by decide) rfl ?_
        refine XS.aloadN Xl.here hexec rfl (hb hbytes d26) rfl rfl ?_
        refine XS.iloadN Xl.here hexec rfl (hb hbytes d27) rfl ?_
        refine XS.iload Xl.here hexec rfl (hb hbytes d28) rfl ?_
        refine i2b Xl.here hexec rfl (hb hbytes d30) rfl ?_
        exact Steps.refl _)
      obtain ⟨T7, X7, p7, st7⟩ := Xl.aput hexec hBk rfl hlt rfl (fits_lo8 (cv A (o + i))) (g := (mkF m 31 #[.val (.ref b), .val (.int (Int32.ofNat (o + i))), .val (.ref d), .val (.int (Int32.ofNat (q + i))), .val (.int (Int32.ofNat len)), .val (.int (Int32.ofNat i)), .val (.int (cv A (o + i)))] [.int (lo8 (cv A (o + i))), .int (Int32.ofNat (q + i)), .ref d])) rfl (rest := []) rfl (hb hbytes d31)
      have c8 : Steps p.tables e below (s₁.setTop (entryFrame m #[.ref b, .int (Int32.ofNat o), .ref d, .int (Int32.ofNat q), .int (Int32.ofNat len)] 7)) (T7.setTop (mkF m 32 #[.val (.ref b), .val (.int (Int32.ofNat (o + i))), .val (.ref d), .val (.int (Int32.ofNat (q + i))), .val (.int (Int32.ofNat len)), .val (.int (Int32.ofNat i)), .val (.int (cv A (o + i)))] [])) := c6.trans (st7 _ (Steps.refl _))
      have c9 : Steps p.tables e below (s₁.setTop (entryFrame m #[.ref b, .int (Int32.ofNat o), .ref d, .int (Int32.ofNat q), .int (Int32.ofNat len)] 7)) (T7.setTop (mkF m 3 #[.val (.ref b), .val (.int (Int32.ofNat (o + i) + 1)), .val (.ref d), .val (.int (Int32.ofNat (q + i) + 1)), .val (.int (Int32.ofNat len)), .val (.int (Int32.ofNat i + 1)), .val (.int (cv A (o + i)))] [])) := c8.trans (by
        refine iincV X7.here hexec rfl 1 (hb hbytes d32) (by decide) rfl rfl ?_
        refine iincV X7.here hexec rfl 1 (hb hbytes d35) (by decide) rfl rfl ?_
        refine iincV X7.here hexec rfl 1 (hb hbytes d38) (by decide) rfl rfl ?_
        refine XS.goto X7.here hexec rfl (pc0 := 41) rfl (hb hbytes d41) (by decide) rfl ?_
        exact Steps.refl _)
      have c10 : Steps p.tables e below (s₁.setTop (entryFrame m #[.ref b, .int (Int32.ofNat o), .ref d, .int (Int32.ofNat q), .int (Int32.ofNat len)] 7)) (T7.setTop (mkF m 3 #[.val (.ref b), .val (.int (Int32.ofNat (o + (i + 1)))), .val (.ref d), .val (.int (Int32.ofNat (q + (i + 1)))), .val (.int (Int32.ofNat len)), .val (.int (Int32.ofNat (i + 1))), .val (.int (cv A (o + i)))] [])) := by
        have := c9
        rw [succ32, succ32, succ32] at this
        exact this
      exact ih (i + 1) (by omega) _ (Or.inr ⟨_, rfl, rfl⟩) T7 _ (by rw [copyLocs_step, ← List.append_assoc]; exact X7) (pl.trans p7) (fl.step (by omega) hlt (by simp)) c10
  obtain ⟨T9, B9, z9, X9, p9, f9, g9⟩ := loop len 0 (by omega) .unset (Or.inl rfl) s₁ B (by simpa [copyLocs] using X0) ⟨hB0.1, fun _ _ => rfl, rfl⟩ (Laid.zero _ _ _) c2
  have c11 : Steps p.tables e below (s₁.setTop (entryFrame m #[.ref b, .int (Int32.ofNat o), .ref d, .int (Int32.ofNat q), .int (Int32.ofNat len)] 7)) (T9.setTop (mkF m 46 #[.val (.ref b), .val (.int (Int32.ofNat (o + len))), .val (.ref d), .val (.int (Int32.ofNat (q + len))), .val (.int (Int32.ofNat len)), .val (.int (Int32.ofNat len)), z9] [.int (Int32.ofNat len)])) := g9.trans (by
    refine XS.iload X9.here hexec rfl (hb hbytes d3) rfl ?_
    refine XS.iload X9.here hexec rfl (hb hbytes d5) rfl ?_
    refine XS.icmpYes X9.here hexec rfl (pc0 := 7) rfl (hb hbytes d7) rfl (ii_ge_t (nlt32 (by omega) (Nat.le_refl _))) (by decide) rfl ?_
    refine XS.iload X9.here hexec rfl (hb hbytes d44) rfl ?_
    exact Steps.refl _)
  exact ⟨T9, some (.int (Int32.ofNat len)), _, _, _, X9, by simp, rfl, rfl, (fun h => by cases h), ⟨rfl, B9, p9.from hh0, f9⟩, fun fs hl => c11.trans (X9.ireturnOut hexec hret rfl (Or.inl rfl) (hb hbytes d46) hl)⟩
end Cmp5
namespace Cmp3
def yN : MethodName := ⟨"java/lang/StringUTF16", "compress", "([CII)[B"⟩
abbrev yB : ByteArray := jdk_52_method_16_code
theorem d0 : decode yB 0 = .ok (.iload_n 2, 1) := by decide +kernel
theorem d1 : decode yB 1 = .ok (.newarray .byte, 2) := by decide +kernel
theorem d3 : decode yB 3 = .ok (.astore_n 3, 1) := by decide +kernel
theorem d4 : decode yB 4 = .ok (.aload_n 0, 1) := by decide +kernel
theorem d5 : decode yB 5 = .ok (.iload_n 1, 1) := by decide +kernel
theorem d6 : decode yB 6 = .ok (.aload_n 3, 1) := by decide +kernel
theorem d7 : decode yB 7 = .ok (.iconst 0, 1) := by decide +kernel
theorem d8 : decode yB 8 = .ok (.iload_n 2, 1) := by decide +kernel
theorem d9 : decode yB 9 = .ok (.invokestatic 115, 3) := by decide +kernel
theorem d12 : decode yB 12 = .ok (.istore 4, 2) := by decide +kernel
theorem d14 : decode yB 14 = .ok (.iload 4, 2) := by decide +kernel
theorem d16 : decode yB 16 = .ok (.iload_n 2, 1) := by decide +kernel
theorem d17 : decode yB 17 = .ok (.if_icmp (.eq) 40, 3) := by decide +kernel
theorem d57 : decode yB 57 = .ok (.aload_n 3, 1) := by decide +kernel
theorem d58 : decode yB 58 = .ok (.areturn, 1) := by decide +kernel
def site : List Cond := [.arrayClass .byte, Cmp5.tab] ++ staticW U16 115 Cmp5.yN
def tab : Cond := tabOf yN yB 6 (some (.array .byte)) site
def P (b : Addr) (A : Cell) (o len : Nat) (args : Array Value) (s : State) : Prop := args = #[.ref b, .int (Int32.ofNat o), .int (Int32.ofNat len)] ∧ Ch b A s ∧ o + len ≤ A.slots.size ∧ len ≤ 536870912 ∧ ∀ i, i < len → ¬ 255 < cv A (o + i)
def E (b : Addr) (A : Cell) (o len : Nat) (r : Option Value) (s u : State) : Prop := NewArr .byte "[B" len (fun j => .int (lo8 (cv A (o + j)))) r s u ∧ u.heap.size = s.heap.size + 1
/-- no char of the range above 255: a new byte[] of their low bytes -/
theorem law (l : Launch) (b : Addr) (A : Cell) (o len : Nat) : Law l yN 3 3 1 18 yB 6 (some (.array .byte)) site (P b A o len) (E b A o len) [] 1 len := by
  refine Law.of_walk (plainFor_of_name (by decide +kernel)) (by decide +kernel) (by decide +kernel) (by decide) (fun _ _ h => by rw [h.1]; rfl) (fun _ U U' hal hh h => ⟨h.1, h.2.1.mv hal hh, h.2.2⟩) (fun r U U' V V' h1 hal h2 h => ⟨NewArr.mv r U U' V V' h1 hal h2 h.1, by rw [h1, h2]; exact h.2⟩) ?_
  intro p e s m args below meth c s₁ X0 hexec hbytes hml hret hlk hnm hown hh0 W hP
  obtain ⟨rfl, hA, l1, l2, hp⟩ := hP
  have a31 := hA.1.2.2.2
  have c1 : Steps p.tables e below (s₁.setTop (entryFrame m #[.ref b, .int (Int32.ofNat o), .int (Int32.ofNat len)] 6)) (s₁.setTop (mkF m 0 #[.val (.ref b), .val (.int (Int32.ofNat o)), .val (.int (Int32.ofNat len)), .unset, .unset, .unset] [])) := entry rfl
  have c2 : Steps p.tables e below (s₁.setTop (entryFrame m #[.ref b, .int (Int32.ofNat o), .int (Int32.ofNat len)] 6)) (s₁.setTop (mkF m 1 #[.val (.ref b), .val (.int (Int32.ofNat o)), .val (.int (Int32.ofNat len)), .unset, .unset, .unset] [.int (Int32.ofNat len)])) := c1.trans (by
    refine XS.iloadN X0.here hexec rfl (hb hbytes d0) rfl ?_
    exact Steps.refl _)
  obtain ⟨T3, B3, X3, ba3, bs3, bv3, bh3, bf3, st3⟩ := X0.anew hexec (atype := .byte) (wk W (.arrayClass .byte)) rfl (by show len * 1 ≤ _; omega) (by omega) (g := (mkF m 1 #[.val (.ref b), .val (.int (Int32.ofNat o)), .val (.int (Int32.ofNat len)), .unset, .unset, .unset] [.int (Int32.ofNat len)])) rfl (hb hbytes d1) (rest := []) rfl (Nat.le_refl _) (by show 0 + len ≤ len; omega)
  rw [hh0] at ba3 st3
  have kp3 : XT.Kept s T3 := (XT.Kept.of_eq hh0).push bh3
  have hA3 := hA.keep X3.warmed.alike (kp3 _ _ hA.1.1)
  have hne : b ≠ s.heap.size := hA.1.ne
  have c4 : Steps p.tables e below (s₁.setTop (entryFrame m #[.ref b, .int (Int32.ofNat o), .int (Int32.ofNat len)] 6)) (T3.setTop (mkF m 3 #[.val (.ref b), .val (.int (Int32.ofNat o)), .val (.int (Int32.ofNat len)), .unset, .unset, .unset] [.ref s.heap.size])) := c2.trans (st3 _ (Steps.refl _))
  have c5 : Steps p.tables e below (s₁.setTop (entryFrame m #[.ref b, .int (Int32.ofNat o), .int (Int32.ofNat len)] 6)) (T3.setTop (mkF m 9 #[.val (.ref b), .val (.int (Int32.ofNat o)), .val (.int (Int32.ofNat len)), .val (.ref s.heap.size), .unset, .unset] [.int (Int32.ofNat len), .int 0, .ref s.heap.size, .int (Int32.ofNat o), .ref b])) := c4.trans (by
    refine XS.astoreN X3.here hexec rfl (hb hbytes d3) rfl rfl rfl ?_
    refine XS.aloadN X3.here hexec rfl (hb hbytes d4) rfl rfl ?_
    refine XS.iloadN X3.here hexec rfl (hb hbytes d5) rfl ?_
    refine XS.aloadN X3.here hexec rfl (hb hbytes d6) rfl rfl ?_
    refine iconstV X3.here hexec rfl 0 (hb hbytes d7) (by decide) ?_
    refine XS.iloadN X3.here hexec rfl (hb hbytes d8) rfl ?_
    exact Steps.refl _)
  obtain ⟨v6, T6, X6, E6, g6⟩ := X3.callS hexec (Cmp5.law l b A s.heap.size B3 o 0 len) hown (wks W (staticW U16 115 Cmp5.yN)) (wk W Cmp5.tab) (W := 0) (Nat.le_of_ble_eq_true rfl) (Nat.le_of_ble_eq_true rfl) (Nat.le_refl _) (by show 0 + len + 0 ≤ len; omega) (g := (mkF m 9 #[.val (.ref b), .val (.int (Int32.ofNat o)), .val (.int (Int32.ofNat len)), .val (.ref s.heap.size), .unset, .unset] [.int (Int32.ofNat len), .int (Int32.ofNat 0), .ref s.heap.size, .int (Int32.ofNat o), .ref b])) rfl (by rw [hml]; rfl) c5 (argsL := [.ref b, .int (Int32.ofNat o), .ref s.heap.size, .int (Int32.ofNat 0), .int (Int32.ofNat len)]) (rest := []) rfl rfl (by show 2 * 0 + 0 ≤ _; decide) (hb hbytes d9) (⟨rfl, hA3, ba3, hne, l1, by rw [bs3]; simp, hp⟩)
  obtain ⟨rfl, B6, p6, f6⟩ := E6
  have c7 : Steps p.tables e below (s₁.setTop (entryFrame m #[.ref b, .int (Int32.ofNat o), .int (Int32.ofNat len)] 6)) (T6.setTop (mkF m 12 #[.val (.ref b), .val (.int (Int32.ofNat o)), .val (.int (Int32.ofNat len)), .val (.ref s.heap.size), .unset, .unset] [.int (Int32.ofNat len)])) := g6
  have c8 : Steps p.tables e below (s₁.setTop (entryFrame m #[.ref b, .int (Int32.ofNat o), .int (Int32.ofNat len)] 6)) (T6.setTop (mkF m 58 #[.val (.ref b), .val (.int (Int32.ofNat o)), .val (.int (Int32.ofNat len)), .val (.ref s.heap.size), .val (.int (Int32.ofNat len)), .unset] [.ref s.heap.size])) := c7.trans (by
    refine XS.istore X6.here hexec rfl (hb hbytes d12) rfl rfl ?_
    refine XS.iload X6.here hexec rfl (hb hbytes d14) rfl ?_
    refine XS.iloadN X6.here hexec rfl (hb hbytes d16) rfl ?_
    refine XS.icmpYes X6.here hexec rfl (pc0 := 17) rfl (hb hbytes d17) rfl (ii_eq_t rfl) (by decide) rfl ?_
    refine XS.aloadN X6.here hexec rfl (hb hbytes d57) rfl rfl ?_
    exact Steps.refl _)
  have X8 := X6.wide (L' := []) (cells' := 1) (slots' := len) (fun x hx hlt => by
    simp only [List.nil_append, copyLocs, List.mem_map, List.mem_range] at hx
    obtain ⟨i, -, rfl⟩ := hx
    exact absurd hlt (Nat.lt_irrefl _)) (Nat.le_refl _) (by omega)
  exact ⟨T6, some (.ref s.heap.size), _, _, _, X8, rfl, rfl, rfl, (fun h => by cases h), ⟨⟨rfl, B6, ba3.like (X3.warmed.alike.symm.trans X6.warmed.alike) p6.1 f6.1 f6.2.1 f6.2.2.1, f6.2.1.trans bv3, by rw [X6.warmed.alike.findClass, f6.1]; exact bf3, by rw [f6.2.2.1, bs3]; simp, fun j hj => by rw [f6.2.2.2 j, if_pos (by omega)]; rfl, kp3.put p6 (Nat.le_refl _)⟩, by rw [p6.2.2, bh3, hh0]; simp⟩, fun fs hl => c8.trans (X8.areturnOut hexec rfl hret rfl (hb hbytes d58) hl)⟩
end Cmp3
namespace CodL
def yN : MethodName := ⟨"java/lang/StringUTF16", "coderFromArrayLen", "([BI)B"⟩
abbrev yB : ByteArray := jdk_52_method_15_code
theorem d0 : decode yB 0 = .ok (.iload_n 1, 1) := by decide +kernel
theorem d1 : decode yB 1 = .ok (.aload_n 0, 1) := by decide +kernel
theorem d2 : decode yB 2 = .ok (.arraylength, 1) := by decide +kernel
theorem d3 : decode yB 3 = .ok (.isub, 1) := by decide +kernel
theorem d4 : decode yB 4 = .ok (.bipush 31, 2) := by decide +kernel
theorem d6 : decode yB 6 = .ok (.iushr, 1) := by decide +kernel
theorem d7 : decode yB 7 = .ok (.i2b, 1) := by decide +kernel
theorem d8 : decode yB 8 = .ok (.ireturn, 1) := by decide +kernel
def site : List Cond := []
def tab : Cond := tabOf yN yB 2 (some .byte) site
def P (d : Addr) (B : Cell) (args : Array Value) (s : State) : Prop := args = #[.ref d, .int (Int32.ofNat B.slots.size)] ∧ Arr .byte d B s
def E (r : Option Value) (s u : State) : Prop := XT.PureE (some (.int 0)) r s u
/-- an array as long as the number of chars: LATIN1 -/
theorem law (l : Launch) (d : Addr) (B : Cell) : Law l yN 2 2 0 0 yB 2 (some .byte) site (P d B) E [] 0 0 := by
  refine Law.of_walk (plainFor_of_name (by decide +kernel)) (by decide +kernel) (by decide +kernel) (by decide) (fun _ _ h => by rw [h.1]; rfl) (fun _ U U' hal hh h => ⟨h.1, h.2.mv hal hh⟩) (fun r U U' V V' h1 hal h2 h => XT.PureE.mv r U U' V V' h1 hal h2 h) ?_
  intro p e s m args below meth c s₁ X0 hexec hbytes hml hret hlk hnm hown hh0 W hP
  obtain ⟨rfl, hB⟩ := hP
  have hB0 := hB.mv X0.warmed.alike hh0
  have c1 : Steps p.tables e below (s₁.setTop (entryFrame m #[.ref d, .int (Int32.ofNat B.slots.size)] 2)) (s₁.setTop (mkF m 0 #[.val (.ref d), .val (.int (Int32.ofNat B.slots.size))] [])) := entry rfl
  have c2 : Steps p.tables e below (s₁.setTop (entryFrame m #[.ref d, .int (Int32.ofNat B.slots.size)] 2)) (s₁.setTop (mkF m 2 #[.val (.ref d), .val (.int (Int32.ofNat B.slots.size))] [.ref d, .int (Int32.ofNat B.slots.size)])) := c1.trans (by
    refine XS.iloadN X0.here hexec rfl (hb hbytes d0) rfl ?_
    refine XS.aloadN X0.here hexec rfl (hb hbytes d1) rfl rfl ?_
    exact Steps.refl _)
  have c3 : Steps p.tables e below (s₁.setTop (entryFrame m #[.ref d, .int (Int32.ofNat B.slots.size)] 2)) (s₁.setTop (mkF m 8 #[.val (.ref d), .val (.int (Int32.ofNat B.slots.size))] [.int (lo8 (ushr (Int32.ofNat B.slots.size - Int32.ofNat B.slots.size) 31))])) := c2.trans (by
    refine X0.alen hexec hB0 rfl rfl (hb hbytes d2) ?_
    refine XS.isub X0.here hexec rfl (hb hbytes d3) rfl ?_
    refine bipushV X0.here hexec rfl 31 (hb hbytes d4) (by decide) ?_
    refine iushr X0.here hexec rfl (hb hbytes d6) rfl ?_
    refine i2b X0.here hexec rfl (hb hbytes d7) rfl ?_
    exact Steps.refl _)
  have e0 : lo8 (ushr (Int32.ofNat B.slots.size - Int32.ofNat B.slots.size) 31) = 0 := by rw [Int32.sub_self]; decide
  rw [e0] at c3
  exact ⟨s₁, some (.int 0), _, _, _, X0, rfl, rfl, rfl, (fun h => by cases h), ⟨rfl, hh0⟩, fun fs hl => c3.trans (X0.ireturnOut hexec hret rfl (Or.inr (Or.inr (Or.inl rfl))) (hb hbytes d8) hl)⟩
end CodL
/-- the String at a is Latin-1 over a new byte[] (the heap's one new cell): the low bytes of the len chars of A from o on; every cell but a is kept -/
def Got (a : Addr) (D : Cell) (fV fC : Field) (A : Cell) (o len : Nat) (r : Option Value) (s u : State) : Prop := r = none ∧ ∃ D' V : Cell, Blank "java/lang/String" a D' u ∧ Same D D' [fV.slot, fC.slot] ∧ D'.slots[fV.slot]? = some (.ref s.heap.size) ∧ D'.slots[fC.slot]? = some (.int 0) ∧ Arr .byte s.heap.size V u ∧ V.vm = .none ∧ u.vm.findClass "[B" = some V.cls ∧ V.slots.size = len ∧ (∀ j, j < len → V.slots[j]? = some (.int (lo8 (cv A (o + j))))) ∧ (∀ (y : Addr) (c : Cell), y ≠ a → s.heap[y]? = some c → u.heap[y]? = some c) ∧ u.heap.size = s.heap.size + 1
theorem Got.mv {a : Addr} {D A : Cell} {fV fC : Field} {o len : Nat} : ∀ r (U U' V V' : State), U'.heap = U.heap → V.vm.Alike V'.vm → V'.heap = V.heap → Got a D fV fC A o len r U V → Got a D fV fC A o len r U' V' :=
  fun r U U' V V' h1 hal h2 ⟨e0, D', X, a1, a2, a3, a4, a5, a6, a7, a8, a9, a10, a11⟩ => ⟨e0, D', X, a1.mv hal h2, a2, by rw [h1]; exact a3, a4, by rw [h1]; exact a5.mv hal h2, a6, by rw [hal.findClass]; exact a7, a8, a9, by rw [h1, h2]; exact a10, by rw [h1, h2]; exact a11⟩
namespace New4
def yN : MethodName := ⟨"java/lang/String", "<init>", "([CIILjava/lang/Void;)V"⟩
abbrev yB : ByteArray := jdk_42_method_149_code
theorem d0 : decode yB 0 = .ok (.aload_n 0, 1) := by decide +kernel
theorem d1 : decode yB 1 = .ok (.invokespecial 1, 3) := by decide +kernel
theorem d4 : decode yB 4 = .ok (.iload_n 3, 1) := by decide +kernel
theorem d5 : decode yB 5 = .ok (.ifCond (.ne) 22, 3) := by decide +kernel
theorem d27 : decode yB 27 = .ok (.getstatic 38, 3) := by decide +kernel
theorem d30 : decode yB 30 = .ok (.ifCond (.eq) 28, 3) := by decide +kernel
theorem d33 : decode yB 33 = .ok (.aload_n 1, 1) := by decide +kernel
theorem d34 : decode yB 34 = .ok (.iload_n 2, 1) := by decide +kernel
theorem d35 : decode yB 35 = .ok (.iload_n 3, 1) := by decide +kernel
theorem d36 : decode yB 36 = .ok (.invokestatic 177, 3) := by decide +kernel
theorem d39 : decode yB 39 = .ok (.astore 5, 2) := by decide +kernel
theorem d41 : decode yB 41 = .ok (.aload_n 0, 1) := by decide +kernel
theorem d42 : decode yB 42 = .ok (.aload 5, 2) := by decide +kernel
theorem d44 : decode yB 44 = .ok (.iload_n 3, 1) := by decide +kernel
theorem d45 : decode yB 45 = .ok (.invokestatic 47, 3) := by decide +kernel
theorem d48 : decode yB 48 = .ok (.putfield 15, 3) := by decide +kernel
theorem d51 : decode yB 51 = .ok (.aload_n 0, 1) := by decide +kernel
theorem d52 : decode yB 52 = .ok (.aload 5, 2) := by decide +kernel
theorem d54 : decode yB 54 = .ok (.putfield 9, 3) := by decide +kernel
theorem d57 : decode yB 57 = .ok (.return_, 1) := by decide +kernel
def site : List Cond := [.fieldLink "java/lang/String" 38 "java/lang/String" "COMPACT_STRINGS" "Z", Cmp3.tab, CodL.tab, .laysFinal "java/lang/String" "java/lang/String" "value" "[B", .fieldLink "java/lang/String" 9 "java/lang/String" "value" "[B", .laysFinal "java/lang/String" "java/lang/String" "coder" "B", .fieldLink "java/lang/String" 15 "java/lang/String" "coder" "B"] ++ objW "java/lang/String" 1 ++ staticW "java/lang/String" 177 Cmp3.yN ++ staticW "java/lang/String" 47 CodL.yN
def tab : Cond := tabOf yN yB 6 none site
def P (a : Addr) (D : Cell) (fV fC : Field) (b : Addr) (A : Cell) (z : Int32) (o len : Nat) (args : Array Value) (s : State) : Prop := args = #[.ref a, .ref b, .int (Int32.ofNat o), .int (Int32.ofNat len), .null] ∧ Blank "java/lang/String" a D s ∧ Found "java/lang/String" "value" "[B" fV s ∧ Found "java/lang/String" "coder" "B" fC s ∧ Ch b A s ∧ StaticIs s "java/lang/String" "COMPACT_STRINGS" "Z" (.int z) ∧ ¬ z = 0 ∧ 0 < len ∧ o + len ≤ A.slots.size ∧ len ≤ 536870912 ∧ ∀ i, i < len → ¬ 255 < cv A (o + i)
def E (a : Addr) (D : Cell) (fV fC : Field) (A : Cell) (o len : Nat) (r : Option Value) (s u : State) : Prop := Got a D fV fC A o len r s u
/-- len > 0, no char of the range above 255: a Latin-1 String of their low bytes -/
theorem law (l : Launch) (a : Addr) (D : Cell) (fV fC : Field) (b : Addr) (A : Cell) (z : Int32) (o len : Nat) : Law l yN 5 4 2 35 yB 6 none site (P a D fV fC b A z o len) (E a D fV fC A o len) [⟨a, fC.slot⟩, ⟨a, fV.slot⟩] 1 len := by
  refine Law.of_walk (plainFor_of_name (by decide +kernel)) (by decide +kernel) (by decide +kernel) (by decide) (fun _ _ h => by rw [h.1]; rfl) (fun _ U U' hal hh h => ⟨h.1, h.2.1.mv hal hh, h.2.2.1.al hal, h.2.2.2.1.al hal, h.2.2.2.2.1.mv hal hh, h.2.2.2.2.2.1.there hal hh, h.2.2.2.2.2.2⟩) (fun r U U' V V' h1 hal h2 h => Got.mv r U U' V V' h1 hal h2 h) ?_
  intro p e s m args below meth c s₁ X0 hexec hbytes hml hret hlk hnm hown hh0 W hP
  obtain ⟨rfl, hB, f1, f2, hA, s1, hz, l0, l1, l2, hp⟩ := hP
  have a31 := hA.1.2.2.2
  have c1 : Steps p.tables e below (s₁.setTop (entryFrame m #[.ref a, .ref b, .int (Int32.ofNat o), .int (Int32.ofNat len), .null] 6)) (s₁.setTop (mkF m 0 #[.val (.ref a), .val (.ref b), .val (.int (Int32.ofNat o)), .val (.int (Int32.ofNat len)), .val .null, .unset] [])) := entry rfl
  have c2 : Steps p.tables e below (s₁.setTop (entryFrame m #[.ref a, .ref b, .int (Int32.ofNat o), .int (Int32.ofNat len), .null] 6)) (s₁.setTop (mkF m 1 #[.val (.ref a), .val (.ref b), .val (.int (Int32.ofNat o)), .val (.int (Int32.ofNat len)), .val .null, .unset] [.ref a])) := c1.trans (by
    refine XS.aloadN X0.here hexec rfl (hb hbytes d0) rfl rfl ?_
    exact Steps.refl _)
  obtain ⟨T3, X3, q3, st3⟩ := X0.oinit hexec hown (wks W (objW "java/lang/String" 1)) (g := (mkF m 1 #[.val (.ref a), .val (.ref b), .val (.int (Int32.ofNat o)), .val (.int (Int32.ofNat len)), .val .null, .unset] [.ref a])) rfl (by rw [hml]; rfl) (rest := []) rfl (hb hbytes d1) (W := 0) (by show 2 * 0 + 0 ≤ _; decide) (Nat.le_of_ble_eq_true rfl) (Nat.le_of_ble_eq_true rfl)
  have hh3 := q3.trans hh0
  have c4 : Steps p.tables e below (s₁.setTop (entryFrame m #[.ref a, .ref b, .int (Int32.ofNat o), .int (Int32.ofNat len), .null] 6)) (T3.setTop (mkF m 27 #[.val (.ref a), .val (.ref b), .val (.int (Int32.ofNat o)), .val (.int (Int32.ofNat len)), .val .null, .unset] [])) := (c2.trans (st3 _ (Steps.refl _))).trans (by
    refine XS.iloadN X3.here hexec rfl (hb hbytes d4) rfl ?_
    refine XS.ifYes X3.here hexec rfl (pc0 := 5) rfl (hb hbytes d5) rfl (i0_ne_t (nz32 (by omega) l0)) (by decide) rfl ?_
    exact Steps.refl _)
  obtain ⟨T5, X5, q5, st5⟩ := X3.sget hexec hown (wk W (.fieldLink "java/lang/String" 38 "java/lang/String" "COMPACT_STRINGS" "Z")) s1 (fun _ _ h => by rw [hh3]; exact h) (g := (mkF m 27 #[.val (.ref a), .val (.ref b), .val (.int (Int32.ofNat o)), .val (.int (Int32.ofNat len)), .val .null, .unset] [])) rfl (hb hbytes d27)
  have hh5 := q5.trans hh3
  have c6 : Steps p.tables e below (s₁.setTop (entryFrame m #[.ref a, .ref b, .int (Int32.ofNat o), .int (Int32.ofNat len), .null] 6)) (T5.setTop (mkF m 30 #[.val (.ref a), .val (.ref b), .val (.int (Int32.ofNat o)), .val (.int (Int32.ofNat len)), .val .null, .unset] [.int z])) := c4.trans (st5 _ (Steps.refl _))
  have c7 : Steps p.tables e below (s₁.setTop (entryFrame m #[.ref a, .ref b, .int (Int32.ofNat o), .int (Int32.ofNat len), .null] 6)) (T5.setTop (mkF m 36 #[.val (.ref a), .val (.ref b), .val (.int (Int32.ofNat o)), .val (.int (Int32.ofNat len)), .val .null, .unset] [.int (Int32.ofNat len), .int (Int32.ofNat o), .ref b])) := c6.trans (by
    refine XS.ifNo X5.here hexec rfl (hb hbytes d30) rfl (i0_eq_f hz) ?_
    refine XS.aloadN X5.here hexec rfl (hb hbytes d33) rfl rfl ?_
    refine XS.iloadN X5.here hexec rfl (hb hbytes d34) rfl ?_
    refine XS.iloadN X5.here hexec rfl (hb hbytes d35) rfl ?_
    exact Steps.refl _)
  obtain ⟨v8, T8, X8, E8, g8⟩ := X5.callS hexec (Cmp3.law l b A o len) hown (wks W (staticW "java/lang/String" 177 Cmp3.yN)) (wk W Cmp3.tab) (W := 0) (Nat.le_of_ble_eq_true rfl) (Nat.le_of_ble_eq_true rfl) (Nat.le_refl _) (by show 0 + len ≤ len; omega) (g := (mkF m 36 #[.val (.ref a), .val (.ref b), .val (.int (Int32.ofNat o)), .val (.int (Int32.ofNat len)), .val .null, .unset] [.int (Int32.ofNat len), .int (Int32.ofNat o), .ref b])) rfl (by rw [hml]; rfl) c7 (argsL := [.ref b, .int (Int32.ofNat o), .int (Int32.ofNat len)]) (rest := []) rfl rfl (by show 2 * 0 + 0 ≤ _; decide) (hb hbytes d36) (⟨rfl, hA.mv X5.warmed.alike hh5, l1, l2, hp⟩)
  obtain ⟨e8, z8⟩ := E8
  obtain ⟨rfl, N, n1, n2, n3, n4, n5, n6⟩ := NewArr.mv _ T5 s _ _ hh5.symm (Vm.Alike.refl _) rfl e8
  rw [hh5] at z8
  have hB1 := hB.keep X8.warmed.alike (n6 _ _ hB.1)
  have hne : s.heap.size ≠ a := (Nat.ne_of_lt (Array.getElem?_eq_some_iff.mp hB.1).1).symm
  have c9 : Steps p.tables e below (s₁.setTop (entryFrame m #[.ref a, .ref b, .int (Int32.ofNat o), .int (Int32.ofNat len), .null] 6)) (T8.setTop (mkF m 39 #[.val (.ref a), .val (.ref b), .val (.int (Int32.ofNat o)), .val (.int (Int32.ofNat len)), .val .null, .unset] [.ref s.heap.size])) := g8
  have c10 : Steps p.tables e below (s₁.setTop (entryFrame m #[.ref a, .ref b, .int (Int32.ofNat o), .int (Int32.ofNat len), .null] 6)) (T8.setTop (mkF m 45 #[.val (.ref a), .val (.ref b), .val (.int (Int32.ofNat o)), .val (.int (Int32.ofNat len)), .val .null, .val (.ref s.heap.size)] [.int (Int32.ofNat N.slots.size), .ref s.heap.size, .ref a])) := by
    have hc : Steps p.tables e below (s₁.setTop (entryFrame m #[.ref a, .ref b, .int (Int32.ofNat o), .int (Int32.ofNat len), .null] 6)) (T8.setTop (mkF m 45 #[.val (.ref a), .val (.ref b), .val (.int (Int32.ofNat o)), .val (.int (Int32.ofNat len)), .val .null, .val (.ref s.heap.size)] [.int (Int32.ofNat len), .ref s.heap.size, .ref a])) := c9.trans (by
      refine XS.astore X8.here hexec rfl (hb hbytes d39) rfl rfl rfl ?_
      refine XS.aloadN X8.here hexec rfl (hb hbytes d41) rfl rfl ?_
      refine XS.aload X8.here hexec rfl (hb hbytes d42) rfl rfl ?_
      refine XS.iloadN X8.here hexec rfl (hb hbytes d44) rfl ?_
      exact Steps.refl _)
    rw [n4]; exact hc
  obtain ⟨v11, T11, X11, E11, g11⟩ := X8.callS hexec (CodL.law l s.heap.size N) hown (wks W (staticW "java/lang/String" 47 CodL.yN)) (wk W CodL.tab) (W := 1) (Nat.le_of_ble_eq_true rfl) (Nat.le_of_ble_eq_true rfl) (Nat.le_refl _) (by show 0 + len + 0 ≤ len; omega) (g := (mkF m 45 #[.val (.ref a), .val (.ref b), .val (.int (Int32.ofNat o)), .val (.int (Int32.ofNat len)), .val .null, .val (.ref s.heap.size)] [.int (Int32.ofNat N.slots.size), .ref s.heap.size, .ref a])) rfl (by rw [hml]; rfl) c10 (argsL := [.ref s.heap.size, .int (Int32.ofNat N.slots.size)]) (rest := [.ref a]) rfl rfl (by show 2 * 0 + (1 + 0) ≤ _; decide) (hb hbytes d45) (⟨rfl, n1⟩)
  obtain ⟨rfl, q11⟩ := E11
  have hB11 := hB1.mv (X8.warmed.alike.symm.trans X11.warmed.alike) q11
  have c12 : Steps p.tables e below (s₁.setTop (entryFrame m #[.ref a, .ref b, .int (Int32.ofNat o), .int (Int32.ofNat len), .null] 6)) (T11.setTop (mkF m 48 #[.val (.ref a), .val (.ref b), .val (.int (Int32.ofNat o)), .val (.int (Int32.ofNat len)), .val .null, .val (.ref s.heap.size)] [.int 0, .ref a])) := g11
  obtain ⟨T13, X13, p13, bl13, sl13, st13⟩ := X11.finit hexec hown (wk W (.fieldLink "java/lang/String" 15 "java/lang/String" "coder" "B")) (Or.inr ⟨_, (wk W (.laysFinal "java/lang/String" "java/lang/String" "coder" "B"))⟩) (Or.inl ⟨rfl, hnm⟩) f2 (Or.inl rfl) hB11 (t := .byte) (by decide +kernel) rfl (g := (mkF m 48 #[.val (.ref a), .val (.ref b), .val (.int (Int32.ofNat o)), .val (.int (Int32.ofNat len)), .val .null, .val (.ref s.heap.size)] [.int 0, .ref a])) rfl (rest := []) rfl (hb hbytes d48)
  have c14 : Steps p.tables e below (s₁.setTop (entryFrame m #[.ref a, .ref b, .int (Int32.ofNat o), .int (Int32.ofNat len), .null] 6)) (T13.setTop (mkF m 54 #[.val (.ref a), .val (.ref b), .val (.int (Int32.ofNat o)), .val (.int (Int32.ofNat len)), .val .null, .val (.ref s.heap.size)] [.ref s.heap.size, .ref a])) := (c12.trans (st13 _ (Steps.refl _))).trans (by
    refine XS.aloadN X13.here hexec rfl (hb hbytes d51) rfl rfl ?_
    refine XS.aload X13.here hexec rfl (hb hbytes d52) rfl rfl ?_
    exact Steps.refl _)
  obtain ⟨T15, X15, p15, bl15, sl15, st15⟩ := X13.finit hexec hown (wk W (.fieldLink "java/lang/String" 9 "java/lang/String" "value" "[B")) (Or.inr ⟨_, (wk W (.laysFinal "java/lang/String" "java/lang/String" "value" "[B"))⟩) (Or.inl ⟨rfl, hnm⟩) f1 (Or.inl rfl) bl13 (t := (.array .byte)) (by decide +kernel) rfl (g := (mkF m 54 #[.val (.ref a), .val (.ref b), .val (.int (Int32.ofNat o)), .val (.int (Int32.ofNat len)), .val .null, .val (.ref s.heap.size)] [.ref s.heap.size, .ref a])) rfl (rest := []) rfl (hb hbytes d54)
  have c16 : Steps p.tables e below (s₁.setTop (entryFrame m #[.ref a, .ref b, .int (Int32.ofNat o), .int (Int32.ofNat len), .null] 6)) (T15.setTop (mkF m 57 #[.val (.ref a), .val (.ref b), .val (.int (Int32.ofNat o)), .val (.int (Int32.ofNat len)), .val .null, .val (.ref s.heap.size)] [])) := c14.trans (st15 _ (Steps.refl _))
  have ap := apart (Or.inr ⟨_, (wk W (.laysFinal "java/lang/String" "java/lang/String" "value" "[B"))⟩) (Or.inr ⟨_, (wk W (.laysFinal "java/lang/String" "java/lang/String" "coder" "B"))⟩) f1 f2 (t₁ := .array .byte) (t₂ := .byte) (by decide +kernel) (by decide +kernel) (by decide)
  have al := X8.warmed.alike.symm.trans X15.warmed.alike
  have n7 : T11.heap[s.heap.size]? = some N := by rw [q11]; exact n1.1
  exact ⟨T15, none, _, _, _, X15, by simp, rfl, by omega, (fun _ => rfl), ⟨rfl, _, N, bl15, ((Same.refl D _).set _ (by simp)).set _ (by simp), sl15, (Cell.slots_setSlot_ne _ ap).trans sl13, n1.keep al (p15.other hne (p13.other hne n7)), n2, by rw [al.findClass]; exact n3, n4, n5, fun y c h1 h2 => p15.other h1 (p13.other h1 (by rw [q11]; exact n6 y c h2)), by rw [p15.2.2, p13.2.2, q11]; exact z8⟩, fun fs hl => c16.trans (X15.returnOut hexec hret (hb hbytes d57) hl)⟩
end New4
namespace New1
def yN : MethodName := ⟨"java/lang/String", "<init>", "([C)V"⟩
abbrev yB : ByteArray := jdk_42_method_3_code
theorem d0 : decode yB 0 = .ok (.aload_n 0, 1) := by decide +kernel
theorem d1 : decode yB 1 = .ok (.aload_n 1, 1) := by decide +kernel
theorem d2 : decode yB 2 = .ok (.iconst 0, 1) := by decide +kernel
theorem d3 : decode yB 3 = .ok (.aload_n 1, 1) := by decide +kernel
theorem d4 : decode yB 4 = .ok (.arraylength, 1) := by decide +kernel
theorem d5 : decode yB 5 = .ok (.aconst_null, 1) := by decide +kernel
theorem d6 : decode yB 6 = .ok (.invokespecial 27, 3) := by decide +kernel
theorem d9 : decode yB 9 = .ok (.return_, 1) := by decide +kernel
def site : List Cond := [New4.tab] ++ initW "java/lang/String" 27 New4.yN
def tab : Cond := tabOf yN yB 2 none site
def P (a : Addr) (D : Cell) (fV fC : Field) (b : Addr) (A : Cell) (z : Int32) (args : Array Value) (s : State) : Prop := args = #[.ref a, .ref b] ∧ Blank "java/lang/String" a D s ∧ Found "java/lang/String" "value" "[B" fV s ∧ Found "java/lang/String" "coder" "B" fC s ∧ Ch b A s ∧ StaticIs s "java/lang/String" "COMPACT_STRINGS" "Z" (.int z) ∧ ¬ z = 0 ∧ 0 < A.slots.size ∧ A.slots.size ≤ 536870912 ∧ ∀ i, i < A.slots.size → ¬ 255 < cv A i
def E (a : Addr) (D : Cell) (fV fC : Field) (A : Cell) (r : Option Value) (s u : State) : Prop := Got a D fV fC A 0 A.slots.size r s u
/-- new String(chars), not empty, no char above 255: a Latin-1 String of their low bytes -/
theorem law (l : Launch) (a : Addr) (D : Cell) (fV fC : Field) (b : Addr) (A : Cell) (z : Int32) : Law l yN 2 1 3 52 yB 2 none site (P a D fV fC b A z) (E a D fV fC A) [⟨a, fC.slot⟩, ⟨a, fV.slot⟩] 1 A.slots.size := by
  refine Law.of_walk (plainFor_of_name (by decide +kernel)) (by decide +kernel) (by decide +kernel) (by decide) (fun _ _ h => by rw [h.1]; rfl) (fun _ U U' hal hh h => ⟨h.1, h.2.1.mv hal hh, h.2.2.1.al hal, h.2.2.2.1.al hal, h.2.2.2.2.1.mv hal hh, h.2.2.2.2.2.1.there hal hh, h.2.2.2.2.2.2⟩) (fun r U U' V V' h1 hal h2 h => Got.mv r U U' V V' h1 hal h2 h) ?_
  intro p e s m args below meth c s₁ X0 hexec hbytes hml hret hlk hnm hown hh0 W hP
  obtain ⟨rfl, hB, f1, f2, hA, s1, hz, l0, l2, hp⟩ := hP
  have c1 : Steps p.tables e below (s₁.setTop (entryFrame m #[.ref a, .ref b] 2)) (s₁.setTop (mkF m 0 #[.val (.ref a), .val (.ref b)] [])) := entry rfl
  have c2 : Steps p.tables e below (s₁.setTop (entryFrame m #[.ref a, .ref b] 2)) (s₁.setTop (mkF m 6 #[.val (.ref a), .val (.ref b)] [.null, .int (Int32.ofNat A.slots.size), .int 0, .ref b, .ref a])) := c1.trans (by
    refine XS.aloadN X0.here hexec rfl (hb hbytes d0) rfl rfl ?_
    refine XS.aloadN X0.here hexec rfl (hb hbytes d1) rfl rfl ?_
    refine iconstV X0.here hexec rfl 0 (hb hbytes d2) (by decide) ?_
    refine XS.aloadN X0.here hexec rfl (hb hbytes d3) rfl rfl ?_
    refine X0.alen hexec (hA.1.mv X0.warmed.alike hh0) rfl rfl (hb hbytes d4) ?_
    refine XS.aconstNull X0.here hexec rfl (hb hbytes d5) ?_
    exact Steps.refl _)
  obtain ⟨v3, T3, X3, E3, g3⟩ := X0.callN hexec (New4.law l a D fV fC b A z 0 A.slots.size) rfl hown (wks W (initW "java/lang/String" 27 New4.yN)) (W New4.tab (by simp only [site, List.mem_cons, List.mem_append, true_or, or_true])) (W := 0) (Nat.le_of_ble_eq_true rfl) (Nat.le_of_ble_eq_true rfl) (Nat.le_refl _) (by show 0 + A.slots.size ≤ A.slots.size; omega) (g := (mkF m 6 #[.val (.ref a), .val (.ref b)] [.null, .int (Int32.ofNat A.slots.size), .int (Int32.ofNat 0), .ref b, .ref a])) rfl (by rw [hml]; rfl) c2 (argsL := [.ref b, .int (Int32.ofNat 0), .int (Int32.ofNat A.slots.size), .null]) (rest := []) rfl rfl (by show 2 * 0 + 0 ≤ _; decide) (hb hbytes d6) (⟨rfl, hB.mv X0.warmed.alike hh0, f1.al X0.warmed.alike, f2.al X0.warmed.alike, hA.mv X0.warmed.alike hh0, s1.there X0.warmed.alike hh0, hz, l0, by omega, l2, fun i hi => by rw [Nat.zero_add]; exact hp i hi⟩)
  have e0 := Got.mv _ s₁ s _ _ hh0.symm (Vm.Alike.refl _) rfl E3
  obtain rfl := e0.1
  have c4 : Steps p.tables e below (s₁.setTop (entryFrame m #[.ref a, .ref b] 2)) (T3.setTop (mkF m 9 #[.val (.ref a), .val (.ref b)] [])) := g3
  exact ⟨T3, none, _, _, _, X3, by simp, rfl, by omega, (fun _ => rfl), e0, fun fs hl => c4.trans (X3.returnOut hexec hret (hb hbytes d9) hl)⟩
theorem pays {l : Launch} {R : Room} {p : Program} {e : Env} {below : List Frame} {s : State} {sargs : Array Value} {len W : Nat} (a : Addr) (D : Cell) (fV fC : Field) (b : Addr) (A : Cell) (z : Int32) (htab : tab.before sargs s = true) (hfr : 4 ≤ R.frames) (hlo : W + 65 ≤ R.locals) :
    Back l R p e below s sargs yN len W (fun A₁ a₁ => A₁.cells + 1 ≤ R.cells ∧ A₁.slots + A.slots.size ≤ R.slots ∧ P a D fV fC b A z a₁ A₁.U) (fun A₁ _ v₁ B₁ => E a D fV fC A v₁ A₁.U B₁.U ∧ B₁.locs = A₁.locs ++ [⟨a, fC.slot⟩, ⟨a, fV.slot⟩] ∧ B₁.cells = A₁.cells + 1 ∧ B₁.slots = A₁.slots + A.slots.size) :=
  (law l a D fV fC b A z).pays htab hfr (by omega)
end New1
/-- the byte, read back as charAt reads it, is the char -/
theorem lo8_mask {x : Int32} (h0 : ¬ x < 0) (h1 : ¬ 255 < x) : lo8 x &&& 255 = x := by
  have t : ∀ k : Fin 256, lo8 (Int32.ofNat k.val) &&& 255 = Int32.ofNat k.val := by decide +kernel
  rw [Int32.lt_iff_toInt_lt] at h0 h1
  have e0 : (0 : Int32).toInt = 0 := rfl
  have e1 : (255 : Int32).toInt = 255 := rfl
  obtain ⟨k, hk⟩ : ∃ k : Nat, x.toInt = k := ⟨x.toInt.toNat, by omega⟩
  have hx : x = Int32.ofNat k := Int32.toInt_inj.mp (by rw [hk, Int32.toInt_ofNat_small (by omega)])
  rw [hx]
  exact t ⟨k, by omega⟩
end StrChars
namespace StrChars.Road
open Jvm Sem ClassFile Op Lib Jvm.Stand Jvm.Free Jvm.Free.XT
open Jvm.Lib.Cold (StaticIs)
abbrev ST : String := "java/lang/String"
/-- every table word that New1's law asks, flat -/
abbrev words : List Jvm.Cond := [.code New1.yN New1.yB 2 none, .initialized ST, .methodLink ST 27 New4.yN, .instanceMethod New4.yN,
  .code New4.yN New4.yB 6 none, .fieldLink ST 38 ST "COMPACT_STRINGS" "Z", .laysFinal ST ST "value" "[B", .fieldLink ST 9 ST "value" "[B", .laysFinal ST ST "coder" "B", .fieldLink ST 15 ST "coder" "B",
  .methodLink ST 1 Lib.objectInit, .instanceMethod Lib.objectInit, .code Lib.objectInit ⟨#[0xb1]⟩ 1 none, .methodLink ST 177 Cmp3.yN, .static Cmp3.yN, .methodLink ST 47 CodL.yN, .static CodL.yN,
  .code Cmp3.yN Cmp3.yB 6 (some (.array .byte)), .initialized U16, .arrayClass .byte, .methodLink U16 115 Cmp5.yN, .static Cmp5.yN, .code Cmp5.yN Cmp5.yB 7 (some .int), .code CodL.yN CodL.yB 2 (some .byte)]
theorem tab_of {a : Array Value} {s : State} (h : ∀ w ∈ words, w.before a s = true) : New1.tab.before a s = true := by
  have h5 : Cmp5.tab.before a s = true := unparts (wk h (.code Cmp5.yN Cmp5.yB 7 (some .int))) (wks h (.initialized Cmp5.yN.cls :: Cmp5.site))
  have hc : CodL.tab.before a s = true := unparts (wk h (.code CodL.yN CodL.yB 2 (some .byte))) (wks h (.initialized CodL.yN.cls :: CodL.site))
  have q5 : ∀ w ∈ Cmp5.tab :: words, w.before a s = true := fun w hw => (List.mem_cons.mp hw).elim (fun e => e ▸ h5) (h w)
  have h3 : Cmp3.tab.before a s = true := unparts (wk q5 (.code Cmp3.yN Cmp3.yB 6 (some (.array .byte)))) (wks q5 (.initialized Cmp3.yN.cls :: Cmp3.site))
  have q3 : ∀ w ∈ Cmp3.tab :: CodL.tab :: words, w.before a s = true := fun w hw => (List.mem_cons.mp hw).elim (fun e => e ▸ h3) fun hw => (List.mem_cons.mp hw).elim (fun e => e ▸ hc) (h w)
  have h4 : New4.tab.before a s = true := unparts (wk q3 (.code New4.yN New4.yB 6 none)) (wks q3 (.initialized New4.yN.cls :: New4.site))
  have q4 : ∀ w ∈ New4.tab :: words, w.before a s = true := fun w hw => (List.mem_cons.mp hw).elim (fun e => e ▸ h4) (h w)
  exact unparts (wk q4 (.code New1.yN New1.yB 2 none)) (wks q4 (.initialized New1.yN.cls :: New1.site))
/-- the words ride from the start Z to the walk's own state -/
theorem moved {Z s : State} {a0 args : Array Value} (hZ : Z.Warmed39 s.vm) (hw : ∀ d ∈ words, d.before a0 Z = true) : ∀ d ∈ words, d.before args s = true := fun d hd => by
  have q := hw d hd
  have t : ∀ d ∈ words, d = .arrayClass .byte ∨ (d.onTables && d.keepsFace) = true := by decide +kernel
  rcases t d hd with rfl | t
  · exact RoadKit.mvA hZ q
  · exact RoadKit.mv hZ q t
/-- WHAT COMES BACK, over the tables of the start Z: h the heap at the call, h' behind it -/
def Q (Z : State) (x : Addr) (A : Cell) (h : Heap) (v : Option Value) (h' : Heap) (L : List Loc) : Prop := v = none ∧ (∀ y ∈ L, y.base = x) ∧ RoadKit.Keep h h' [x] ∧ h'.size = h.size + 1 ∧ RoadKit.Exa Z h' x ST ∧ RoadKit.Fld Z h' x ST "value" "[B" (.ref h.size) ∧ RoadKit.Fld Z h' x ST "coder" "B" (.int 0) ∧
  (∃ V : Cell, RoadKit.Arr Z h' h.size V .byte ∧ V.vm = .none ∧ Z.vm.findClass "[B" = some V.cls ∧ V.slots.size = A.slots.size ∧ ∀ j, j < A.slots.size → V.slots[j]? = some (.int (lo8 (cv A j)))) ∧
  ∀ (O n d : String) (w : Value), RoadKit.Fld Z h x O n d w → RoadKit.slotOf Z O n d ≠ RoadKit.slotOf Z ST "value" "[B" → RoadKit.slotOf Z O n d ≠ RoadKit.slotOf Z ST "coder" "B" → RoadKit.Fld Z h' x O n d w
/-- **new String(chars) AT A CALL, IN THE ROAD'S FORM**: for specialBack behind newO: x the fresh String, b the char[] with the cell A -/
theorem back {p : Program} {l : Launch} {e : Env} {R : Room} {s : State} {args : Array Value} {below : List Frame} {len W : Nat} {Z : State} {a0 : Array Value} {h : Heap} (hZ : Z.Warmed39 s.vm) (hw : ∀ d ∈ words, d.before a0 Z = true) {kI : Nat} (wi : (Jvm.Cond.instantiable ST kI).before a0 Z = true)
    {x b : Addr} {A : Cell} {z : Int32} {v0 c0 : Value} (E : RoadKit.Exa Z h x ST) (V : RoadKit.Fld Z h x ST "value" "[B" v0) (C : RoadKit.Fld Z h x ST "coder" "B" c0) (K : RoadKit.Arr Z h b A .char) (hty : Typed .char A) (S : RoadKit.Sta Z h ST "COMPACT_STRINGS" "Z" (.int z)) (hz : ¬ z = 0)
    (l0 : 0 < A.slots.size) (l2 : A.slots.size ≤ 536870912) (hp : ∀ i, i < A.slots.size → ¬ 255 < cv A i) (hfr : 4 ≤ R.frames) (hlo : W + 65 ≤ R.locals) :
    Back l R p e below s args New1.yN len W (fun P a => a = #[.ref x, .ref b] ∧ P.U.heap = h ∧ P.cells + 1 ≤ R.cells ∧ P.slots + A.slots.size ≤ R.slots)
      (fun P _ v B => ∃ L, Q Z x A h v B.U.heap L ∧ B.locs = P.locs ++ L ∧ B.cells = P.cells + 1 ∧ B.slots = P.slots + A.slots.size) := by
  intro m meth c P g ig mk a X hg hsize hdg hW hn hp'
  obtain ⟨rfl, rfl, r1, r2⟩ := hp'
  have al : Z.vm.Alike P.U.vm := hZ.alike.trans X.warmed.alike
  obtain ⟨D, cfV, kV, iV, fV, hD, gV, stV, knV, obV, asV, slV⟩ := id V
  obtain ⟨D', cfC, kC, iC, fC, hD', gC, stC, -, -, asC, slC⟩ := id C
  cases hD.symm.trans hD'
  obtain ⟨D2, kD, e1, e2, e3, e4, e5⟩ := id E
  cases hD.symm.trans e1
  obtain ⟨c2, k2, i1, i2, i3, -⟩ := Cond.instantiable_spec wi
  cases e2.symm.trans i1
  cases e3.symm.trans i2
  obtain ⟨kU, u1, u2⟩ := al.2.2 _ _ e3
  have hB : Blank ST x D P.U := ⟨hD, ⟨knV, fun q hq => by rw [hq] at obV; cases obV⟩, by rw [al.findClass]; exact e2, kU, u1, by rw [u2]; exact i3, by rw [u2]; exact e5 i3⟩
  have F1 : Found ST "value" "[B" fV P.U := ⟨SBG.found_only al ⟨cfV, kV, iV, gV⟩, stV⟩
  have F2 : Found ST "coder" "B" fC P.U := ⟨SBG.found_only al ⟨cfC, kC, iC, gC⟩, stC⟩
  have hA : Ch b A P.U := ⟨⟨K.1, State.isArrayOf_alike al K.2.1, K.2.2, by omega⟩, hty⟩
  have hS : StaticIs P.U ST "COMPACT_STRINGS" "Z" (.int z) := by
    obtain ⟨cfS, iS, kS, fS, st, cS, t1, t2, t3, t4, t5, t6, t7⟩ := S
    exact StaticIs.there (s := { Z with heap := P.U.heap }) ⟨cfS, iS, kS, fS, st, cS, t1, t2, t3, t4, t5, (fun q => by rw [q] at t6; cases t6), t7⟩ al rfl
  obtain ⟨v, B, X', ⟨⟨hv, E', V', q1, q2, q3, q4, q5, q6, q7, q8, q9, q10, q11⟩, hl, hc, hs⟩, st⟩ := New1.pays x D fV fC b A z (tab_of (moved hZ hw)) hfr hlo m meth c P g ig mk _ X hg hsize hdg hW hn ⟨r1, r2, rfl, hB, F1, F2, hA, hS, hz, l0, l2, hp⟩
  have al' : Z.vm.Alike B.U.vm := hZ.alike.trans X'.warmed.alike
  have hsz : E'.slots.size = D.slots.size := by
    obtain ⟨-, -, -, kB, w1, w2, w3⟩ := q1
    obtain ⟨kB', y1, y2⟩ := al'.2.2 _ _ e3
    rw [q2.2.1] at w1
    cases w1.symm.trans y1
    rw [w3, e5 i3, y2]
  refine ⟨v, B, X', ⟨_, ⟨hv, ?_, ⟨by omega, fun y cy hy hn' => q10 y cy (by simpa using hn') hy, fun y cy hy => ?_⟩, q11, ⟨E', _, q1.1, by rw [q2.2.1]; exact e2, by rw [q2.2.1]; exact e3, by rw [q2.1]; exact obV, fun _ => by rw [hsz]; exact e5 i3⟩,
    ⟨E', cfV, kV, iV, fV, q1.1, gV, stV, by rw [q2.1]; exact knV, by rw [q2.1]; exact obV, by rw [q2.2.1]; exact asV, q3⟩, ⟨E', cfC, kC, iC, fC, q1.1, gC, stC, by rw [q2.1]; exact knV, by rw [q2.1]; exact obV, by rw [q2.2.1]; exact asC, q4⟩,
    ⟨V', ⟨q5.1, State.isArrayOf_alike al'.symm q5.2.1, q5.2.2.1⟩, q6, by rw [← al'.findClass]; exact q7, q8, fun j hj => by have := q9 j hj; rwa [Nat.zero_add] at this⟩, fun O n d w F n1 n2 => ?_⟩, hl, hc, hs⟩, st⟩
  · intro y hy
    simp only [List.mem_cons, List.not_mem_nil, or_false] at hy
    rcases hy with rfl | rfl <;> rfl
  · by_cases q : y = x
    · subst q
      cases hD.symm.trans hy
      exact ⟨E', q1.1, q2.2.1, q2.1, hsz⟩
    · exact ⟨cy, q10 y cy q hy, rfl, rfl, rfl⟩
  · obtain ⟨D3, cf, k, i, f, g1, g2, g3, g4, g5, g6, g7⟩ := F
    cases hD.symm.trans g1
    simp only [RoadKit.slotOf, g2, gV, gC, Option.map_some, Option.getD_some] at n1 n2
    exact ⟨E', cf, k, i, f, q1.1, g2, g3, by rw [q2.1]; exact g4, by rw [q2.1]; exact g5, by rw [q2.2.1]; exact g6, by rw [q2.2.2 f.slot (by simp [n1, n2])]; exact g7⟩
end StrChars.Road
namespace StrChars.Road
open Jvm Sem ClassFile Op Lib Jvm.Stand Jvm.Free Jvm.Free.XT
/-- WHAT COMES BACK, the byte[] as a list of values -/
def QA (Z : State) (x : Addr) (zn : Int32) (cs : List Int32) (h : Heap) (v : Option Value) (h' : Heap) (L : List Loc) : Prop := v = none ∧ (∀ y ∈ L, y.base = x) ∧ RoadKit.Keep h h' [x] ∧ h'.size = h.size + 1 ∧ RoadKit.Exa Z h' x ST ∧ RoadKit.Fld Z h' x ST "value" "[B" (.ref h.size) ∧ RoadKit.Fld Z h' x ST "coder" "B" (.int 0) ∧
  (∃ kb, Z.vm.findClass "[B" = some kb ∧ RoadKit.Arv Z h' h.size kb .byte zn (cs.map fun c => .int (lo8 c)) (.int 0)) ∧
  ∀ (O n d : String) (w : Value), RoadKit.Fld Z h x O n d w → RoadKit.slotOf Z O n d ≠ RoadKit.slotOf Z ST "value" "[B" → RoadKit.slotOf Z O n d ≠ RoadKit.slotOf Z ST "coder" "B" → RoadKit.Fld Z h' x O n d w
/-- **new String(chars) AT A CALL, THE ARRAYS AS LISTS**: the char[] at b holds cs, not empty, no char above 255 -/
theorem backArv {p : Program} {l : Launch} {e : Env} {R : Room} {s : State} {args : Array Value} {below : List Frame} {len W : Nat} {Z : State} {a0 : Array Value} {h : Heap} (hZ : Z.Warmed39 s.vm) (hw : ∀ d ∈ words, d.before a0 Z = true) {kI : Nat} (wi : (Jvm.Cond.instantiable ST kI).before a0 Z = true)
    {x b : Addr} {k : ClassId} {zn z : Int32} {cs : List Int32} {dv v0 c0 : Value} (E : RoadKit.Exa Z h x ST) (V : RoadKit.Fld Z h x ST "value" "[B" v0) (C : RoadKit.Fld Z h x ST "coder" "B" c0) (K : RoadKit.Arv Z h b k .char zn (cs.map Value.int) dv) (S : RoadKit.Sta Z h ST "COMPACT_STRINGS" "Z" (.int z)) (hz : ¬ z = 0)
    (hlen : zn.toNatClampNeg = cs.length) (h0 : 0 < cs.length) (hbig : cs.length ≤ 536870912) (hall : ∀ c ∈ cs, ¬ 255 < c) (hfr : 4 ≤ R.frames) (hlo : W + 65 ≤ R.locals) :
    Back l R p e below s args New1.yN len W (fun P a => a = #[.ref x, .ref b] ∧ P.U.heap = h ∧ P.cells + 1 ≤ R.cells ∧ P.slots + cs.length ≤ R.slots)
      (fun P _ v B => ∃ L, QA Z x zn cs h v B.U.heap L ∧ B.locs = P.locs ++ L ∧ B.cells = P.cells + 1 ∧ B.slots = P.slots + cs.length) := by
  obtain ⟨A, K1, K2, K3, K4, K5, K6⟩ := K
  have e : A.slots.size = cs.length := K3.trans hlen
  have hat : ∀ (i : Nat) (hi : i < cs.length), A.slots[i]? = some (.int cs[i]) := fun i hi => by rw [K5 i (by omega)]; simp [List.getD_eq_getElem?_getD, hi]
  have hcv : ∀ (i : Nat) (hi : i < cs.length), cv A i = cs[i] := fun i hi => by unfold cv; rw [hat i hi]
  have hty : Typed .char A := fun i v hv => by
    have hi : i < A.slots.size := (Array.getElem?_eq_some_iff.mp hv).1
    have q := K5 i hi
    rw [hv] at q
    rw [Option.some.inj q]
    exact K6 i hi
  refine Back.mono (back hZ hw wi E V C K1 hty S hz (by omega) (by omega) (fun i hi => by rw [hcv i (by omega)]; exact hall _ (List.getElem_mem _)) hfr hlo) (fun P a hp => ⟨hp.1, hp.2.1, hp.2.2.1, by rw [e]; exact hp.2.2.2⟩) (fun P a v B hp hq => ?_)
  obtain ⟨L, ⟨q1, q2, q3, q4, q5, q6, q7, ⟨V', v1, v2, v3, v4, v5⟩, q9⟩, hl, hc, hs⟩ := hq
  refine ⟨L, ⟨q1, q2, q3, q4, q5, q6, q7, ⟨V'.cls, v3, V', v1, rfl, by rw [v4, e, hlen], K4, fun i hi => ?_, fun i hi => ?_⟩, q9⟩, hl, hc, by rw [hs, e]⟩
  · have hi' : i < cs.length := by omega
    rw [v5 i (by omega), hcv i hi']; simp [List.getD_eq_getElem?_getD, hi']
  · have hi' : i < cs.length := by omega
    simp only [List.getD_eq_getElem?_getD, List.getElem?_map, List.getElem?_eq_getElem hi', Option.map_some, Option.getD_some]
    exact fits_lo8 _
end StrChars.Road
namespace StrChars.Road
open Jvm Sem ClassFile Op Lib Jvm.Stand Jvm.Free Jvm.Free.XT
/-- WHAT COMES BACK, in the writer's own shape -/
def QV (Z : State) (x : Addr) (N : Int32) (bs : List Int32) (h : Heap) (n0 : Nat) (v : Option Value) (h' : Heap) (L : List Loc) : Prop := v = none ∧ RoadKit.Fr n0 L ∧ RoadKit.Keep h h' [x] ∧ RoadKit.Exa Z h' x ST ∧ RoadKit.Fld Z h' x ST "coder" "B" (.int 0) ∧
  ∃ (t : Addr) (kb : ClassId), n0 ≤ t ∧ h.size ≤ t ∧ ¬ t = x ∧ RoadKit.Fld Z h' x ST "value" "[B" (.ref t) ∧ RoadKit.Arv Z h' t kb .byte N (bs.map Value.int) (.int 0)
/-- **new String(chars) AT A CALL, FOR THE WRITER**: a char[] of n known ints, each 0 to 255 -/
theorem backV {p : Program} {l : Launch} {e : Env} {R : Room} {s : State} {args : Array Value} {below : List Frame} {len W : Nat} {Z : State} {a0 : Array Value} {h : Heap} (hZ : Z.Warmed39 s.vm) (hw : ∀ d ∈ words, d.before a0 Z = true) {kI : Nat} (wi : (Jvm.Cond.instantiable ST kI).before a0 Z = true)
    {x b : Addr} {kC : ClassId} {cs bs : List Int32} {d v0 c0 : Value} {z N : Int32} {n n0 : Nat} (hx0 : n0 ≤ x) (hh0 : n0 ≤ h.size) (E : RoadKit.Exa Z h x ST) (V : RoadKit.Fld Z h x ST "value" "[B" v0) (C : RoadKit.Fld Z h x ST "coder" "B" c0) (K : RoadKit.Arv Z h b kC .char N (cs.map Value.int) d) (S : RoadKit.Sta Z h ST "COMPACT_STRINGS" "Z" (.int z)) (hz : ¬ z = 0)
    (hn : cs.length = n) (hN : N = Int32.ofNat n) (l0 : 0 < n) (l2 : n ≤ 4000) (hp : ∀ c ∈ cs, ¬ c < 0 ∧ ¬ (255 : Int32) < c) (hb : bs = cs.map (fun c => c.toInt8.toInt32)) (hfr : 4 ≤ R.frames) (hlo : W + 65 ≤ R.locals) :
    Back l R p e below s args (⟨"java/lang/String", "<init>", "([C)V"⟩ : MethodName) len W (fun P a => a = #[.ref x, .ref b] ∧ P.U.heap = h ∧ P.cells + 1 ≤ R.cells ∧ P.slots + n ≤ R.slots)
      (fun P _ v B => ∃ L, QV Z x N bs h n0 v B.U.heap L ∧ B.locs = P.locs ++ L ∧ B.cells = P.cells + 1 ∧ B.slots = P.slots + n) := by
  subst hn hN hb
  refine Back.mono (backArv hZ hw wi E V C K S hz (n32 (by omega)) l0 (by omega) (fun c hc => (hp c hc).2) hfr hlo) (fun P a hp => hp) (fun P a v B hp hq => ?_)
  obtain ⟨L, ⟨q1, q2, q3, q4, q5, q6, q7, ⟨kb, v1, v2⟩, q9⟩, hl, hc, hs⟩ := hq
  exact ⟨L, ⟨q1, fun y hy => by rw [q2 y hy]; exact hx0, q3, q5, q7, h.size, kb, hh0, Nat.le_refl _, Nat.ne_of_gt E.lt, q6, by rw [List.map_map]; exact v2⟩, hl, hc, hs⟩
end StrChars.Road
namespace StrChars
open Jvm Sem ClassFile Op Lib Jvm.Stand Jvm.Free.XT Jvm.Free.ALB Jvm.Free.JM Jvm.Free
open Jvm.Lib.Cold (StaticIs)
def hi8 (x : Int32) : Int32 := lo8 (x >>> ((8 : Int32) &&& 31))
/-- what StringUTF16.getChar makes of two bytes -/
def pairCh (u v : Int32) : Int32 := (((u &&& 255) <<< ((0 : Int32) &&& 31)) ||| ((v &&& 255) <<< ((8 : Int32) &&& 31))).toUInt32.toUInt16.toUInt32.toInt32
theorem shr0 (c : Int32) : c >>> ((0 : Int32) &&& 31) = c := by
  have e : ((0 : Int32) &&& 31) = 0 := by decide
  rw [e]
  apply Int32.toBitVec_inj.mp
  rw [Int32.toBitVec_shiftRight]
  have e1 : ((0 : Int32).toBitVec.smod 32) = 0#32 := by decide
  rw [e1, BitVec.sshiftRight_eq']
  exact BitVec.sshiftRight_zero
theorem lo8_and (x : Int32) : (lo8 x &&& 255).toBitVec.toNat = x.toBitVec.toNat % 256 := by
  have h : (lo8 x).toBitVec = (x.toBitVec.signExtend 8).signExtend 32 := by rw [lo8, Int8.toBitVec_toInt32, Int32.toBitVec_toInt8]
  rw [Int32.toBitVec_and, BitVec.toNat_and, h]
  have e : ((x.toBitVec.signExtend 8).signExtend 32).toNat % 256 = x.toBitVec.toNat % 256 := by
    rw [BitVec.toNat_signExtend]
    have hlt := x.toBitVec.isLt
    simp only [BitVec.toNat_setWidth, BitVec.toNat_signExtend]
    split <;> split <;> omega
  rw [← e]
  exact Nat.and_two_pow_sub_one_eq_mod _ 8
theorem pair_says {c : Int32} (h0 : ¬ c < 0) (h1 : ¬ 65535 < c) : pairCh (lo8 c) (hi8 c) = c := by
  rw [Int32.lt_iff_toInt_lt] at h0 h1
  have e0 : (0 : Int32).toInt = 0 := rfl
  have e1 : (65535 : Int32).toInt = 65535 := rfl
  have hc : c.toInt = c.toBitVec.toNat := by
    have := c.toBitVec.isLt
    have e : c.toInt = c.toBitVec.toInt := rfl
    rw [e] at h0 h1
    rw [e]
    rw [BitVec.toInt_eq_toNat_cond] at h0 h1 ⊢
    split at h0 <;> split <;> omega
  have hn : c.toBitVec.toNat < 65536 := by omega
  have a1 := lo8_and c
  have a2 : (hi8 c &&& 255).toBitVec.toNat = c.toBitVec.toNat / 256 := by
    rw [hi8, lo8_and]
    have e : ((8 : Int32) &&& 31) = 8 := by decide
    rw [e, Int32.toBitVec_shiftRight]
    have e2 : ((8 : Int32).toBitVec.smod 32) = 8#32 := by decide
    rw [e2, BitVec.sshiftRight_eq', BitVec.toNat_sshiftRight_of_msb_false (by rw [BitVec.msb_eq_false_iff_two_mul_lt]; omega)]
    show c.toBitVec.toNat >>> 8 % 256 = _
    rw [Nat.shiftRight_eq_div_pow]
    omega
  unfold pairCh
  apply Int32.toBitVec_inj.mp
  apply BitVec.eq_of_toNat_eq
  have f0 : ((0 : Int32) &&& 31) = 0 := by decide
  have f8 : ((8 : Int32) &&& 31) = 8 := by decide
  rw [f0, f8]
  have g : (((lo8 c &&& 255) <<< (0 : Int32)) ||| ((hi8 c &&& 255) <<< (8 : Int32))).toBitVec.toNat = c.toBitVec.toNat := by
    rw [Int32.toBitVec_or, Int32.toBitVec_shiftLeft, Int32.toBitVec_shiftLeft]
    have s0 : ((0 : Int32).toBitVec.smod 32) = 0#32 := by decide
    have s8 : ((8 : Int32).toBitVec.smod 32) = 8#32 := by decide
    rw [s0, s8, BitVec.toNat_or]
    simp only [BitVec.shiftLeft_eq', BitVec.toNat_shiftLeft, a1, a2]
    show (c.toBitVec.toNat % 256) <<< 0 % 2 ^ 32 ||| (c.toBitVec.toNat / 256) <<< 8 % 2 ^ 32 = _
    rw [Nat.shiftLeft_zero, Nat.mod_eq_of_lt (show c.toBitVec.toNat % 256 < 2 ^ 32 by omega), Nat.mod_eq_of_lt (show (c.toBitVec.toNat / 256) <<< 8 < 2 ^ 32 by rw [Nat.shiftLeft_eq]; omega), Nat.or_comm, ← Nat.shiftLeft_add_eq_or_of_lt (by omega), Nat.shiftLeft_eq]
    omega
  show BitVec.toNat (((((lo8 c &&& 255) <<< (0 : Int32)) ||| ((hi8 c &&& 255) <<< (8 : Int32))).toBitVec.setWidth 16).setWidth 32) = _
  rw [BitVec.toNat_setWidth, BitVec.toNat_setWidth, g]
  omega
end StrChars
namespace StrChars
open Jvm Sem ClassFile Op Lib Jvm.Stand Jvm.Free.XT Jvm.Free.ALB Jvm.Free.JM Jvm.Free
open Jvm.Lib.Cold (StaticIs)
theorem shr1 {n : Nat} (h : 2 * n < 2 ^ 31) : Int32.ofNat (2 * n) >>> ((1 : Int32) &&& 31) = Int32.ofNat n := by
  have e : ((1 : Int32) &&& 31) = 1 := by decide
  rw [e]
  apply Int32.toBitVec_inj.mp
  rw [Int32.toBitVec_shiftRight]
  have e1 : ((1 : Int32).toBitVec.smod 32) = 1#32 := by decide
  have hm : (BitVec.ofNat 32 (2 * n)).toNat = 2 * n := by rw [BitVec.toNat_ofNat, Nat.mod_eq_of_lt (by omega)]
  rw [e1, BitVec.sshiftRight_eq']
  apply BitVec.eq_of_toNat_eq
  show ((BitVec.ofNat 32 (2 * n)).sshiftRight 1).toNat = (BitVec.ofNat 32 n).toNat
  rw [BitVec.toNat_sshiftRight_of_msb_false (by rw [BitVec.msb_eq_false_iff_two_mul_lt, hm]; omega), hm, BitVec.toNat_ofNat, Nat.shiftRight_eq_div_pow]
  omega
/-- charAt's cast of a byte read back -/
def chr8 (u : Int32) : Int32 := (u &&& 255).toUInt32.toUInt16.toUInt32.toInt32
theorem chr8_lo8 {c : Int32} (h0 : ¬ c < 0) (h1 : ¬ 255 < c) : chr8 (lo8 c) = c := by
  have t : ∀ k : Fin 256, (Int32.ofNat k.val).toUInt32.toUInt16.toUInt32.toInt32 = Int32.ofNat k.val := by decide +kernel
  unfold chr8
  rw [lo8_mask h0 h1]
  rw [Int32.lt_iff_toInt_lt] at h0 h1
  have e0 : (0 : Int32).toInt = 0 := rfl
  have e1 : (255 : Int32).toInt = 255 := rfl
  obtain ⟨k, hk⟩ : ∃ k : Nat, c.toInt = k := ⟨c.toInt.toNat, by omega⟩
  have hx : c = Int32.ofNat k := Int32.toInt_inj.mp (by rw [hk, Int32.toInt_ofNat_small (by omega)])
  rw [hx]
  exact t ⟨k, by omega⟩
theorem narrow_ch {c : Int32} (h0 : ¬ c < 0) (h1 : ¬ 65535 < c) : narrow .char (.int c) = .int c := by
  have q : narrow .char (.int (pairCh (lo8 c) (hi8 c))) = .int (pairCh (lo8 c) (hi8 c)) := narrow_c _
  rwa [pair_says h0 h1] at q
/-- the array's cell V codes the n chars f 0 .. f (n - 1) by the coder cd, as the JDK does: coder 1 just where some char is above 255 -/
def Cod (cd : Int32) (n : Nat) (f : Nat → Int32) (V : Cell) : Prop := (cd = 0 ∧ V.slots.size = n ∧ ∀ j, j < n → V.slots[j]? = some (.int (lo8 (f j))) ∧ ¬ 255 < f j) ∨ (cd = 1 ∧ V.slots.size = 2 * n ∧ (∀ j, j < n → V.slots[2 * j]? = some (.int (lo8 (f j))) ∧ V.slots[2 * j + 1]? = some (.int (hi8 (f j)))) ∧ ∃ j, j < n ∧ 255 < f j)
theorem Cod.cd {cd : Int32} {n : Nat} {f : Nat → Int32} {V : Cell} (h : Cod cd n f V) : cd = 0 ∨ cd = 1 := h.imp (fun q => q.1) fun q => q.1
theorem Cod.len {cd : Int32} {n : Nat} {f : Nat → Int32} {V : Cell} (h : Cod cd n f V) (hs : V.slots.size < 2 ^ 31) : Int32.ofNat V.slots.size >>> (cd &&& 31) = Int32.ofNat n := by
  rcases h with ⟨rfl, h, -⟩ | ⟨rfl, h, -⟩
  · rw [shr0, h]
  · rw [h, shr1 (by omega)]
/-- **x is a String of the n chars f 0 .. f (n - 1)**, Latin-1 or UTF-16; its array at t has the cell V -/
def Txt (x t : Addr) (V : Cell) (cd : Int32) (n : Nat) (f : Nat → Int32) (U : State) : Prop := Exact "java/lang/String" x U ∧ Has x "java/lang/String" "value" "[B" (.ref t) U ∧ Has x "java/lang/String" "coder" "B" (.int cd) U ∧ XT.Arr .byte t V U ∧ Cod cd n f V ∧ ∀ j, j < n → ¬ f j < 0 ∧ ¬ 65535 < f j
theorem Txt.mv {x t : Addr} {V : Cell} {cd : Int32} {n : Nat} {f : Nat → Int32} {U U' : State} (h : Txt x t V cd n f U) (hal : U.vm.Alike U'.vm) (hh : U'.heap = U.heap) : Txt x t V cd n f U' := ⟨h.1.mv hal hh, h.2.1.mv hal hh, h.2.2.1.mv hal hh, h.2.2.2.1.mv hal hh, h.2.2.2.2⟩
namespace Cdr
def yN : MethodName := ⟨"java/lang/String", "coder", "()B"⟩
abbrev yB : ByteArray := jdk_42_method_152_code
theorem d0 : decode yB 0 = .ok (.getstatic 38, 3) := by decide +kernel
theorem d3 : decode yB 3 = .ok (.ifCond (.eq) 10, 3) := by decide +kernel
theorem d6 : decode yB 6 = .ok (.aload_n 0, 1) := by decide +kernel
theorem d7 : decode yB 7 = .ok (.getfield 15, 3) := by decide +kernel
theorem d10 : decode yB 10 = .ok (.goto 4, 3) := by decide +kernel
theorem d14 : decode yB 14 = .ok (.ireturn, 1) := by decide +kernel
def site : List Cond := [.fieldLink "java/lang/String" 38 "java/lang/String" "COMPACT_STRINGS" "Z", .fieldLink "java/lang/String" 15 "java/lang/String" "coder" "B"]
def tab : Cond := tabOf yN yB 1 (some .byte) site
def P (x : Addr) (cd z : Int32) (args : Array Value) (s : State) : Prop := args = #[.ref x] ∧ Has x "java/lang/String" "coder" "B" (.int cd) s ∧ (cd = 0 ∨ cd = 1) ∧ StaticIs s "java/lang/String" "COMPACT_STRINGS" "Z" (.int z) ∧ ¬ z = 0
def E (cd : Int32) (r : Option Value) (s u : State) : Prop := XT.PureE (some (.int cd)) r s u
theorem law (l : Launch) (x : Addr) (cd z : Int32) : Law l yN 1 0 0 0 yB 1 (some .byte) site (P x cd z) (E cd) [] 0 0 := by
  refine Law.of_walk (plainFor_of_name (by decide +kernel)) (by decide +kernel) (by decide +kernel) (by decide) (fun _ _ h => by rw [h.1]; rfl) (fun _ U U' hal hh h => ⟨h.1, h.2.1.mv hal hh, h.2.2.1, h.2.2.2.1.there hal hh, h.2.2.2.2⟩) (fun r U U' V V' h1 hal h2 h => XT.PureE.mv r U U' V V' h1 hal h2 h) ?_
  intro p e s m args below meth c s₁ X0 hexec hbytes hml hret hlk hnm hown hh0 W hP
  obtain ⟨rfl, hx, hc, s1, hz⟩ := hP
  have c1 : Steps p.tables e below (s₁.setTop (entryFrame m #[.ref x] 1)) (s₁.setTop (mkF m 0 #[.val (.ref x)] [])) := entry rfl
  obtain ⟨T2, X2, q2, st2⟩ := X0.sget hexec hown (wk W (.fieldLink "java/lang/String" 38 "java/lang/String" "COMPACT_STRINGS" "Z")) s1 (fun _ _ h => by rw [hh0]; exact h) (g := (mkF m 0 #[.val (.ref x)] [])) rfl (hb hbytes d0)
  have hh2 := q2.trans hh0
  have c3 : Steps p.tables e below (s₁.setTop (entryFrame m #[.ref x] 1)) (T2.setTop (mkF m 7 #[.val (.ref x)] [.ref x])) := (c1.trans (st2 _ (Steps.refl _))).trans (by
    refine XS.ifNo X2.here hexec rfl (hb hbytes d3) rfl (i0_eq_f hz) ?_
    refine XS.aloadN X2.here hexec rfl (hb hbytes d6) rfl rfl ?_
    exact Steps.refl _)
  obtain ⟨T4, X4, q4, st4⟩ := X2.hget hexec hown (wk W (.fieldLink "java/lang/String" 15 "java/lang/String" "coder" "B")) (hx.mv X2.warmed.alike hh2) (g := (mkF m 7 #[.val (.ref x)] [.ref x])) rfl (rest := []) rfl (hb hbytes d7)
  have c5 : Steps p.tables e below (s₁.setTop (entryFrame m #[.ref x] 1)) (T4.setTop (mkF m 14 #[.val (.ref x)] [.int cd])) := (c3.trans (st4 _ (Steps.refl _))).trans (by
    refine XS.goto X4.here hexec rfl (pc0 := 10) rfl (hb hbytes d10) (by decide) rfl ?_
    exact Steps.refl _)
  exact ⟨T4, some (.int cd), _, _, _, X4, rfl, rfl, rfl, (fun h => by cases h), ⟨rfl, q4.trans hh2⟩, fun fs hl => c5.trans (X4.ireturnOut hexec hret (by rcases hc with rfl | rfl <;> rfl) (Or.inr (Or.inr (Or.inl rfl))) (hb hbytes d14) hl)⟩
end Cdr
namespace Len
def yN : MethodName := ⟨"java/lang/String", "length", "()I"⟩
abbrev yB : ByteArray := jdk_42_method_54_code
theorem d0 : decode yB 0 = .ok (.aload_n 0, 1) := by decide +kernel
theorem d1 : decode yB 1 = .ok (.getfield 9, 3) := by decide +kernel
theorem d4 : decode yB 4 = .ok (.arraylength, 1) := by decide +kernel
theorem d5 : decode yB 5 = .ok (.aload_n 0, 1) := by decide +kernel
theorem d6 : decode yB 6 = .ok (.invokevirtual 335, 3) := by decide +kernel
theorem d9 : decode yB 9 = .ok (.ishr, 1) := by decide +kernel
theorem d10 : decode yB 10 = .ok (.ireturn, 1) := by decide +kernel
def site : List Cond := [.fieldLink "java/lang/String" 9 "java/lang/String" "value" "[B", Cdr.tab] ++ virtW "java/lang/String" 335 "java/lang/String" Cdr.yN Cdr.yN
def tab : Cond := tabOf yN yB 1 (some .int) site
def P (x t : Addr) (V : Cell) (cd : Int32) (n : Nat) (f : Nat → Int32) (z : Int32) (args : Array Value) (s : State) : Prop := args = #[.ref x] ∧ Txt x t V cd n f s ∧ StaticIs s "java/lang/String" "COMPACT_STRINGS" "Z" (.int z) ∧ ¬ z = 0
def E (n : Nat) (r : Option Value) (s u : State) : Prop := XT.PureE (some (.int (Int32.ofNat n))) r s u
/-- length() of a String of n chars, in either coding -/
theorem law (l : Launch) (x t : Addr) (V : Cell) (cd : Int32) (n : Nat) (f : Nat → Int32) (z : Int32) : Law l yN 1 0 1 13 yB 1 (some .int) site (P x t V cd n f z) (E n) [] 0 0 := by
  refine Law.of_walk (plainFor_of_name (by decide +kernel)) (by decide +kernel) (by decide +kernel) (by decide) (fun _ _ h => by rw [h.1]; rfl) (fun _ U U' hal hh h => ⟨h.1, h.2.1.mv hal hh, h.2.2.1.there hal hh, h.2.2.2⟩) (fun r U U' V V' h1 hal h2 h => XT.PureE.mv r U U' V V' h1 hal h2 h) ?_
  intro p e s m args below meth c s₁ X0 hexec hbytes hml hret hlk hnm hown hh0 W hP
  obtain ⟨rfl, hx, s1, hz⟩ := hP
  have v31 := hx.2.2.2.1.2.2.2
  have c1 : Steps p.tables e below (s₁.setTop (entryFrame m #[.ref x] 1)) (s₁.setTop (mkF m 1 #[.val (.ref x)] [.ref x])) := Steps.trans (entry rfl) (by
    show Steps p.tables e below (s₁.setTop (mkF m 0 #[.val (.ref x)] [])) _
    refine XS.aloadN X0.here hexec rfl (hb hbytes d0) rfl rfl ?_
    exact Steps.refl _)
  obtain ⟨T2, X2, q2, st2⟩ := X0.hget hexec hown (wk W (.fieldLink "java/lang/String" 9 "java/lang/String" "value" "[B")) (hx.mv X0.warmed.alike hh0).2.1 (g := (mkF m 1 #[.val (.ref x)] [.ref x])) rfl (rest := []) rfl (hb hbytes d1)
  have hh2 := q2.trans hh0
  have hx2 := hx.mv X2.warmed.alike hh2
  have c3 : Steps p.tables e below (s₁.setTop (entryFrame m #[.ref x] 1)) (T2.setTop (mkF m 6 #[.val (.ref x)] [.ref x, .int (Int32.ofNat V.slots.size)])) := (c1.trans (st2 _ (Steps.refl _))).trans (by
    refine X2.alen hexec hx2.2.2.2.1 rfl rfl (hb hbytes d4) ?_
    refine XS.aloadN X2.here hexec rfl (hb hbytes d5) rfl rfl ?_
    exact Steps.refl _)
  obtain ⟨v4, T4, X4, E4, g4⟩ := X2.callV hexec (Cdr.law l x cd z) hown (wks W (virtW "java/lang/String" 335 "java/lang/String" Cdr.yN Cdr.yN)) rfl (by decide) (wk W Cdr.tab) (W := 1) (Nat.le_of_ble_eq_true rfl) (Nat.le_of_ble_eq_true rfl) (Nat.le_refl _) (Nat.le_refl _) (hx2.1.fc X2.warmed.alike) hx2.1.is (g := (mkF m 6 #[.val (.ref x)] [.ref x, .int (Int32.ofNat V.slots.size)])) rfl (by rw [hml]; rfl) c3 (argsL := []) (rest := [.int (Int32.ofNat V.slots.size)]) rfl rfl (by show 2 * 0 + (1 + 0) ≤ _; decide) (hb hbytes d6) (⟨rfl, hx2.2.2.1, hx.2.2.2.2.1.cd, s1.there X2.warmed.alike hh2, hz⟩)
  obtain ⟨rfl, q4⟩ := E4
  have c5 : Steps p.tables e below (s₁.setTop (entryFrame m #[.ref x] 1)) (T4.setTop (mkF m 10 #[.val (.ref x)] [.int (Int32.ofNat V.slots.size >>> (cd &&& 31))])) := Steps.trans g4 (by
    refine ishr X4.here hexec rfl (hb hbytes d9) rfl ?_
    exact Steps.refl _)
  rw [hx.2.2.2.2.1.len v31] at c5
  exact ⟨T4, some (.int (Int32.ofNat n)), _, _, _, X4, rfl, rfl, rfl, (fun h => by cases h), ⟨rfl, q4.trans hh2⟩, fun fs hl => c5.trans (X4.ireturnOut hexec hret rfl (Or.inl rfl) (hb hbytes d10) hl)⟩
theorem pays {l : Launch} {R : Room} {p : Program} {e : Env} {below : List Frame} {s : State} {sargs : Array Value} {len W : Nat} (x t : Addr) (V : Cell) (cd : Int32) (n : Nat) (f : Nat → Int32) (z : Int32) (htab : tab.before sargs s = true) (hfr : 2 ≤ R.frames) (hlo : W + 25 ≤ R.locals) :
    Back l R p e below s sargs yN len W (fun A₁ a₁ => A₁.cells + 0 ≤ R.cells ∧ A₁.slots + 0 ≤ R.slots ∧ P x t V cd n f z a₁ A₁.U) (fun A₁ _ v₁ B₁ => E n v₁ A₁.U B₁.U ∧ B₁.locs = A₁.locs ++ [] ∧ B₁.cells = A₁.cells + 0 ∧ B₁.slots = A₁.slots + 0) :=
  (law l x t V cd n f z).pays htab hfr (by omega)
end Len
namespace IsL
def yN : MethodName := ⟨"java/lang/String", "isLatin1", "()Z"⟩
abbrev yB : ByteArray := jdk_42_method_154_code
theorem d0 : decode yB 0 = .ok (.getstatic 38, 3) := by decide +kernel
theorem d3 : decode yB 3 = .ok (.ifCond (.eq) 14, 3) := by decide +kernel
theorem d6 : decode yB 6 = .ok (.aload_n 0, 1) := by decide +kernel
theorem d7 : decode yB 7 = .ok (.getfield 15, 3) := by decide +kernel
theorem d10 : decode yB 10 = .ok (.ifCond (.ne) 7, 3) := by decide +kernel
theorem d13 : decode yB 13 = .ok (.iconst 1, 1) := by decide +kernel
theorem d14 : decode yB 14 = .ok (.goto 4, 3) := by decide +kernel
theorem d17 : decode yB 17 = .ok (.iconst 0, 1) := by decide +kernel
theorem d18 : decode yB 18 = .ok (.ireturn, 1) := by decide +kernel
def site : List Cond := [.fieldLink "java/lang/String" 38 "java/lang/String" "COMPACT_STRINGS" "Z", .fieldLink "java/lang/String" 15 "java/lang/String" "coder" "B"]
def tab : Cond := tabOf yN yB 1 (some .boolean) site
def P (x : Addr) (cd z : Int32) (args : Array Value) (s : State) : Prop := args = #[.ref x] ∧ Has x "java/lang/String" "coder" "B" (.int cd) s ∧ (cd = 0 ∨ cd = 1) ∧ StaticIs s "java/lang/String" "COMPACT_STRINGS" "Z" (.int z) ∧ ¬ z = 0
def E (cd : Int32) (r : Option Value) (s u : State) : Prop := XT.PureE (some (.int (1 - cd))) r s u
theorem law (l : Launch) (x : Addr) (cd z : Int32) : Law l yN 1 0 0 0 yB 1 (some .boolean) site (P x cd z) (E cd) [] 0 0 := by
  refine Law.of_walk (plainFor_of_name (by decide +kernel)) (by decide +kernel) (by decide +kernel) (by decide) (fun _ _ h => by rw [h.1]; rfl) (fun _ U U' hal hh h => ⟨h.1, h.2.1.mv hal hh, h.2.2.1, h.2.2.2.1.there hal hh, h.2.2.2.2⟩) (fun r U U' V V' h1 hal h2 h => XT.PureE.mv r U U' V V' h1 hal h2 h) ?_
  intro p e s m args below meth c s₁ X0 hexec hbytes hml hret hlk hnm hown hh0 W hP
  obtain ⟨rfl, hx, hc, s1, hz⟩ := hP
  have c1 : Steps p.tables e below (s₁.setTop (entryFrame m #[.ref x] 1)) (s₁.setTop (mkF m 0 #[.val (.ref x)] [])) := entry rfl
  obtain ⟨T2, X2, q2, st2⟩ := X0.sget hexec hown (wk W (.fieldLink "java/lang/String" 38 "java/lang/String" "COMPACT_STRINGS" "Z")) s1 (fun _ _ h => by rw [hh0]; exact h) (g := (mkF m 0 #[.val (.ref x)] [])) rfl (hb hbytes d0)
  have hh2 := q2.trans hh0
  have c3 : Steps p.tables e below (s₁.setTop (entryFrame m #[.ref x] 1)) (T2.setTop (mkF m 7 #[.val (.ref x)] [.ref x])) := (c1.trans (st2 _ (Steps.refl _))).trans (by
    refine XS.ifNo X2.here hexec rfl (hb hbytes d3) rfl (i0_eq_f hz) ?_
    refine XS.aloadN X2.here hexec rfl (hb hbytes d6) rfl rfl ?_
    exact Steps.refl _)
  obtain ⟨T4, X4, q4, st4⟩ := X2.hget hexec hown (wk W (.fieldLink "java/lang/String" 15 "java/lang/String" "coder" "B")) (hx.mv X2.warmed.alike hh2) (g := (mkF m 7 #[.val (.ref x)] [.ref x])) rfl (rest := []) rfl (hb hbytes d7)
  have c5 : Steps p.tables e below (s₁.setTop (entryFrame m #[.ref x] 1)) (T4.setTop (mkF m 10 #[.val (.ref x)] [.int cd])) := c3.trans (st4 _ (Steps.refl _))
  have c6 : Steps p.tables e below (s₁.setTop (entryFrame m #[.ref x] 1)) (T4.setTop (mkF m 18 #[.val (.ref x)] [.int (1 - cd)])) := by
    rcases hc with rfl | rfl
    · exact c5.trans (by
        refine XS.ifNo X4.here hexec rfl (hb hbytes d10) rfl (i0_ne_f rfl) ?_
        refine iconstV X4.here hexec rfl 1 (hb hbytes d13) (by decide) ?_
        refine XS.goto X4.here hexec rfl (pc0 := 14) rfl (hb hbytes d14) (by decide) rfl ?_
        exact Steps.refl _)
    · exact c5.trans (by
        refine XS.ifYes X4.here hexec rfl (pc0 := 10) rfl (hb hbytes d10) rfl (i0_ne_t (by decide)) (by decide) rfl ?_
        refine iconstV X4.here hexec rfl 0 (hb hbytes d17) (by decide) ?_
        exact Steps.refl _)
  exact ⟨T4, some (.int (1 - cd)), _, _, _, X4, rfl, rfl, rfl, (fun h => by cases h), ⟨rfl, q4.trans hh2⟩, fun fs hl => c6.trans (X4.ireturnOut hexec hret (by rcases hc with rfl | rfl <;> rfl) (Or.inr (Or.inl rfl)) (hb hbytes d18) hl)⟩
end IsL
namespace LChA
def yN : MethodName := ⟨"java/lang/StringLatin1", "charAt", "([BI)C"⟩
abbrev yB : ByteArray := jdk_43_method_2_code
theorem d0 : decode yB 0 = .ok (.iload_n 1, 1) := by decide +kernel
theorem d1 : decode yB 1 = .ok (.aload_n 0, 1) := by decide +kernel
theorem d2 : decode yB 2 = .ok (.arraylength, 1) := by decide +kernel
theorem d3 : decode yB 3 = .ok (.invokestatic 9, 3) := by decide +kernel
theorem d6 : decode yB 6 = .ok (.aload_n 0, 1) := by decide +kernel
theorem d7 : decode yB 7 = .ok (.iload_n 1, 1) := by decide +kernel
theorem d8 : decode yB 8 = .ok (.baload, 1) := by decide +kernel
theorem d9 : decode yB 9 = .ok (.sipush 255, 3) := by decide +kernel
theorem d12 : decode yB 12 = .ok (.iand, 1) := by decide +kernel
theorem d13 : decode yB 13 = .ok (.i2c, 1) := by decide +kernel
theorem d14 : decode yB 14 = .ok (.ireturn, 1) := by decide +kernel
def site : List Cond := [JO.Str_checkIndex.tab] ++ staticW "java/lang/StringLatin1" 9 JO.Str_checkIndex.yN
def tab : Cond := tabOf yN yB 2 (some .char) site
def P (t : Addr) (V : Cell) (i : Nat) (u : Int32) (fm : Value) (args : Array Value) (s : State) : Prop := args = #[.ref t, .int (Int32.ofNat i)] ∧ XT.Arr .byte t V s ∧ V.slots[i]? = some (.int u) ∧ (StaticIs s "jdk/internal/util/Preconditions" "SIOOBE_FORMATTER" "Ljava/util/function/BiFunction;" fm ∧ fm.isRef = true)
def E (u : Int32) (r : Option Value) (s w : State) : Prop := XT.PureE (some (.int (chr8 u))) r s w
theorem law (l : Launch) (t : Addr) (V : Cell) (i : Nat) (u : Int32) (fm : Value) : Law l yN 2 2 2 27 yB 2 (some .char) site (P t V i u fm) (E u) [] 0 0 := by
  refine Law.of_walk (plainFor_of_name (by decide +kernel)) (by decide +kernel) (by decide +kernel) (by decide) (fun _ _ h => by rw [h.1]; rfl) (fun _ U U' hal hh h => ⟨h.1, h.2.1.mv hal hh, h.2.2.1, h.2.2.2.1.there hal hh, h.2.2.2.2⟩) (fun r U U' V V' h1 hal h2 h => XT.PureE.mv r U U' V V' h1 hal h2 h) ?_
  intro p e s m args below meth c s₁ X0 hexec hbytes hml hret hlk hnm hown hh0 W hP
  obtain ⟨rfl, hV, hu, s1, rf⟩ := hP
  have v31 := hV.2.2.2
  have hi : i < V.slots.size := (Array.getElem?_eq_some_iff.mp hu).1
  have c1 : Steps p.tables e below (s₁.setTop (entryFrame m #[.ref t, .int (Int32.ofNat i)] 2)) (s₁.setTop (mkF m 0 #[.val (.ref t), .val (.int (Int32.ofNat i))] [])) := entry rfl
  have c2 : Steps p.tables e below (s₁.setTop (entryFrame m #[.ref t, .int (Int32.ofNat i)] 2)) (s₁.setTop (mkF m 3 #[.val (.ref t), .val (.int (Int32.ofNat i))] [.int (Int32.ofNat V.slots.size), .int (Int32.ofNat i)])) := c1.trans (by
    refine XS.iloadN X0.here hexec rfl (hb hbytes d0) rfl ?_
    refine XS.aloadN X0.here hexec rfl (hb hbytes d1) rfl rfl ?_
    refine X0.alen hexec (hV.mv X0.warmed.alike hh0) rfl rfl (hb hbytes d2) ?_
    exact Steps.refl _)
  obtain ⟨v3, T3, X3, E3, g3⟩ := X0.callS hexec (JO.Str_checkIndex.law l (Int32.ofNat i) (Int32.ofNat V.slots.size) fm) hown (wks W (staticW "java/lang/StringLatin1" 9 JO.Str_checkIndex.yN)) (wk W JO.Str_checkIndex.tab) (W := 0) (Nat.le_of_ble_eq_true rfl) (Nat.le_of_ble_eq_true rfl) (Nat.le_refl _) (Nat.le_refl _) (g := (mkF m 3 #[.val (.ref t), .val (.int (Int32.ofNat i))] [.int (Int32.ofNat V.slots.size), .int (Int32.ofNat i)])) rfl (by rw [hml]; rfl) c2 (argsL := [.int (Int32.ofNat i), .int (Int32.ofNat V.slots.size)]) (rest := []) rfl rfl (by show 2 * 0 + 0 ≤ _; decide) (hb hbytes d3) (⟨rfl, rf, s1.there X0.warmed.alike hh0, Int32.ofNat_not_neg (by omega), lt32 v31 hi⟩)
  obtain ⟨rfl, q3⟩ := E3
  have hh3 := q3.trans hh0
  have c4 : Steps p.tables e below (s₁.setTop (entryFrame m #[.ref t, .int (Int32.ofNat i)] 2)) (T3.setTop (mkF m 14 #[.val (.ref t), .val (.int (Int32.ofNat i))] [.int (chr8 u)])) := Steps.trans g3 (by
    refine XS.aloadN X3.here hexec rfl (hb hbytes d6) rfl rfl ?_
    refine XS.iloadN X3.here hexec rfl (hb hbytes d7) rfl ?_
    refine X3.aget hexec (hV.mv X3.warmed.alike hh3) rfl hu rfl rfl (hb hbytes d8) ?_
    refine sipushV X3.here hexec rfl 255 (hb hbytes d9) (by decide) ?_
    refine XS.iand X3.here hexec rfl (hb hbytes d12) rfl ?_
    refine i2c X3.here hexec rfl (hb hbytes d13) rfl ?_
    exact Steps.refl _)
  exact ⟨T3, some (.int (chr8 u)), _, _, _, X3, rfl, rfl, rfl, (fun h => by cases h), ⟨rfl, hh3⟩, fun fs hl => c4.trans (X3.ireturnOut hexec hret (narrow_c _) (Or.inr (Or.inr (Or.inr (Or.inl rfl)))) (hb hbytes d14) hl)⟩
end LChA
end StrChars
namespace StrChars.Road
open Jvm Sem ClassFile Op Lib Jvm.Stand Jvm.Free Jvm.Free.XT
open Jvm.Lib.Cold (StaticIs)
theorem consq {a : Array Value} {s : State} {c : Jvm.Cond} {L : List Jvm.Cond} (h0 : c.before a s = true) (h : ∀ w ∈ L, w.before a s = true) : ∀ w ∈ c :: L, w.before a s = true := fun w hw => (List.mem_cons.mp hw).elim (fun e => e ▸ h0) (h w)
/-- the words of String.length(), either coding -/
abbrev wordsLen : List Jvm.Cond := [.code Len.yN Len.yB 1 (some .int), .initialized ST, .fieldLink ST 9 ST "value" "[B", .fieldLink ST 38 ST "COMPACT_STRINGS" "Z", .fieldLink ST 15 ST "coder" "B", .code Cdr.yN Cdr.yB 1 (some .byte), .methodLink ST 335 Cdr.yN, .declares Cdr.yN, .selects ST Cdr.yN Cdr.yN, .instanceMethod Cdr.yN]
theorem tabLen_of {a : Array Value} {s : State} (h : ∀ w ∈ wordsLen, w.before a s = true) : Len.tab.before a s = true := by
  have hc : Cdr.tab.before a s = true := unparts (wk h (.code Cdr.yN Cdr.yB 1 (some .byte))) (wks h (.initialized Cdr.yN.cls :: Cdr.site))
  have q := consq hc h
  exact unparts (wk q (.code Len.yN Len.yB 1 (some .int))) (wks q (.initialized Len.yN.cls :: Len.site))
theorem movedLen {Z s : State} {a0 args : Array Value} (hZ : Z.Warmed39 s.vm) (hw : ∀ d ∈ wordsLen, d.before a0 Z = true) : ∀ d ∈ wordsLen, d.before args s = true := fun d hd => by
  have q := hw d hd
  have t : ∀ d ∈ wordsLen, d = .arrayClass .byte ∨ (d.onTables && d.keepsFace) = true := by decide +kernel
  rcases t d hd with rfl | t
  · exact RoadKit.mvA hZ q
  · exact RoadKit.mv hZ q t
/-- the bytes of the chars cs, low before high -/
def wideBytes : List Int32 → List Value
  | [] => []
  | c :: cs => .int (lo8 c) :: .int (hi8 c) :: wideBytes cs
theorem wide_lo (d : Value) : ∀ (cs : List Int32) (j : Nat), j < cs.length → (wideBytes cs).getD (2 * j) d = .int (lo8 (cs.getD j 0))
  | [], j, h => absurd h (Nat.not_lt_zero j)
  | c :: cs, 0, _ => rfl
  | c :: cs, j + 1, h => by
    have q := wide_lo d cs j (by simpa using h)
    rw [show 2 * (j + 1) = 2 * j + 1 + 1 from by omega]
    simpa [wideBytes] using q
theorem wide_hi (d : Value) : ∀ (cs : List Int32) (j : Nat), j < cs.length → (wideBytes cs).getD (2 * j + 1) d = .int (hi8 (cs.getD j 0))
  | [], j, h => absurd h (Nat.not_lt_zero j)
  | c :: cs, 0, _ => rfl
  | c :: cs, j + 1, h => by
    have q := wide_hi d cs j (by simpa using h)
    rw [show 2 * (j + 1) + 1 = 2 * j + 1 + 1 + 1 from by omega]
    simpa [wideBytes] using q
theorem low_at (d : Value) (cs : List Int32) (j : Nat) (h : j < cs.length) : (cs.map fun c => Value.int (lo8 c)).getD j d = .int (lo8 (cs.getD j 0)) := by
  simp [List.getD_eq_getElem?_getD, h]
/-- an array of N2 bytes vs codes the chars cs by the coder cd -/
def CodA (cs : List Int32) (cd N2 : Int32) (vs : List Value) : Prop := (cd = 0 ∧ N2 = Int32.ofNat cs.length ∧ vs = (cs.map fun c => Value.int (lo8 c)) ∧ ∀ c ∈ cs, ¬ 255 < c) ∨ (cd = 1 ∧ N2 = Int32.ofNat (2 * cs.length) ∧ vs = wideBytes cs ∧ ∃ c ∈ cs, 255 < c)
theorem CodA.cod {cs : List Int32} {cd N2 : Int32} {vs : List Value} {V : Cell} (h : CodA cs cd N2 vs) (hn : 2 * cs.length < 2 ^ 31) (hs : V.slots.size = N2.toNatClampNeg) (hv : RoadKit.Has V vs (.int 0)) : Cod cd cs.length (fun j => cs.getD j 0) V := by
  rcases h with ⟨rfl, rfl, rfl, h⟩ | ⟨rfl, rfl, rfl, c, hc, hw⟩
  · rw [n32 (by omega)] at hs
    exact Or.inl ⟨rfl, hs, fun j hj => ⟨by rw [hv j (by omega), low_at _ _ _ hj], by
      have e : cs.getD j 0 = cs[j] := by simp [List.getD_eq_getElem?_getD, hj]
      show ¬ 255 < cs.getD j 0
      rw [e]; exact h _ (List.getElem_mem _)⟩⟩
  · rw [n32 (by omega)] at hs
    obtain ⟨j, hj, rfl⟩ := List.getElem_of_mem hc
    exact Or.inr ⟨rfl, hs, fun j hj => ⟨by rw [hv _ (by omega), wide_lo _ _ _ hj], by rw [hv _ (by omega), wide_hi _ _ _ hj]⟩, j, hj, by
      have e : cs.getD j 0 = cs[j] := by simp [List.getD_eq_getElem?_getD, hj]
      show 255 < cs.getD j 0
      rw [e]; exact hw⟩
/-- an object of exactly java/lang/String, its two fields found: as the laws ask it -/
theorem strObj {Z U : State} {a0 : Array Value} {kI : Nat} (wi : (Jvm.Cond.instantiable ST kI).before a0 Z = true) (al : Z.vm.Alike U.vm) {x : Addr} {v0 c0 : Value} (E : RoadKit.Exa Z U.heap x ST) (V : RoadKit.Fld Z U.heap x ST "value" "[B" v0) (C : RoadKit.Fld Z U.heap x ST "coder" "B" c0) :
    ∃ (D : Cell) (fV fC : Field), Blank ST x D U ∧ Found ST "value" "[B" fV U ∧ Found ST "coder" "B" fC U ∧ D.slots[fV.slot]? = some v0 ∧ D.slots[fC.slot]? = some c0 ∧ RoadKit.slotOf Z ST "value" "[B" = fV.slot ∧ RoadKit.slotOf Z ST "coder" "B" = fC.slot := by
  obtain ⟨D, cfV, kV, iV, fV, hD, gV, stV, knV, obV, asV, slV⟩ := V
  obtain ⟨D', cfC, kC, iC, fC, hD', gC, stC, -, -, asC, slC⟩ := C
  cases hD.symm.trans hD'
  obtain ⟨D2, kD, e1, e2, e3, e4, e5⟩ := E
  cases hD.symm.trans e1
  obtain ⟨c2, k2, i1, i2, i3, -⟩ := Cond.instantiable_spec wi
  cases e2.symm.trans i1
  cases e3.symm.trans i2
  obtain ⟨kU, u1, u2⟩ := al.2.2 _ _ e3
  exact ⟨D, fV, fC, ⟨hD, ⟨knV, fun q hq => by rw [hq] at obV; cases obV⟩, by rw [al.findClass]; exact e2, kU, u1, by rw [u2]; exact i3, by rw [u2]; exact e5 i3⟩, ⟨SBG.found_only al ⟨cfV, kV, iV, gV⟩, stV⟩, ⟨SBG.found_only al ⟨cfC, kC, iC, gC⟩, stC⟩, slV, slC, by simp [RoadKit.slotOf, gV], by simp [RoadKit.slotOf, gC]⟩
theorem sta_is {Z U : State} (al : Z.vm.Alike U.vm) {C n d : String} {v : Value} (S : RoadKit.Sta Z U.heap C n d v) : StaticIs U C n d v := by
  obtain ⟨cfS, iS, kS, fS, st, cS, t1, t2, t3, t4, t5, t6, t7⟩ := S
  exact StaticIs.there (s := { Z with heap := U.heap }) ⟨cfS, iS, kS, fS, st, cS, t1, t2, t3, t4, t5, (fun q => by rw [q] at t6; cases t6), t7⟩ al rfl
/-- **length() OF SUCH A STRING** -/
theorem lenW {p : Program} {l : Launch} {e : Env} {R : Room} {s : State} {args : Array Value} {below : List Frame} {len W : Nat} {Z : State} {a0 : Array Value} {h : Heap} (hZ : Z.Warmed39 s.vm) (hw : ∀ d ∈ wordsLen, d.before a0 Z = true) {kI : Nat} (wi : (Jvm.Cond.instantiable ST kI).before a0 Z = true)
    {x t : Addr} {kb : ClassId} {cs : List Int32} {cd N2 z : Int32} {vs : List Value} (E : RoadKit.Exa Z h x ST) (V : RoadKit.Fld Z h x ST "value" "[B" (.ref t)) (C : RoadKit.Fld Z h x ST "coder" "B" (.int cd)) (K : RoadKit.Arv Z h t kb .byte N2 vs (.int 0)) (hc : CodA cs cd N2 vs) (hb : ∀ c ∈ cs, ¬ c < 0 ∧ ¬ (65535 : Int32) < c)
    (S : RoadKit.Sta Z h ST "COMPACT_STRINGS" "Z" (.int z)) (hz : ¬ z = 0) (l2 : cs.length ≤ 4000) (hfr : 2 ≤ R.frames) (hlo : W + 25 ≤ R.locals) :
    Back l R p e below s args (⟨"java/lang/String", "length", "()I"⟩ : MethodName) len W (fun P a => a = #[.ref x] ∧ P.U.heap = h ∧ P.cells + 0 ≤ R.cells ∧ P.slots + 0 ≤ R.slots)
      (fun P _ v B => ∃ L, (v = some (.int (Int32.ofNat cs.length)) ∧ L = [] ∧ B.U.heap = h) ∧ B.locs = P.locs ++ L ∧ B.cells = P.cells + 0 ∧ B.slots = P.slots + 0) := by
  obtain ⟨A, K1, K2, K3, K4, K5, K6⟩ := K
  have hcod := hc.cod (by omega) K3 K5
  intro m meth c P g ig mk a X hg hsize hdg hW hn hp'
  obtain ⟨rfl, rfl, r1, r2⟩ := hp'
  have al : Z.vm.Alike P.U.vm := hZ.alike.trans X.warmed.alike
  obtain ⟨D, fV, fC, hB, F1, F2, g1, g2, -, -⟩ := strObj wi al E V C
  have hx : Txt x t A cd cs.length (fun j => cs.getD j 0) P.U := ⟨⟨_, hB.2.2.1, D, hB.1, rfl, by cases q : D.vm <;> first | rfl | exact absurd q (hB.2.1.2 _)⟩, Has.of hB F1 g1, Has.of hB F2 g2, ⟨K1.1, State.isArrayOf_alike al K1.2.1, K1.2.2, by rcases hcod with ⟨-, q, -⟩ | ⟨-, q, -⟩ <;> omega⟩, hcod, fun j hj => by
    have e : cs.getD j 0 = cs[j] := by simp [List.getD_eq_getElem?_getD, hj]
    show ¬ cs.getD j 0 < 0 ∧ ¬ 65535 < cs.getD j 0
    rw [e]; exact hb _ (List.getElem_mem _)⟩
  obtain ⟨v, B, X', ⟨⟨hv, hh⟩, hl, hk, hs⟩, st⟩ := Len.pays x t A cd cs.length (fun j => cs.getD j 0) z (tabLen_of (movedLen hZ hw)) hfr hlo m meth c P g ig mk _ X hg hsize hdg hW hn ⟨r1, r2, rfl, hx, sta_is al S, hz⟩
  exact ⟨v, B, X', ⟨[], ⟨hv, rfl, hh⟩, hl, hk, hs⟩, st⟩
end StrChars.Road
namespace StrChars.Road
open Jvm Sem ClassFile Op Lib Jvm.Stand Jvm.Free Jvm.Free.XT
open Jvm.Lib.Cold (StaticIs)
/-- the road's facts of a String, as the laws ask it -/
theorem txt_of {Z U : State} {a0 : Array Value} {kI : Nat} (wi : (Jvm.Cond.instantiable ST kI).before a0 Z = true) (al : Z.vm.Alike U.vm) {x t : Addr} {kb : ClassId} {cs : List Int32} {cd N2 : Int32} {vs : List Value} (E : RoadKit.Exa Z U.heap x ST) (V : RoadKit.Fld Z U.heap x ST "value" "[B" (.ref t)) (C : RoadKit.Fld Z U.heap x ST "coder" "B" (.int cd)) (K : RoadKit.Arv Z U.heap t kb .byte N2 vs (.int 0)) (hc : CodA cs cd N2 vs) (hb : ∀ c ∈ cs, ¬ c < 0 ∧ ¬ (65535 : Int32) < c) (l2 : cs.length ≤ 4000) :
    ∃ A, Txt x t A cd cs.length (fun j => cs.getD j 0) U := by
  obtain ⟨A, K1, K2, K3, K4, K5, K6⟩ := K
  have hcod := hc.cod (by omega) K3 K5
  obtain ⟨D, fV, fC, hB, F1, F2, g1, g2, -, -⟩ := strObj wi al E V C
  exact ⟨A, ⟨_, hB.2.2.1, D, hB.1, rfl, by cases q : D.vm <;> first | rfl | exact absurd q (hB.2.1.2 _)⟩, Has.of hB F1 g1, Has.of hB F2 g2, ⟨K1.1, State.isArrayOf_alike al K1.2.1, K1.2.2, by rcases hcod with ⟨-, q, -⟩ | ⟨-, q, -⟩ <;> omega⟩, hcod, fun j hj => by
    have e : cs.getD j 0 = cs[j] := by simp [List.getD_eq_getElem?_getD, hj]
    show ¬ cs.getD j 0 < 0 ∧ ¬ 65535 < cs.getD j 0
    rw [e]; exact hb _ (List.getElem_mem _)⟩
end StrChars.Road
namespace StrChars
open Jvm Sem ClassFile Op Lib Jvm.Stand Jvm.Free.XT Jvm.Free.ALB Jvm.Free.JM Jvm.Free
open Jvm.Lib.Cold (StaticIs)
namespace ChN
def yN : MethodName := ⟨"java/lang/String", "charAt", "(I)C"⟩
abbrev yB : ByteArray := jdk_42_method_56_code
theorem d0 : decode yB 0 = .ok (.aload_n 0, 1) := by decide +kernel
theorem d1 : decode yB 1 = .ok (.invokevirtual 492, 3) := by decide +kernel
theorem d4 : decode yB 4 = .ok (.ifCond (.eq) 12, 3) := by decide +kernel
theorem d7 : decode yB 7 = .ok (.aload_n 0, 1) := by decide +kernel
theorem d8 : decode yB 8 = .ok (.getfield 9, 3) := by decide +kernel
theorem d11 : decode yB 11 = .ok (.iload_n 1, 1) := by decide +kernel
theorem d12 : decode yB 12 = .ok (.invokestatic 495, 3) := by decide +kernel
theorem d15 : decode yB 15 = .ok (.ireturn, 1) := by decide +kernel
def site : List Cond := [.fieldLink "java/lang/String" 9 "java/lang/String" "value" "[B", IsL.tab, LChA.tab] ++ virtW "java/lang/String" 492 "java/lang/String" IsL.yN IsL.yN ++ staticW "java/lang/String" 495 LChA.yN
def tab : Cond := tabOf yN yB 2 (some .char) site
def P (x t : Addr) (V : Cell) (n : Nat) (f : Nat → Int32) (z : Int32) (fm : Value) (i : Nat) (args : Array Value) (s : State) : Prop := args = #[.ref x, .int (Int32.ofNat i)] ∧ Txt x t V 0 n f s ∧ i < n ∧ StaticIs s "java/lang/String" "COMPACT_STRINGS" "Z" (.int z) ∧ ¬ z = 0 ∧ StaticIs s "jdk/internal/util/Preconditions" "SIOOBE_FORMATTER" "Ljava/util/function/BiFunction;" fm ∧ fm.isRef = true
def E (f : Nat → Int32) (i : Nat) (r : Option Value) (s u : State) : Prop := XT.PureE (some (.int (f i))) r s u
/-- charAt(i) of a Latin-1 String of n chars, i < n: f i -/
theorem law (l : Launch) (x t : Addr) (V : Cell) (n : Nat) (f : Nat → Int32) (z : Int32) (fm : Value) (i : Nat) : Law l yN 2 1 3 40 yB 2 (some .char) site (P x t V n f z fm i) (E f i) [] 0 0 := by
  refine Law.of_walk (plainFor_of_name (by decide +kernel)) (by decide +kernel) (by decide +kernel) (by decide) (fun _ _ h => by rw [h.1]; rfl) (fun _ U U' hal hh h => ⟨h.1, h.2.1.mv hal hh, h.2.2.1, h.2.2.2.1.there hal hh, h.2.2.2.2.1, h.2.2.2.2.2.1.there hal hh, h.2.2.2.2.2.2⟩) (fun r U U' V V' h1 hal h2 h => XT.PureE.mv r U U' V V' h1 hal h2 h) ?_
  intro p e s m args below meth c s₁ X0 hexec hbytes hml hret hlk hnm hown hh0 W hP
  obtain ⟨rfl, hx, hi, s1, hz, s3, rf⟩ := hP
  have v31 := hx.2.2.2.1.2.2.2
  have hr := hx.2.2.2.2.2 i hi
  have hx0 := hx.mv X0.warmed.alike hh0
  have c1 : Steps p.tables e below (s₁.setTop (entryFrame m #[.ref x, .int (Int32.ofNat i)] 2)) (s₁.setTop (mkF m 1 #[.val (.ref x), .val (.int (Int32.ofNat i))] [.ref x])) := Steps.trans (entry rfl) (by
    show Steps p.tables e below (s₁.setTop (mkF m 0 #[.val (.ref x), .val (.int (Int32.ofNat i))] [])) _
    refine XS.aloadN X0.here hexec rfl (hb hbytes d0) rfl rfl ?_
    exact Steps.refl _)
  obtain ⟨v2, T2, X2, E2, g2⟩ := X0.callV hexec (IsL.law l x 0 z) hown (wks W (virtW "java/lang/String" 492 "java/lang/String" IsL.yN IsL.yN)) rfl (by decide) (wk W IsL.tab) (W := 0) (Nat.le_of_ble_eq_true rfl) (Nat.le_of_ble_eq_true rfl) (Nat.le_refl _) (Nat.le_refl _) (hx0.1.fc X0.warmed.alike) hx0.1.is (g := (mkF m 1 #[.val (.ref x), .val (.int (Int32.ofNat i))] [.ref x])) rfl (by rw [hml]; rfl) c1 (argsL := []) (rest := []) rfl rfl (by show 2 * 0 + 0 ≤ _; decide) (hb hbytes d1) (⟨rfl, hx0.2.2.1, hx.2.2.2.2.1.cd, s1.there X0.warmed.alike hh0, hz⟩)
  obtain ⟨rfl, q2⟩ := E2
  have hh2 := q2.trans hh0
  have hx2 := hx.mv X2.warmed.alike hh2
  obtain ⟨-, k1, k2⟩ | ⟨k0, -⟩ := hx.2.2.2.2.1
  · have c3 : Steps p.tables e below (s₁.setTop (entryFrame m #[.ref x, .int (Int32.ofNat i)] 2)) (T2.setTop (mkF m 8 #[.val (.ref x), .val (.int (Int32.ofNat i))] [.ref x])) := Steps.trans g2 (by
      refine XS.ifNo X2.here hexec rfl (hb hbytes d4) rfl (i0_eq_f (by decide)) ?_
      refine XS.aloadN X2.here hexec rfl (hb hbytes d7) rfl rfl ?_
      exact Steps.refl _)
    obtain ⟨T4, X4, q4, st4⟩ := X2.hget hexec hown (wk W (.fieldLink "java/lang/String" 9 "java/lang/String" "value" "[B")) hx2.2.1 (g := (mkF m 8 #[.val (.ref x), .val (.int (Int32.ofNat i))] [.ref x])) rfl (rest := []) rfl (hb hbytes d8)
    have hh4 := q4.trans hh2
    have c5 : Steps p.tables e below (s₁.setTop (entryFrame m #[.ref x, .int (Int32.ofNat i)] 2)) (T4.setTop (mkF m 12 #[.val (.ref x), .val (.int (Int32.ofNat i))] [.int (Int32.ofNat i), .ref t])) := (c3.trans (st4 _ (Steps.refl _))).trans (by
      refine XS.iloadN X4.here hexec rfl (hb hbytes d11) rfl ?_
      exact Steps.refl _)
    obtain ⟨v6, T6, X6, E6, g6⟩ := X4.callS hexec (LChA.law l t V i (lo8 (f i)) fm) hown (wks W (staticW "java/lang/String" 495 LChA.yN)) (wk W LChA.tab) (W := 0) (Nat.le_of_ble_eq_true rfl) (Nat.le_of_ble_eq_true rfl) (Nat.le_refl _) (Nat.le_refl _) (g := (mkF m 12 #[.val (.ref x), .val (.int (Int32.ofNat i))] [.int (Int32.ofNat i), .ref t])) rfl (by rw [hml]; rfl) c5 (argsL := [.ref t, .int (Int32.ofNat i)]) (rest := []) rfl rfl (by show 2 * 0 + 0 ≤ _; decide) (hb hbytes d12) (⟨rfl, hx.2.2.2.1.mv X4.warmed.alike hh4, (k2 i hi).1, s3.there X4.warmed.alike hh4, rf⟩)
    obtain ⟨rfl, q6⟩ := E6
    rw [chr8_lo8 hr.1 (k2 i hi).2] at g6
    exact ⟨T6, some (.int (f i)), _, _, _, X6, rfl, rfl, rfl, (fun h => by cases h), ⟨rfl, q6.trans hh4⟩, fun fs hl => Steps.trans g6 (X6.ireturnOut hexec hret (narrow_ch hr.1 hr.2) (Or.inr (Or.inr (Or.inr (Or.inl rfl)))) (hb hbytes d15) hl)⟩
  · exact absurd k0 (by decide)
theorem pays {l : Launch} {R : Room} {p : Program} {e : Env} {below : List Frame} {s : State} {sargs : Array Value} {len W : Nat} (x t : Addr) (V : Cell) (n : Nat) (f : Nat → Int32) (z : Int32) (fm : Value) (i : Nat) (htab : tab.before sargs s = true) (hfr : 4 ≤ R.frames) (hlo : W + 53 ≤ R.locals) :
    Back l R p e below s sargs yN len W (fun A₁ a₁ => A₁.cells + 0 ≤ R.cells ∧ A₁.slots + 0 ≤ R.slots ∧ P x t V n f z fm i a₁ A₁.U) (fun A₁ _ v₁ B₁ => E f i v₁ A₁.U B₁.U ∧ B₁.locs = A₁.locs ++ [] ∧ B₁.cells = A₁.cells + 0 ∧ B₁.slots = A₁.slots + 0) :=
  (law l x t V n f z fm i).pays htab hfr (by omega)
end ChN
end StrChars
namespace StrChars.Road
open Jvm Sem ClassFile Op Lib Jvm.Stand Jvm.Free Jvm.Free.XT
open Jvm.Lib.Cold (StaticIs)
/-- the words of String.charAt(int), the Latin-1 road alone -/
abbrev wordsChN : List Jvm.Cond := [.code ChN.yN ChN.yB 2 (some .char), .initialized ST, .fieldLink ST 9 ST "value" "[B", .fieldLink ST 38 ST "COMPACT_STRINGS" "Z", .fieldLink ST 15 ST "coder" "B", .code IsL.yN IsL.yB 1 (some .boolean), .methodLink ST 492 IsL.yN, .declares IsL.yN, .selects ST IsL.yN IsL.yN, .instanceMethod IsL.yN,
  .methodLink ST 495 LChA.yN, .static LChA.yN, .code LChA.yN LChA.yB 2 (some .char), .initialized "java/lang/StringLatin1", .methodLink "java/lang/StringLatin1" 9 JO.Str_checkIndex.yN, .static JO.Str_checkIndex.yN, .code JO.Str_checkIndex.yN JO.Str_checkIndex.yB 2 none,
  .fieldLink ST 1053 "jdk/internal/util/Preconditions" "SIOOBE_FORMATTER" "Ljava/util/function/BiFunction;", .methodLink ST 1059 JC.PreCheck.yN, .static JC.PreCheck.yN, .code JC.PreCheck.yN JC.PreCheck.yB 3 (some .int), .initialized "jdk/internal/util/Preconditions"]
theorem tabChN_of {a : Array Value} {s : State} (h : ∀ w ∈ wordsChN, w.before a s = true) : ChN.tab.before a s = true := by
  have hp : JC.PreCheck.tab.before a s = true := unparts (wk h (.code JC.PreCheck.yN JC.PreCheck.yB 3 (some .int))) (wks h (.initialized JC.PreCheck.yN.cls :: JC.PreCheck.site))
  have qk := consq hp h
  have hk : JO.Str_checkIndex.tab.before a s = true := unparts (wk qk (.code JO.Str_checkIndex.yN JO.Str_checkIndex.yB 2 none)) (wks qk (.initialized JO.Str_checkIndex.yN.cls :: JO.Str_checkIndex.site))
  have ql := consq hk h
  have hl : LChA.tab.before a s = true := unparts (wk ql (.code LChA.yN LChA.yB 2 (some .char))) (wks ql (.initialized LChA.yN.cls :: LChA.site))
  have hi : IsL.tab.before a s = true := unparts (wk h (.code IsL.yN IsL.yB 1 (some .boolean))) (wks h (.initialized IsL.yN.cls :: IsL.site))
  have q := consq hi (consq hl h)
  exact unparts (wk q (.code ChN.yN ChN.yB 2 (some .char))) (wks q (.initialized ChN.yN.cls :: ChN.site))
theorem movedChN {Z s : State} {a0 args : Array Value} (hZ : Z.Warmed39 s.vm) (hw : ∀ d ∈ wordsChN, d.before a0 Z = true) : ∀ d ∈ wordsChN, d.before args s = true := fun d hd => by
  have t : ∀ d ∈ wordsChN, (d.onTables && d.keepsFace) = true := by decide +kernel
  exact RoadKit.mv hZ (hw d hd) (t d hd)
/-- **charAt(i) OF A LATIN-1 STRING**, i < n: the char -/
theorem chN {p : Program} {l : Launch} {e : Env} {R : Room} {s : State} {args : Array Value} {below : List Frame} {len W : Nat} {Z : State} {a0 : Array Value} {h : Heap} (hZ : Z.Warmed39 s.vm) (hw : ∀ d ∈ wordsChN, d.before a0 Z = true) {kI : Nat} (wi : (Jvm.Cond.instantiable ST kI).before a0 Z = true)
    {x t : Addr} {kb : ClassId} {cs : List Int32} {N2 z : Int32} {vs : List Value} {fm : Value} {i : Nat} {j : Int32} (E : RoadKit.Exa Z h x ST) (V : RoadKit.Fld Z h x ST "value" "[B" (.ref t)) (C : RoadKit.Fld Z h x ST "coder" "B" (.int 0)) (K : RoadKit.Arv Z h t kb .byte N2 vs (.int 0)) (hc : CodA cs 0 N2 vs) (hb : ∀ c ∈ cs, ¬ c < 0 ∧ ¬ (65535 : Int32) < c)
    (S : RoadKit.Sta Z h ST "COMPACT_STRINGS" "Z" (.int z)) (hz : ¬ z = 0) (F : RoadKit.Sta Z h "jdk/internal/util/Preconditions" "SIOOBE_FORMATTER" "Ljava/util/function/BiFunction;" fm) (rf : fm.isRef = true) (l2 : cs.length ≤ 4000) (hi : i < cs.length) (hj : j = Int32.ofNat i) (hfr : 4 ≤ R.frames) (hlo : W + 53 ≤ R.locals) :
    Back l R p e below s args (⟨"java/lang/String", "charAt", "(I)C"⟩ : MethodName) len W (fun P a => a = #[.ref x, .int j] ∧ P.U.heap = h ∧ P.cells + 0 ≤ R.cells ∧ P.slots + 0 ≤ R.slots)
      (fun P _ v B => ∃ L, (v = some (.int (cs.getD i 0)) ∧ L = [] ∧ B.U.heap = h) ∧ B.locs = P.locs ++ L ∧ B.cells = P.cells + 0 ∧ B.slots = P.slots + 0) := by
  subst hj
  intro m meth c P g ig mk a X hg hsize hdg hW hn hp'
  obtain ⟨rfl, rfl, r1, r2⟩ := hp'
  have al : Z.vm.Alike P.U.vm := hZ.alike.trans X.warmed.alike
  obtain ⟨A, hx⟩ := txt_of wi al E V C K hc hb l2
  obtain ⟨v, B, X', ⟨⟨hv, hh⟩, hl, hk, hs⟩, st⟩ := ChN.pays x t A cs.length (fun j => cs.getD j 0) z fm i (tabChN_of (movedChN hZ hw)) hfr hlo m meth c P g ig mk _ X hg hsize hdg hW hn ⟨r1, r2, rfl, hx, hi, sta_is al S, hz, sta_is al F, rf⟩
  exact ⟨v, B, X', ⟨[], ⟨hv, rfl, hh⟩, hl, hk, hs⟩, st⟩
/-- what backV says of its String, as the contracts of this text ask it: cs's low bytes, coder 0 -/
theorem codOf {cs : List Int32} {n : Nat} (hn : cs.length = n) (hb : ∀ c ∈ cs, ¬ 255 < c) : CodA cs 0 (Int32.ofNat n) ((cs.map lo8).map Value.int) := Or.inl ⟨rfl, by rw [hn], by simp [List.map_map, Function.comp_def], hb⟩
end StrChars.Road
end Jvm.Pilot.@@N@@
namespace Jvm.Pilot.@@N@@
open Jvm Jvm.ClassFile Sem Op Lib Jvm.Free Jvm.Stand Jvm.LawKit Jvm.RoadKit Bundle Jvm.Pilot.@@N@@.Jvm.D
section Own
variable {p : Program} {l : Launch} {e : Env} {R rm : Room} {s : State} {m : MethodId} {args : Array Value} {below : List Frame} {meth : Method} {c : Code} {T : State} {locs : List Loc} {cells slots : Nat} {Z : State} {a0 : Array Value} {h : Heap}
/-- the run comes to the end of the invocation, and what is asked holds there -/
def o_Goes (p : Program) (e : Env) (below : List Frame) (G : Outcome → State → Prop) (S : State) : Prop := ∃ s₂ o, Steps p.tables e below S s₂ ∧ s₂.status = .running ∧ Ended s₂ below o ∧ G o s₂
theorem o_go {G : Outcome → State → Prop} {S S' : State} (h : ∀ t, Steps p.tables e below S' t → Steps p.tables e below S t) (k : o_Goes p e below G S') : o_Goes p e below G S := by
  obtain ⟨s₂, o, h1, h2⟩ := k
  exact ⟨s₂, o, h _ h1, h2⟩
theorem o_tr {G : Outcome → State → Prop} {S S' : State} (h : Steps p.tables e below S S') (k : o_Goes p e below G S') : o_Goes p e below G S := o_go (fun _ q => h.trans q) k
abbrev o_End (s : State) (rm : Room) (Q : Option Value → Heap → List Loc → Prop) : Outcome → State → Prop := fun o U' => ∃ v L, o = .returned v ∧ Q v U'.heap L ∧ FrameEnd s o U' L rm.cells rm.slots
/-- a body's contract: with these arguments, over this heap, it returns and leaves what Q says -/
def o_Met (l : Launch) (Z : State) (y : MethodName) (bytes : ByteArray) (maxL : Nat) (ret : Option FieldType) (ws : List Jvm.Cond) (rm : Room) (as : Array Value) (h0 : Heap) (Q : Option Value → Heap → List Loc → Prop) : Prop :=
  MetFree l y (head1 (Jvm.Cond.code y bytes maxL ret :: ws) rm) (fun a U => a = as ∧ Z.Warmed39 U.vm ∧ U.heap = h0) (fun _ _ _ _ _ => True) (fun _ U o U' => ∃ v L, o = .returned v ∧ Q v U'.heap L ∧ FrameEnd U o U' L rm.cells rm.slots)
theorem o_met {y : MethodName} {bytes : ByteArray} {maxL : Nat} {ret : Option FieldType} {ws : List Jvm.Cond} {as : Array Value} {h0 : Heap} {Q : Option Value → Heap → List Loc → Prop} (hp : plainFor y = true)
    (body : ∀ (p : Program) (e : Env) (s : State) (m : MethodId) (below : List Frame) (meth : Method) (c : Code) (s₁ : State), p.tables.exec = Jvm.exec → c.code = bytes → c.maxLocals = maxL → s.vm.findClass y.cls = some m.cls → meth.name = y.name → meth.sig.returnType = ret → meth.locks = false → Z.Warmed39 s.vm → s₁.heap = h0 →
      Stand p l e rm s m as below meth c s₁ [] 0 0 → o_Goes p e below (o_End s rm Q) (s₁.setTop (entryFrame m as maxL))) : o_Met l Z y bytes maxL ret ws rm as h0 Q := by
  refine MetFree.of_bodySF hp hisR ?_
  intro p e s m args below meth c s₁ Bd hml hP hK
  obtain ⟨rfl, hZ, hh⟩ := hP
  exact body p e s m below meth c s₁ Bd.exec Bd.bytes hml (findClass_of_methodNamed Bd.named) (name_of_methodNamed Bd.named Bd.method).1 Bd.returns Bd.notSynchronized hZ (by rw [← hh, Bd.state]; rfl) (Stand.of_body Bd)
/-- the returns -/
theorem o_retV {Q : Option Value → Heap → List Loc → Prop} (X : Stand p l e rm s m args below meth c T locs cells slots) (hx : p.tables.exec = Jvm.exec) (hlk : meth.locks = false) {pc : Nat} {Ls : Array Slot} {w : Value} {t : FieldType} {i : Instr} {rest : List Value} (hret : meth.sig.returnType = some t) (hn : narrow t w = w)
    (hi : (i = .ireturn ∧ (t = .int ∨ t = .boolean ∨ t = .byte ∨ t = .char ∨ t = .short) ∧ ∃ z, w = .int z) ∨ (i = .lreturn ∧ t = .long ∧ ∃ z, w = .long z) ∨ (i = .dreturn ∧ t = .double ∧ ∃ z, w = .double z) ∨ (i = .freturn ∧ t = .float ∧ ∃ z, w = .float z) ∨ (i = .areturn ∧ t.isReference = true ∧ w.isRef = true))
    (hd : decode c.code pc = .ok (i, 1)) (hc : cells ≤ rm.cells) (hs : slots ≤ rm.slots) (hq : Q (some w) T.heap locs) : o_Goes p e below (o_End s rm Q) (T.setTop (mkF m pc Ls (w :: rest))) := by
  obtain ⟨fs, hr, hrun, hended, hW, hsame⟩ := X.leave (v := some w) (fun h => by rw [hret] at h; cases h) hlk
  exact ⟨_, _, retOut X hx hret hn hi hd hr, hrun, hended, _, _, rfl, hq, ⟨_, rfl⟩, hW, hsame.mono hc hs⟩
theorem o_retI {Q : Option Value → Heap → List Loc → Prop} (X : Stand p l e rm s m args below meth c T locs cells slots) (hx : p.tables.exec = Jvm.exec) (hlk : meth.locks = false) {pc : Nat} {Ls : Array Slot} {z : Int32} {rest : List Value} (hret : meth.sig.returnType = some .int)
    (hd : decode c.code pc = .ok (.ireturn, 1)) (hc : cells ≤ rm.cells) (hs : slots ≤ rm.slots) (hq : Q (some (.int z)) T.heap locs) : o_Goes p e below (o_End s rm Q) (T.setTop (mkF m pc Ls (.int z :: rest))) :=
  o_retV X hx hlk hret rfl (Or.inl ⟨rfl, Or.inl rfl, z, rfl⟩) hd hc hs hq
theorem o_retJ {Q : Option Value → Heap → List Loc → Prop} (X : Stand p l e rm s m args below meth c T locs cells slots) (hx : p.tables.exec = Jvm.exec) (hlk : meth.locks = false) {pc : Nat} {Ls : Array Slot} {z : Int64} {rest : List Value} (hret : meth.sig.returnType = some .long)
    (hd : decode c.code pc = .ok (.lreturn, 1)) (hc : cells ≤ rm.cells) (hs : slots ≤ rm.slots) (hq : Q (some (.long z)) T.heap locs) : o_Goes p e below (o_End s rm Q) (T.setTop (mkF m pc Ls (.long z :: rest))) :=
  o_retV X hx hlk hret rfl (Or.inr (Or.inl ⟨rfl, rfl, z, rfl⟩)) hd hc hs hq
theorem o_retD {Q : Option Value → Heap → List Loc → Prop} (X : Stand p l e rm s m args below meth c T locs cells slots) (hx : p.tables.exec = Jvm.exec) (hlk : meth.locks = false) {pc : Nat} {Ls : Array Slot} {z : UInt64} {rest : List Value} (hret : meth.sig.returnType = some .double)
    (hd : decode c.code pc = .ok (.dreturn, 1)) (hc : cells ≤ rm.cells) (hs : slots ≤ rm.slots) (hq : Q (some (.double z)) T.heap locs) : o_Goes p e below (o_End s rm Q) (T.setTop (mkF m pc Ls (.double z :: rest))) :=
  o_retV X hx hlk hret rfl (Or.inr (Or.inr (Or.inl ⟨rfl, rfl, z, rfl⟩))) hd hc hs hq
theorem o_retR {Q : Option Value → Heap → List Loc → Prop} (X : Stand p l e rm s m args below meth c T locs cells slots) (hx : p.tables.exec = Jvm.exec) (hlk : meth.locks = false) {pc : Nat} {Ls : Array Slot} {w : Value} {t : FieldType} {rest : List Value} (hret : meth.sig.returnType = some t) (ht : t.isReference = true) (hw : w.isRef = true)
    (hd : decode c.code pc = .ok (.areturn, 1)) (hc : cells ≤ rm.cells) (hs : slots ≤ rm.slots) (hq : Q (some w) T.heap locs) : o_Goes p e below (o_End s rm Q) (T.setTop (mkF m pc Ls (w :: rest))) :=
  o_retV X hx hlk hret (by cases t <;> first | rfl | cases ht) (Or.inr (Or.inr (Or.inr (Or.inr ⟨rfl, ht, hw⟩)))) hd hc hs hq
theorem o_retN {Q : Option Value → Heap → List Loc → Prop} (X : Stand p l e rm s m args below meth c T locs cells slots) (hx : p.tables.exec = Jvm.exec) (hlk : meth.locks = false) {pc : Nat} {Ls : Array Slot} {z z' : Int32} {t : FieldType} {rest : List Value} (hret : meth.sig.returnType = some t) (ht : t = .boolean ∨ t = .byte ∨ t = .char ∨ t = .short) (hz : nar t z = z')
    (hd : decode c.code pc = .ok (.ireturn, 1)) (hc : cells ≤ rm.cells) (hs : slots ≤ rm.slots) (hq : Q (some (.int z')) T.heap locs) : o_Goes p e below (o_End s rm Q) (T.setTop (mkF m pc Ls (.int z :: rest))) := by
  subst hz
  obtain ⟨fs, hr, hrun, hended, hW, hsame⟩ := X.leave (v := some (.int (nar t z))) (fun h => by rw [hret] at h; cases h) hlk
  exact ⟨_, _, retN X hx hret ht hd hr, hrun, hended, _, _, rfl, hq, ⟨_, rfl⟩, hW, hsame.mono hc hs⟩
theorem o_ret0 {Q : Option Value → Heap → List Loc → Prop} (X : Stand p l e rm s m args below meth c T locs cells slots) (hx : p.tables.exec = Jvm.exec) (hlk : meth.locks = false) {pc : Nat} {Ls : Array Slot} (hret : meth.sig.returnType = none)
    (hd : decode c.code pc = .ok (.return_, 1)) (hc : cells ≤ rm.cells) (hs : slots ≤ rm.slots) (hq : Q none T.heap locs) : o_Goes p e below (o_End s rm Q) (T.setTop (mkF m pc Ls [])) := by
  obtain ⟨fs, hr, hrun, hended, hW, hsame⟩ := X.leave (v := none) (fun _ => rfl) hlk
  exact ⟨_, _, X.returnOut hx hret hd hr, hrun, hended, _, _, rfl, hq, ⟨_, rfl⟩, hW, hsame.mono hc hs⟩
/-- a static call by the callee's contract -/
theorem o_callS (X : Stand p l e R s m args below meth c T locs cells slots) (hx : p.tables.exec = Jvm.exec) (hZ : Z.Warmed39 s.vm) {own : String} {index : Nat} {y : MethodName} {bytes : ByteArray} {maxL : Nat} {ret : Option FieldType} (hown : s.vm.findClass own = some m.cls)
    (w1 : (Jvm.Cond.methodLink own index y).before a0 Z = true) (w2 : (Jvm.Cond.static y).before a0 Z = true) (w3 : (Jvm.Cond.initialized y.cls).before a0 Z = true) (w4 : (Jvm.Cond.code y bytes maxL ret).before a0 Z = true) (hy : y.cls ≠ "java/lang/invoke/MethodHandle" ∧ y.cls ≠ "java/lang/invoke/VarHandle")
    {as : List Value} {Q : Option Value → Heap → List Loc → Prop} (hM : o_Met l Z y bytes maxL ret [] rm as.toArray h Q) (eT : T.heap = h) {ps : List FieldType} {rt : Option FieldType} (hpd : parseMethodDescriptor y.desc = some ⟨ps, rt⟩) (hlen : as.length = ps.length)
    {pc : Nat} {Ls : Array Slot} {rest : List Value} {W : Nat} (hsize : Ls.size = c.maxLocals) (hW : (rest.map fun v => v.category).sum ≤ W) (hf : rm.frames + 1 ≤ R.frames) (hl : W + (maxL + 11) + rm.locals ≤ R.locals) (hd : decode c.code pc = .ok (.invokestatic index, 3)) (hc : cells + rm.cells ≤ R.cells) (hs : slots + rm.slots ≤ R.slots) :
    ∃ (v : Option Value) (T' : State) (L' : List Loc), Stand p l e R s m args below meth c T' (locs ++ L') (cells + rm.cells) (slots + rm.slots) ∧ Q v T'.heap L' ∧ ∀ target, Steps p.tables e below (T'.setTop (mkF m (pc + 3) Ls (v.toList ++ rest))) target → Steps p.tables e below (T.setTop (mkF m pc Ls (as.reverse ++ rest))) target := by
  obtain ⟨v, _, ⟨T', L', k', n'⟩, -, X', ⟨Lc, hQ, hl', hk', hn'⟩, st⟩ := Jvm.LawKit.callS X hx (y := y) hown (mvT hZ w1) (mvT hZ w2) (mvT hZ w3) (mvT hZ w4) hy (backOf (W := W) hM hZ w4 w3 hf hl) (g := mkF m pc Ls (as.reverse ++ rest)) rfl hsize (argsL := as) (rest := rest) (lenOf hpd hlen) rfl (by show 2 * 0 + _ ≤ _; omega) hd (fun _ _ => ⟨rfl, eT, hc, hs⟩)
  dsimp only [Pt.U, Pt.locs, Pt.cells, Pt.slots] at X' hl' hk' hn' st hQ
  subst hl' hk' hn'
  exact ⟨v, T', Lc, X', hQ, st⟩
/-- an instance method by the contract of the body that the receiver's class selects -/
theorem o_callV (X : Stand p l e R s m args below meth c T locs cells slots) (hx : p.tables.exec = Jvm.exec) (hZ : Z.Warmed39 s.vm) {own C : String} {index : Nat} {y : MethodName} {bytes : ByteArray} {maxL : Nat} {ret : Option FieldType} (hown : s.vm.findClass own = some m.cls)
    (w1 : (Jvm.Cond.methodLink own index y).before a0 Z = true) (w2 : (Jvm.Cond.declares y).before a0 Z = true) (w3 : (Jvm.Cond.selects C y y).before a0 Z = true) (w4 : (Jvm.Cond.instanceMethod y).before a0 Z = true) (w5 : (Jvm.Cond.initialized y.cls).before a0 Z = true) (w6 : (Jvm.Cond.code y bytes maxL ret).before a0 Z = true) (hy : y.cls ≠ "java/lang/invoke/MethodHandle" ∧ y.cls ≠ "java/lang/invoke/VarHandle")
    {b : Addr} {as : List Value} {Q : Option Value → Heap → List Loc → Prop} (hM : o_Met l Z y bytes maxL ret [] rm (Value.ref b :: as).toArray h Q) (eT : T.heap = h) (E : Exa Z h b C) {ps : List FieldType} {rt : Option FieldType} (hpd : parseMethodDescriptor y.desc = some ⟨ps, rt⟩) (hlen : as.length = ps.length)
    {pc : Nat} {Ls : Array Slot} {rest : List Value} {W : Nat} (hsize : Ls.size = c.maxLocals) (hW : (rest.map fun v => v.category).sum ≤ W) (hf : rm.frames + 1 ≤ R.frames) (hl : W + (maxL + 11) + rm.locals ≤ R.locals) (hd : decode c.code pc = .ok (.invokevirtual index, 3)) (hc : cells + rm.cells ≤ R.cells) (hs : slots + rm.slots ≤ R.slots) :
    ∃ (v : Option Value) (T' : State) (L' : List Loc), Stand p l e R s m args below meth c T' (locs ++ L') (cells + rm.cells) (slots + rm.slots) ∧ Q v T'.heap L' ∧ ∀ target, Steps p.tables e below (T'.setTop (mkF m (pc + 3) Ls (v.toList ++ rest))) target → Steps p.tables e below (T.setTop (mkF m pc Ls (as.reverse ++ Value.ref b :: rest))) target := by
  obtain ⟨cq, kq, qa, qb, qc⟩ := isOf hZ eT E
  obtain ⟨v, _, ⟨T', L', k', n'⟩, -, X', ⟨Lc, hQ, hl', hk', hn'⟩, st⟩ := X.virtualBack hx (y := y) (z := y) hown (mvT hZ w1) (mvT hZ w2) (notFace_of_selects (args := #[]) (mvT hZ w3)) (mvT hZ w3) (mvT hZ w4) hy (backOf (W := W) hM hZ w6 w5 hf hl) qa qc (g := mkF m pc Ls (as.reverse ++ Value.ref b :: rest)) rfl hsize (Steps.refl _) (argsL := as) (rest := rest) (lenOf hpd hlen) rfl (by show 2 * 0 + _ ≤ _; omega) hd (fun _ _ => ⟨rfl, eT, hc, hs⟩)
  dsimp only [Pt.U, Pt.locs, Pt.cells, Pt.slots] at X' hl' hk' hn' st hQ
  subst hl' hk' hn'
  exact ⟨v, T', Lc, X', hQ, fun _ q => st.trans q⟩
/-- a constructor by its contract -/
theorem o_callI (X : Stand p l e R s m args below meth c T locs cells slots) (hx : p.tables.exec = Jvm.exec) (hZ : Z.Warmed39 s.vm) {own : String} {index : Nat} {y : MethodName} {bytes : ByteArray} {maxL : Nat} (hy1 : y.name = "<init>") (hown : s.vm.findClass own = some m.cls)
    (w1 : (Jvm.Cond.methodLink own index y).before a0 Z = true) (w4 : (Jvm.Cond.instanceMethod y).before a0 Z = true) (w5 : (Jvm.Cond.initialized y.cls).before a0 Z = true) (w6 : (Jvm.Cond.code y bytes maxL none).before a0 Z = true) (hy : y.cls ≠ "java/lang/invoke/MethodHandle" ∧ y.cls ≠ "java/lang/invoke/VarHandle")
    {b : Addr} {as : List Value} {Q : Option Value → Heap → List Loc → Prop} (hM : o_Met l Z y bytes maxL none [] rm (Value.ref b :: as).toArray h Q) (eT : T.heap = h) {ps : List FieldType} {rt : Option FieldType} (hpd : parseMethodDescriptor y.desc = some ⟨ps, rt⟩) (hlen : as.length = ps.length)
    {pc : Nat} {Ls : Array Slot} {rest : List Value} {W : Nat} (hsize : Ls.size = c.maxLocals) (hW : (rest.map fun v => v.category).sum ≤ W) (hf : rm.frames + 1 ≤ R.frames) (hl : W + (maxL + 11) + rm.locals ≤ R.locals) (hd : decode c.code pc = .ok (.invokespecial index, 3)) (hc : cells + rm.cells ≤ R.cells) (hs : slots + rm.slots ≤ R.slots) :
    ∃ (v : Option Value) (T' : State) (L' : List Loc), Stand p l e R s m args below meth c T' (locs ++ L') (cells + rm.cells) (slots + rm.slots) ∧ Q v T'.heap L' ∧ ∀ target, Steps p.tables e below (T'.setTop (mkF m (pc + 3) Ls (v.toList ++ rest))) target → Steps p.tables e below (T.setTop (mkF m pc Ls (as.reverse ++ Value.ref b :: rest))) target := by
  obtain ⟨v, _, ⟨T', L', k', n'⟩, -, X', ⟨Lc, hQ, hl', hk', hn'⟩, st⟩ := X.specialBack hx (y := y) hy1 hown (mvT hZ w1) (mvT hZ w4) (mvT hZ w6) hy (backOf (W := W) hM hZ w6 w5 hf hl) (g := mkF m pc Ls (as.reverse ++ Value.ref b :: rest)) rfl hsize (Steps.refl _) (a := b) (argsL := as) (rest := rest) (lenOf hpd hlen) rfl (by show 2 * 0 + _ ≤ _; omega) hd (fun _ _ => ⟨rfl, eT, hc, hs⟩)
  dsimp only [Pt.U, Pt.locs, Pt.cells, Pt.slots] at X' hl' hk' hn' st hQ
  subst hl' hk' hn'
  exact ⟨v, T', Lc, X', hQ, fun _ q => st.trans q⟩
end Own
theorem o_gi {p : Program} {e : Env} {below : List Frame} {G : Outcome → State → Prop} {S S' : State} (h : ∀ {t}, Steps p.tables e below S' t → Steps p.tables e below S t) (k : o_Goes p e below G S') : o_Goes p e below G S := o_go (fun _ => h) k
abbrev o_Gs (p : Program) (e : Env) (below : List Frame) (G : Outcome → State → Prop) (T : State) (m : MethodId) (pc : Nat) (Ls : Array Slot) (st : List Value) : Prop := o_Goes p e below G (T.setTop (mkF m pc Ls st))
section OwnPrivate
variable {p : Program} {l : Launch} {e : Env} {R rm : Room} {s : State} {m : MethodId} {args : Array Value} {below : List Frame} {meth : Method} {c : Code} {T : State} {locs : List Loc} {cells slots : Nat} {Z : State} {a0 : Array Value} {h : Heap}
/-- a private method by its contract -/
theorem o_callP (X : Stand p l e R s m args below meth c T locs cells slots) (hx : p.tables.exec = Jvm.exec) (hZ : Z.Warmed39 s.vm) {own : String} {index kk : Nat} {y : MethodName} {bytes : ByteArray} {maxL : Nat} {ret : Option FieldType} (hown : s.vm.findClass own = some m.cls)
  (w1 : (Jvm.Cond.methodLink own index y).before a0 Z = true) (wp : (Jvm.Cond.privateMethod y).before a0 Z = true) (wi : (Jvm.Cond.instantiable y.cls kk).before a0 Z = true) (w4 : (Jvm.Cond.instanceMethod y).before a0 Z = true) (w5 : (Jvm.Cond.initialized y.cls).before a0 Z = true) (w6 : (Jvm.Cond.code y bytes maxL ret).before a0 Z = true) (hy : y.cls ≠ "java/lang/invoke/MethodHandle" ∧ y.cls ≠ "java/lang/invoke/VarHandle")
  {b : Addr} {as : List Value} {Q : Option Value → Heap → List Loc → Prop} (hM : o_Met l Z y bytes maxL ret [] rm (Value.ref b :: as).toArray h Q) (eT : T.heap = h) (E : Exa Z h b y.cls) {ps : List FieldType} {rt : Option FieldType} (hpd : parseMethodDescriptor y.desc = some ⟨ps, rt⟩) (hlen : as.length = ps.length)
  {pc : Nat} {Ls : Array Slot} {rest : List Value} {W : Nat} (hsize : Ls.size = c.maxLocals) (hW : (rest.map fun v => v.category).sum ≤ W) (hf : rm.frames + 1 ≤ R.frames) (hl : W + (maxL + 11) + rm.locals ≤ R.locals) (hd : decode c.code pc = .ok (.invokevirtual index, 3)) (hc : cells + rm.cells ≤ R.cells) (hs : slots + rm.slots ≤ R.slots) :
  ∃ (v : Option Value) (T' : State) (L' : List Loc), Stand p l e R s m args below meth c T' (locs ++ L') (cells + rm.cells) (slots + rm.slots) ∧ Q v T'.heap L' ∧ ∀ target, Steps p.tables e below (T'.setTop (mkF m (pc + 3) Ls (v.toList ++ rest))) target → Steps p.tables e below (T.setTop (mkF m pc Ls (as.reverse ++ Value.ref b :: rest))) target := by
 obtain ⟨cell, hc1, hc2⟩ := E.cell
 have hpv : s.PrivateAt y := Cond.privateMethod_at (mvP hZ wp (args := #[]))
 obtain ⟨cI, kI, i1, i2, -, i4, -⟩ := Cond.instantiable_spec (mvT (args := args) hZ wi)
 have hni : kI.isInterface = false := by
  cases hq : kI.isInterface
  ·rfl
  ·rw [hq] at i4; simp at i4
 have hsel : (Jvm.Cond.selects y.cls y y).before args s = true := selects_self_of_private i1 i2 hni hpv (mvT hZ w4) hy
 obtain ⟨v, _, ⟨T', L', k', n'⟩, -, X', ⟨Lc, hQ, hl', hk', hn'⟩, st⟩ := X.privateBack hx (y := y) hown (mvT hZ w1) (mvT hZ w4) hsel hpv (mvT hZ w6) hy (backOf (W := W) hM hZ w6 w5 hf hl) (g := mkF m pc Ls (as.reverse ++ Value.ref b :: rest)) rfl hsize (Steps.refl _) (a := b) (by rw [eT]; exact hc1) hc2 (argsL := as) (rest := rest) (lenOf hpd hlen) rfl (by show 2 * 0 + _ ≤ _; omega) hd (fun _ _ => ⟨rfl, eT, hc, hs⟩)
 dsimp only [Pt.U, Pt.locs, Pt.cells, Pt.slots] at X' hl' hk' hn' st hQ
 subst hl' hk' hn'
 exact ⟨v, T', Lc, X', hQ, fun _ q => st.trans q⟩
end OwnPrivate

section OwnStr
variable {p : Program} {l : Launch} {e : Env} {R rm : Room} {s : State} {m : MethodId} {args : Array Value} {below : List Frame} {meth : Method} {c : Code} {T : State} {locs : List Loc} {cells slots : Nat} {Z : State} {a0 : Array Value} {h : Heap}
theorem o_pdStr : parseMethodDescriptor "([C)V" = some ⟨[.array .char], none⟩ := by decide +kernel
/-- new String(char[]) -/
theorem o_newStr (X : Stand p l e R s m args below meth c T locs cells slots) (hx : p.tables.exec = Jvm.exec) (hZ : Z.Warmed39 s.vm) {own : String} {index : Nat} {bytes : ByteArray} (hown : s.vm.findClass own = some m.cls)
  (w1 : (Jvm.Cond.methodLink own index ⟨"java/lang/String", "<init>", "([C)V"⟩).before a0 Z = true) (w4 : (Jvm.Cond.instanceMethod ⟨"java/lang/String", "<init>", "([C)V"⟩).before a0 Z = true) (w6 : (Jvm.Cond.code ⟨"java/lang/String", "<init>", "([C)V"⟩ bytes 2 none).before a0 Z = true) (wi : (Jvm.Cond.instantiable "java/lang/String" 4).before a0 Z = true)
  (hws : ∀ d ∈ StrChars.Road.words, d.before a0 Z = true) {x b : Addr} {kC : ClassId} {cs : List Int32} {d v0 c0 : Value} {z N : Int32} {n n0 : Nat} (hx0 : n0 ≤ x) (hh0 : n0 ≤ h.size) (E : Exa Z h x "java/lang/String") (V : Fld Z h x "java/lang/String" "value" "[B" v0) (C : Fld Z h x "java/lang/String" "coder" "B" c0)
  (K : Arv Z h b kC .char N (cs.map Value.int) d) (S : Sta Z h "java/lang/String" "COMPACT_STRINGS" "Z" (.int z)) (hz : ¬ z = 0) (hn : cs.length = n) (hN : N = Int32.ofNat n) (l0 : 0 < n) (l2 : n ≤ 4000) (hp : ∀ c ∈ cs, ¬ c < 0 ∧ ¬ (255 : Int32) < c) (eT : T.heap = h)
  {pc : Nat} {Ls : Array Slot} {rest : List Value} {W : Nat} (hsize : Ls.size = c.maxLocals) (hW : (rest.map fun v => v.category).sum ≤ W) (hf : 4 ≤ R.frames) (hl : W + 65 ≤ R.locals) (hd : decode c.code pc = .ok (.invokespecial index, 3)) (hc : cells + 1 ≤ R.cells) (hs : slots + n ≤ R.slots) :
  ∃ (T' : State) (L' : List Loc), Stand p l e R s m args below meth c T' (locs ++ L') (cells + 1) (slots + n) ∧ StrChars.Road.QV Z x N (cs.map fun c => c.toInt8.toInt32) h n0 none T'.heap L' ∧ ∀ target, Steps p.tables e below (T'.setTop (mkF m (pc + 3) Ls rest)) target → Steps p.tables e below (T.setTop (mkF m pc Ls (Value.ref b :: Value.ref x :: rest))) target := by
 obtain ⟨v, _, ⟨T', L', k', n'⟩, -, X', ⟨Lc, hQ, hl', hk', hn'⟩, st⟩ := X.specialBack hx (y := ⟨"java/lang/String", "<init>", "([C)V"⟩) rfl hown (mvT hZ w1) (mvT hZ w4) (mvT hZ w6) (by decide) (StrChars.Road.backV (W := W) hZ hws wi (cs := cs) (bs := cs.map fun c => c.toInt8.toInt32) (n := n) hx0 hh0 E V C K S hz hn hN l0 l2 hp rfl hf hl) (g := mkF m pc Ls (Value.ref b :: Value.ref x :: rest)) rfl hsize (Steps.refl _) (a := x) (argsL := [Value.ref b]) (rest := rest) (lenOf o_pdStr rfl) rfl (by show 2 * 0 + _ ≤ _; omega) hd (fun _ _ => ⟨rfl, eT, hc, hs⟩)
 dsimp only [Pt.U, Pt.locs, Pt.cells, Pt.slots] at X' hl' hk' hn' st hQ
 subst hl' hk' hn'
 have hv : v = none := hQ.1
 subst hv
 exact ⟨T', Lc, X', hQ, fun _ q => st.trans q⟩
end OwnStr

theorem o_ch (x : Int32) : ¬ nar .char ((x &&& (255 : Int32)).toUInt32.toUInt16.toUInt32.toInt32) < 0 ∧ ¬ (255 : Int32) < nar .char ((x &&& (255 : Int32)).toUInt32.toUInt16.toUInt32.toInt32) := by
 have t : ∀ k : Fin 256, ¬ nar .char ((Int32.ofNat k.val).toUInt32.toUInt16.toUInt32.toInt32) < 0 ∧ ¬ (255 : Int32) < nar .char ((Int32.ofNat k.val).toUInt32.toUInt16.toUInt32.toInt32) := by decide +kernel
 have h : (x &&& 255).toInt = x.toInt % 2 ^ 8 := Jvm.Kit.i32_mask x 255 (k := 8) (by decide) (by decide)
 have e : Int32.ofNat (x &&& 255).toInt.toNat = (x &&& 255) := by
  rw [← Int32.toInt_inj, Int32.toInt_ofNat_of_lt (by omega)]; omega
 have q := t ⟨(x &&& 255).toInt.toNat, by omega⟩
 simp only [e] at q
 exact q
theorem o_nz {args : Array Value} {s : State} {t : Term} {z : Int32} (v : t.eval args s none [] s = some (.int z)) (h : (Jvm.Cond.not (Jvm.Cond.eq t (Jvm.Term.int 0))).value args s none s [] = some true) : ¬ z = 0 := fun q => by
 have h1 := not_v h
 rw [eq_i v (Term.int_eval _) (by rw [q])] at h1
 cases h1

section OwnW
variable {p : Program} {l : Launch} {e : Env} {R rm : Room} {s : State} {m : MethodId} {args : Array Value} {below : List Frame} {meth : Method} {c : Code} {T : State} {locs : List Loc} {cells slots : Nat} {Z : State} {a0 : Array Value} {h h0 : Heap} {EL : List (String × Nat)} {vm0 : Vm} {k0 : Nat}
/-- the end of a body that may load String constants -/
abbrev o_EndW (Z : State) (EL : List (String × Nat)) (s : State) (h0 : Heap) (rm : Room) (Q : Option Value → Heap → List Loc → Prop) : Outcome → State → Prop := fun o U' => ∃ v L, o = .returned v ∧ Q v U'.heap L ∧ CHr Z EL s.vm h0 U'.vm U'.heap ∧ ReturnedEndW s o U' L rm.cells rm.slots
def o_MetW (l : Launch) (Z : State) (EL : List (String × Nat)) (y : MethodName) (bytes : ByteArray) (maxL : Nat) (ret : Option FieldType) (ws : List Jvm.Cond) (rm : Room) (as : Array Value) (h0 : Heap) (Q : Option Value → Heap → List Loc → Prop) : Prop :=
 MetFree l y (head1 (Jvm.Cond.code y bytes maxL ret :: ws) rm) (fun a U => a = as ∧ Z.Warmed39 U.vm ∧ U.heap = h0 ∧ CHv Z EL U.vm h0) (fun _ _ _ _ _ => True) (fun _ U o U' => ∃ v L, o = .returned v ∧ Q v U'.heap L ∧ CHr Z EL U.vm U.heap U'.vm U'.heap ∧ ReturnedEndW U o U' L rm.cells rm.slots)
theorem o_metW {y : MethodName} {bytes : ByteArray} {maxL : Nat} {ret : Option FieldType} {ws : List Jvm.Cond} {as : Array Value} {Q : Option Value → Heap → List Loc → Prop} (hp : plainFor y = true)
  (body : ∀ (p : Program) (e : Env) (s : State) (m : MethodId) (below : List Frame) (meth : Method) (c : Code) (s₁ : State), p.tables.exec = Jvm.exec → c.code = bytes → c.maxLocals = maxL → (s.setVm s.vm).vm.findClass y.cls = some m.cls → meth.name = y.name → meth.sig.returnType = ret → meth.locks = false → Z.Warmed39 (s.setVm s.vm).vm → s₁.heap = h0 →
   s.Since s.vm 0 → CHr Z EL s.vm h0 s.vm h0 → Stand p l e rm (s.setVm s.vm) m as below meth c s₁ [] 0 0 → o_Goes p e below (o_EndW Z EL s h0 rm Q) (s₁.setTop (entryFrame m as maxL))) : o_MetW l Z EL y bytes maxL ret ws rm as h0 Q := by
 refine MetFree.of_bodySF hp hisR ?_
 intro p e s m args below meth c s₁ Bd hml hP hK
 obtain ⟨rfl, hZ, rfl, hC⟩ := hP
 exact body p e s m below meth c s₁ Bd.exec Bd.bytes hml (findClass_of_methodNamed Bd.named) (name_of_methodNamed Bd.named Bd.method).1 Bd.returns Bd.notSynchronized hZ (by rw [Bd.state]; rfl) ((State.WarmedH.refl s).since 0) (CHr.refl hC) (Stand.of_body Bd)
theorem o_retVW {Q : Option Value → Heap → List Loc → Prop} (hS : s.Since vm0 k0) (hk : k0 ≤ h.size) (hZ : Z.Warmed39 (s.setVm vm0).vm) (hEL : EW Z a0 EL) (C : CHr Z EL s.vm h0 vm0 h) (eT : T.heap = h) (X : Stand p l e rm (s.setVm vm0) m args below meth c T locs cells slots) (hx : p.tables.exec = Jvm.exec) (hlk : meth.locks = false) {pc : Nat} {Ls : Array Slot} {w : Value} {t : FieldType} {i : Instr} {rest : List Value} (hret : meth.sig.returnType = some t) (hn : narrow t w = w)
  (hi : (i = .ireturn ∧ (t = .int ∨ t = .boolean ∨ t = .byte ∨ t = .char ∨ t = .short) ∧ ∃ z, w = .int z) ∨ (i = .lreturn ∧ t = .long ∧ ∃ z, w = .long z) ∨ (i = .dreturn ∧ t = .double ∧ ∃ z, w = .double z) ∨ (i = .freturn ∧ t = .float ∧ ∃ z, w = .float z) ∨ (i = .areturn ∧ t.isReference = true ∧ w.isRef = true))
  (hd : decode c.code pc = .ok (i, 1)) (hc : cells ≤ rm.cells) (hs : slots ≤ rm.slots) (hq : Q (some w) T.heap locs) : o_Goes p e below (o_EndW Z EL s h0 rm Q) (T.setTop (mkF m pc Ls (w :: rest))) := by
 subst eT
 obtain ⟨fs, hr, hrun, hended, g1, g2, g3, g4⟩ := X.leaveW hS hk (v := some w) (fun h => by rw [hret] at h; cases h) hlk
 have hCC := C.trans (CHv.at X hZ hEL C.1)
 exact ⟨_, _, retOut X hx hret hn hi hd hr, hrun, hended, _, _, rfl, hq, hCC, g1, g2, g3, g4.mono hc hs⟩
theorem o_retIW {Q : Option Value → Heap → List Loc → Prop} (hS : s.Since vm0 k0) (hk : k0 ≤ h.size) (hZ : Z.Warmed39 (s.setVm vm0).vm) (hEL : EW Z a0 EL) (C : CHr Z EL s.vm h0 vm0 h) (eT : T.heap = h) (X : Stand p l e rm (s.setVm vm0) m args below meth c T locs cells slots) (hx : p.tables.exec = Jvm.exec) (hlk : meth.locks = false) {pc : Nat} {Ls : Array Slot} {z : Int32} {rest : List Value} (hret : meth.sig.returnType = some .int)
  (hd : decode c.code pc = .ok (.ireturn, 1)) (hc : cells ≤ rm.cells) (hs : slots ≤ rm.slots) (hq : Q (some (.int z)) T.heap locs) : o_Goes p e below (o_EndW Z EL s h0 rm Q) (T.setTop (mkF m pc Ls (.int z :: rest))) :=
 o_retVW hS hk hZ hEL C eT X hx hlk hret rfl (Or.inl ⟨rfl, Or.inl rfl, z, rfl⟩) hd hc hs hq
theorem o_retJW {Q : Option Value → Heap → List Loc → Prop} (hS : s.Since vm0 k0) (hk : k0 ≤ h.size) (hZ : Z.Warmed39 (s.setVm vm0).vm) (hEL : EW Z a0 EL) (C : CHr Z EL s.vm h0 vm0 h) (eT : T.heap = h) (X : Stand p l e rm (s.setVm vm0) m args below meth c T locs cells slots) (hx : p.tables.exec = Jvm.exec) (hlk : meth.locks = false) {pc : Nat} {Ls : Array Slot} {z : Int64} {rest : List Value} (hret : meth.sig.returnType = some .long)
  (hd : decode c.code pc = .ok (.lreturn, 1)) (hc : cells ≤ rm.cells) (hs : slots ≤ rm.slots) (hq : Q (some (.long z)) T.heap locs) : o_Goes p e below (o_EndW Z EL s h0 rm Q) (T.setTop (mkF m pc Ls (.long z :: rest))) :=
 o_retVW hS hk hZ hEL C eT X hx hlk hret rfl (Or.inr (Or.inl ⟨rfl, rfl, z, rfl⟩)) hd hc hs hq
theorem o_retRW {Q : Option Value → Heap → List Loc → Prop} (hS : s.Since vm0 k0) (hk : k0 ≤ h.size) (hZ : Z.Warmed39 (s.setVm vm0).vm) (hEL : EW Z a0 EL) (C : CHr Z EL s.vm h0 vm0 h) (eT : T.heap = h) (X : Stand p l e rm (s.setVm vm0) m args below meth c T locs cells slots) (hx : p.tables.exec = Jvm.exec) (hlk : meth.locks = false) {pc : Nat} {Ls : Array Slot} {w : Value} {t : FieldType} {rest : List Value} (hret : meth.sig.returnType = some t) (ht : t.isReference = true) (hw : w.isRef = true)
  (hd : decode c.code pc = .ok (.areturn, 1)) (hc : cells ≤ rm.cells) (hs : slots ≤ rm.slots) (hq : Q (some w) T.heap locs) : o_Goes p e below (o_EndW Z EL s h0 rm Q) (T.setTop (mkF m pc Ls (w :: rest))) :=
 o_retVW hS hk hZ hEL C eT X hx hlk hret (by cases t <;> first | rfl | cases ht) (Or.inr (Or.inr (Or.inr (Or.inr ⟨rfl, ht, hw⟩)))) hd hc hs hq
theorem o_retNW {Q : Option Value → Heap → List Loc → Prop} (hS : s.Since vm0 k0) (hk : k0 ≤ h.size) (hZ : Z.Warmed39 (s.setVm vm0).vm) (hEL : EW Z a0 EL) (C : CHr Z EL s.vm h0 vm0 h) (eT : T.heap = h) (X : Stand p l e rm (s.setVm vm0) m args below meth c T locs cells slots) (hx : p.tables.exec = Jvm.exec) (hlk : meth.locks = false) {pc : Nat} {Ls : Array Slot} {z z' : Int32} {t : FieldType} {rest : List Value} (hret : meth.sig.returnType = some t) (ht : t = .boolean ∨ t = .byte ∨ t = .char ∨ t = .short) (hz : nar t z = z')
  (hd : decode c.code pc = .ok (.ireturn, 1)) (hc : cells ≤ rm.cells) (hs : slots ≤ rm.slots) (hq : Q (some (.int z')) T.heap locs) : o_Goes p e below (o_EndW Z EL s h0 rm Q) (T.setTop (mkF m pc Ls (.int z :: rest))) := by
 subst hz eT
 obtain ⟨fs, hr, hrun, hended, g1, g2, g3, g4⟩ := X.leaveW hS hk (v := some (.int (nar t z))) (fun h => by rw [hret] at h; cases h) hlk
 have hCC := C.trans (CHv.at X hZ hEL C.1)
 exact ⟨_, _, retN X hx hret ht hd hr, hrun, hended, _, _, rfl, hq, hCC, g1, g2, g3, g4.mono hc hs⟩
theorem o_ret0W {Q : Option Value → Heap → List Loc → Prop} (hS : s.Since vm0 k0) (hk : k0 ≤ h.size) (hZ : Z.Warmed39 (s.setVm vm0).vm) (hEL : EW Z a0 EL) (C : CHr Z EL s.vm h0 vm0 h) (eT : T.heap = h) (X : Stand p l e rm (s.setVm vm0) m args below meth c T locs cells slots) (hx : p.tables.exec = Jvm.exec) (hlk : meth.locks = false) {pc : Nat} {Ls : Array Slot} (hret : meth.sig.returnType = none)
  (hd : decode c.code pc = .ok (.return_, 1)) (hc : cells ≤ rm.cells) (hs : slots ≤ rm.slots) (hq : Q none T.heap locs) : o_Goes p e below (o_EndW Z EL s h0 rm Q) (T.setTop (mkF m pc Ls [])) := by
 subst eT
 obtain ⟨fs, hr, hrun, hended, g1, g2, g3, g4⟩ := X.leaveW hS hk (v := none) (fun _ => rfl) hlk
 have hCC := C.trans (CHv.at X hZ hEL C.1)
 exact ⟨_, _, X.returnOut hx hret hd hr, hrun, hended, _, _, rfl, hq, hCC, g1, g2, g3, g4.mono hc hs⟩
/-- a static call of a callee that may load String constants -/
theorem o_callSW (hS : s.Since vm0 k0) (hk : k0 ≤ h.size) (hEL : EW Z a0 EL) (H : CHv Z EL vm0 h) (X : Stand p l e R (s.setVm vm0) m args below meth c T locs cells slots) (hx : p.tables.exec = Jvm.exec) (hZ : Z.Warmed39 (s.setVm vm0).vm) {own : String} {index : Nat} {y : MethodName} {bytes : ByteArray} {maxL : Nat} {ret : Option FieldType} (hown : (s.setVm vm0).vm.findClass own = some m.cls)
  (w1 : (Jvm.Cond.methodLink own index y).before a0 Z = true) (w2 : (Jvm.Cond.static y).before a0 Z = true) (w3 : (Jvm.Cond.initialized y.cls).before a0 Z = true) (w4 : (Jvm.Cond.code y bytes maxL ret).before a0 Z = true) (hy : y.cls ≠ "java/lang/invoke/MethodHandle" ∧ y.cls ≠ "java/lang/invoke/VarHandle")
  {as : List Value} {Q : Option Value → Heap → List Loc → Prop} (hM : o_MetW l Z EL y bytes maxL ret [] rm as.toArray h Q) (eT : T.heap = h) {ps : List FieldType} {rt : Option FieldType} (hpd : parseMethodDescriptor y.desc = some ⟨ps, rt⟩) (hlen : as.length = ps.length)
  {pc : Nat} {Ls : Array Slot} {rest : List Value} {W : Nat} (hsize : Ls.size = c.maxLocals) (hW : (rest.map fun v => v.category).sum ≤ W) (hf : rm.frames + 1 ≤ R.frames) (hl : W + (maxL + 11) + rm.locals ≤ R.locals) (hd : decode c.code pc = .ok (.invokestatic index, 3)) (hc : cells + rm.cells ≤ R.cells) (hs : slots + rm.slots ≤ R.slots) :
  ∃ (v : Option Value) (T' : State) (L' : List Loc), Stand p l e R (s.setVm T'.vm) m args below meth c T' (locs ++ L') (cells + rm.cells) (slots + rm.slots) ∧ Q v T'.heap L' ∧ s.Since T'.vm T'.heap.size ∧ Z.Warmed39 (s.setVm T'.vm).vm ∧ (s.setVm T'.vm).vm.findClass own = some m.cls ∧ CHr Z EL vm0 h T'.vm T'.heap ∧
   ∀ target, Steps p.tables e below (T'.setTop (mkF m (pc + 3) Ls (v.toList ++ rest))) target → Steps p.tables e below (T.setTop (mkF m pc Ls (as.reverse ++ rest))) target := by
 obtain ⟨v, _, ⟨T', L', k', n'⟩, -, X', hS2, hg, ⟨Lc, hQ, hl', hk', hn', hC⟩, st⟩ := callSS X hx (y := y) hown (mvT hZ w1) (mvT hZ w2) (mvT hZ w3) (mvT hZ w4) hy (backOfSH (W := W) hM hZ w4 w3 hf hl hEL H) (g := mkF m pc Ls (as.reverse ++ rest)) rfl hsize (argsL := as) (rest := rest) (lenOf hpd hlen) rfl (by show 2 * 0 + _ ≤ _; omega) hd (fun _ _ => ⟨rfl, eT, hc, hs⟩)
 dsimp only [Pt.U, Pt.locs, Pt.cells, Pt.slots] at X' hl' hk' hn' st hQ hS2 hg hC
 subst hl' hk' hn'
 obtain ⟨X3, hS3, hZ3, ho3⟩ := rebS hS (n1 := T.heap.size) (by rw [eT]; exact hk) X' hS2 hg hZ hown
 exact ⟨v, T', Lc, X3, hQ, hS3, hZ3, ho3, hC, fun _ q => st.trans q⟩
/-- a constructor that may load String constants -/
theorem o_callIW (hS : s.Since vm0 k0) (hk : k0 ≤ h.size) (hEL : EW Z a0 EL) (H : CHv Z EL vm0 h) (X : Stand p l e R (s.setVm vm0) m args below meth c T locs cells slots) (hx : p.tables.exec = Jvm.exec) (hZ : Z.Warmed39 (s.setVm vm0).vm) {own : String} {index : Nat} {y : MethodName} {bytes : ByteArray} {maxL : Nat} (hy1 : y.name = "<init>") (hown : (s.setVm vm0).vm.findClass own = some m.cls)
  (w1 : (Jvm.Cond.methodLink own index y).before a0 Z = true) (w4 : (Jvm.Cond.instanceMethod y).before a0 Z = true) (w5 : (Jvm.Cond.initialized y.cls).before a0 Z = true) (w6 : (Jvm.Cond.code y bytes maxL none).before a0 Z = true) (hy : y.cls ≠ "java/lang/invoke/MethodHandle" ∧ y.cls ≠ "java/lang/invoke/VarHandle")
  {b : Addr} {as : List Value} {Q : Option Value → Heap → List Loc → Prop} (hM : o_MetW l Z EL y bytes maxL none [] rm (Value.ref b :: as).toArray h Q) (eT : T.heap = h) {ps : List FieldType} {rt : Option FieldType} (hpd : parseMethodDescriptor y.desc = some ⟨ps, rt⟩) (hlen : as.length = ps.length)
  {pc : Nat} {Ls : Array Slot} {rest : List Value} {W : Nat} (hsize : Ls.size = c.maxLocals) (hW : (rest.map fun v => v.category).sum ≤ W) (hf : rm.frames + 1 ≤ R.frames) (hl : W + (maxL + 11) + rm.locals ≤ R.locals) (hd : decode c.code pc = .ok (.invokespecial index, 3)) (hc : cells + rm.cells ≤ R.cells) (hs : slots + rm.slots ≤ R.slots) :
  ∃ (v : Option Value) (T' : State) (L' : List Loc), Stand p l e R (s.setVm T'.vm) m args below meth c T' (locs ++ L') (cells + rm.cells) (slots + rm.slots) ∧ Q v T'.heap L' ∧ s.Since T'.vm T'.heap.size ∧ Z.Warmed39 (s.setVm T'.vm).vm ∧ (s.setVm T'.vm).vm.findClass own = some m.cls ∧ CHr Z EL vm0 h T'.vm T'.heap ∧
   ∀ target, Steps p.tables e below (T'.setTop (mkF m (pc + 3) Ls (v.toList ++ rest))) target → Steps p.tables e below (T.setTop (mkF m pc Ls (as.reverse ++ Value.ref b :: rest))) target := by
 obtain ⟨v, _, ⟨T', L', k', n'⟩, -, X', hS2, hg, ⟨Lc, hQ, hl', hk', hn', hC⟩, st⟩ := X.specialBackS hx (y := y) hy1 hown (mvT hZ w1) (mvT hZ w4) (mvT hZ w6) hy (backOfSH (W := W) hM hZ w6 w5 hf hl hEL H) (g := mkF m pc Ls (as.reverse ++ Value.ref b :: rest)) rfl hsize (Steps.refl _) (a := b) (argsL := as) (rest := rest) (lenOf hpd hlen) rfl (by show 2 * 0 + _ ≤ _; omega) hd (fun _ _ => ⟨rfl, eT, hc, hs⟩)
 dsimp only [Pt.U, Pt.locs, Pt.cells, Pt.slots] at X' hl' hk' hn' st hQ hS2 hg hC
 subst hl' hk' hn'
 obtain ⟨X3, hS3, hZ3, ho3⟩ := rebS hS (n1 := T.heap.size) (by rw [eT]; exact hk) X' hS2 hg hZ hown
 exact ⟨v, T', Lc, X3, hQ, hS3, hZ3, ho3, hC, fun _ q => st.trans q⟩
/-- an instance method that may load String constants -/
theorem o_callVW (hS : s.Since vm0 k0) (hk : k0 ≤ h.size) (hEL : EW Z a0 EL) (H : CHv Z EL vm0 h) (X : Stand p l e R (s.setVm vm0) m args below meth c T locs cells slots) (hx : p.tables.exec = Jvm.exec) (hZ : Z.Warmed39 (s.setVm vm0).vm) {own C : String} {index : Nat} {y : MethodName} {bytes : ByteArray} {maxL : Nat} {ret : Option FieldType} (hown : (s.setVm vm0).vm.findClass own = some m.cls)
  (w1 : (Jvm.Cond.methodLink own index y).before a0 Z = true) (w2 : (Jvm.Cond.declares y).before a0 Z = true) (w3 : (Jvm.Cond.selects C y y).before a0 Z = true) (w4 : (Jvm.Cond.instanceMethod y).before a0 Z = true) (w5 : (Jvm.Cond.initialized y.cls).before a0 Z = true) (w6 : (Jvm.Cond.code y bytes maxL ret).before a0 Z = true) (hy : y.cls ≠ "java/lang/invoke/MethodHandle" ∧ y.cls ≠ "java/lang/invoke/VarHandle")
  {b : Addr} {as : List Value} {Q : Option Value → Heap → List Loc → Prop} (hM : o_MetW l Z EL y bytes maxL ret [] rm (Value.ref b :: as).toArray h Q) (eT : T.heap = h) (E : Exa Z h b C) {ps : List FieldType} {rt : Option FieldType} (hpd : parseMethodDescriptor y.desc = some ⟨ps, rt⟩) (hlen : as.length = ps.length)
  {pc : Nat} {Ls : Array Slot} {rest : List Value} {W : Nat} (hsize : Ls.size = c.maxLocals) (hW : (rest.map fun v => v.category).sum ≤ W) (hf : rm.frames + 1 ≤ R.frames) (hl : W + (maxL + 11) + rm.locals ≤ R.locals) (hd : decode c.code pc = .ok (.invokevirtual index, 3)) (hc : cells + rm.cells ≤ R.cells) (hs : slots + rm.slots ≤ R.slots) :
  ∃ (v : Option Value) (T' : State) (L' : List Loc), Stand p l e R (s.setVm T'.vm) m args below meth c T' (locs ++ L') (cells + rm.cells) (slots + rm.slots) ∧ Q v T'.heap L' ∧ s.Since T'.vm T'.heap.size ∧ Z.Warmed39 (s.setVm T'.vm).vm ∧ (s.setVm T'.vm).vm.findClass own = some m.cls ∧ CHr Z EL vm0 h T'.vm T'.heap ∧
   ∀ target, Steps p.tables e below (T'.setTop (mkF m (pc + 3) Ls (v.toList ++ rest))) target → Steps p.tables e below (T.setTop (mkF m pc Ls (as.reverse ++ Value.ref b :: rest))) target := by
 obtain ⟨cq, kq, qa, qb, qc⟩ := isOf hZ eT E
 obtain ⟨v, _, ⟨T', L', k', n'⟩, -, X', hS2, hg, ⟨Lc, hQ, hl', hk', hn', hC⟩, st⟩ := X.virtualBackS hx (y := y) (z := y) hown (mvT hZ w1) (mvT hZ w2) (notFace_of_selects (args := #[]) (mvT hZ w3)) (mvT hZ w3) (mvT hZ w4) hy (backOfSH (W := W) hM hZ w6 w5 hf hl hEL H) qa qc (g := mkF m pc Ls (as.reverse ++ Value.ref b :: rest)) rfl hsize (Steps.refl _) (argsL := as) (rest := rest) (lenOf hpd hlen) rfl (by show 2 * 0 + _ ≤ _; omega) hd (fun _ _ => ⟨rfl, eT, hc, hs⟩)
 dsimp only [Pt.U, Pt.locs, Pt.cells, Pt.slots] at X' hl' hk' hn' st hQ hS2 hg hC
 subst hl' hk' hn'
 obtain ⟨X3, hS3, hZ3, ho3⟩ := rebS hS (n1 := T.heap.size) (by rw [eT]; exact hk) X' hS2 hg hZ hown
 exact ⟨v, T', Lc, X3, hQ, hS3, hZ3, ho3, hC, fun _ q => st.trans q⟩
/-- a String under construction is booked nowhere -/
theorem o_safeNull {x : Addr} (hal : Z.vm.Alike vm0) (E : Exa Z h x "java/lang/String") (F : Fld Z h x "java/lang/String" "value" "[B" .null) : Safe Z EL vm0 h x := fun B => by
 obtain ⟨cell, k, e1, e2, e3, -, -⟩ := E
 obtain ⟨p, -, u, a, -, q, -, G, rfl | rfl⟩ := B
 ·obtain ⟨cS, ⟨⟨s1, s2, s3, ⟨cv, kv, iv, s4, s4'⟩, ⟨cc, kc, ic, s5, s5'⟩, s6, s7, s8, s9, s10, s11, s12, s13, s14, s15, s16⟩, hfS, hcS⟩, -, -, -⟩ := G
  obtain ⟨kv', z4⟩ := ff_back (U := Wst Z vm0 h) hal s4
  have FF : Fld Z h q.sa "java/lang/String" "value" "[B" (.ref q.sd) := ⟨q.sC, cv, kv', iv, q.fSV, s1, z4, s6, s2, s3, by rw [← hal.assignable]; exact s4', s8⟩
  exact Fld.ne FF F (by simp) rfl
 ·cases (show h[q.sd]? = some q.SA from G.hd).symm.trans e1
  obtain ⟨cS, -, -, f, -⟩ := G
  have f : vm0.findClass "[B" = some q.SA.cls := f
  rw [hal.findClass] at f
  obtain ⟨k1, q1, q2⟩ := Vm.findClass_spec f
  obtain ⟨k2, q3, q4⟩ := Vm.findClass_spec e2
  cases q1.symm.trans q3
  have : "[B" = "java/lang/String" := q2.symm.trans q4
  exact absurd this (by decide)
theorem o_safeArv {x : Addr} {k : ClassId} {ty : FieldType} {z : Int32} {vs : List Value} {dv : Value} (hal : Z.vm.Alike vm0) (A : Arv Z h x k ty z vs dv) (ht : ty ≠ .byte) : Safe Z EL vm0 h x := by
 obtain ⟨cl, A, -⟩ := A
 exact Safe.arr hal A ht
theorem o_safe0 {x : Addr} : Safe Z [] vm0 h x := fun ⟨_, hp, _⟩ => nomatch hp
theorem o_held0 : CHv Z [] vm0 h := fun _ hp => nomatch hp
end OwnW

section OwnF
variable {p : Program} {l : Launch} {e : Env} {R rm : Room} {s : State} {m : MethodId} {args : Array Value} {below : List Frame} {meth : Method} {c : Code} {T : State} {locs : List Loc} {cells slots : Nat} {Z : State} {a0 : Array Value} {h : Heap}
/-- an interface's method by the contract of the body that the receiver's class selects -/
theorem o_callF (X : Stand p l e R s m args below meth c T locs cells slots) (hx : p.tables.exec = Jvm.exec) (hZ : Z.Warmed39 s.vm) {own C : String} {index count : Nat} {xi y : MethodName} {bytes : ByteArray} {maxL : Nat} {ret : Option FieldType} (hown : s.vm.findClass own = some m.cls)
  (w1 : (Jvm.Cond.methodLink own index xi).before args s = true) (w2 : (Jvm.Cond.declares xi).before args s = true) (wf : (Jvm.Cond.interfaceMethod xi.cls xi.cls xi.name xi.desc).before args s = true) (w3 : (Jvm.Cond.selects C xi y).before args s = true) (w4 : (Jvm.Cond.instanceMethod y).before args s = true) (wp : (Jvm.Cond.publicMethod y).before args s = true) (wu : (Jvm.Cond.unhidden C xi.name xi.desc).before args s = true) (wc : (Jvm.Cond.castable C xi.cls).before args s = true) (w5 : (Jvm.Cond.initialized y.cls).before a0 Z = true) (w6 : (Jvm.Cond.code y bytes maxL ret).before a0 Z = true) (hy : xi.cls ≠ "java/lang/invoke/MethodHandle" ∧ xi.cls ≠ "java/lang/invoke/VarHandle")
  {b : Addr} {as : List Value} {Q : Option Value → Heap → List Loc → Prop} (hM : o_Met l Z y bytes maxL ret [] rm (Value.ref b :: as).toArray h Q) (eT : T.heap = h) (E : Exa Z h b C) {ps : List FieldType} {rt : Option FieldType} (hpd : parseMethodDescriptor xi.desc = some ⟨ps, rt⟩) (hlen : as.length = ps.length)
  {pc : Nat} {Ls : Array Slot} {rest : List Value} {W : Nat} (hsize : Ls.size = c.maxLocals) (hW : (rest.map fun v => v.category).sum ≤ W) (hf : rm.frames + 1 ≤ R.frames) (hl : W + (maxL + 11) + rm.locals ≤ R.locals) (hd : decode c.code pc = .ok (.invokeinterface index count, 5)) (hc : cells + rm.cells ≤ R.cells) (hs : slots + rm.slots ≤ R.slots) :
  ∃ (v : Option Value) (T' : State) (L' : List Loc), Stand p l e R s m args below meth c T' (locs ++ L') (cells + rm.cells) (slots + rm.slots) ∧ Q v T'.heap L' ∧ ∀ target, Steps p.tables e below (T'.setTop (mkF m (pc + 5) Ls (v.toList ++ rest))) target → Steps p.tables e below (T.setTop (mkF m pc Ls (as.reverse ++ Value.ref b :: rest))) target := by
 obtain ⟨cq, kq, qa, qb, qc⟩ := isOf hZ eT E
 obtain ⟨v, _, ⟨T', L', k', n'⟩, -, X', ⟨Lc, hQ, hl', hk', hn'⟩, st⟩ := X.interfaceBack hx (xi := xi) (y := y) hown w1 w2 wf w3 w4 wp wu wc hy (backOf (W := W) hM hZ w6 w5 hf hl) qa qb qc (g := mkF m pc Ls (as.reverse ++ Value.ref b :: rest)) rfl hsize (Steps.refl _) (argsL := as) (rest := rest) (lenOf hpd hlen) rfl (by show 2 * 0 + _ ≤ _; omega) hd (fun _ _ => ⟨rfl, eT, hc, hs⟩)
 dsimp only [Pt.U, Pt.locs, Pt.cells, Pt.slots] at X' hl' hk' hn' st hQ
 subst hl' hk' hn'
 exact ⟨v, T', Lc, X', hQ, fun _ q => st.trans q⟩
theorem o_pdLen : parseMethodDescriptor "()I" = some ⟨[], some .int⟩ := by decide +kernel
theorem o_pdCh : parseMethodDescriptor "(I)C" = some ⟨[.int], some .char⟩ := by decide +kernel
/-- length() of a String of known chars -/
theorem o_callLen (X : Stand p l e R s m args below meth c T locs cells slots) (hx : p.tables.exec = Jvm.exec) (hZ : Z.Warmed39 s.vm) {own : String} {index : Nat} (hown : s.vm.findClass own = some m.cls)
  (w1 : (Jvm.Cond.methodLink own index ⟨"java/lang/String", "length", "()I"⟩).before a0 Z = true) (w2 : (Jvm.Cond.declares ⟨"java/lang/String", "length", "()I"⟩).before a0 Z = true) (w3 : (Jvm.Cond.selects "java/lang/String" ⟨"java/lang/String", "length", "()I"⟩ ⟨"java/lang/String", "length", "()I"⟩).before a0 Z = true) (w4 : (Jvm.Cond.instanceMethod ⟨"java/lang/String", "length", "()I"⟩).before a0 Z = true) (wi : (Jvm.Cond.instantiable "java/lang/String" 4).before a0 Z = true) (hws : ∀ d ∈ StrChars.Road.wordsLen, d.before a0 Z = true)
  {x t : Addr} {kb : ClassId} {cs : List Int32} {N2 : Int32} {vs : List Value} (E : Exa Z h x "java/lang/String") (V : Fld Z h x "java/lang/String" "value" "[B" (.ref t)) (C : Fld Z h x "java/lang/String" "coder" "B" (.int 0)) (K : Arv Z h t kb .byte N2 vs (.int 0)) (hcd : StrChars.Road.CodA cs 0 N2 vs) (hb : ∀ c ∈ cs, ¬ c < 0 ∧ ¬ (65535 : Int32) < c) (l2 : cs.length ≤ 4000)
  {z : Int32} (S : Sta Z h "java/lang/String" "COMPACT_STRINGS" "Z" (.int z)) (hz : ¬ z = 0) {nn : Int32} (hnn : Int32.ofNat cs.length = nn) (eT : T.heap = h)
  {pc : Nat} {Ls : Array Slot} {rest : List Value} {W : Nat} (hsize : Ls.size = c.maxLocals) (hW : (rest.map fun v => v.category).sum ≤ W) (hf : 2 ≤ R.frames) (hl : W + 25 ≤ R.locals) (hd : decode c.code pc = .ok (.invokevirtual index, 3)) (hc : cells ≤ R.cells) (hs : slots ≤ R.slots) :
  ∃ T' : State, Stand p l e R s m args below meth c T' locs cells slots ∧ T'.heap = h ∧ ∀ target, Steps p.tables e below (T'.setTop (mkF m (pc + 3) Ls (.int nn :: rest))) target → Steps p.tables e below (T.setTop (mkF m pc Ls (.ref x :: rest))) target := by
 subst hnn
 obtain ⟨cq, kq, qa, qb, qc⟩ := isOf hZ eT E
 obtain ⟨v, _, ⟨T', L', k', n'⟩, -, X', ⟨Lc, ⟨rfl, rfl, hh⟩, hl', hk', hn'⟩, st⟩ := X.virtualBack hx (y := ⟨"java/lang/String", "length", "()I"⟩) (z := ⟨"java/lang/String", "length", "()I"⟩) hown (mvT hZ w1) (mvT hZ w2) (notFace_of_selects (args := #[]) (mvT hZ w3)) (mvT hZ w3) (mvT hZ w4) (by decide) (StrChars.Road.lenW (W := W) hZ hws wi E V C K hcd hb S hz l2 hf hl) qa qc (g := mkF m pc Ls (.ref x :: rest)) rfl hsize (Steps.refl _) (argsL := []) (rest := rest) (lenOf o_pdLen rfl) rfl (by show 2 * 0 + _ ≤ _; omega) hd (fun _ _ => ⟨rfl, eT, hc, hs⟩)
 dsimp only [Pt.U, Pt.locs, Pt.cells, Pt.slots] at X' hl' hk' hn' st hh
 rw [List.append_nil] at hl'
 rw [Nat.add_zero] at hk' hn'
 subst hl' hk' hn'
 exact ⟨T', X', hh, fun _ q => st.trans q⟩
/-- charAt(i) of a String of known chars -/
theorem o_callCh (X : Stand p l e R s m args below meth c T locs cells slots) (hx : p.tables.exec = Jvm.exec) (hZ : Z.Warmed39 s.vm) {own : String} {index : Nat} (hown : s.vm.findClass own = some m.cls)
  (w1 : (Jvm.Cond.methodLink own index ⟨"java/lang/String", "charAt", "(I)C"⟩).before a0 Z = true) (w2 : (Jvm.Cond.declares ⟨"java/lang/String", "charAt", "(I)C"⟩).before a0 Z = true) (w3 : (Jvm.Cond.selects "java/lang/String" ⟨"java/lang/String", "charAt", "(I)C"⟩ ⟨"java/lang/String", "charAt", "(I)C"⟩).before a0 Z = true) (w4 : (Jvm.Cond.instanceMethod ⟨"java/lang/String", "charAt", "(I)C"⟩).before a0 Z = true) (wi : (Jvm.Cond.instantiable "java/lang/String" 4).before a0 Z = true) (hws : ∀ d ∈ StrChars.Road.wordsChN, d.before a0 Z = true)
  {x t : Addr} {kb : ClassId} {cs : List Int32} {N2 : Int32} {vs : List Value} (E : Exa Z h x "java/lang/String") (V : Fld Z h x "java/lang/String" "value" "[B" (.ref t)) (C : Fld Z h x "java/lang/String" "coder" "B" (.int 0)) (K : Arv Z h t kb .byte N2 vs (.int 0)) (hcd : StrChars.Road.CodA cs 0 N2 vs) (hb : ∀ c ∈ cs, ¬ c < 0 ∧ ¬ (65535 : Int32) < c) (l2 : cs.length ≤ 4000)
  {z : Int32} (S : Sta Z h "java/lang/String" "COMPACT_STRINGS" "Z" (.int z)) (hz : ¬ z = 0) {fm : Value} (F : Sta Z h "jdk/internal/util/Preconditions" "SIOOBE_FORMATTER" "Ljava/util/function/BiFunction;" fm) (rf : fm.isRef = true) {i : Nat} {j u : Int32} (hi : i < cs.length) (hj : j = Int32.ofNat i) (hu : cs.getD i 0 = u) (eT : T.heap = h)
  {pc : Nat} {Ls : Array Slot} {rest : List Value} {W : Nat} (hsize : Ls.size = c.maxLocals) (hW : (rest.map fun v => v.category).sum ≤ W) (hf : 4 ≤ R.frames) (hl : W + 53 ≤ R.locals) (hd : decode c.code pc = .ok (.invokevirtual index, 3)) (hc : cells ≤ R.cells) (hs : slots ≤ R.slots) :
  ∃ T' : State, Stand p l e R s m args below meth c T' locs cells slots ∧ T'.heap = h ∧ ∀ target, Steps p.tables e below (T'.setTop (mkF m (pc + 3) Ls (.int u :: rest))) target → Steps p.tables e below (T.setTop (mkF m pc Ls (.int j :: .ref x :: rest))) target := by
 subst hu
 obtain ⟨cq, kq, qa, qb, qc⟩ := isOf hZ eT E
 obtain ⟨v, _, ⟨T', L', k', n'⟩, -, X', ⟨Lc, ⟨rfl, rfl, hh⟩, hl', hk', hn'⟩, st⟩ := X.virtualBack hx (y := ⟨"java/lang/String", "charAt", "(I)C"⟩) (z := ⟨"java/lang/String", "charAt", "(I)C"⟩) hown (mvT hZ w1) (mvT hZ w2) (notFace_of_selects (args := #[]) (mvT hZ w3)) (mvT hZ w3) (mvT hZ w4) (by decide) (StrChars.Road.chN (W := W) hZ hws wi E V C K hcd hb S hz F rf l2 hi hj hf hl) qa qc (g := mkF m pc Ls (.int j :: .ref x :: rest)) rfl hsize (Steps.refl _) (argsL := [.int j]) (rest := rest) (lenOf o_pdCh rfl) rfl (by show 2 * 0 + _ ≤ _; omega) hd (fun _ _ => ⟨rfl, eT, hc, hs⟩)
 dsimp only [Pt.U, Pt.locs, Pt.cells, Pt.slots] at X' hl' hk' hn' st hh
 rw [List.append_nil] at hl'
 rw [Nat.add_zero] at hk' hn'
 subst hl' hk' hn'
 exact ⟨T', X', hh, fun _ q => st.trans q⟩
end OwnF

section OwnSt
variable {p : Program} {l : Launch} {e : Env} {R rm : Room} {s : State} {m : MethodId} {args : Array Value} {below : List Frame} {meth : Method} {c : Code} {T : State} {locs : List Loc} {cells slots : Nat} {Z : State} {a0 : Array Value} {h h' : Heap}
/-- a String of the chars cs, each 0 to 255 -/
def o_Str (Z : State) (h : Heap) (x : Addr) (cs : List Int32) : Prop := ∃ (t : Addr) (kb : ClassId) (N2 : Int32) (vs : List Value), Exa Z h x "java/lang/String" ∧ Fld Z h x "java/lang/String" "value" "[B" (.ref t) ∧ Fld Z h x "java/lang/String" "coder" "B" (.int 0) ∧ Arv Z h t kb .byte N2 vs (.int 0) ∧ StrChars.Road.CodA cs 0 N2 vs ∧ (∀ c ∈ cs, ¬ c < 0 ∧ ¬ (65535 : Int32) < c) ∧ cs.length ≤ 4000
theorem o_Str.exa {x : Addr} {cs : List Int32} (F : o_Str Z h x cs) : Exa Z h x "java/lang/String" := by obtain ⟨t, kb, N2, vs, E, -⟩ := F; exact E
theorem o_Str.lt {x : Addr} {cs : List Int32} (F : o_Str Z h x cs) : x < h.size := F.exa.lt
theorem o_Str.ext {x : Addr} {cs : List Int32} (F : o_Str Z h x cs) (E : Ext h h') : o_Str Z h' x cs := by
 obtain ⟨t, kb, N2, vs, f1, f2, f3, f4, r⟩ := F; exact ⟨t, kb, N2, vs, f1.ext E, f2.ext E, f3.ext E, f4.ext E, r⟩
theorem o_Str.keep {x : Addr} {cs : List Int32} (F : o_Str Z h x cs) (K : Keep h h' []) : o_Str Z h' x cs := by
 obtain ⟨t, kb, N2, vs, f1, f2, f3, f4, r⟩ := F; exact ⟨t, kb, N2, vs, f1.keep K, f2.keep K nin0, f3.keep K nin0, f4.keep K nin0, r⟩
end OwnSt

theorem o_d10_0 : decode jdk_33_method_22_code 0 = .ok (.iload_n 0, 1) := by decide +kernel
theorem o_d10_1 : decode jdk_33_method_22_code 1 = .ok (.bipush (-128), 2) := by decide +kernel
theorem o_d10_3 : decode jdk_33_method_22_code 3 = .ok (.if_icmp .lt 20, 3) := by decide +kernel
theorem o_d10_6 : decode jdk_33_method_22_code 6 = .ok (.iload_n 0, 1) := by decide +kernel
theorem o_d10_7 : decode jdk_33_method_22_code 7 = .ok (.getstatic 191, 3) := by decide +kernel
theorem o_t70 : (Jvm.Cond.fieldLink "java/lang/Integer" (191 : Nat) "java/lang/Integer$IntegerCache" "high" "I") ∈ tables_1 := List.mem_of_getElem? (i := 70) rfl
theorem o_d10_10 : decode jdk_33_method_22_code 10 = .ok (.if_icmp .gt 13, 3) := by decide +kernel
theorem o_d10_13 : decode jdk_33_method_22_code 13 = .ok (.getstatic 195, 3) := by decide +kernel
theorem o_t72 : (Jvm.Cond.fieldLink "java/lang/Integer" (195 : Nat) "java/lang/Integer$IntegerCache" "cache" "[Ljava/lang/Integer;") ∈ tables_1 := List.mem_of_getElem? (i := 72) rfl
theorem o_d10_16 : decode jdk_33_method_22_code 16 = .ok (.iload_n 0, 1) := by decide +kernel
theorem o_d10_17 : decode jdk_33_method_22_code 17 = .ok (.sipush 128, 3) := by decide +kernel
theorem o_d10_20 : decode jdk_33_method_22_code 20 = .ok (.iadd, 1) := by decide +kernel
theorem o_d10_21 : decode jdk_33_method_22_code 21 = .ok (.aaload, 1) := by decide +kernel
theorem o_pn0 : plainName "java/lang/Integer" = true := by first | (simp [plainName, overriddenIn]; done) | decide +kernel
theorem o_d10_22 : decode jdk_33_method_22_code 22 = .ok (.areturn, 1) := by decide +kernel
def o_Q10_0 (u : Addr) (x_hi : Int32) (s_c : Addr) (h0 : Heap) (n0 : Nat) (v : Option Value) (h : Heap) (L : List Loc) : Prop := v = some (.ref u) ∧ Fr n0 L ∧ h = h0
abbrev o_R10_0 : Room := { frames := 0, cells := 0, slots := 0, locals := 0 }
theorem o_ef10_0 (m : MethodId)  : entryFrame m #[(.int 0)] 1 = mkF m 0 #[.val (.int 0)] [] := by first | (simp [entryFrame, mkF, argsToLocals, Value.category]; done) | rfl
set_option maxRecDepth 65536 in
set_option maxHeartbeats 40000000 in
theorem rm10_0 (l : Launch) (Z : State) (a0 : Array Value) (hw : ∀ d ∈ tables_1, d.before a0 Z = true) (ws : List Jvm.Cond) (u : Addr) (cl_c : Cell) (x_hi : Int32) (s_c : Addr) (h0 : Heap) (n0 : Nat) (Z0 : n0 ≤ h0.size) (O0 : Old Z n0 h0) (A_c : Arr Z Z.heap s_c cl_c (.object "java/lang/Integer")) (z_c : cl_c.slots.size = (256 : Int32).toNatClampNeg) (h_hi : x_hi = (127 : Int32)) (t_c : cl_c.slots[(128 : Int32).toNatClampNeg]? = some (.ref u)) (S_x_hi : Sta Z Z.heap "java/lang/Integer$IntegerCache" "high" "I" (.int x_hi)) (S_s_c : Sta Z Z.heap "java/lang/Integer$IntegerCache" "cache" "[Ljava/lang/Integer;" (.ref s_c)) : o_Met l Z (⟨"java/lang/Integer", "valueOf", "(I)Ljava/lang/Integer;"⟩ : MethodName) jdk_33_method_22_code 1 (some (.object "java/lang/Integer")) ws o_R10_0 #[(.int 0)] h0 (o_Q10_0 u x_hi s_c h0 n0) := by
 refine o_met (plainFor_of_name o_pn0) ?_
 intro p e s m below meth c s₁ hx hby hml hown hnm hret hlk hZ e0 X0
 have N0 := Fr.nil n0
 have hml : c.maxLocals = 1 := hml
 have hown : s.vm.findClass "java/lang/Integer" = some m.cls := hown
 have hret : meth.sig.returnType = (some (.object "java/lang/Integer")) := hret
 have hby : c.code = jdk_33_method_22_code := hby
 have hnm : meth.name = "valueOf" := hnm
 rw [o_ef10_0]
 refine o_gi (XS.iloadN X0.here hx rfl (hb hby o_d10_0) rfl) ?_
 refine o_gi (XS.bipush X0.here hx rfl (hb hby o_d10_1)) ?_
 show o_Gs p e below _ s₁ m 3 #[.val (.int 0)] [(.int (-128 : Int32)), (.int 0)]
 have hd1 : ¬ ((0 : Int32) < (-128 : Int32)) := (by decide)
 refine o_gi (XS.icmpNo X0.here hx rfl (hb hby o_d10_3) rfl (flt hd1).1) ?_
 refine o_gi (XS.iloadN X0.here hx rfl (hb hby o_d10_6) rfl) ?_
 show o_Gs p e below _ s₁ m 7 #[.val (.int 0)] [(.int 0)]
 obtain ⟨T2, X2, e2, st2⟩ := getS2 X0 hx hZ hown (host := "") (Or.inl (hw _ o_t70)) Via.refl e0 (S_x_hi.ext O0.2) (g := (mkF m 7 #[.val (.int 0)] [(.int 0)])) rfl (hb hby o_d10_7)
 refine o_go st2 ?_
 show o_Gs p e below _ T2 m 10 #[.val (.int 0)] [(.int x_hi), (.int 0)]
 have hd3 : ¬ (x_hi < (0 : Int32)) := (by rw [h_hi]; decide)
 refine o_gi (XS.icmpNo X2.here hx rfl (hb hby o_d10_10) rfl (flt hd3).2.2.1) ?_
 show o_Gs p e below _ T2 m 13 #[.val (.int 0)] []
 obtain ⟨T4, X4, e4, st4⟩ := getS2 X2 hx hZ hown (host := "") (Or.inl (hw _ o_t72)) Via.refl e2 (S_s_c.ext O0.2) (g := (mkF m 13 #[.val (.int 0)] [])) rfl (hb hby o_d10_13)
 refine o_go st4 ?_
 refine o_gi (XS.iloadN X4.here hx rfl (hb hby o_d10_16) rfl) ?_
 refine o_gi (XS.sipush X4.here hx rfl (hb hby o_d10_17)) ?_
 show o_Gs p e below _ T4 m 20 #[.val (.int 0)] [(.int 128), (.int 0), (.ref s_c)]
 refine o_gi (XS.iadd X4.here hx rfl (hb hby o_d10_20) rfl) ?_
 show o_Gs p e below _ T4 m 21 #[.val (.int 0)] [(.int ((0 : Int32) + (128 : Int32))), (.ref s_c)]
 rw [show ((0 : Int32) + (128 : Int32)) = (128 : Int32) from by decide]
 show o_Gs p e below _ T4 m 21 #[.val (.int 0)] [(.int 128), (.ref s_c)]
 refine o_go (X4.aaload hx (j := (128 : Int32)) (v := (.ref u)) (by rw [e4]; exact (A_c.ext O0.2).1) (State.isArrayOf_alike hZ.alike (A_c.ext O0.2).2.1) rfl (A_c.ext O0.2).2.2 (inb_of z_c ⟨by decide, by decide⟩) t_c (g := (mkF m 21 #[.val (.int 0)] [(.int 128), (.ref s_c)])) rfl rfl (hb hby o_d10_21)) ?_
 show o_Gs p e below _ T4 m 22 #[.val (.int 0)] [(.ref u)]
 exact o_retR X4 hx hlk hret rfl rfl (hb hby o_d10_22) (by decide) (by decide) ⟨rfl, N0, e4⟩
def o_Q10_1 (u : Addr) (x_hi : Int32) (s_c : Addr) (h0 : Heap) (n0 : Nat) (v : Option Value) (h : Heap) (L : List Loc) : Prop := v = some (.ref u) ∧ Fr n0 L ∧ h = h0
abbrev o_R10_1 : Room := { frames := 0, cells := 0, slots := 0, locals := 0 }
theorem o_ef10_1 (m : MethodId)  : entryFrame m #[(.int 1)] 1 = mkF m 0 #[.val (.int 1)] [] := by first | (simp [entryFrame, mkF, argsToLocals, Value.category]; done) | rfl
set_option maxRecDepth 65536 in
set_option maxHeartbeats 40000000 in
theorem rm10_1 (l : Launch) (Z : State) (a0 : Array Value) (hw : ∀ d ∈ tables_1, d.before a0 Z = true) (ws : List Jvm.Cond) (u : Addr) (cl_c : Cell) (x_hi : Int32) (s_c : Addr) (h0 : Heap) (n0 : Nat) (Z0 : n0 ≤ h0.size) (O0 : Old Z n0 h0) (A_c : Arr Z Z.heap s_c cl_c (.object "java/lang/Integer")) (z_c : cl_c.slots.size = (256 : Int32).toNatClampNeg) (h_hi : x_hi = (127 : Int32)) (t_c : cl_c.slots[(129 : Int32).toNatClampNeg]? = some (.ref u)) (S_x_hi : Sta Z Z.heap "java/lang/Integer$IntegerCache" "high" "I" (.int x_hi)) (S_s_c : Sta Z Z.heap "java/lang/Integer$IntegerCache" "cache" "[Ljava/lang/Integer;" (.ref s_c)) : o_Met l Z (⟨"java/lang/Integer", "valueOf", "(I)Ljava/lang/Integer;"⟩ : MethodName) jdk_33_method_22_code 1 (some (.object "java/lang/Integer")) ws o_R10_1 #[(.int 1)] h0 (o_Q10_1 u x_hi s_c h0 n0) := by
 refine o_met (plainFor_of_name o_pn0) ?_
 intro p e s m below meth c s₁ hx hby hml hown hnm hret hlk hZ e0 X0
 have N0 := Fr.nil n0
 have hml : c.maxLocals = 1 := hml
 have hown : s.vm.findClass "java/lang/Integer" = some m.cls := hown
 have hret : meth.sig.returnType = (some (.object "java/lang/Integer")) := hret
 have hby : c.code = jdk_33_method_22_code := hby
 have hnm : meth.name = "valueOf" := hnm
 rw [o_ef10_1]
 refine o_gi (XS.iloadN X0.here hx rfl (hb hby o_d10_0) rfl) ?_
 refine o_gi (XS.bipush X0.here hx rfl (hb hby o_d10_1)) ?_
 show o_Gs p e below _ s₁ m 3 #[.val (.int 1)] [(.int (-128 : Int32)), (.int 1)]
 have hd5 : ¬ ((1 : Int32) < (-128 : Int32)) := (by decide)
 refine o_gi (XS.icmpNo X0.here hx rfl (hb hby o_d10_3) rfl (flt hd5).1) ?_
 refine o_gi (XS.iloadN X0.here hx rfl (hb hby o_d10_6) rfl) ?_
 show o_Gs p e below _ s₁ m 7 #[.val (.int 1)] [(.int 1)]
 obtain ⟨T6, X6, e6, st6⟩ := getS2 X0 hx hZ hown (host := "") (Or.inl (hw _ o_t70)) Via.refl e0 (S_x_hi.ext O0.2) (g := (mkF m 7 #[.val (.int 1)] [(.int 1)])) rfl (hb hby o_d10_7)
 refine o_go st6 ?_
 show o_Gs p e below _ T6 m 10 #[.val (.int 1)] [(.int x_hi), (.int 1)]
 have hd7 : ¬ (x_hi < (1 : Int32)) := (by rw [h_hi]; decide)
 refine o_gi (XS.icmpNo X6.here hx rfl (hb hby o_d10_10) rfl (flt hd7).2.2.1) ?_
 show o_Gs p e below _ T6 m 13 #[.val (.int 1)] []
 obtain ⟨T8, X8, e8, st8⟩ := getS2 X6 hx hZ hown (host := "") (Or.inl (hw _ o_t72)) Via.refl e6 (S_s_c.ext O0.2) (g := (mkF m 13 #[.val (.int 1)] [])) rfl (hb hby o_d10_13)
 refine o_go st8 ?_
 refine o_gi (XS.iloadN X8.here hx rfl (hb hby o_d10_16) rfl) ?_
 refine o_gi (XS.sipush X8.here hx rfl (hb hby o_d10_17)) ?_
 show o_Gs p e below _ T8 m 20 #[.val (.int 1)] [(.int 128), (.int 1), (.ref s_c)]
 refine o_gi (XS.iadd X8.here hx rfl (hb hby o_d10_20) rfl) ?_
 show o_Gs p e below _ T8 m 21 #[.val (.int 1)] [(.int ((1 : Int32) + (128 : Int32))), (.ref s_c)]
 rw [show ((1 : Int32) + (128 : Int32)) = (129 : Int32) from by decide]
 show o_Gs p e below _ T8 m 21 #[.val (.int 1)] [(.int 129), (.ref s_c)]
 refine o_go (X8.aaload hx (j := (129 : Int32)) (v := (.ref u)) (by rw [e8]; exact (A_c.ext O0.2).1) (State.isArrayOf_alike hZ.alike (A_c.ext O0.2).2.1) rfl (A_c.ext O0.2).2.2 (inb_of z_c ⟨by decide, by decide⟩) t_c (g := (mkF m 21 #[.val (.int 1)] [(.int 129), (.ref s_c)])) rfl rfl (hb hby o_d10_21)) ?_
 show o_Gs p e below _ T8 m 22 #[.val (.int 1)] [(.ref u)]
 exact o_retR X8 hx hlk hret rfl rfl (hb hby o_d10_22) (by decide) (by decide) ⟨rfl, N0, e8⟩
def o_Q10_2 (u : Addr) (x_hi : Int32) (s_c : Addr) (h0 : Heap) (n0 : Nat) (v : Option Value) (h : Heap) (L : List Loc) : Prop := v = some (.ref u) ∧ Fr n0 L ∧ h = h0
abbrev o_R10_2 : Room := { frames := 0, cells := 0, slots := 0, locals := 0 }
theorem o_ef10_2 (m : MethodId)  : entryFrame m #[(.int 2)] 1 = mkF m 0 #[.val (.int 2)] [] := by first | (simp [entryFrame, mkF, argsToLocals, Value.category]; done) | rfl
set_option maxRecDepth 65536 in
set_option maxHeartbeats 40000000 in
theorem rm10_2 (l : Launch) (Z : State) (a0 : Array Value) (hw : ∀ d ∈ tables_1, d.before a0 Z = true) (ws : List Jvm.Cond) (u : Addr) (cl_c : Cell) (x_hi : Int32) (s_c : Addr) (h0 : Heap) (n0 : Nat) (Z0 : n0 ≤ h0.size) (O0 : Old Z n0 h0) (A_c : Arr Z Z.heap s_c cl_c (.object "java/lang/Integer")) (z_c : cl_c.slots.size = (256 : Int32).toNatClampNeg) (h_hi : x_hi = (127 : Int32)) (t_c : cl_c.slots[(130 : Int32).toNatClampNeg]? = some (.ref u)) (S_x_hi : Sta Z Z.heap "java/lang/Integer$IntegerCache" "high" "I" (.int x_hi)) (S_s_c : Sta Z Z.heap "java/lang/Integer$IntegerCache" "cache" "[Ljava/lang/Integer;" (.ref s_c)) : o_Met l Z (⟨"java/lang/Integer", "valueOf", "(I)Ljava/lang/Integer;"⟩ : MethodName) jdk_33_method_22_code 1 (some (.object "java/lang/Integer")) ws o_R10_2 #[(.int 2)] h0 (o_Q10_2 u x_hi s_c h0 n0) := by
 refine o_met (plainFor_of_name o_pn0) ?_
 intro p e s m below meth c s₁ hx hby hml hown hnm hret hlk hZ e0 X0
 have N0 := Fr.nil n0
 have hml : c.maxLocals = 1 := hml
 have hown : s.vm.findClass "java/lang/Integer" = some m.cls := hown
 have hret : meth.sig.returnType = (some (.object "java/lang/Integer")) := hret
 have hby : c.code = jdk_33_method_22_code := hby
 have hnm : meth.name = "valueOf" := hnm
 rw [o_ef10_2]
 refine o_gi (XS.iloadN X0.here hx rfl (hb hby o_d10_0) rfl) ?_
 refine o_gi (XS.bipush X0.here hx rfl (hb hby o_d10_1)) ?_
 show o_Gs p e below _ s₁ m 3 #[.val (.int 2)] [(.int (-128 : Int32)), (.int 2)]
 have hd9 : ¬ ((2 : Int32) < (-128 : Int32)) := (by decide)
 refine o_gi (XS.icmpNo X0.here hx rfl (hb hby o_d10_3) rfl (flt hd9).1) ?_
 refine o_gi (XS.iloadN X0.here hx rfl (hb hby o_d10_6) rfl) ?_
 show o_Gs p e below _ s₁ m 7 #[.val (.int 2)] [(.int 2)]
 obtain ⟨T10, X10, e10, st10⟩ := getS2 X0 hx hZ hown (host := "") (Or.inl (hw _ o_t70)) Via.refl e0 (S_x_hi.ext O0.2) (g := (mkF m 7 #[.val (.int 2)] [(.int 2)])) rfl (hb hby o_d10_7)
 refine o_go st10 ?_
 show o_Gs p e below _ T10 m 10 #[.val (.int 2)] [(.int x_hi), (.int 2)]
 have hd11 : ¬ (x_hi < (2 : Int32)) := (by rw [h_hi]; decide)
 refine o_gi (XS.icmpNo X10.here hx rfl (hb hby o_d10_10) rfl (flt hd11).2.2.1) ?_
 show o_Gs p e below _ T10 m 13 #[.val (.int 2)] []
 obtain ⟨T12, X12, e12, st12⟩ := getS2 X10 hx hZ hown (host := "") (Or.inl (hw _ o_t72)) Via.refl e10 (S_s_c.ext O0.2) (g := (mkF m 13 #[.val (.int 2)] [])) rfl (hb hby o_d10_13)
 refine o_go st12 ?_
 refine o_gi (XS.iloadN X12.here hx rfl (hb hby o_d10_16) rfl) ?_
 refine o_gi (XS.sipush X12.here hx rfl (hb hby o_d10_17)) ?_
 show o_Gs p e below _ T12 m 20 #[.val (.int 2)] [(.int 128), (.int 2), (.ref s_c)]
 refine o_gi (XS.iadd X12.here hx rfl (hb hby o_d10_20) rfl) ?_
 show o_Gs p e below _ T12 m 21 #[.val (.int 2)] [(.int ((2 : Int32) + (128 : Int32))), (.ref s_c)]
 rw [show ((2 : Int32) + (128 : Int32)) = (130 : Int32) from by decide]
 show o_Gs p e below _ T12 m 21 #[.val (.int 2)] [(.int 130), (.ref s_c)]
 refine o_go (X12.aaload hx (j := (130 : Int32)) (v := (.ref u)) (by rw [e12]; exact (A_c.ext O0.2).1) (State.isArrayOf_alike hZ.alike (A_c.ext O0.2).2.1) rfl (A_c.ext O0.2).2.2 (inb_of z_c ⟨by decide, by decide⟩) t_c (g := (mkF m 21 #[.val (.int 2)] [(.int 130), (.ref s_c)])) rfl rfl (hb hby o_d10_21)) ?_
 show o_Gs p e below _ T12 m 22 #[.val (.int 2)] [(.ref u)]
 exact o_retR X12 hx hlk hret rfl rfl (hb hby o_d10_22) (by decide) (by decide) ⟨rfl, N0, e12⟩
def o_Q10_3 (u : Addr) (x_hi : Int32) (s_c : Addr) (h0 : Heap) (n0 : Nat) (v : Option Value) (h : Heap) (L : List Loc) : Prop := v = some (.ref u) ∧ Fr n0 L ∧ h = h0
abbrev o_R10_3 : Room := { frames := 0, cells := 0, slots := 0, locals := 0 }
theorem o_ef10_3 (m : MethodId)  : entryFrame m #[(.int 3)] 1 = mkF m 0 #[.val (.int 3)] [] := by first | (simp [entryFrame, mkF, argsToLocals, Value.category]; done) | rfl
set_option maxRecDepth 65536 in
set_option maxHeartbeats 40000000 in
theorem rm10_3 (l : Launch) (Z : State) (a0 : Array Value) (hw : ∀ d ∈ tables_1, d.before a0 Z = true) (ws : List Jvm.Cond) (u : Addr) (cl_c : Cell) (x_hi : Int32) (s_c : Addr) (h0 : Heap) (n0 : Nat) (Z0 : n0 ≤ h0.size) (O0 : Old Z n0 h0) (A_c : Arr Z Z.heap s_c cl_c (.object "java/lang/Integer")) (z_c : cl_c.slots.size = (256 : Int32).toNatClampNeg) (h_hi : x_hi = (127 : Int32)) (t_c : cl_c.slots[(131 : Int32).toNatClampNeg]? = some (.ref u)) (S_x_hi : Sta Z Z.heap "java/lang/Integer$IntegerCache" "high" "I" (.int x_hi)) (S_s_c : Sta Z Z.heap "java/lang/Integer$IntegerCache" "cache" "[Ljava/lang/Integer;" (.ref s_c)) : o_Met l Z (⟨"java/lang/Integer", "valueOf", "(I)Ljava/lang/Integer;"⟩ : MethodName) jdk_33_method_22_code 1 (some (.object "java/lang/Integer")) ws o_R10_3 #[(.int 3)] h0 (o_Q10_3 u x_hi s_c h0 n0) := by
 refine o_met (plainFor_of_name o_pn0) ?_
 intro p e s m below meth c s₁ hx hby hml hown hnm hret hlk hZ e0 X0
 have N0 := Fr.nil n0
 have hml : c.maxLocals = 1 := hml
 have hown : s.vm.findClass "java/lang/Integer" = some m.cls := hown
 have hret : meth.sig.returnType = (some (.object "java/lang/Integer")) := hret
 have hby : c.code = jdk_33_method_22_code := hby
 have hnm : meth.name = "valueOf" := hnm
 rw [o_ef10_3]
 refine o_gi (XS.iloadN X0.here hx rfl (hb hby o_d10_0) rfl) ?_
 refine o_gi (XS.bipush X0.here hx rfl (hb hby o_d10_1)) ?_
 show o_Gs p e below _ s₁ m 3 #[.val (.int 3)] [(.int (-128 : Int32)), (.int 3)]
 have hd13 : ¬ ((3 : Int32) < (-128 : Int32)) := (by decide)
 refine o_gi (XS.icmpNo X0.here hx rfl (hb hby o_d10_3) rfl (flt hd13).1) ?_
 refine o_gi (XS.iloadN X0.here hx rfl (hb hby o_d10_6) rfl) ?_
 show o_Gs p e below _ s₁ m 7 #[.val (.int 3)] [(.int 3)]
 obtain ⟨T14, X14, e14, st14⟩ := getS2 X0 hx hZ hown (host := "") (Or.inl (hw _ o_t70)) Via.refl e0 (S_x_hi.ext O0.2) (g := (mkF m 7 #[.val (.int 3)] [(.int 3)])) rfl (hb hby o_d10_7)
 refine o_go st14 ?_
 show o_Gs p e below _ T14 m 10 #[.val (.int 3)] [(.int x_hi), (.int 3)]
 have hd15 : ¬ (x_hi < (3 : Int32)) := (by rw [h_hi]; decide)
 refine o_gi (XS.icmpNo X14.here hx rfl (hb hby o_d10_10) rfl (flt hd15).2.2.1) ?_
 show o_Gs p e below _ T14 m 13 #[.val (.int 3)] []
 obtain ⟨T16, X16, e16, st16⟩ := getS2 X14 hx hZ hown (host := "") (Or.inl (hw _ o_t72)) Via.refl e14 (S_s_c.ext O0.2) (g := (mkF m 13 #[.val (.int 3)] [])) rfl (hb hby o_d10_13)
 refine o_go st16 ?_
 refine o_gi (XS.iloadN X16.here hx rfl (hb hby o_d10_16) rfl) ?_
 refine o_gi (XS.sipush X16.here hx rfl (hb hby o_d10_17)) ?_
 show o_Gs p e below _ T16 m 20 #[.val (.int 3)] [(.int 128), (.int 3), (.ref s_c)]
 refine o_gi (XS.iadd X16.here hx rfl (hb hby o_d10_20) rfl) ?_
 show o_Gs p e below _ T16 m 21 #[.val (.int 3)] [(.int ((3 : Int32) + (128 : Int32))), (.ref s_c)]
 rw [show ((3 : Int32) + (128 : Int32)) = (131 : Int32) from by decide]
 show o_Gs p e below _ T16 m 21 #[.val (.int 3)] [(.int 131), (.ref s_c)]
 refine o_go (X16.aaload hx (j := (131 : Int32)) (v := (.ref u)) (by rw [e16]; exact (A_c.ext O0.2).1) (State.isArrayOf_alike hZ.alike (A_c.ext O0.2).2.1) rfl (A_c.ext O0.2).2.2 (inb_of z_c ⟨by decide, by decide⟩) t_c (g := (mkF m 21 #[.val (.int 3)] [(.int 131), (.ref s_c)])) rfl rfl (hb hby o_d10_21)) ?_
 show o_Gs p e below _ T16 m 22 #[.val (.int 3)] [(.ref u)]
 exact o_retR X16 hx hlk hret rfl rfl (hb hby o_d10_22) (by decide) (by decide) ⟨rfl, N0, e16⟩
def o_Q10_4 (u : Addr) (x_hi : Int32) (s_c : Addr) (h0 : Heap) (n0 : Nat) (v : Option Value) (h : Heap) (L : List Loc) : Prop := v = some (.ref u) ∧ Fr n0 L ∧ h = h0
abbrev o_R10_4 : Room := { frames := 0, cells := 0, slots := 0, locals := 0 }
theorem o_ef10_4 (m : MethodId)  : entryFrame m #[(.int 4)] 1 = mkF m 0 #[.val (.int 4)] [] := by first | (simp [entryFrame, mkF, argsToLocals, Value.category]; done) | rfl
set_option maxRecDepth 65536 in
set_option maxHeartbeats 40000000 in
theorem rm10_4 (l : Launch) (Z : State) (a0 : Array Value) (hw : ∀ d ∈ tables_1, d.before a0 Z = true) (ws : List Jvm.Cond) (u : Addr) (cl_c : Cell) (x_hi : Int32) (s_c : Addr) (h0 : Heap) (n0 : Nat) (Z0 : n0 ≤ h0.size) (O0 : Old Z n0 h0) (A_c : Arr Z Z.heap s_c cl_c (.object "java/lang/Integer")) (z_c : cl_c.slots.size = (256 : Int32).toNatClampNeg) (h_hi : x_hi = (127 : Int32)) (t_c : cl_c.slots[(132 : Int32).toNatClampNeg]? = some (.ref u)) (S_x_hi : Sta Z Z.heap "java/lang/Integer$IntegerCache" "high" "I" (.int x_hi)) (S_s_c : Sta Z Z.heap "java/lang/Integer$IntegerCache" "cache" "[Ljava/lang/Integer;" (.ref s_c)) : o_Met l Z (⟨"java/lang/Integer", "valueOf", "(I)Ljava/lang/Integer;"⟩ : MethodName) jdk_33_method_22_code 1 (some (.object "java/lang/Integer")) ws o_R10_4 #[(.int 4)] h0 (o_Q10_4 u x_hi s_c h0 n0) := by
 refine o_met (plainFor_of_name o_pn0) ?_
 intro p e s m below meth c s₁ hx hby hml hown hnm hret hlk hZ e0 X0
 have N0 := Fr.nil n0
 have hml : c.maxLocals = 1 := hml
 have hown : s.vm.findClass "java/lang/Integer" = some m.cls := hown
 have hret : meth.sig.returnType = (some (.object "java/lang/Integer")) := hret
 have hby : c.code = jdk_33_method_22_code := hby
 have hnm : meth.name = "valueOf" := hnm
 rw [o_ef10_4]
 refine o_gi (XS.iloadN X0.here hx rfl (hb hby o_d10_0) rfl) ?_
 refine o_gi (XS.bipush X0.here hx rfl (hb hby o_d10_1)) ?_
 show o_Gs p e below _ s₁ m 3 #[.val (.int 4)] [(.int (-128 : Int32)), (.int 4)]
 have hd17 : ¬ ((4 : Int32) < (-128 : Int32)) := (by decide)
 refine o_gi (XS.icmpNo X0.here hx rfl (hb hby o_d10_3) rfl (flt hd17).1) ?_
 refine o_gi (XS.iloadN X0.here hx rfl (hb hby o_d10_6) rfl) ?_
 show o_Gs p e below _ s₁ m 7 #[.val (.int 4)] [(.int 4)]
 obtain ⟨T18, X18, e18, st18⟩ := getS2 X0 hx hZ hown (host := "") (Or.inl (hw _ o_t70)) Via.refl e0 (S_x_hi.ext O0.2) (g := (mkF m 7 #[.val (.int 4)] [(.int 4)])) rfl (hb hby o_d10_7)
 refine o_go st18 ?_
 show o_Gs p e below _ T18 m 10 #[.val (.int 4)] [(.int x_hi), (.int 4)]
 have hd19 : ¬ (x_hi < (4 : Int32)) := (by rw [h_hi]; decide)
 refine o_gi (XS.icmpNo X18.here hx rfl (hb hby o_d10_10) rfl (flt hd19).2.2.1) ?_
 show o_Gs p e below _ T18 m 13 #[.val (.int 4)] []
 obtain ⟨T20, X20, e20, st20⟩ := getS2 X18 hx hZ hown (host := "") (Or.inl (hw _ o_t72)) Via.refl e18 (S_s_c.ext O0.2) (g := (mkF m 13 #[.val (.int 4)] [])) rfl (hb hby o_d10_13)
 refine o_go st20 ?_
 refine o_gi (XS.iloadN X20.here hx rfl (hb hby o_d10_16) rfl) ?_
 refine o_gi (XS.sipush X20.here hx rfl (hb hby o_d10_17)) ?_
 show o_Gs p e below _ T20 m 20 #[.val (.int 4)] [(.int 128), (.int 4), (.ref s_c)]
 refine o_gi (XS.iadd X20.here hx rfl (hb hby o_d10_20) rfl) ?_
 show o_Gs p e below _ T20 m 21 #[.val (.int 4)] [(.int ((4 : Int32) + (128 : Int32))), (.ref s_c)]
 rw [show ((4 : Int32) + (128 : Int32)) = (132 : Int32) from by decide]
 show o_Gs p e below _ T20 m 21 #[.val (.int 4)] [(.int 132), (.ref s_c)]
 refine o_go (X20.aaload hx (j := (132 : Int32)) (v := (.ref u)) (by rw [e20]; exact (A_c.ext O0.2).1) (State.isArrayOf_alike hZ.alike (A_c.ext O0.2).2.1) rfl (A_c.ext O0.2).2.2 (inb_of z_c ⟨by decide, by decide⟩) t_c (g := (mkF m 21 #[.val (.int 4)] [(.int 132), (.ref s_c)])) rfl rfl (hb hby o_d10_21)) ?_
 show o_Gs p e below _ T20 m 22 #[.val (.int 4)] [(.ref u)]
 exact o_retR X20 hx hlk hret rfl rfl (hb hby o_d10_22) (by decide) (by decide) ⟨rfl, N0, e20⟩
theorem o_d23_0 : decode jdk_33_method_27_code 0 = .ok (.aload_n 0, 1) := by decide +kernel
theorem o_d23_1 : decode jdk_33_method_27_code 1 = .ok (.getfield 205, 3) := by decide +kernel
theorem o_t158 : (Jvm.Cond.fieldLink "java/lang/Integer" (205 : Nat) "java/lang/Integer" "value" "I") ∈ tables_1 := List.mem_of_getElem? (i := 158) rfl
theorem o_d23_4 : decode jdk_33_method_27_code 4 = .ok (.ireturn, 1) := by decide +kernel
def o_Q23 (r0 : Addr) (q_v : Int32) (h0 : Heap) (n0 : Nat) (v : Option Value) (h : Heap) (L : List Loc) : Prop := v = some (.int q_v) ∧ Fr n0 L ∧ h = h0
abbrev o_R23 : Room := { frames := 0, cells := 0, slots := 0, locals := 0 }
theorem o_ef23 (m : MethodId) (z0 : Addr) : entryFrame m #[(.ref z0)] 1 = mkF m 0 #[.val (.ref z0)] [] := by first | (simp [entryFrame, mkF, argsToLocals, Value.category]; done) | rfl
set_option maxRecDepth 65536 in
set_option maxHeartbeats 40000000 in
theorem rm23 (l : Launch) (Z : State) (a0 : Array Value) (hw : ∀ d ∈ tables_1, d.before a0 Z = true) (ws : List Jvm.Cond) (r0 : Addr) (q_v : Int32) (h0 : Heap) (n0 : Nat) (F_v : Fld Z h0 r0 "java/lang/Integer" "value" "I" (.int q_v)) : o_Met l Z (⟨"java/lang/Integer", "intValue", "()I"⟩ : MethodName) jdk_33_method_27_code 1 (some .int) ws o_R23 #[(.ref r0)] h0 (o_Q23 r0 q_v h0 n0) := by
 refine o_met (plainFor_of_name o_pn0) ?_
 intro p e s m below meth c s₁ hx hby hml hown hnm hret hlk hZ e0 X0
 have N0 := Fr.nil n0
 have hml : c.maxLocals = 1 := hml
 have hown : s.vm.findClass "java/lang/Integer" = some m.cls := hown
 have hret : meth.sig.returnType = (some .int) := hret
 have hby : c.code = jdk_33_method_27_code := hby
 have hnm : meth.name = "intValue" := hnm
 rw [o_ef23]
 refine o_gi (XS.aloadN X0.here hx rfl (hb hby o_d23_0) rfl rfl) ?_
 show o_Gs p e below _ s₁ m 1 #[.val (.ref r0)] [(.ref r0)]
 obtain ⟨T21, X21, e21, st21⟩ := getF X0 hx hZ hown (host := "") (Or.inl (hw _ o_t158)) Via.refl e0 F_v (g := (mkF m 1 #[.val (.ref r0)] [(.ref r0)])) rfl rfl (hb hby o_d23_1)
 refine o_go st21 ?_
 show o_Gs p e below _ T21 m 4 #[.val (.ref r0)] [(.int q_v)]
 exact o_retI X21 hx hlk hret (hb hby o_d23_4) (by decide) (by decide) ⟨rfl, N0, e21⟩
theorem o_d9_0 : decode jdk_22_method_1_code 0 = .ok (.aload_n 0, 1) := by decide +kernel
theorem o_d9_1 : decode jdk_22_method_1_code 1 = .ok (.invokespecial 1, 3) := by decide +kernel
theorem o_t60 : (Jvm.Cond.methodLink "java/util/AbstractCollection" (1 : Nat) ({ cls := "java/lang/Object", name := "<init>", desc := "()V" } : Jvm.MethodName)) ∈ tables_1 := List.mem_of_getElem? (i := 60) rfl
theorem o_t29 : (Jvm.Cond.instanceMethod ({ cls := "java/lang/Object", name := "<init>", desc := "()V" } : Jvm.MethodName)) ∈ tables_1 := List.mem_of_getElem? (i := 29) rfl
theorem o_t30 : (Jvm.Cond.code ({ cls := "java/lang/Object", name := "<init>", desc := "()V" } : Jvm.MethodName) object_method_1_code (1 : Nat) (Option.none : Option Jvm.ClassFile.FieldType)) ∈ tables_1 := List.mem_of_getElem? (i := 30) rfl
theorem o_pn1 : plainName "java/util/AbstractCollection" = true := by first | (simp [plainName, overriddenIn]; done) | decide +kernel
theorem o_d9_4 : decode jdk_22_method_1_code 4 = .ok (.return_, 1) := by decide +kernel
def o_Q9 (r0 : Addr) (h0 : Heap) (n0 : Nat) (v : Option Value) (h : Heap) (L : List Loc) : Prop := v = none ∧ Fr n0 L ∧ h = h0
abbrev o_R9 : Room := { frames := 1, cells := 0, slots := 0, locals := 12 }
theorem o_ef9 (m : MethodId) (z0 : Addr) : entryFrame m #[(.ref z0)] 1 = mkF m 0 #[.val (.ref z0)] [] := by first | (simp [entryFrame, mkF, argsToLocals, Value.category]; done) | rfl
set_option maxRecDepth 65536 in
set_option maxHeartbeats 40000000 in
theorem rm9 (l : Launch) (Z : State) (a0 : Array Value) (hw : ∀ d ∈ tables_1, d.before a0 Z = true) (ws : List Jvm.Cond) (r0 : Addr) (h0 : Heap) (n0 : Nat) : o_Met l Z (⟨"java/util/AbstractCollection", "<init>", "()V"⟩ : MethodName) jdk_22_method_1_code 1 none ws o_R9 #[(.ref r0)] h0 (o_Q9 r0 h0 n0) := by
 refine o_met (plainFor_of_name o_pn1) ?_
 intro p e s m below meth c s₁ hx hby hml hown hnm hret hlk hZ e0 X0
 have N0 := Fr.nil n0
 have hml : c.maxLocals = 1 := hml
 have hown : s.vm.findClass "java/util/AbstractCollection" = some m.cls := hown
 have hret : meth.sig.returnType = none := hret
 have hby : c.code = jdk_22_method_1_code := hby
 have hnm : meth.name = "<init>" := hnm
 rw [o_ef9]
 refine o_gi (XS.aloadN X0.here hx rfl (hb hby o_d9_0) rfl rfl) ?_
 show o_Gs p e below _ s₁ m 1 #[.val (.ref r0)] [(.ref r0)]
 obtain ⟨T22, X22, e22, st22⟩ := initO X0 hx hZ hown (hw _ o_t60) (hw _ o_t29) (hw _ o_t30) e0 (g := (mkF m 1 #[.val (.ref r0)] [(.ref r0)])) rfl (by rw [hml]; rfl) rfl (hb hby o_d9_1) (by decide) (W := 0) (by show 2 * 0 + _ ≤ _; exact Nat.le_of_eq rfl) (by decide)
 refine o_go st22 ?_
 show o_Gs p e below _ T22 m 4 #[.val (.ref r0)] []
 exact o_ret0 X22 hx hlk hret (hb hby o_d9_4) (by decide) (by decide) ⟨rfl, N0, e22⟩
theorem o_d8_0 : decode jdk_39_method_1_code 0 = .ok (.aload_n 0, 1) := by decide +kernel
theorem o_d8_1 : decode jdk_39_method_1_code 1 = .ok (.invokespecial 1, 3) := by decide +kernel
theorem o_t54 : (Jvm.Cond.methodLink "java/util/AbstractList" (1 : Nat) ({ cls := "java/util/AbstractCollection", name := "<init>", desc := "()V" } : Jvm.MethodName)) ∈ tables_1 := List.mem_of_getElem? (i := 54) rfl
theorem o_pd0 : parseMethodDescriptor "()V" = some ⟨[], none⟩ := by decide +kernel
theorem o_t55 : (Jvm.Cond.instanceMethod ({ cls := "java/util/AbstractCollection", name := "<init>", desc := "()V" } : Jvm.MethodName)) ∈ tables_1 := List.mem_of_getElem? (i := 55) rfl
theorem o_t58 : (Jvm.Cond.initialized "java/util/AbstractCollection") ∈ tables_1 := List.mem_of_getElem? (i := 58) rfl
theorem o_t59 : (Jvm.Cond.code ({ cls := "java/util/AbstractCollection", name := "<init>", desc := "()V" } : Jvm.MethodName) jdk_22_method_1_code (1 : Nat) (Option.none : Option Jvm.ClassFile.FieldType)) ∈ tables_1 := List.mem_of_getElem? (i := 59) rfl
theorem o_d8_4 : decode jdk_39_method_1_code 4 = .ok (.aload_n 0, 1) := by decide +kernel
theorem o_d8_5 : decode jdk_39_method_1_code 5 = .ok (.iconst 0, 1) := by decide +kernel
theorem o_d8_6 : decode jdk_39_method_1_code 6 = .ok (.putfield 7, 3) := by decide +kernel
theorem o_t61 : (Jvm.Cond.fieldLink "java/util/AbstractList" (7 : Nat) "java/util/AbstractList" "modCount" "I") ∈ tables_1 := List.mem_of_getElem? (i := 61) rfl
theorem o_t62 : (Jvm.Cond.lays "java/util/ArrayList" "java/util/AbstractList" "modCount" "I") ∈ tables_1 := List.mem_of_getElem? (i := 62) rfl
theorem o_t43 : (Jvm.Cond.instantiable "java/util/ArrayList" (3 : Nat)) ∈ tables_1 := List.mem_of_getElem? (i := 43) rfl
theorem o_pn2 : plainName "java/util/AbstractList" = true := by first | (simp [plainName, overriddenIn]; done) | decide +kernel
theorem o_d8_9 : decode jdk_39_method_1_code 9 = .ok (.return_, 1) := by decide +kernel
theorem o_t65 : (Jvm.Cond.lays "java/util/ArrayList" "java/util/ArrayList" "elementData" "[Ljava/lang/Object;") ∈ tables_1 := List.mem_of_getElem? (i := 65) rfl
theorem o_t85 : (Jvm.Cond.lays "java/util/ArrayList" "java/util/ArrayList" "size" "I") ∈ tables_1 := List.mem_of_getElem? (i := 85) rfl
def o_Q8 (Z : State) (r0 : Addr) (h0 : Heap) (n0 : Nat) (v : Option Value) (h : Heap) (L : List Loc) : Prop := v = none ∧ Fr n0 L ∧ Keep h0 h [r0] ∧ Exa Z h r0 "java/util/ArrayList" ∧ Fld Z h r0 "java/util/AbstractList" "modCount" "I" (.int 0) ∧ Fld Z h r0 "java/util/ArrayList" "elementData" "[Ljava/lang/Object;" .null ∧ Fld Z h r0 "java/util/ArrayList" "size" "I" (.int 0)
abbrev o_R8 : Room := { frames := 2, cells := 0, slots := 0, locals := 24 }
theorem o_ef8 (m : MethodId) (z0 : Addr) : entryFrame m #[(.ref z0)] 1 = mkF m 0 #[.val (.ref z0)] [] := by first | (simp [entryFrame, mkF, argsToLocals, Value.category]; done) | rfl
set_option maxRecDepth 65536 in
set_option maxHeartbeats 40000000 in
theorem rm8 (l : Launch) (Z : State) (a0 : Array Value) (hw : ∀ d ∈ tables_1, d.before a0 Z = true) (ws : List Jvm.Cond) (r0 : Addr) (h0 : Heap) (n0 : Nat) (Z0 : n0 ≤ h0.size) (g_r0 : n0 ≤ r0) (E_r0 : Exa Z h0 r0 "java/util/ArrayList") (F_m : Fld Z h0 r0 "java/util/AbstractList" "modCount" "I" (.int 0)) (F_e : Fld Z h0 r0 "java/util/ArrayList" "elementData" "[Ljava/lang/Object;" .null) (F_z : Fld Z h0 r0 "java/util/ArrayList" "size" "I" (.int 0)) : o_Met l Z (⟨"java/util/AbstractList", "<init>", "()V"⟩ : MethodName) jdk_39_method_1_code 1 none ws o_R8 #[(.ref r0)] h0 (o_Q8 Z r0 h0 n0) := by
 refine o_met (plainFor_of_name o_pn2) ?_
 intro p e s m below meth c s₁ hx hby hml hown hnm hret hlk hZ e0 X0
 have N0 := Fr.nil n0
 have hml : c.maxLocals = 1 := hml
 have hown : s.vm.findClass "java/util/AbstractList" = some m.cls := hown
 have hret : meth.sig.returnType = none := hret
 have hby : c.code = jdk_39_method_1_code := hby
 have hnm : meth.name = "<init>" := hnm
 rw [o_ef8]
 refine o_gi (XS.aloadN X0.here hx rfl (hb hby o_d8_0) rfl rfl) ?_
 show o_Gs p e below _ s₁ m 1 #[.val (.ref r0)] [(.ref r0)]
 obtain ⟨_, T23, L23, X23, ⟨rfl, N23q, e23⟩, st23⟩ := o_callI X0 hx hZ rfl hown (hw _ o_t54) (hw _ o_t55) (hw _ o_t58) (hw _ o_t59) (by decide) (b := r0) (as := []) (rm9 l Z a0 hw [] r0 h0 n0) e0 o_pd0 rfl (pc := 1) (Ls := #[.val (.ref r0)]) (rest := []) (W := 0) (by rw [hml]; rfl) (Nat.le_of_eq rfl) (by decide) (by decide) (hb hby o_d8_1) (by decide) (by decide)
 have N23 := Fr.app N0 N23q
 refine o_go st23 ?_
 refine o_gi (XS.aloadN X23.here hx rfl (hb hby o_d8_4) rfl rfl) ?_
 refine o_gi (XS.iconst X23.here hx rfl (hb hby o_d8_5)) ?_
 show o_Gs p e below _ T23 m 6 #[.val (.ref r0)] [(.int 0), (.ref r0)]
 obtain ⟨T24, h24, X24, e24, W24, st24⟩ := putF X23 hx hZ hown (host := "") (Or.inl (hw _ o_t61)) Via.refl e23 F_m E_r0 (Or.inl (hw _ o_t62)) (hw _ o_t43) (ty := .int) (by decide) rfl rfl (g := (mkF m 6 #[.val (.ref r0)] [(.int 0), (.ref r0)])) rfl rfl (hb hby o_d8_6)
 have N24 := Fr.snoc X24 N23 g_r0
 have Fw24 := F_m.same W24
 refine o_go st24 ?_
 show o_Gs p e below _ T24 m 9 #[.val (.ref r0)] []
 have ff25 : Fld Z h24 r0 "java/util/ArrayList" "elementData" "[Ljava/lang/Object;" .null := (F_e.other W24 (Or.inr (slot_ne (Or.inl (hw _ o_t65)) (Or.inl (hw _ o_t62)) (by decide) (t := (.array (.object "java/lang/Object"))) (t' := .int) (by decide) (by decide))))
 have ff26 : Fld Z h24 r0 "java/util/ArrayList" "size" "I" (.int 0) := (F_z.other W24 (Or.inr (slot_ne (Or.inl (hw _ o_t85)) (Or.inl (hw _ o_t62)) (by decide) (t := .int) (t' := .int) (by decide) (by decide))))
 exact o_ret0 X24 hx hlk hret (hb hby o_d8_9) (by decide) (by decide) (by show o_Q8 Z r0 h0 n0 _ T24.heap _; rw [e24]; exact ⟨rfl, N24, ((Keep.refl h0 ([r0] : List Addr)).wr W24 (Or.inl (List.mem_of_getElem? (i := 0) rfl))), (E_r0.wr W24), Fw24, ff25, ff26⟩)
theorem o_d7_0 : decode jdk_38_method_2_code 0 = .ok (.aload_n 0, 1) := by decide +kernel
theorem o_d7_1 : decode jdk_38_method_2_code 1 = .ok (.invokespecial 1, 3) := by decide +kernel
theorem o_t48 : (Jvm.Cond.methodLink "java/util/ArrayList" (1 : Nat) ({ cls := "java/util/AbstractList", name := "<init>", desc := "()V" } : Jvm.MethodName)) ∈ tables_1 := List.mem_of_getElem? (i := 48) rfl
theorem o_t49 : (Jvm.Cond.instanceMethod ({ cls := "java/util/AbstractList", name := "<init>", desc := "()V" } : Jvm.MethodName)) ∈ tables_1 := List.mem_of_getElem? (i := 49) rfl
theorem o_t52 : (Jvm.Cond.initialized "java/util/AbstractList") ∈ tables_1 := List.mem_of_getElem? (i := 52) rfl
theorem o_t53 : (Jvm.Cond.code ({ cls := "java/util/AbstractList", name := "<init>", desc := "()V" } : Jvm.MethodName) jdk_39_method_1_code (1 : Nat) (Option.none : Option Jvm.ClassFile.FieldType)) ∈ tables_1 := List.mem_of_getElem? (i := 53) rfl
theorem o_d7_4 : decode jdk_38_method_2_code 4 = .ok (.aload_n 0, 1) := by decide +kernel
theorem o_d7_5 : decode jdk_38_method_2_code 5 = .ok (.getstatic 39, 3) := by decide +kernel
theorem o_t63 : (Jvm.Cond.fieldLink "java/util/ArrayList" (39 : Nat) "java/util/ArrayList" "DEFAULTCAPACITY_EMPTY_ELEMENTDATA" "[Ljava/lang/Object;") ∈ tables_1 := List.mem_of_getElem? (i := 63) rfl
theorem o_d7_8 : decode jdk_38_method_2_code 8 = .ok (.putfield 9, 3) := by decide +kernel
theorem o_t64 : (Jvm.Cond.fieldLink "java/util/ArrayList" (9 : Nat) "java/util/ArrayList" "elementData" "[Ljava/lang/Object;") ∈ tables_1 := List.mem_of_getElem? (i := 64) rfl
theorem o_pn3 : plainName "java/util/ArrayList" = true := by first | (simp [plainName, overriddenIn]; done) | decide +kernel
theorem o_d7_11 : decode jdk_38_method_2_code 11 = .ok (.return_, 1) := by decide +kernel
def o_Q7 (Z : State) (r0 : Addr) (s_e : Addr) (h0 : Heap) (n0 : Nat) (v : Option Value) (h : Heap) (L : List Loc) : Prop := v = none ∧ Fr n0 L ∧ Keep h0 h [r0] ∧ Exa Z h r0 "java/util/ArrayList" ∧ Fld Z h r0 "java/util/AbstractList" "modCount" "I" (.int 0) ∧ Fld Z h r0 "java/util/ArrayList" "elementData" "[Ljava/lang/Object;" (.ref s_e) ∧ Fld Z h r0 "java/util/ArrayList" "size" "I" (.int 0)
abbrev o_R7 : Room := { frames := 3, cells := 0, slots := 0, locals := 36 }
theorem o_ef7 (m : MethodId) (z0 : Addr) : entryFrame m #[(.ref z0)] 1 = mkF m 0 #[.val (.ref z0)] [] := by first | (simp [entryFrame, mkF, argsToLocals, Value.category]; done) | rfl
set_option maxRecDepth 65536 in
set_option maxHeartbeats 40000000 in
theorem rm7 (l : Launch) (Z : State) (a0 : Array Value) (hw : ∀ d ∈ tables_1, d.before a0 Z = true) (ws : List Jvm.Cond) (r0 : Addr) (s_e : Addr) (h0 : Heap) (n0 : Nat) (Z0 : n0 ≤ h0.size) (g_r0 : n0 ≤ r0) (O0 : Old Z n0 h0) (E_r0 : Exa Z h0 r0 "java/util/ArrayList") (F_m : Fld Z h0 r0 "java/util/AbstractList" "modCount" "I" (.int 0)) (F_e : Fld Z h0 r0 "java/util/ArrayList" "elementData" "[Ljava/lang/Object;" .null) (F_z : Fld Z h0 r0 "java/util/ArrayList" "size" "I" (.int 0)) (S_s_e : Sta Z Z.heap "java/util/ArrayList" "DEFAULTCAPACITY_EMPTY_ELEMENTDATA" "[Ljava/lang/Object;" (.ref s_e)) : o_Met l Z (⟨"java/util/ArrayList", "<init>", "()V"⟩ : MethodName) jdk_38_method_2_code 1 none ws o_R7 #[(.ref r0)] h0 (o_Q7 Z r0 s_e h0 n0) := by
 refine o_met (plainFor_of_name o_pn3) ?_
 intro p e s m below meth c s₁ hx hby hml hown hnm hret hlk hZ e0 X0
 have N0 := Fr.nil n0
 have hml : c.maxLocals = 1 := hml
 have hown : s.vm.findClass "java/util/ArrayList" = some m.cls := hown
 have hret : meth.sig.returnType = none := hret
 have hby : c.code = jdk_38_method_2_code := hby
 have hnm : meth.name = "<init>" := hnm
 rw [o_ef7]
 refine o_gi (XS.aloadN X0.here hx rfl (hb hby o_d7_0) rfl rfl) ?_
 show o_Gs p e below _ s₁ m 1 #[.val (.ref r0)] [(.ref r0)]
 obtain ⟨_, T27, L27, X27, ⟨rfl, N27q, K27, G27_0, G27_1, G27_2, G27_3⟩, st27⟩ := o_callI X0 hx hZ rfl hown (hw _ o_t48) (hw _ o_t49) (hw _ o_t52) (hw _ o_t53) (by decide) (b := r0) (as := []) (rm8 l Z a0 hw [] r0 h0 n0 Z0 g_r0 E_r0 F_m F_e F_z) e0 o_pd0 rfl (pc := 1) (Ls := #[.val (.ref r0)]) (rest := []) (W := 0) (by rw [hml]; rfl) (Nat.le_of_eq rfl) (by decide) (by decide) (hb hby o_d7_1) (by decide) (by decide)
 have N27 := Fr.app N0 N27q
 refine o_go st27 ?_
 refine o_gi (XS.aloadN X27.here hx rfl (hb hby o_d7_4) rfl rfl) ?_
 show o_Gs p e below _ T27 m 5 #[.val (.ref r0)] [(.ref r0)]
 obtain ⟨T28, X28, e28, st28⟩ := getS2 X27 hx hZ hown (host := "") (Or.inl (hw _ o_t63)) Via.refl rfl (S_s_e.ext (O0.keep K27 (allS g_r0 all0)).2) (g := (mkF m 5 #[.val (.ref r0)] [(.ref r0)])) rfl (hb hby o_d7_5)
 refine o_go st28 ?_
 show o_Gs p e below _ T28 m 8 #[.val (.ref r0)] [(.ref s_e), (.ref r0)]
 obtain ⟨T29, h29, X29, e29, W29, st29⟩ := putF X28 hx hZ hown (host := "") (Or.inl (hw _ o_t64)) Via.refl e28 G27_2 G27_0 (Or.inl (hw _ o_t65)) (hw _ o_t43) (ty := (.array (.object "java/lang/Object"))) (by decide) rfl rfl (g := (mkF m 8 #[.val (.ref r0)] [(.ref s_e), (.ref r0)])) rfl rfl (hb hby o_d7_8)
 have N29 := Fr.snoc X29 N27 g_r0
 have Fw29 := G27_2.same W29
 refine o_go st29 ?_
 show o_Gs p e below _ T29 m 11 #[.val (.ref r0)] []
 have ff30 : Fld Z h29 r0 "java/util/AbstractList" "modCount" "I" (.int 0) := (G27_1.other W29 (Or.inr (slot_ne (Or.inl (hw _ o_t62)) (Or.inl (hw _ o_t65)) (by decide) (t := .int) (t' := (.array (.object "java/lang/Object"))) (by decide) (by decide))))
 have ff31 : Fld Z h29 r0 "java/util/ArrayList" "size" "I" (.int 0) := (G27_3.other W29 (Or.inr (slot_ne (Or.inl (hw _ o_t85)) (Or.inl (hw _ o_t65)) (by decide) (t := .int) (t' := (.array (.object "java/lang/Object"))) (by decide) (by decide))))
 exact o_ret0 X29 hx hlk hret (hb hby o_d7_11) (by decide) (by decide) (by show o_Q7 Z r0 s_e h0 n0 _ T29.heap _; rw [e29]; exact ⟨rfl, N29, (((Keep.refl h0 ([r0] : List Addr)).trans K27 (fun x hx => by cases List.mem_singleton.mp hx; exact Or.inl (List.mem_of_getElem? (i := 0) rfl))).wr W29 (Or.inl (List.mem_of_getElem? (i := 0) rfl))), (G27_0.wr W29), ff30, Fw29, ff31⟩)
theorem o_d15_0 : decode jdk_29_method_65_code 0 = .ok (.iload_n 0, 1) := by decide +kernel
theorem o_d15_1 : decode jdk_29_method_65_code 1 = .ok (.iload_n 1, 1) := by decide +kernel
theorem o_d15_2 : decode jdk_29_method_65_code 2 = .ok (.if_icmp .lt 7, 3) := by decide +kernel
theorem o_d15_5 : decode jdk_29_method_65_code 5 = .ok (.iload_n 0, 1) := by decide +kernel
theorem o_d15_6 : decode jdk_29_method_65_code 6 = .ok (.goto 4, 3) := by decide +kernel
theorem o_d15_10 : decode jdk_29_method_65_code 10 = .ok (.ireturn, 1) := by decide +kernel
def o_Q15  (h0 : Heap) (n0 : Nat) (v : Option Value) (h : Heap) (L : List Loc) : Prop := v = some (.int 10) ∧ Fr n0 L ∧ h = h0
abbrev o_R15 : Room := { frames := 0, cells := 0, slots := 0, locals := 0 }
theorem o_ef15 (m : MethodId)  : entryFrame m #[(.int 10), (.int 1)] 2 = mkF m 0 #[.val (.int 10), .val (.int 1)] [] := by first | (simp [entryFrame, mkF, argsToLocals, Value.category]; done) | rfl
set_option maxRecDepth 65536 in
set_option maxHeartbeats 40000000 in
theorem rm15 (l : Launch) (Z : State) (a0 : Array Value) (hw : ∀ d ∈ tables_1, d.before a0 Z = true) (ws : List Jvm.Cond)  (h0 : Heap) (n0 : Nat) : o_Met l Z (⟨"java/lang/Math", "max", "(II)I"⟩ : MethodName) jdk_29_method_65_code 2 (some .int) ws o_R15 #[(.int 10), (.int 1)] h0 (o_Q15 h0 n0) := by
 refine o_met (Jvm.Free.JP.mathPlain rfl (by decide +kernel)) ?_
 intro p e s m below meth c s₁ hx hby hml hown hnm hret hlk hZ e0 X0
 have N0 := Fr.nil n0
 have hml : c.maxLocals = 2 := hml
 have hown : s.vm.findClass "java/lang/Math" = some m.cls := hown
 have hret : meth.sig.returnType = (some .int) := hret
 have hby : c.code = jdk_29_method_65_code := hby
 have hnm : meth.name = "max" := hnm
 rw [o_ef15]
 refine o_gi (XS.iloadN X0.here hx rfl (hb hby o_d15_0) rfl) ?_
 refine o_gi (XS.iloadN X0.here hx rfl (hb hby o_d15_1) rfl) ?_
 show o_Gs p e below _ s₁ m 2 #[.val (.int 10), .val (.int 1)] [(.int 1), (.int 10)]
 have hd32 : ¬ ((10 : Int32) < (1 : Int32)) := (by decide)
 refine o_gi (XS.icmpNo X0.here hx rfl (hb hby o_d15_2) rfl (flt hd32).1) ?_
 refine o_gi (XS.iloadN X0.here hx rfl (hb hby o_d15_5) rfl) ?_
 refine o_gi (XS.goto X0.here hx rfl (pc0 := 6) (pc' := 10) rfl (hb hby o_d15_6) (by decide) (by decide)) ?_
 show o_Gs p e below _ s₁ m 10 #[.val (.int 10), .val (.int 1)] [(.int 10)]
 exact o_retI X0 hx hlk hret (hb hby o_d15_10) (by decide) (by decide) ⟨rfl, N0, e0⟩
theorem o_d14_0 : decode jdk_38_method_6_code 0 = .ok (.aload_n 0, 1) := by decide +kernel
theorem o_d14_1 : decode jdk_38_method_6_code 1 = .ok (.getfield 9, 3) := by decide +kernel
theorem o_d14_4 : decode jdk_38_method_6_code 4 = .ok (.arraylength, 1) := by decide +kernel
theorem o_d14_5 : decode jdk_38_method_6_code 5 = .ok (.istore_n 2, 1) := by decide +kernel
theorem o_d14_6 : decode jdk_38_method_6_code 6 = .ok (.iload_n 2, 1) := by decide +kernel
theorem o_d14_7 : decode jdk_38_method_6_code 7 = .ok (.ifCond .gt 13, 3) := by decide +kernel
theorem o_d14_10 : decode jdk_38_method_6_code 10 = .ok (.aload_n 0, 1) := by decide +kernel
theorem o_d14_11 : decode jdk_38_method_6_code 11 = .ok (.getfield 9, 3) := by decide +kernel
theorem o_d14_14 : decode jdk_38_method_6_code 14 = .ok (.getstatic 39, 3) := by decide +kernel
theorem o_d14_17 : decode jdk_38_method_6_code 17 = .ok (.if_acmp .eq 28, 3) := by decide +kernel
theorem o_d14_45 : decode jdk_38_method_6_code 45 = .ok (.aload_n 0, 1) := by decide +kernel
theorem o_d14_46 : decode jdk_38_method_6_code 46 = .ok (.bipush 10, 2) := by decide +kernel
theorem o_d14_48 : decode jdk_38_method_6_code 48 = .ok (.iload_n 1, 1) := by decide +kernel
theorem o_d14_49 : decode jdk_38_method_6_code 49 = .ok (.invokestatic 79, 3) := by decide +kernel
theorem o_t101 : (Jvm.Cond.methodLink "java/util/ArrayList" (79 : Nat) ({ cls := "java/lang/Math", name := "max", desc := "(II)I" } : Jvm.MethodName)) ∈ tables_1 := List.mem_of_getElem? (i := 101) rfl
theorem o_pd1 : parseMethodDescriptor "(II)I" = some ⟨[.int, .int], some .int⟩ := by decide +kernel
theorem o_t102 : (Jvm.Cond.static ({ cls := "java/lang/Math", name := "max", desc := "(II)I" } : Jvm.MethodName)) ∈ tables_1 := List.mem_of_getElem? (i := 102) rfl
theorem o_t103 : (Jvm.Cond.initialized "java/lang/Math") ∈ tables_1 := List.mem_of_getElem? (i := 103) rfl
theorem o_t104 : (Jvm.Cond.code ({ cls := "java/lang/Math", name := "max", desc := "(II)I" } : Jvm.MethodName) jdk_29_method_65_code (2 : Nat) (Option.some Jvm.ClassFile.FieldType.int)) ∈ tables_1 := List.mem_of_getElem? (i := 104) rfl
theorem o_d14_52 : decode jdk_38_method_6_code 52 = .ok (.anewarray 7, 3) := by decide +kernel
theorem o_t105 : (Jvm.Cond.classLink "java/util/ArrayList" (7 : Nat) "java/lang/Object") ∈ tables_1 := List.mem_of_getElem? (i := 105) rfl
theorem o_t106 : (Jvm.Cond.arrayOver (Jvm.ClassFile.FieldType.object "java/lang/Object")) ∈ tables_1 := List.mem_of_getElem? (i := 106) rfl
theorem o_d14_55 : decode jdk_38_method_6_code 55 = .ok (.dup_x1, 1) := by decide +kernel
theorem o_d14_56 : decode jdk_38_method_6_code 56 = .ok (.putfield 9, 3) := by decide +kernel
theorem o_d14_59 : decode jdk_38_method_6_code 59 = .ok (.areturn, 1) := by decide +kernel
def o_Q14 (Z : State) (r0 : Addr) (s_e : Addr) (h0 : Heap) (n0 : Nat) (v : Option Value) (h : Heap) (L : List Loc) : Prop := ∃ b : Addr, ∃ kb : ClassId, v = some (.ref b) ∧ Fr n0 L ∧ Keep h0 h [r0] ∧ h0.size ≤ b ∧ Exa Z h r0 "java/util/ArrayList" ∧ Fld Z h r0 "java/util/AbstractList" "modCount" "I" (.int 1) ∧ Fld Z h r0 "java/util/ArrayList" "elementData" "[Ljava/lang/Object;" (.ref b) ∧ Fld Z h r0 "java/util/ArrayList" "size" "I" (.int 0) ∧ Arv Z h b kb (.object "java/lang/Object") (10 : Int32) [.null, .null, .null, .null, .null, .null, .null, .null, .null, .null] .null ∧ Ovr Z kb "java/lang/Object"
abbrev o_R14 : Room := { frames := 1, cells := 1, slots := 10, locals := 14 }
theorem o_ef14 (m : MethodId) (z0 : Addr) : entryFrame m #[(.ref z0), (.int 1)] 4 = mkF m 0 #[.val (.ref z0), .val (.int 1), .unset, .unset] [] := by first | (simp [entryFrame, mkF, argsToLocals, Value.category]; done) | rfl
set_option maxRecDepth 65536 in
set_option maxHeartbeats 40000000 in
theorem rm14 (l : Launch) (Z : State) (a0 : Array Value) (hw : ∀ d ∈ tables_1, d.before a0 Z = true) (ws : List Jvm.Cond) (r0 : Addr) (cl_e : Cell) (s_e : Addr) (h0 : Heap) (n0 : Nat) (Z0 : n0 ≤ h0.size) (g_r0 : n0 ≤ r0) (O0 : Old Z n0 h0) (A_e : Arr Z Z.heap s_e cl_e (.object "java/lang/Object")) (z_e : cl_e.slots.size = (0 : Int32).toNatClampNeg) (E_r0 : Exa Z h0 r0 "java/util/ArrayList") (F_m : Fld Z h0 r0 "java/util/AbstractList" "modCount" "I" (.int 1)) (F_e : Fld Z h0 r0 "java/util/ArrayList" "elementData" "[Ljava/lang/Object;" (.ref s_e)) (F_z : Fld Z h0 r0 "java/util/ArrayList" "size" "I" (.int 0)) (S_s_e : Sta Z Z.heap "java/util/ArrayList" "DEFAULTCAPACITY_EMPTY_ELEMENTDATA" "[Ljava/lang/Object;" (.ref s_e)) : o_Met l Z (⟨"java/util/ArrayList", "grow", "(I)[Ljava/lang/Object;"⟩ : MethodName) jdk_38_method_6_code 4 (some (.array (.object "java/lang/Object"))) ws o_R14 #[(.ref r0), (.int 1)] h0 (o_Q14 Z r0 s_e h0 n0) := by
 refine o_met (plainFor_of_name o_pn3) ?_
 intro p e s m below meth c s₁ hx hby hml hown hnm hret hlk hZ e0 X0
 have N0 := Fr.nil n0
 have hml : c.maxLocals = 4 := hml
 have hown : s.vm.findClass "java/util/ArrayList" = some m.cls := hown
 have hret : meth.sig.returnType = (some (.array (.object "java/lang/Object"))) := hret
 have hby : c.code = jdk_38_method_6_code := hby
 have hnm : meth.name = "grow" := hnm
 rw [o_ef14]
 refine o_gi (XS.aloadN X0.here hx rfl (hb hby o_d14_0) rfl rfl) ?_
 show o_Gs p e below _ s₁ m 1 #[.val (.ref r0), .val (.int 1), .unset, .unset] [(.ref r0)]
 obtain ⟨T33, X33, e33, st33⟩ := getF X0 hx hZ hown (host := "") (Or.inl (hw _ o_t64)) Via.refl e0 F_e (g := (mkF m 1 #[.val (.ref r0), .val (.int 1), .unset, .unset] [(.ref r0)])) rfl rfl (hb hby o_d14_1)
 refine o_go st33 ?_
 show o_Gs p e below _ T33 m 4 #[.val (.ref r0), .val (.int 1), .unset, .unset] [(.ref s_e)]
 refine o_go (X33.arraylength hx (by rw [e33]; exact (A_e.ext O0.2).1) (State.isArrayOf_alike hZ.alike (A_e.ext O0.2).2.1) (g := (mkF m 4 #[.val (.ref r0), .val (.int 1), .unset, .unset] [(.ref s_e)])) rfl rfl (hb hby o_d14_4)) ?_
 rw [len_of z_e (by decide)]
 refine o_gi (XS.istoreN X33.here hx rfl (hb hby o_d14_5) rfl (l' := #[.val (.ref r0), .val (.int 1), .val (.int 0), .unset]) rfl) ?_
 refine o_gi (XS.iloadN X33.here hx rfl (hb hby o_d14_6) rfl) ?_
 show o_Gs p e below _ T33 m 7 #[.val (.ref r0), .val (.int 1), .val (.int 0), .unset] [(.int 0)]
 have hd34 : ¬ ((0 : Int32) < (0 : Int32)) := (by decide)
 refine o_gi (XS.ifNo X33.here hx rfl (hb hby o_d14_7) rfl ((if0 _ _).trans (flt hd34).2.2.1)) ?_
 refine o_gi (XS.aloadN X33.here hx rfl (hb hby o_d14_10) rfl rfl) ?_
 show o_Gs p e below _ T33 m 11 #[.val (.ref r0), .val (.int 1), .val (.int 0), .unset] [(.ref r0)]
 obtain ⟨T35, X35, e35, st35⟩ := getF X33 hx hZ hown (host := "") (Or.inl (hw _ o_t64)) Via.refl e33 F_e (g := (mkF m 11 #[.val (.ref r0), .val (.int 1), .val (.int 0), .unset] [(.ref r0)])) rfl rfl (hb hby o_d14_11)
 refine o_go st35 ?_
 show o_Gs p e below _ T35 m 14 #[.val (.ref r0), .val (.int 1), .val (.int 0), .unset] [(.ref s_e)]
 obtain ⟨T36, X36, e36, st36⟩ := getS2 X35 hx hZ hown (host := "") (Or.inl (hw _ o_t63)) Via.refl e35 (S_s_e.ext O0.2) (g := (mkF m 14 #[.val (.ref r0), .val (.int 1), .val (.int 0), .unset] [(.ref s_e)])) rfl (hb hby o_d14_14)
 refine o_go st36 ?_
 show o_Gs p e below _ T36 m 17 #[.val (.ref r0), .val (.int 1), .val (.int 0), .unset] [(.ref s_e), (.ref s_e)]
 have hd37 : s_e = s_e := rfl
 refine o_gi (Jvm.RoadKit.acmp (g := (mkF m 17 #[.val (.ref r0), .val (.int 1), .val (.int 0), .unset] [(.ref s_e), (.ref s_e)])) X36 hx rfl rfl rfl (pc0 := 17) (pc' := 45) (same := true) rfl (hb hby o_d14_17) rfl (decide_eq_true (congrArg Value.ref hd37)) (by decide) (by decide)) ?_
 refine o_gi (XS.aloadN X36.here hx rfl (hb hby o_d14_45) rfl rfl) ?_
 refine o_gi (XS.bipush X36.here hx rfl (hb hby o_d14_46)) ?_
 refine o_gi (XS.iloadN X36.here hx rfl (hb hby o_d14_48) rfl) ?_
 show o_Gs p e below _ T36 m 49 #[.val (.ref r0), .val (.int 1), .val (.int 0), .unset] [(.int 1), (.int 10), (.ref r0)]
 obtain ⟨_, T38, L38, X38, ⟨rfl, N38q, e38⟩, st38⟩ := o_callS X36 hx hZ hown (hw _ o_t101) (hw _ o_t102) (hw _ o_t103) (hw _ o_t104) (by decide) (as := [(.int 10), (.int 1)]) (rm15 l Z a0 hw []  h0 n0) e36 o_pd1 rfl (pc := 49) (Ls := #[.val (.ref r0), .val (.int 1), .val (.int 0), .unset]) (rest := [(.ref r0)]) (W := 1) (by rw [hml]; rfl) (Nat.le_of_eq rfl) (by decide) (by decide) (hb hby o_d14_49) (by decide) (by decide)
 have N38 := Fr.app N0 N38q
 refine o_go st38 ?_
 show o_Gs p e below _ T38 m 52 #[.val (.ref r0), .val (.int 1), .val (.int 0), .unset] [(.int 10), (.ref r0)]
 obtain ⟨T39, h39, k39, X39, e39, E39, A39, Y39, O39, st39⟩ := newRE X38 hx hZ hown (hw _ o_t105) (hw _ o_t106) e38 (g := (mkF m 52 #[.val (.ref r0), .val (.int 1), .val (.int 0), .unset] [(.int 10), (.ref r0)])) rfl (hb hby o_d14_52) rfl (by decide) (cap := 10) (by decide) (by decide) (by decide) (by decide) (ad := "[Ljava/lang/Object;") (by decide +kernel)
 obtain ⟨b39, q39⟩ : ∃ z, z = h0.size := ⟨_, rfl⟩
 rw [← q39] at A39 Y39 st39
 have lt_b39 : h0.size ≤ b39 := Nat.le_of_eq q39.symm
 have ne_r0_b39 : r0 ≠ b39 := Nat.ne_of_lt (Nat.lt_of_lt_of_le E_r0.lt lt_b39)
 have g_b39 : n0 ≤ b39 := Nat.le_trans Z0 lt_b39
 have sz_b39 : h0.size ≤ b39 := Nat.le_trans (Keep.refl h0 ([r0] : List Addr)).1 lt_b39
 have V39 : Arv Z h39 b39 k39 (.object "java/lang/Object") (10 : Int32) [.null, .null, .null, .null, .null, .null, .null, .null, .null, .null] .null := (Arv.new A39 (by decide)).pad (pad_rep [] .null 10)
 refine o_go st39 ?_
 show o_Gs p e below _ T39 m 55 #[.val (.ref r0), .val (.int 1), .val (.int 0), .unset] [(.ref b39), (.ref r0)]
 refine o_gi (XS.dupX1 X39.here hx rfl (hb hby o_d14_55) rfl rfl rfl) ?_
 show o_Gs p e below _ T39 m 56 #[.val (.ref r0), .val (.int 1), .val (.int 0), .unset] [(.ref b39), (.ref r0), (.ref b39)]
 obtain ⟨T40, h40, X40, e40, W40, st40⟩ := putF X39 hx hZ hown (host := "") (Or.inl (hw _ o_t64)) Via.refl e39 (F_e.ext E39) (E_r0.ext E39) (Or.inl (hw _ o_t65)) (hw _ o_t43) (ty := (.array (.object "java/lang/Object"))) (by decide) rfl rfl (g := (mkF m 56 #[.val (.ref r0), .val (.int 1), .val (.int 0), .unset] [(.ref b39), (.ref r0), (.ref b39)])) rfl rfl (hb hby o_d14_56)
 have N40 := Fr.snoc X40 N38 g_r0
 have Fw40 := (F_e.ext E39).same W40
 refine o_go st40 ?_
 show o_Gs p e below _ T40 m 59 #[.val (.ref r0), .val (.int 1), .val (.int 0), .unset] [(.ref b39)]
 have ff41 : Fld Z h40 r0 "java/util/AbstractList" "modCount" "I" (.int 1) := ((F_m.ext E39).other W40 (Or.inr (slot_ne (Or.inl (hw _ o_t62)) (Or.inl (hw _ o_t65)) (by decide) (t := .int) (t' := (.array (.object "java/lang/Object"))) (by decide) (by decide))))
 have ff42 : Fld Z h40 r0 "java/util/ArrayList" "size" "I" (.int 0) := ((F_z.ext E39).other W40 (Or.inr (slot_ne (Or.inl (hw _ o_t85)) (Or.inl (hw _ o_t65)) (by decide) (t := .int) (t' := (.array (.object "java/lang/Object"))) (by decide) (by decide))))
 have ff43 : Arv Z h40 b39 k39 (.object "java/lang/Object") (10 : Int32) [.null, .null, .null, .null, .null, .null, .null, .null, .null, .null] .null := (V39.other W40 (Ne.symm ne_r0_b39))
 exact o_retR X40 hx hlk hret rfl rfl (hb hby o_d14_59) (by decide) (by decide) (by show o_Q14 Z r0 s_e h0 n0 _ T40.heap _; rw [e40]; exact ⟨_, _, rfl, N40, (((Keep.refl h0 ([r0] : List Addr)).ext E39).wr W40 (Or.inl (List.mem_of_getElem? (i := 0) rfl))), sz_b39, ((E_r0.ext E39).wr W40), ff41, Fw40, ff42, ff43, O39⟩)
theorem o_d13_0 : decode jdk_38_method_7_code 0 = .ok (.aload_n 0, 1) := by decide +kernel
theorem o_d13_1 : decode jdk_38_method_7_code 1 = .ok (.aload_n 0, 1) := by decide +kernel
theorem o_d13_2 : decode jdk_38_method_7_code 2 = .ok (.getfield 48, 3) := by decide +kernel
theorem o_t84 : (Jvm.Cond.fieldLink "java/util/ArrayList" (48 : Nat) "java/util/ArrayList" "size" "I") ∈ tables_1 := List.mem_of_getElem? (i := 84) rfl
theorem o_d13_5 : decode jdk_38_method_7_code 5 = .ok (.iconst 1, 1) := by decide +kernel
theorem o_d13_6 : decode jdk_38_method_7_code 6 = .ok (.iadd, 1) := by decide +kernel
theorem o_d13_7 : decode jdk_38_method_7_code 7 = .ok (.invokevirtual 69, 3) := by decide +kernel
theorem o_t96 : (Jvm.Cond.methodLink "java/util/ArrayList" (69 : Nat) ({ cls := "java/util/ArrayList", name := "grow", desc := "(I)[Ljava/lang/Object;" } : Jvm.MethodName)) ∈ tables_1 := List.mem_of_getElem? (i := 96) rfl
theorem o_pd2 : parseMethodDescriptor "(I)[Ljava/lang/Object;" = some ⟨[.int], some (.array (.object "java/lang/Object"))⟩ := by decide +kernel
theorem o_t98 : (Jvm.Cond.privateMethod ({ cls := "java/util/ArrayList", name := "grow", desc := "(I)[Ljava/lang/Object;" } : Jvm.MethodName)) ∈ tables_1 := List.mem_of_getElem? (i := 98) rfl
theorem o_t97 : (Jvm.Cond.instanceMethod ({ cls := "java/util/ArrayList", name := "grow", desc := "(I)[Ljava/lang/Object;" } : Jvm.MethodName)) ∈ tables_1 := List.mem_of_getElem? (i := 97) rfl
theorem o_t44 : (Jvm.Cond.initialized "java/util/ArrayList") ∈ tables_1 := List.mem_of_getElem? (i := 44) rfl
theorem o_t100 : (Jvm.Cond.code ({ cls := "java/util/ArrayList", name := "grow", desc := "(I)[Ljava/lang/Object;" } : Jvm.MethodName) jdk_38_method_6_code (4 : Nat) (Option.some (Jvm.ClassFile.FieldType.array (Jvm.ClassFile.FieldType.object "java/lang/Object")))) ∈ tables_1 := List.mem_of_getElem? (i := 100) rfl
theorem o_d13_10 : decode jdk_38_method_7_code 10 = .ok (.areturn, 1) := by decide +kernel
def o_Q13 (Z : State) (r0 : Addr) (s_e : Addr) (h0 : Heap) (n0 : Nat) (v : Option Value) (h : Heap) (L : List Loc) : Prop := ∃ b : Addr, ∃ kb : ClassId, v = some (.ref b) ∧ Fr n0 L ∧ Keep h0 h [r0] ∧ h0.size ≤ b ∧ Exa Z h r0 "java/util/ArrayList" ∧ Fld Z h r0 "java/util/AbstractList" "modCount" "I" (.int 1) ∧ Fld Z h r0 "java/util/ArrayList" "elementData" "[Ljava/lang/Object;" (.ref b) ∧ Fld Z h r0 "java/util/ArrayList" "size" "I" (.int 0) ∧ Arv Z h b kb (.object "java/lang/Object") (10 : Int32) [.null, .null, .null, .null, .null, .null, .null, .null, .null, .null] .null ∧ Ovr Z kb "java/lang/Object"
abbrev o_R13 : Room := { frames := 2, cells := 1, slots := 10, locals := 29 }
theorem o_ef13 (m : MethodId) (z0 : Addr) : entryFrame m #[(.ref z0)] 1 = mkF m 0 #[.val (.ref z0)] [] := by first | (simp [entryFrame, mkF, argsToLocals, Value.category]; done) | rfl
set_option maxRecDepth 65536 in
set_option maxHeartbeats 40000000 in
theorem rm13 (l : Launch) (Z : State) (a0 : Array Value) (hw : ∀ d ∈ tables_1, d.before a0 Z = true) (ws : List Jvm.Cond) (r0 : Addr) (cl_e : Cell) (s_e : Addr) (h0 : Heap) (n0 : Nat) (Z0 : n0 ≤ h0.size) (g_r0 : n0 ≤ r0) (O0 : Old Z n0 h0) (A_e : Arr Z Z.heap s_e cl_e (.object "java/lang/Object")) (z_e : cl_e.slots.size = (0 : Int32).toNatClampNeg) (E_r0 : Exa Z h0 r0 "java/util/ArrayList") (F_m : Fld Z h0 r0 "java/util/AbstractList" "modCount" "I" (.int 1)) (F_e : Fld Z h0 r0 "java/util/ArrayList" "elementData" "[Ljava/lang/Object;" (.ref s_e)) (F_z : Fld Z h0 r0 "java/util/ArrayList" "size" "I" (.int 0)) (S_s_e : Sta Z Z.heap "java/util/ArrayList" "DEFAULTCAPACITY_EMPTY_ELEMENTDATA" "[Ljava/lang/Object;" (.ref s_e)) : o_Met l Z (⟨"java/util/ArrayList", "grow", "()[Ljava/lang/Object;"⟩ : MethodName) jdk_38_method_7_code 1 (some (.array (.object "java/lang/Object"))) ws o_R13 #[(.ref r0)] h0 (o_Q13 Z r0 s_e h0 n0) := by
 refine o_met (plainFor_of_name o_pn3) ?_
 intro p e s m below meth c s₁ hx hby hml hown hnm hret hlk hZ e0 X0
 have N0 := Fr.nil n0
 have hml : c.maxLocals = 1 := hml
 have hown : s.vm.findClass "java/util/ArrayList" = some m.cls := hown
 have hret : meth.sig.returnType = (some (.array (.object "java/lang/Object"))) := hret
 have hby : c.code = jdk_38_method_7_code := hby
 have hnm : meth.name = "grow" := hnm
 rw [o_ef13]
 refine o_gi (XS.aloadN X0.here hx rfl (hb hby o_d13_0) rfl rfl) ?_
 refine o_gi (XS.aloadN X0.here hx rfl (hb hby o_d13_1) rfl rfl) ?_
 show o_Gs p e below _ s₁ m 2 #[.val (.ref r0)] [(.ref r0), (.ref r0)]
 obtain ⟨T44, X44, e44, st44⟩ := getF X0 hx hZ hown (host := "") (Or.inl (hw _ o_t84)) Via.refl e0 F_z (g := (mkF m 2 #[.val (.ref r0)] [(.ref r0), (.ref r0)])) rfl rfl (hb hby o_d13_2)
 refine o_go st44 ?_
 refine o_gi (XS.iconst X44.here hx rfl (hb hby o_d13_5)) ?_
 show o_Gs p e below _ T44 m 6 #[.val (.ref r0)] [(.int 1), (.int 0), (.ref r0)]
 refine o_gi (XS.iadd X44.here hx rfl (hb hby o_d13_6) rfl) ?_
 show o_Gs p e below _ T44 m 7 #[.val (.ref r0)] [(.int ((0 : Int32) + (1 : Int32))), (.ref r0)]
 rw [show ((0 : Int32) + (1 : Int32)) = (1 : Int32) from by decide]
 show o_Gs p e below _ T44 m 7 #[.val (.ref r0)] [(.int 1), (.ref r0)]
 obtain ⟨_, T45, L45, X45, ⟨b45, kb45, rfl, N45q, K45, lt_b45, G45_0, G45_1, G45_2, G45_3, G45_4, G45_5⟩, st45⟩ := o_callP X44 hx hZ hown (hw _ o_t96) (hw _ o_t98) (hw _ o_t43) (hw _ o_t97) (hw _ o_t44) (hw _ o_t100) (by decide) (b := r0) (as := [(.int 1)]) (rm14 l Z a0 hw [] r0 cl_e s_e h0 n0 Z0 g_r0 O0 A_e z_e E_r0 F_m F_e F_z S_s_e) e44 E_r0 o_pd2 rfl (pc := 7) (Ls := #[.val (.ref r0)]) (rest := []) (W := 0) (by rw [hml]; rfl) (Nat.le_of_eq rfl) (by decide) (by decide) (hb hby o_d13_7) (by decide) (by decide)
 have N45 := Fr.app N0 N45q
 have ne_r0_b45 : r0 ≠ b45 := Nat.ne_of_lt (Nat.lt_of_lt_of_le E_r0.lt lt_b45)
 have g_b45 : n0 ≤ b45 := Nat.le_trans Z0 lt_b45
 have sz_b45 : h0.size ≤ b45 := Nat.le_trans (Keep.refl h0 ([r0] : List Addr)).1 lt_b45
 refine o_go st45 ?_
 show o_Gs p e below _ T45 m 10 #[.val (.ref r0)] [(.ref b45)]
 exact o_retR X45 hx hlk hret rfl rfl (hb hby o_d13_10) (by decide) (by decide) (⟨_, _, rfl, N45, ((Keep.refl h0 ([r0] : List Addr)).trans K45 (fun x hx => by cases List.mem_singleton.mp hx; exact Or.inl (List.mem_of_getElem? (i := 0) rfl))), sz_b45, G45_0, G45_1, G45_2, G45_3, G45_4, G45_5⟩)
theorem o_d12_0 : decode jdk_38_method_24_code 0 = .ok (.iload_n 3, 1) := by decide +kernel
theorem o_d12_1 : decode jdk_38_method_24_code 1 = .ok (.aload_n 2, 1) := by decide +kernel
theorem o_d12_2 : decode jdk_38_method_24_code 2 = .ok (.arraylength, 1) := by decide +kernel
theorem o_d12_3 : decode jdk_38_method_24_code 3 = .ok (.if_icmp .ne 8, 3) := by decide +kernel
theorem o_d12_6 : decode jdk_38_method_24_code 6 = .ok (.aload_n 0, 1) := by decide +kernel
theorem o_d12_7 : decode jdk_38_method_24_code 7 = .ok (.invokevirtual 129, 3) := by decide +kernel
theorem o_t91 : (Jvm.Cond.methodLink "java/util/ArrayList" (129 : Nat) ({ cls := "java/util/ArrayList", name := "grow", desc := "()[Ljava/lang/Object;" } : Jvm.MethodName)) ∈ tables_1 := List.mem_of_getElem? (i := 91) rfl
theorem o_pd3 : parseMethodDescriptor "()[Ljava/lang/Object;" = some ⟨[], some (.array (.object "java/lang/Object"))⟩ := by decide +kernel
theorem o_t93 : (Jvm.Cond.privateMethod ({ cls := "java/util/ArrayList", name := "grow", desc := "()[Ljava/lang/Object;" } : Jvm.MethodName)) ∈ tables_1 := List.mem_of_getElem? (i := 93) rfl
theorem o_t92 : (Jvm.Cond.instanceMethod ({ cls := "java/util/ArrayList", name := "grow", desc := "()[Ljava/lang/Object;" } : Jvm.MethodName)) ∈ tables_1 := List.mem_of_getElem? (i := 92) rfl
theorem o_t95 : (Jvm.Cond.code ({ cls := "java/util/ArrayList", name := "grow", desc := "()[Ljava/lang/Object;" } : Jvm.MethodName) jdk_38_method_7_code (1 : Nat) (Option.some (Jvm.ClassFile.FieldType.array (Jvm.ClassFile.FieldType.object "java/lang/Object")))) ∈ tables_1 := List.mem_of_getElem? (i := 95) rfl
theorem o_d12_10 : decode jdk_38_method_24_code 10 = .ok (.astore_n 2, 1) := by decide +kernel
theorem o_d12_11 : decode jdk_38_method_24_code 11 = .ok (.aload_n 2, 1) := by decide +kernel
theorem o_d12_12 : decode jdk_38_method_24_code 12 = .ok (.iload_n 3, 1) := by decide +kernel
theorem o_d12_13 : decode jdk_38_method_24_code 13 = .ok (.aload_n 1, 1) := by decide +kernel
theorem o_d12_14 : decode jdk_38_method_24_code 14 = .ok (.aastore, 1) := by decide +kernel
theorem o_t107 : (Jvm.Cond.castable "java/lang/Integer" "java/lang/Object") ∈ tables_1 := List.mem_of_getElem? (i := 107) rfl
theorem o_d12_15 : decode jdk_38_method_24_code 15 = .ok (.aload_n 0, 1) := by decide +kernel
theorem o_d12_16 : decode jdk_38_method_24_code 16 = .ok (.iload_n 3, 1) := by decide +kernel
theorem o_d12_17 : decode jdk_38_method_24_code 17 = .ok (.iconst 1, 1) := by decide +kernel
theorem o_d12_18 : decode jdk_38_method_24_code 18 = .ok (.iadd, 1) := by decide +kernel
theorem o_d12_19 : decode jdk_38_method_24_code 19 = .ok (.putfield 48, 3) := by decide +kernel
theorem o_d12_22 : decode jdk_38_method_24_code 22 = .ok (.return_, 1) := by decide +kernel
def o_Q12_0 (Z : State) (r0 : Addr) (r1 : Addr) (s_e : Addr) (h0 : Heap) (n0 : Nat) (v : Option Value) (h : Heap) (L : List Loc) : Prop := ∃ b : Addr, ∃ kb : ClassId, v = none ∧ Fr n0 L ∧ Keep h0 h [r0] ∧ h0.size ≤ b ∧ Exa Z h r0 "java/util/ArrayList" ∧ Fld Z h r0 "java/util/AbstractList" "modCount" "I" (.int 1) ∧ Fld Z h r0 "java/util/ArrayList" "elementData" "[Ljava/lang/Object;" (.ref b) ∧ Fld Z h r0 "java/util/ArrayList" "size" "I" (.int 1) ∧ Arv Z h b kb (.object "java/lang/Object") (10 : Int32) [(.ref r1), .null, .null, .null, .null, .null, .null, .null, .null, .null] .null ∧ Ovr Z kb "java/lang/Object"
abbrev o_R12_0 : Room := { frames := 3, cells := 1, slots := 10, locals := 41 }
theorem o_ef12_0 (m : MethodId) (z0 : Addr) (z1 : Addr) (z2 : Addr) : entryFrame m #[(.ref z0), (.ref z1), (.ref z2), (.int 0)] 4 = mkF m 0 #[.val (.ref z0), .val (.ref z1), .val (.ref z2), .val (.int 0)] [] := by first | (simp [entryFrame, mkF, argsToLocals, Value.category]; done) | rfl
set_option maxRecDepth 65536 in
set_option maxHeartbeats 40000000 in
theorem rm12_0 (l : Launch) (Z : State) (a0 : Array Value) (hw : ∀ d ∈ tables_1, d.before a0 Z = true) (ws : List Jvm.Cond) (r0 : Addr) (r1 : Addr) (cl_e : Cell) (s_e : Addr) (h0 : Heap) (n0 : Nat) (Z0 : n0 ≤ h0.size) (g_r0 : n0 ≤ r0) (O0 : Old Z n0 h0) (A_e : Arr Z Z.heap s_e cl_e (.object "java/lang/Object")) (z_e : cl_e.slots.size = (0 : Int32).toNatClampNeg) (E_r0 : Exa Z h0 r0 "java/util/ArrayList") (E_r1 : Exa Z h0 r1 "java/lang/Integer") (F_m : Fld Z h0 r0 "java/util/AbstractList" "modCount" "I" (.int 1)) (F_e : Fld Z h0 r0 "java/util/ArrayList" "elementData" "[Ljava/lang/Object;" (.ref s_e)) (F_z : Fld Z h0 r0 "java/util/ArrayList" "size" "I" (.int 0)) (S_s_e : Sta Z Z.heap "java/util/ArrayList" "DEFAULTCAPACITY_EMPTY_ELEMENTDATA" "[Ljava/lang/Object;" (.ref s_e)) : o_Met l Z (⟨"java/util/ArrayList", "add", "(Ljava/lang/Object;[Ljava/lang/Object;I)V"⟩ : MethodName) jdk_38_method_24_code 4 none ws o_R12_0 #[(.ref r0), (.ref r1), (.ref s_e), (.int 0)] h0 (o_Q12_0 Z r0 r1 s_e h0 n0) := by
 refine o_met (plainFor_of_name o_pn3) ?_
 intro p e s m below meth c s₁ hx hby hml hown hnm hret hlk hZ e0 X0
 have N0 := Fr.nil n0
 have hml : c.maxLocals = 4 := hml
 have hown : s.vm.findClass "java/util/ArrayList" = some m.cls := hown
 have hret : meth.sig.returnType = none := hret
 have hby : c.code = jdk_38_method_24_code := hby
 have hnm : meth.name = "add" := hnm
 rw [o_ef12_0]
 refine o_gi (XS.iloadN X0.here hx rfl (hb hby o_d12_0) rfl) ?_
 refine o_gi (XS.aloadN X0.here hx rfl (hb hby o_d12_1) rfl rfl) ?_
 show o_Gs p e below _ s₁ m 2 #[.val (.ref r0), .val (.ref r1), .val (.ref s_e), .val (.int 0)] [(.ref s_e), (.int 0)]
 refine o_go (X0.arraylength hx (by rw [e0]; exact (A_e.ext O0.2).1) (State.isArrayOf_alike hZ.alike (A_e.ext O0.2).2.1) (g := (mkF m 2 #[.val (.ref r0), .val (.ref r1), .val (.ref s_e), .val (.int 0)] [(.ref s_e), (.int 0)])) rfl rfl (hb hby o_d12_2)) ?_
 rw [len_of z_e (by decide)]
 show o_Gs p e below _ s₁ m 3 #[.val (.ref r0), .val (.ref r1), .val (.ref s_e), .val (.int 0)] [(.int 0), (.int 0)]
 have hd46 : (0 : Int32) = (0 : Int32) := (by decide)
 refine o_gi (XS.icmpNo X0.here hx rfl (hb hby o_d12_3) rfl (teq hd46).2) ?_
 refine o_gi (XS.aloadN X0.here hx rfl (hb hby o_d12_6) rfl rfl) ?_
 show o_Gs p e below _ s₁ m 7 #[.val (.ref r0), .val (.ref r1), .val (.ref s_e), .val (.int 0)] [(.ref r0)]
 obtain ⟨_, T47, L47, X47, ⟨b47, kb47, rfl, N47q, K47, lt_b47, G47_0, G47_1, G47_2, G47_3, G47_4, G47_5⟩, st47⟩ := o_callP X0 hx hZ hown (hw _ o_t91) (hw _ o_t93) (hw _ o_t43) (hw _ o_t92) (hw _ o_t44) (hw _ o_t95) (by decide) (b := r0) (as := []) (rm13 l Z a0 hw [] r0 cl_e s_e h0 n0 Z0 g_r0 O0 A_e z_e E_r0 F_m F_e F_z S_s_e) e0 E_r0 o_pd3 rfl (pc := 7) (Ls := #[.val (.ref r0), .val (.ref r1), .val (.ref s_e), .val (.int 0)]) (rest := []) (W := 0) (by rw [hml]; rfl) (Nat.le_of_eq rfl) (by decide) (by decide) (hb hby o_d12_7) (by decide) (by decide)
 have N47 := Fr.app N0 N47q
 have ne_r0_b47 : r0 ≠ b47 := Nat.ne_of_lt (Nat.lt_of_lt_of_le E_r0.lt lt_b47)
 have g_b47 : n0 ≤ b47 := Nat.le_trans Z0 lt_b47
 have sz_b47 : h0.size ≤ b47 := Nat.le_trans (Keep.refl h0 ([r0] : List Addr)).1 lt_b47
 refine o_go st47 ?_
 refine o_gi (XS.astoreN X47.here hx rfl (hb hby o_d12_10) rfl rfl (l' := #[.val (.ref r0), .val (.ref r1), .val (.ref b47), .val (.int 0)]) rfl) ?_
 refine o_gi (XS.aloadN X47.here hx rfl (hb hby o_d12_11) rfl rfl) ?_
 refine o_gi (XS.iloadN X47.here hx rfl (hb hby o_d12_12) rfl) ?_
 refine o_gi (XS.aloadN X47.here hx rfl (hb hby o_d12_13) rfl rfl) ?_
 show o_Gs p e below _ T47 m 14 #[.val (.ref r0), .val (.ref r1), .val (.ref b47), .val (.int 0)] [(.ref r1), (.int 0), (.ref b47)]
 obtain ⟨cl48, Ar48, qa48, sa48, na48, ha48, ga48⟩ := id G47_4
 obtain ⟨T48, h48, X48, e48, W48, st48⟩ := stR X47 hx hZ rfl Ar48 (j := (0 : Int32)) (inb_of sa48 ⟨by decide, by decide⟩) rfl (Sto.of Ar48 (by rw [qa48]; exact G47_5) (Ins.of_exa (E_r1.keep K47) (hw _ o_t107))) (g := (mkF m 14 #[.val (.ref r0), .val (.ref r1), .val (.ref b47), .val (.int 0)] [(.ref r1), (.int 0), (.ref b47)])) rfl rfl (hb hby o_d12_14)
 have V48 : Arv Z h48 b47 kb47 (.object "java/lang/Object") (10 : Int32) [(.ref r1), .null, .null, .null, .null, .null, .null, .null, .null, .null] .null := Arv.set Ar48 qa48 sa48 na48 ha48 ga48 rfl W48 0 rfl (Nat.le_of_ble_eq_true rfl)
 have N48 := Fr.snoc X48 N47 g_b47
 refine o_go st48 ?_
 refine o_gi (XS.aloadN X48.here hx rfl (hb hby o_d12_15) rfl rfl) ?_
 refine o_gi (XS.iloadN X48.here hx rfl (hb hby o_d12_16) rfl) ?_
 refine o_gi (XS.iconst X48.here hx rfl (hb hby o_d12_17)) ?_
 show o_Gs p e below _ T48 m 18 #[.val (.ref r0), .val (.ref r1), .val (.ref b47), .val (.int 0)] [(.int 1), (.int 0), (.ref r0)]
 refine o_gi (XS.iadd X48.here hx rfl (hb hby o_d12_18) rfl) ?_
 show o_Gs p e below _ T48 m 19 #[.val (.ref r0), .val (.ref r1), .val (.ref b47), .val (.int 0)] [(.int ((0 : Int32) + (1 : Int32))), (.ref r0)]
 rw [show ((0 : Int32) + (1 : Int32)) = (1 : Int32) from by decide]
 show o_Gs p e below _ T48 m 19 #[.val (.ref r0), .val (.ref r1), .val (.ref b47), .val (.int 0)] [(.int 1), (.ref r0)]
 have ff50 : Fld Z h48 r0 "java/util/ArrayList" "size" "I" (.int 0) := (G47_3.other W48 (Or.inl ne_r0_b47))
 obtain ⟨T49, h49, X49, e49, W49, st49⟩ := putF X48 hx hZ hown (host := "") (Or.inl (hw _ o_t84)) Via.refl e48 ff50 (G47_0.wr W48) (Or.inl (hw _ o_t85)) (hw _ o_t43) (ty := .int) (by decide) rfl rfl (g := (mkF m 19 #[.val (.ref r0), .val (.ref r1), .val (.ref b47), .val (.int 0)] [(.int 1), (.ref r0)])) rfl rfl (hb hby o_d12_19)
 have N49 := Fr.snoc X49 N48 g_r0
 have Fw49 := ff50.same W49
 refine o_go st49 ?_
 show o_Gs p e below _ T49 m 22 #[.val (.ref r0), .val (.ref r1), .val (.ref b47), .val (.int 0)] []
 have ff51 : Fld Z h49 r0 "java/util/AbstractList" "modCount" "I" (.int 1) := ((G47_1.other W48 (Or.inl ne_r0_b47)).other W49 (Or.inr (slot_ne (Or.inl (hw _ o_t62)) (Or.inl (hw _ o_t85)) (by decide) (t := .int) (t' := .int) (by decide) (by decide))))
 have ff52 : Fld Z h49 r0 "java/util/ArrayList" "elementData" "[Ljava/lang/Object;" (.ref b47) := ((G47_2.other W48 (Or.inl ne_r0_b47)).other W49 (Or.inr (slot_ne (Or.inl (hw _ o_t65)) (Or.inl (hw _ o_t85)) (by decide) (t := (.array (.object "java/lang/Object"))) (t' := .int) (by decide) (by decide))))
 have ff53 : Arv Z h49 b47 kb47 (.object "java/lang/Object") (10 : Int32) [(.ref r1), .null, .null, .null, .null, .null, .null, .null, .null, .null] .null := (V48.other W49 (Ne.symm ne_r0_b47))
 exact o_ret0 X49 hx hlk hret (hb hby o_d12_22) (by decide) (by decide) (by show o_Q12_0 Z r0 r1 s_e h0 n0 _ T49.heap _; rw [e49]; exact ⟨_, _, rfl, N49, ((((Keep.refl h0 ([r0] : List Addr)).trans K47 (fun x hx => by cases List.mem_singleton.mp hx; exact Or.inl (List.mem_of_getElem? (i := 0) rfl))).wr W48 (Or.inr sz_b47)).wr W49 (Or.inl (List.mem_of_getElem? (i := 0) rfl))), sz_b47, ((G47_0.wr W48).wr W49), ff51, ff52, Fw49, ff53, G47_5⟩)
theorem o_d11_0 : decode jdk_38_method_25_code 0 = .ok (.aload_n 0, 1) := by decide +kernel
theorem o_d11_1 : decode jdk_38_method_25_code 1 = .ok (.dup, 1) := by decide +kernel
theorem o_d11_2 : decode jdk_38_method_25_code 2 = .ok (.getfield 63, 3) := by decide +kernel
theorem o_t82 : (Jvm.Cond.fieldLink "java/util/ArrayList" (63 : Nat) "java/util/ArrayList" "modCount" "I") ∈ tables_1 := List.mem_of_getElem? (i := 82) rfl
theorem o_t83 : (Jvm.Cond.sameField "java/util/ArrayList" "java/util/AbstractList" "modCount" "I") ∈ tables_1 := List.mem_of_getElem? (i := 83) rfl
theorem o_d11_5 : decode jdk_38_method_25_code 5 = .ok (.iconst 1, 1) := by decide +kernel
theorem o_d11_6 : decode jdk_38_method_25_code 6 = .ok (.iadd, 1) := by decide +kernel
theorem o_d11_7 : decode jdk_38_method_25_code 7 = .ok (.putfield 63, 3) := by decide +kernel
theorem o_d11_10 : decode jdk_38_method_25_code 10 = .ok (.aload_n 0, 1) := by decide +kernel
theorem o_d11_11 : decode jdk_38_method_25_code 11 = .ok (.aload_n 1, 1) := by decide +kernel
theorem o_d11_12 : decode jdk_38_method_25_code 12 = .ok (.aload_n 0, 1) := by decide +kernel
theorem o_d11_13 : decode jdk_38_method_25_code 13 = .ok (.getfield 9, 3) := by decide +kernel
theorem o_d11_16 : decode jdk_38_method_25_code 16 = .ok (.aload_n 0, 1) := by decide +kernel
theorem o_d11_17 : decode jdk_38_method_25_code 17 = .ok (.getfield 48, 3) := by decide +kernel
theorem o_d11_20 : decode jdk_38_method_25_code 20 = .ok (.invokevirtual 131, 3) := by decide +kernel
theorem o_t86 : (Jvm.Cond.methodLink "java/util/ArrayList" (131 : Nat) ({ cls := "java/util/ArrayList", name := "add", desc := "(Ljava/lang/Object;[Ljava/lang/Object;I)V" } : Jvm.MethodName)) ∈ tables_1 := List.mem_of_getElem? (i := 86) rfl
theorem o_pd4 : parseMethodDescriptor "(Ljava/lang/Object;[Ljava/lang/Object;I)V" = some ⟨[(.object "java/lang/Object"), (.array (.object "java/lang/Object")), .int], none⟩ := by decide +kernel
theorem o_t88 : (Jvm.Cond.privateMethod ({ cls := "java/util/ArrayList", name := "add", desc := "(Ljava/lang/Object;[Ljava/lang/Object;I)V" } : Jvm.MethodName)) ∈ tables_1 := List.mem_of_getElem? (i := 88) rfl
theorem o_t87 : (Jvm.Cond.instanceMethod ({ cls := "java/util/ArrayList", name := "add", desc := "(Ljava/lang/Object;[Ljava/lang/Object;I)V" } : Jvm.MethodName)) ∈ tables_1 := List.mem_of_getElem? (i := 87) rfl
theorem o_t90 : (Jvm.Cond.code ({ cls := "java/util/ArrayList", name := "add", desc := "(Ljava/lang/Object;[Ljava/lang/Object;I)V" } : Jvm.MethodName) jdk_38_method_24_code (4 : Nat) (Option.none : Option Jvm.ClassFile.FieldType)) ∈ tables_1 := List.mem_of_getElem? (i := 90) rfl
theorem o_d11_23 : decode jdk_38_method_25_code 23 = .ok (.iconst 1, 1) := by decide +kernel
theorem o_d11_24 : decode jdk_38_method_25_code 24 = .ok (.ireturn, 1) := by decide +kernel
def o_Q11_0 (Z : State) (r0 : Addr) (r1 : Addr) (s_e : Addr) (h0 : Heap) (n0 : Nat) (v : Option Value) (h : Heap) (L : List Loc) : Prop := ∃ b : Addr, ∃ kb : ClassId, v = some (.int 1) ∧ Fr n0 L ∧ Keep h0 h [r0] ∧ h0.size ≤ b ∧ Exa Z h r0 "java/util/ArrayList" ∧ Fld Z h r0 "java/util/AbstractList" "modCount" "I" (.int 1) ∧ Fld Z h r0 "java/util/ArrayList" "elementData" "[Ljava/lang/Object;" (.ref b) ∧ Fld Z h r0 "java/util/ArrayList" "size" "I" (.int 1) ∧ Arv Z h b kb (.object "java/lang/Object") (10 : Int32) [(.ref r1), .null, .null, .null, .null, .null, .null, .null, .null, .null] .null ∧ Ovr Z kb "java/lang/Object"
abbrev o_R11_0 : Room := { frames := 4, cells := 1, slots := 10, locals := 56 }
theorem o_ef11_0 (m : MethodId) (z0 : Addr) (z1 : Addr) : entryFrame m #[(.ref z0), (.ref z1)] 2 = mkF m 0 #[.val (.ref z0), .val (.ref z1)] [] := by first | (simp [entryFrame, mkF, argsToLocals, Value.category]; done) | rfl
set_option maxRecDepth 65536 in
set_option maxHeartbeats 40000000 in
theorem rm11_0 (l : Launch) (Z : State) (a0 : Array Value) (hw : ∀ d ∈ tables_1, d.before a0 Z = true) (ws : List Jvm.Cond) (r0 : Addr) (r1 : Addr) (cl_e : Cell) (s_e : Addr) (h0 : Heap) (n0 : Nat) (Z0 : n0 ≤ h0.size) (g_r0 : n0 ≤ r0) (O0 : Old Z n0 h0) (A_e : Arr Z Z.heap s_e cl_e (.object "java/lang/Object")) (z_e : cl_e.slots.size = (0 : Int32).toNatClampNeg) (E_r0 : Exa Z h0 r0 "java/util/ArrayList") (E_r1 : Exa Z h0 r1 "java/lang/Integer") (F_m : Fld Z h0 r0 "java/util/AbstractList" "modCount" "I" (.int 0)) (F_e : Fld Z h0 r0 "java/util/ArrayList" "elementData" "[Ljava/lang/Object;" (.ref s_e)) (F_z : Fld Z h0 r0 "java/util/ArrayList" "size" "I" (.int 0)) (S_s_e : Sta Z Z.heap "java/util/ArrayList" "DEFAULTCAPACITY_EMPTY_ELEMENTDATA" "[Ljava/lang/Object;" (.ref s_e)) : o_Met l Z (⟨"java/util/ArrayList", "add", "(Ljava/lang/Object;)Z"⟩ : MethodName) jdk_38_method_25_code 2 (some .boolean) ws o_R11_0 #[(.ref r0), (.ref r1)] h0 (o_Q11_0 Z r0 r1 s_e h0 n0) := by
 refine o_met (plainFor_of_name o_pn3) ?_
 intro p e s m below meth c s₁ hx hby hml hown hnm hret hlk hZ e0 X0
 have N0 := Fr.nil n0
 have hml : c.maxLocals = 2 := hml
 have hown : s.vm.findClass "java/util/ArrayList" = some m.cls := hown
 have hret : meth.sig.returnType = (some .boolean) := hret
 have hby : c.code = jdk_38_method_25_code := hby
 have hnm : meth.name = "add" := hnm
 rw [o_ef11_0]
 refine o_gi (XS.aloadN X0.here hx rfl (hb hby o_d11_0) rfl rfl) ?_
 refine o_gi (XS.dup X0.here hx rfl (hb hby o_d11_1) rfl rfl) ?_
 show o_Gs p e below _ s₁ m 2 #[.val (.ref r0), .val (.ref r1)] [(.ref r0), (.ref r0)]
 obtain ⟨T54, X54, e54, st54⟩ := getF X0 hx hZ hown (host := "") (Or.inl (hw _ o_t82)) (Via.of (hw _ o_t83)) e0 F_m (g := (mkF m 2 #[.val (.ref r0), .val (.ref r1)] [(.ref r0), (.ref r0)])) rfl rfl (hb hby o_d11_2)
 refine o_go st54 ?_
 refine o_gi (XS.iconst X54.here hx rfl (hb hby o_d11_5)) ?_
 show o_Gs p e below _ T54 m 6 #[.val (.ref r0), .val (.ref r1)] [(.int 1), (.int 0), (.ref r0)]
 refine o_gi (XS.iadd X54.here hx rfl (hb hby o_d11_6) rfl) ?_
 show o_Gs p e below _ T54 m 7 #[.val (.ref r0), .val (.ref r1)] [(.int ((0 : Int32) + (1 : Int32))), (.ref r0)]
 rw [show ((0 : Int32) + (1 : Int32)) = (1 : Int32) from by decide]
 show o_Gs p e below _ T54 m 7 #[.val (.ref r0), .val (.ref r1)] [(.int 1), (.ref r0)]
 obtain ⟨T55, h55, X55, e55, W55, st55⟩ := putF X54 hx hZ hown (host := "") (Or.inl (hw _ o_t82)) (Via.of (hw _ o_t83)) e54 F_m E_r0 (Or.inl (hw _ o_t62)) (hw _ o_t43) (ty := .int) (by decide) rfl rfl (g := (mkF m 7 #[.val (.ref r0), .val (.ref r1)] [(.int 1), (.ref r0)])) rfl rfl (hb hby o_d11_7)
 have N55 := Fr.snoc X55 N0 g_r0
 have Fw55 := F_m.same W55
 refine o_go st55 ?_
 refine o_gi (XS.aloadN X55.here hx rfl (hb hby o_d11_10) rfl rfl) ?_
 refine o_gi (XS.aloadN X55.here hx rfl (hb hby o_d11_11) rfl rfl) ?_
 refine o_gi (XS.aloadN X55.here hx rfl (hb hby o_d11_12) rfl rfl) ?_
 show o_Gs p e below _ T55 m 13 #[.val (.ref r0), .val (.ref r1)] [(.ref r0), (.ref r1), (.ref r0)]
 have ff57 : Fld Z h55 r0 "java/util/ArrayList" "elementData" "[Ljava/lang/Object;" (.ref s_e) := (F_e.other W55 (Or.inr (slot_ne (Or.inl (hw _ o_t65)) (Or.inl (hw _ o_t62)) (by decide) (t := (.array (.object "java/lang/Object"))) (t' := .int) (by decide) (by decide))))
 obtain ⟨T56, X56, e56, st56⟩ := getF X55 hx hZ hown (host := "") (Or.inl (hw _ o_t64)) Via.refl e55 ff57 (g := (mkF m 13 #[.val (.ref r0), .val (.ref r1)] [(.ref r0), (.ref r1), (.ref r0)])) rfl rfl (hb hby o_d11_13)
 refine o_go st56 ?_
 refine o_gi (XS.aloadN X56.here hx rfl (hb hby o_d11_16) rfl rfl) ?_
 show o_Gs p e below _ T56 m 17 #[.val (.ref r0), .val (.ref r1)] [(.ref r0), (.ref s_e), (.ref r1), (.ref r0)]
 have ff59 : Fld Z h55 r0 "java/util/ArrayList" "size" "I" (.int 0) := (F_z.other W55 (Or.inr (slot_ne (Or.inl (hw _ o_t85)) (Or.inl (hw _ o_t62)) (by decide) (t := .int) (t' := .int) (by decide) (by decide))))
 obtain ⟨T58, X58, e58, st58⟩ := getF X56 hx hZ hown (host := "") (Or.inl (hw _ o_t84)) Via.refl e56 ff59 (g := (mkF m 17 #[.val (.ref r0), .val (.ref r1)] [(.ref r0), (.ref s_e), (.ref r1), (.ref r0)])) rfl rfl (hb hby o_d11_17)
 refine o_go st58 ?_
 show o_Gs p e below _ T58 m 20 #[.val (.ref r0), .val (.ref r1)] [(.int 0), (.ref s_e), (.ref r1), (.ref r0)]
 obtain ⟨_, T60, L60, X60, ⟨b60, kb60, rfl, N60q, K60, lt_b60, G60_0, G60_1, G60_2, G60_3, G60_4, G60_5⟩, st60⟩ := o_callP X58 hx hZ hown (hw _ o_t86) (hw _ o_t88) (hw _ o_t43) (hw _ o_t87) (hw _ o_t44) (hw _ o_t90) (by decide) (b := r0) (as := [(.ref r1), (.ref s_e), (.int 0)]) (rm12_0 l Z a0 hw [] r0 r1 cl_e s_e h55 n0 (Nat.le_trans Z0 (Keep.of_wr W55).1) g_r0 (O0.wr W55 g_r0) A_e z_e (E_r0.wr W55) (E_r1.wr W55) Fw55 ff57 ff59 S_s_e) e58 (E_r0.wr W55) o_pd4 rfl (pc := 20) (Ls := #[.val (.ref r0), .val (.ref r1)]) (rest := []) (W := 0) (by rw [hml]; rfl) (Nat.le_of_eq rfl) (by decide) (by decide) (hb hby o_d11_20) (by decide) (by decide)
 have N60 := Fr.app N55 N60q
 have ne_r0_b60 : r0 ≠ b60 := Nat.ne_of_lt (Nat.lt_of_lt_of_le (E_r0.wr W55).lt lt_b60)
 have g_b60 : n0 ≤ b60 := Nat.le_trans (Nat.le_trans Z0 (Keep.of_wr W55).1) lt_b60
 have sz_b60 : h0.size ≤ b60 := Nat.le_trans ((Keep.refl h0 ([r0] : List Addr)).wr W55 (Or.inl (List.mem_of_getElem? (i := 0) rfl))).1 lt_b60
 refine o_go st60 ?_
 refine o_gi (XS.iconst X60.here hx rfl (hb hby o_d11_23)) ?_
 show o_Gs p e below _ T60 m 24 #[.val (.ref r0), .val (.ref r1)] [(.int 1)]
 exact o_retN X60 hx hlk hret (by simp) (z' := (1 : Int32)) rfl (hb hby o_d11_24) (by decide) (by decide) (⟨_, _, rfl, N60, (((Keep.refl h0 ([r0] : List Addr)).wr W55 (Or.inl (List.mem_of_getElem? (i := 0) rfl))).trans K60 (fun x hx => by cases List.mem_singleton.mp hx; exact Or.inl (List.mem_of_getElem? (i := 0) rfl))), sz_b60, G60_0, G60_1, G60_2, G60_3, G60_4, G60_5⟩)
def o_Q12_1 (Z : State) (r0 : Addr) (r1 : Addr) (q_a : Addr) (k_a : ClassId) (u0 : Addr) (h0 : Heap) (n0 : Nat) (v : Option Value) (h : Heap) (L : List Loc) : Prop := v = none ∧ Fr n0 L ∧ Keep h0 h [r0, q_a] ∧ Exa Z h r0 "java/util/ArrayList" ∧ Fld Z h r0 "java/util/AbstractList" "modCount" "I" (.int 2) ∧ Fld Z h r0 "java/util/ArrayList" "elementData" "[Ljava/lang/Object;" (.ref q_a) ∧ Fld Z h r0 "java/util/ArrayList" "size" "I" (.int 2) ∧ Arv Z h q_a k_a (.object "java/lang/Object") (10 : Int32) [(.ref u0), (.ref r1), .null, .null, .null, .null, .null, .null, .null, .null] .null ∧ Ovr Z k_a "java/lang/Object"
abbrev o_R12_1 : Room := { frames := 0, cells := 0, slots := 0, locals := 0 }
theorem o_ef12_1 (m : MethodId) (z0 : Addr) (z1 : Addr) (z2 : Addr) : entryFrame m #[(.ref z0), (.ref z1), (.ref z2), (.int 1)] 4 = mkF m 0 #[.val (.ref z0), .val (.ref z1), .val (.ref z2), .val (.int 1)] [] := by first | (simp [entryFrame, mkF, argsToLocals, Value.category]; done) | rfl
set_option maxRecDepth 65536 in
set_option maxHeartbeats 40000000 in
theorem rm12_1 (l : Launch) (Z : State) (a0 : Array Value) (hw : ∀ d ∈ tables_1, d.before a0 Z = true) (ws : List Jvm.Cond) (r0 : Addr) (r1 : Addr) (q_a : Addr) (k_a : ClassId) (u0 : Addr) (h0 : Heap) (n0 : Nat) (Z0 : n0 ≤ h0.size) (g_r0 : n0 ≤ r0) (g_q_a : n0 ≤ q_a) (E_r0 : Exa Z h0 r0 "java/util/ArrayList") (E_r1 : Exa Z h0 r1 "java/lang/Integer") (F_m : Fld Z h0 r0 "java/util/AbstractList" "modCount" "I" (.int 2)) (F_e : Fld Z h0 r0 "java/util/ArrayList" "elementData" "[Ljava/lang/Object;" (.ref q_a)) (F_z : Fld Z h0 r0 "java/util/ArrayList" "size" "I" (.int 1)) (V_a : Arv Z h0 q_a k_a (.object "java/lang/Object") (10 : Int32) [(.ref u0), .null, .null, .null, .null, .null, .null, .null, .null, .null] .null) (O_a : Ovr Z k_a "java/lang/Object") (ne_r0_q_a : r0 ≠ q_a) : o_Met l Z (⟨"java/util/ArrayList", "add", "(Ljava/lang/Object;[Ljava/lang/Object;I)V"⟩ : MethodName) jdk_38_method_24_code 4 none ws o_R12_1 #[(.ref r0), (.ref r1), (.ref q_a), (.int 1)] h0 (o_Q12_1 Z r0 r1 q_a k_a u0 h0 n0) := by
 refine o_met (plainFor_of_name o_pn3) ?_
 intro p e s m below meth c s₁ hx hby hml hown hnm hret hlk hZ e0 X0
 have N0 := Fr.nil n0
 have hml : c.maxLocals = 4 := hml
 have hown : s.vm.findClass "java/util/ArrayList" = some m.cls := hown
 have hret : meth.sig.returnType = none := hret
 have hby : c.code = jdk_38_method_24_code := hby
 have hnm : meth.name = "add" := hnm
 rw [o_ef12_1]
 refine o_gi (XS.iloadN X0.here hx rfl (hb hby o_d12_0) rfl) ?_
 refine o_gi (XS.aloadN X0.here hx rfl (hb hby o_d12_1) rfl rfl) ?_
 show o_Gs p e below _ s₁ m 2 #[.val (.ref r0), .val (.ref r1), .val (.ref q_a), .val (.int 1)] [(.ref q_a), (.int 1)]
 obtain ⟨cl61, Ar61, qa61, sa61, na61, ha61, ga61⟩ := id V_a
 refine o_go (X0.arraylength hx (by rw [e0]; exact Ar61.1) (State.isArrayOf_alike hZ.alike Ar61.2.1) (g := (mkF m 2 #[.val (.ref r0), .val (.ref r1), .val (.ref q_a), .val (.int 1)] [(.ref q_a), (.int 1)])) rfl rfl (hb hby o_d12_2)) ?_
 rw [len_of sa61 (by decide)]
 show o_Gs p e below _ s₁ m 3 #[.val (.ref r0), .val (.ref r1), .val (.ref q_a), .val (.int 1)] [(.int 10), (.int 1)]
 have hd62 : ¬ ((1 : Int32) = (10 : Int32)) := (by decide)
 refine o_gi (XS.icmpYes X0.here hx rfl (pc0 := 3) (pc' := 11) rfl (hb hby o_d12_3) rfl (feq hd62).2 (by decide) (by decide)) ?_
 refine o_gi (XS.aloadN X0.here hx rfl (hb hby o_d12_11) rfl rfl) ?_
 refine o_gi (XS.iloadN X0.here hx rfl (hb hby o_d12_12) rfl) ?_
 refine o_gi (XS.aloadN X0.here hx rfl (hb hby o_d12_13) rfl rfl) ?_
 show o_Gs p e below _ s₁ m 14 #[.val (.ref r0), .val (.ref r1), .val (.ref q_a), .val (.int 1)] [(.ref r1), (.int 1), (.ref q_a)]
 obtain ⟨cl63, Ar63, qa63, sa63, na63, ha63, ga63⟩ := id V_a
 obtain ⟨T63, h63, X63, e63, W63, st63⟩ := stR X0 hx hZ e0 Ar63 (j := (1 : Int32)) (inb_of sa63 ⟨by decide, by decide⟩) rfl (Sto.of Ar63 (by rw [qa63]; exact O_a) (Ins.of_exa E_r1 (hw _ o_t107))) (g := (mkF m 14 #[.val (.ref r0), .val (.ref r1), .val (.ref q_a), .val (.int 1)] [(.ref r1), (.int 1), (.ref q_a)])) rfl rfl (hb hby o_d12_14)
 have V63 : Arv Z h63 q_a k_a (.object "java/lang/Object") (10 : Int32) [(.ref u0), (.ref r1), .null, .null, .null, .null, .null, .null, .null, .null] .null := Arv.set Ar63 qa63 sa63 na63 ha63 ga63 rfl W63 1 rfl (Nat.le_of_ble_eq_true rfl)
 have N63 := Fr.snoc X63 N0 g_q_a
 refine o_go st63 ?_
 refine o_gi (XS.aloadN X63.here hx rfl (hb hby o_d12_15) rfl rfl) ?_
 refine o_gi (XS.iloadN X63.here hx rfl (hb hby o_d12_16) rfl) ?_
 refine o_gi (XS.iconst X63.here hx rfl (hb hby o_d12_17)) ?_
 show o_Gs p e below _ T63 m 18 #[.val (.ref r0), .val (.ref r1), .val (.ref q_a), .val (.int 1)] [(.int 1), (.int 1), (.ref r0)]
 refine o_gi (XS.iadd X63.here hx rfl (hb hby o_d12_18) rfl) ?_
 show o_Gs p e below _ T63 m 19 #[.val (.ref r0), .val (.ref r1), .val (.ref q_a), .val (.int 1)] [(.int ((1 : Int32) + (1 : Int32))), (.ref r0)]
 rw [show ((1 : Int32) + (1 : Int32)) = (2 : Int32) from by decide]
 show o_Gs p e below _ T63 m 19 #[.val (.ref r0), .val (.ref r1), .val (.ref q_a), .val (.int 1)] [(.int 2), (.ref r0)]
 have ff65 : Fld Z h63 r0 "java/util/ArrayList" "size" "I" (.int 1) := (F_z.other W63 (Or.inl ne_r0_q_a))
 obtain ⟨T64, h64, X64, e64, W64, st64⟩ := putF X63 hx hZ hown (host := "") (Or.inl (hw _ o_t84)) Via.refl e63 ff65 (E_r0.wr W63) (Or.inl (hw _ o_t85)) (hw _ o_t43) (ty := .int) (by decide) rfl rfl (g := (mkF m 19 #[.val (.ref r0), .val (.ref r1), .val (.ref q_a), .val (.int 1)] [(.int 2), (.ref r0)])) rfl rfl (hb hby o_d12_19)
 have N64 := Fr.snoc X64 N63 g_r0
 have Fw64 := ff65.same W64
 refine o_go st64 ?_
 show o_Gs p e below _ T64 m 22 #[.val (.ref r0), .val (.ref r1), .val (.ref q_a), .val (.int 1)] []
 have ff66 : Fld Z h64 r0 "java/util/AbstractList" "modCount" "I" (.int 2) := ((F_m.other W63 (Or.inl ne_r0_q_a)).other W64 (Or.inr (slot_ne (Or.inl (hw _ o_t62)) (Or.inl (hw _ o_t85)) (by decide) (t := .int) (t' := .int) (by decide) (by decide))))
 have ff67 : Fld Z h64 r0 "java/util/ArrayList" "elementData" "[Ljava/lang/Object;" (.ref q_a) := ((F_e.other W63 (Or.inl ne_r0_q_a)).other W64 (Or.inr (slot_ne (Or.inl (hw _ o_t65)) (Or.inl (hw _ o_t85)) (by decide) (t := (.array (.object "java/lang/Object"))) (t' := .int) (by decide) (by decide))))
 have ff68 : Arv Z h64 q_a k_a (.object "java/lang/Object") (10 : Int32) [(.ref u0), (.ref r1), .null, .null, .null, .null, .null, .null, .null, .null] .null := (V63.other W64 (Ne.symm ne_r0_q_a))
 exact o_ret0 X64 hx hlk hret (hb hby o_d12_22) (by decide) (by decide) (by show o_Q12_1 Z r0 r1 q_a k_a u0 h0 n0 _ T64.heap _; rw [e64]; exact ⟨rfl, N64, (((Keep.refl h0 ([r0, q_a] : List Addr)).wr W63 (Or.inl (List.mem_of_getElem? (i := 1) rfl))).wr W64 (Or.inl (List.mem_of_getElem? (i := 0) rfl))), ((E_r0.wr W63).wr W64), ff66, ff67, Fw64, ff68, O_a⟩)
def o_Q11_1 (Z : State) (r0 : Addr) (r1 : Addr) (q_a : Addr) (k_a : ClassId) (u0 : Addr) (h0 : Heap) (n0 : Nat) (v : Option Value) (h : Heap) (L : List Loc) : Prop := v = some (.int 1) ∧ Fr n0 L ∧ Keep h0 h [r0, q_a] ∧ Exa Z h r0 "java/util/ArrayList" ∧ Fld Z h r0 "java/util/AbstractList" "modCount" "I" (.int 2) ∧ Fld Z h r0 "java/util/ArrayList" "elementData" "[Ljava/lang/Object;" (.ref q_a) ∧ Fld Z h r0 "java/util/ArrayList" "size" "I" (.int 2) ∧ Arv Z h q_a k_a (.object "java/lang/Object") (10 : Int32) [(.ref u0), (.ref r1), .null, .null, .null, .null, .null, .null, .null, .null] .null ∧ Ovr Z k_a "java/lang/Object"
abbrev o_R11_1 : Room := { frames := 1, cells := 0, slots := 0, locals := 15 }
theorem o_ef11_1 (m : MethodId) (z0 : Addr) (z1 : Addr) : entryFrame m #[(.ref z0), (.ref z1)] 2 = mkF m 0 #[.val (.ref z0), .val (.ref z1)] [] := by first | (simp [entryFrame, mkF, argsToLocals, Value.category]; done) | rfl
set_option maxRecDepth 65536 in
set_option maxHeartbeats 40000000 in
theorem rm11_1 (l : Launch) (Z : State) (a0 : Array Value) (hw : ∀ d ∈ tables_1, d.before a0 Z = true) (ws : List Jvm.Cond) (r0 : Addr) (r1 : Addr) (q_a : Addr) (k_a : ClassId) (u0 : Addr) (h0 : Heap) (n0 : Nat) (Z0 : n0 ≤ h0.size) (g_r0 : n0 ≤ r0) (g_q_a : n0 ≤ q_a) (E_r0 : Exa Z h0 r0 "java/util/ArrayList") (E_r1 : Exa Z h0 r1 "java/lang/Integer") (F_m : Fld Z h0 r0 "java/util/AbstractList" "modCount" "I" (.int 1)) (F_e : Fld Z h0 r0 "java/util/ArrayList" "elementData" "[Ljava/lang/Object;" (.ref q_a)) (F_z : Fld Z h0 r0 "java/util/ArrayList" "size" "I" (.int 1)) (V_a : Arv Z h0 q_a k_a (.object "java/lang/Object") (10 : Int32) [(.ref u0), .null, .null, .null, .null, .null, .null, .null, .null, .null] .null) (O_a : Ovr Z k_a "java/lang/Object") (ne_r0_q_a : r0 ≠ q_a) : o_Met l Z (⟨"java/util/ArrayList", "add", "(Ljava/lang/Object;)Z"⟩ : MethodName) jdk_38_method_25_code 2 (some .boolean) ws o_R11_1 #[(.ref r0), (.ref r1)] h0 (o_Q11_1 Z r0 r1 q_a k_a u0 h0 n0) := by
 refine o_met (plainFor_of_name o_pn3) ?_
 intro p e s m below meth c s₁ hx hby hml hown hnm hret hlk hZ e0 X0
 have N0 := Fr.nil n0
 have hml : c.maxLocals = 2 := hml
 have hown : s.vm.findClass "java/util/ArrayList" = some m.cls := hown
 have hret : meth.sig.returnType = (some .boolean) := hret
 have hby : c.code = jdk_38_method_25_code := hby
 have hnm : meth.name = "add" := hnm
 rw [o_ef11_1]
 refine o_gi (XS.aloadN X0.here hx rfl (hb hby o_d11_0) rfl rfl) ?_
 refine o_gi (XS.dup X0.here hx rfl (hb hby o_d11_1) rfl rfl) ?_
 show o_Gs p e below _ s₁ m 2 #[.val (.ref r0), .val (.ref r1)] [(.ref r0), (.ref r0)]
 obtain ⟨T69, X69, e69, st69⟩ := getF X0 hx hZ hown (host := "") (Or.inl (hw _ o_t82)) (Via.of (hw _ o_t83)) e0 F_m (g := (mkF m 2 #[.val (.ref r0), .val (.ref r1)] [(.ref r0), (.ref r0)])) rfl rfl (hb hby o_d11_2)
 refine o_go st69 ?_
 refine o_gi (XS.iconst X69.here hx rfl (hb hby o_d11_5)) ?_
 show o_Gs p e below _ T69 m 6 #[.val (.ref r0), .val (.ref r1)] [(.int 1), (.int 1), (.ref r0)]
 refine o_gi (XS.iadd X69.here hx rfl (hb hby o_d11_6) rfl) ?_
 show o_Gs p e below _ T69 m 7 #[.val (.ref r0), .val (.ref r1)] [(.int ((1 : Int32) + (1 : Int32))), (.ref r0)]
 rw [show ((1 : Int32) + (1 : Int32)) = (2 : Int32) from by decide]
 show o_Gs p e below _ T69 m 7 #[.val (.ref r0), .val (.ref r1)] [(.int 2), (.ref r0)]
 obtain ⟨T70, h70, X70, e70, W70, st70⟩ := putF X69 hx hZ hown (host := "") (Or.inl (hw _ o_t82)) (Via.of (hw _ o_t83)) e69 F_m E_r0 (Or.inl (hw _ o_t62)) (hw _ o_t43) (ty := .int) (by decide) rfl rfl (g := (mkF m 7 #[.val (.ref r0), .val (.ref r1)] [(.int 2), (.ref r0)])) rfl rfl (hb hby o_d11_7)
 have N70 := Fr.snoc X70 N0 g_r0
 have Fw70 := F_m.same W70
 refine o_go st70 ?_
 refine o_gi (XS.aloadN X70.here hx rfl (hb hby o_d11_10) rfl rfl) ?_
 refine o_gi (XS.aloadN X70.here hx rfl (hb hby o_d11_11) rfl rfl) ?_
 refine o_gi (XS.aloadN X70.here hx rfl (hb hby o_d11_12) rfl rfl) ?_
 show o_Gs p e below _ T70 m 13 #[.val (.ref r0), .val (.ref r1)] [(.ref r0), (.ref r1), (.ref r0)]
 have ff72 : Fld Z h70 r0 "java/util/ArrayList" "elementData" "[Ljava/lang/Object;" (.ref q_a) := (F_e.other W70 (Or.inr (slot_ne (Or.inl (hw _ o_t65)) (Or.inl (hw _ o_t62)) (by decide) (t := (.array (.object "java/lang/Object"))) (t' := .int) (by decide) (by decide))))
 obtain ⟨T71, X71, e71, st71⟩ := getF X70 hx hZ hown (host := "") (Or.inl (hw _ o_t64)) Via.refl e70 ff72 (g := (mkF m 13 #[.val (.ref r0), .val (.ref r1)] [(.ref r0), (.ref r1), (.ref r0)])) rfl rfl (hb hby o_d11_13)
 refine o_go st71 ?_
 refine o_gi (XS.aloadN X71.here hx rfl (hb hby o_d11_16) rfl rfl) ?_
 show o_Gs p e below _ T71 m 17 #[.val (.ref r0), .val (.ref r1)] [(.ref r0), (.ref q_a), (.ref r1), (.ref r0)]
 have ff74 : Fld Z h70 r0 "java/util/ArrayList" "size" "I" (.int 1) := (F_z.other W70 (Or.inr (slot_ne (Or.inl (hw _ o_t85)) (Or.inl (hw _ o_t62)) (by decide) (t := .int) (t' := .int) (by decide) (by decide))))
 obtain ⟨T73, X73, e73, st73⟩ := getF X71 hx hZ hown (host := "") (Or.inl (hw _ o_t84)) Via.refl e71 ff74 (g := (mkF m 17 #[.val (.ref r0), .val (.ref r1)] [(.ref r0), (.ref q_a), (.ref r1), (.ref r0)])) rfl rfl (hb hby o_d11_17)
 refine o_go st73 ?_
 show o_Gs p e below _ T73 m 20 #[.val (.ref r0), .val (.ref r1)] [(.int 1), (.ref q_a), (.ref r1), (.ref r0)]
 have ff76 : Arv Z h70 q_a k_a (.object "java/lang/Object") (10 : Int32) [(.ref u0), .null, .null, .null, .null, .null, .null, .null, .null, .null] .null := (V_a.other W70 (Ne.symm ne_r0_q_a))
 obtain ⟨_, T75, L75, X75, ⟨rfl, N75q, K75, G75_0, G75_1, G75_2, G75_3, G75_4, G75_5⟩, st75⟩ := o_callP X73 hx hZ hown (hw _ o_t86) (hw _ o_t88) (hw _ o_t43) (hw _ o_t87) (hw _ o_t44) (hw _ o_t90) (by decide) (b := r0) (as := [(.ref r1), (.ref q_a), (.int 1)]) (rm12_1 l Z a0 hw [] r0 r1 q_a k_a u0 h70 n0 (Nat.le_trans Z0 (Keep.of_wr W70).1) g_r0 g_q_a (E_r0.wr W70) (E_r1.wr W70) Fw70 ff72 ff74 ff76 O_a ne_r0_q_a) e73 (E_r0.wr W70) o_pd4 rfl (pc := 20) (Ls := #[.val (.ref r0), .val (.ref r1)]) (rest := []) (W := 0) (by rw [hml]; rfl) (Nat.le_of_eq rfl) (by decide) (by decide) (hb hby o_d11_20) (by decide) (by decide)
 have N75 := Fr.app N70 N75q
 refine o_go st75 ?_
 refine o_gi (XS.iconst X75.here hx rfl (hb hby o_d11_23)) ?_
 show o_Gs p e below _ T75 m 24 #[.val (.ref r0), .val (.ref r1)] [(.int 1)]
 exact o_retN X75 hx hlk hret (by simp) (z' := (1 : Int32)) rfl (hb hby o_d11_24) (by decide) (by decide) (⟨rfl, N75, (((Keep.refl h0 ([r0, q_a] : List Addr)).wr W70 (Or.inl (List.mem_of_getElem? (i := 0) rfl))).trans K75 (allS (P := fun x => x ∈ ([r0, q_a] : List Addr) ∨ h0.size ≤ x) (Or.inl (List.mem_of_getElem? (i := 0) rfl)) (allS (P := fun x => x ∈ ([r0, q_a] : List Addr) ∨ h0.size ≤ x) (Or.inl (List.mem_of_getElem? (i := 1) rfl)) all0))), G75_0, G75_1, G75_2, G75_3, G75_4, G75_5⟩)
def o_Q12_2 (Z : State) (r0 : Addr) (r1 : Addr) (q_a : Addr) (k_a : ClassId) (u0 : Addr) (u1 : Addr) (h0 : Heap) (n0 : Nat) (v : Option Value) (h : Heap) (L : List Loc) : Prop := v = none ∧ Fr n0 L ∧ Keep h0 h [r0, q_a] ∧ Exa Z h r0 "java/util/ArrayList" ∧ Fld Z h r0 "java/util/AbstractList" "modCount" "I" (.int 3) ∧ Fld Z h r0 "java/util/ArrayList" "elementData" "[Ljava/lang/Object;" (.ref q_a) ∧ Fld Z h r0 "java/util/ArrayList" "size" "I" (.int 3) ∧ Arv Z h q_a k_a (.object "java/lang/Object") (10 : Int32) [(.ref u0), (.ref u1), (.ref r1), .null, .null, .null, .null, .null, .null, .null] .null ∧ Ovr Z k_a "java/lang/Object"
abbrev o_R12_2 : Room := { frames := 0, cells := 0, slots := 0, locals := 0 }
theorem o_ef12_2 (m : MethodId) (z0 : Addr) (z1 : Addr) (z2 : Addr) : entryFrame m #[(.ref z0), (.ref z1), (.ref z2), (.int 2)] 4 = mkF m 0 #[.val (.ref z0), .val (.ref z1), .val (.ref z2), .val (.int 2)] [] := by first | (simp [entryFrame, mkF, argsToLocals, Value.category]; done) | rfl
set_option maxRecDepth 65536 in
set_option maxHeartbeats 40000000 in
theorem rm12_2 (l : Launch) (Z : State) (a0 : Array Value) (hw : ∀ d ∈ tables_1, d.before a0 Z = true) (ws : List Jvm.Cond) (r0 : Addr) (r1 : Addr) (q_a : Addr) (k_a : ClassId) (u0 : Addr) (u1 : Addr) (h0 : Heap) (n0 : Nat) (Z0 : n0 ≤ h0.size) (g_r0 : n0 ≤ r0) (g_q_a : n0 ≤ q_a) (E_r0 : Exa Z h0 r0 "java/util/ArrayList") (E_r1 : Exa Z h0 r1 "java/lang/Integer") (F_m : Fld Z h0 r0 "java/util/AbstractList" "modCount" "I" (.int 3)) (F_e : Fld Z h0 r0 "java/util/ArrayList" "elementData" "[Ljava/lang/Object;" (.ref q_a)) (F_z : Fld Z h0 r0 "java/util/ArrayList" "size" "I" (.int 2)) (V_a : Arv Z h0 q_a k_a (.object "java/lang/Object") (10 : Int32) [(.ref u0), (.ref u1), .null, .null, .null, .null, .null, .null, .null, .null] .null) (O_a : Ovr Z k_a "java/lang/Object") (ne_r0_q_a : r0 ≠ q_a) : o_Met l Z (⟨"java/util/ArrayList", "add", "(Ljava/lang/Object;[Ljava/lang/Object;I)V"⟩ : MethodName) jdk_38_method_24_code 4 none ws o_R12_2 #[(.ref r0), (.ref r1), (.ref q_a), (.int 2)] h0 (o_Q12_2 Z r0 r1 q_a k_a u0 u1 h0 n0) := by
 refine o_met (plainFor_of_name o_pn3) ?_
 intro p e s m below meth c s₁ hx hby hml hown hnm hret hlk hZ e0 X0
 have N0 := Fr.nil n0
 have hml : c.maxLocals = 4 := hml
 have hown : s.vm.findClass "java/util/ArrayList" = some m.cls := hown
 have hret : meth.sig.returnType = none := hret
 have hby : c.code = jdk_38_method_24_code := hby
 have hnm : meth.name = "add" := hnm
 rw [o_ef12_2]
 refine o_gi (XS.iloadN X0.here hx rfl (hb hby o_d12_0) rfl) ?_
 refine o_gi (XS.aloadN X0.here hx rfl (hb hby o_d12_1) rfl rfl) ?_
 show o_Gs p e below _ s₁ m 2 #[.val (.ref r0), .val (.ref r1), .val (.ref q_a), .val (.int 2)] [(.ref q_a), (.int 2)]
 obtain ⟨cl77, Ar77, qa77, sa77, na77, ha77, ga77⟩ := id V_a
 refine o_go (X0.arraylength hx (by rw [e0]; exact Ar77.1) (State.isArrayOf_alike hZ.alike Ar77.2.1) (g := (mkF m 2 #[.val (.ref r0), .val (.ref r1), .val (.ref q_a), .val (.int 2)] [(.ref q_a), (.int 2)])) rfl rfl (hb hby o_d12_2)) ?_
 rw [len_of sa77 (by decide)]
 show o_Gs p e below _ s₁ m 3 #[.val (.ref r0), .val (.ref r1), .val (.ref q_a), .val (.int 2)] [(.int 10), (.int 2)]
 have hd78 : ¬ ((2 : Int32) = (10 : Int32)) := (by decide)
 refine o_gi (XS.icmpYes X0.here hx rfl (pc0 := 3) (pc' := 11) rfl (hb hby o_d12_3) rfl (feq hd78).2 (by decide) (by decide)) ?_
 refine o_gi (XS.aloadN X0.here hx rfl (hb hby o_d12_11) rfl rfl) ?_
 refine o_gi (XS.iloadN X0.here hx rfl (hb hby o_d12_12) rfl) ?_
 refine o_gi (XS.aloadN X0.here hx rfl (hb hby o_d12_13) rfl rfl) ?_
 show o_Gs p e below _ s₁ m 14 #[.val (.ref r0), .val (.ref r1), .val (.ref q_a), .val (.int 2)] [(.ref r1), (.int 2), (.ref q_a)]
 obtain ⟨cl79, Ar79, qa79, sa79, na79, ha79, ga79⟩ := id V_a
 obtain ⟨T79, h79, X79, e79, W79, st79⟩ := stR X0 hx hZ e0 Ar79 (j := (2 : Int32)) (inb_of sa79 ⟨by decide, by decide⟩) rfl (Sto.of Ar79 (by rw [qa79]; exact O_a) (Ins.of_exa E_r1 (hw _ o_t107))) (g := (mkF m 14 #[.val (.ref r0), .val (.ref r1), .val (.ref q_a), .val (.int 2)] [(.ref r1), (.int 2), (.ref q_a)])) rfl rfl (hb hby o_d12_14)
 have V79 : Arv Z h79 q_a k_a (.object "java/lang/Object") (10 : Int32) [(.ref u0), (.ref u1), (.ref r1), .null, .null, .null, .null, .null, .null, .null] .null := Arv.set Ar79 qa79 sa79 na79 ha79 ga79 rfl W79 2 rfl (Nat.le_of_ble_eq_true rfl)
 have N79 := Fr.snoc X79 N0 g_q_a
 refine o_go st79 ?_
 refine o_gi (XS.aloadN X79.here hx rfl (hb hby o_d12_15) rfl rfl) ?_
 refine o_gi (XS.iloadN X79.here hx rfl (hb hby o_d12_16) rfl) ?_
 refine o_gi (XS.iconst X79.here hx rfl (hb hby o_d12_17)) ?_
 show o_Gs p e below _ T79 m 18 #[.val (.ref r0), .val (.ref r1), .val (.ref q_a), .val (.int 2)] [(.int 1), (.int 2), (.ref r0)]
 refine o_gi (XS.iadd X79.here hx rfl (hb hby o_d12_18) rfl) ?_
 show o_Gs p e below _ T79 m 19 #[.val (.ref r0), .val (.ref r1), .val (.ref q_a), .val (.int 2)] [(.int ((2 : Int32) + (1 : Int32))), (.ref r0)]
 rw [show ((2 : Int32) + (1 : Int32)) = (3 : Int32) from by decide]
 show o_Gs p e below _ T79 m 19 #[.val (.ref r0), .val (.ref r1), .val (.ref q_a), .val (.int 2)] [(.int 3), (.ref r0)]
 have ff81 : Fld Z h79 r0 "java/util/ArrayList" "size" "I" (.int 2) := (F_z.other W79 (Or.inl ne_r0_q_a))
 obtain ⟨T80, h80, X80, e80, W80, st80⟩ := putF X79 hx hZ hown (host := "") (Or.inl (hw _ o_t84)) Via.refl e79 ff81 (E_r0.wr W79) (Or.inl (hw _ o_t85)) (hw _ o_t43) (ty := .int) (by decide) rfl rfl (g := (mkF m 19 #[.val (.ref r0), .val (.ref r1), .val (.ref q_a), .val (.int 2)] [(.int 3), (.ref r0)])) rfl rfl (hb hby o_d12_19)
 have N80 := Fr.snoc X80 N79 g_r0
 have Fw80 := ff81.same W80
 refine o_go st80 ?_
 show o_Gs p e below _ T80 m 22 #[.val (.ref r0), .val (.ref r1), .val (.ref q_a), .val (.int 2)] []
 have ff82 : Fld Z h80 r0 "java/util/AbstractList" "modCount" "I" (.int 3) := ((F_m.other W79 (Or.inl ne_r0_q_a)).other W80 (Or.inr (slot_ne (Or.inl (hw _ o_t62)) (Or.inl (hw _ o_t85)) (by decide) (t := .int) (t' := .int) (by decide) (by decide))))
 have ff83 : Fld Z h80 r0 "java/util/ArrayList" "elementData" "[Ljava/lang/Object;" (.ref q_a) := ((F_e.other W79 (Or.inl ne_r0_q_a)).other W80 (Or.inr (slot_ne (Or.inl (hw _ o_t65)) (Or.inl (hw _ o_t85)) (by decide) (t := (.array (.object "java/lang/Object"))) (t' := .int) (by decide) (by decide))))
 have ff84 : Arv Z h80 q_a k_a (.object "java/lang/Object") (10 : Int32) [(.ref u0), (.ref u1), (.ref r1), .null, .null, .null, .null, .null, .null, .null] .null := (V79.other W80 (Ne.symm ne_r0_q_a))
 exact o_ret0 X80 hx hlk hret (hb hby o_d12_22) (by decide) (by decide) (by show o_Q12_2 Z r0 r1 q_a k_a u0 u1 h0 n0 _ T80.heap _; rw [e80]; exact ⟨rfl, N80, (((Keep.refl h0 ([r0, q_a] : List Addr)).wr W79 (Or.inl (List.mem_of_getElem? (i := 1) rfl))).wr W80 (Or.inl (List.mem_of_getElem? (i := 0) rfl))), ((E_r0.wr W79).wr W80), ff82, ff83, Fw80, ff84, O_a⟩)
def o_Q11_2 (Z : State) (r0 : Addr) (r1 : Addr) (q_a : Addr) (k_a : ClassId) (u0 : Addr) (u1 : Addr) (h0 : Heap) (n0 : Nat) (v : Option Value) (h : Heap) (L : List Loc) : Prop := v = some (.int 1) ∧ Fr n0 L ∧ Keep h0 h [r0, q_a] ∧ Exa Z h r0 "java/util/ArrayList" ∧ Fld Z h r0 "java/util/AbstractList" "modCount" "I" (.int 3) ∧ Fld Z h r0 "java/util/ArrayList" "elementData" "[Ljava/lang/Object;" (.ref q_a) ∧ Fld Z h r0 "java/util/ArrayList" "size" "I" (.int 3) ∧ Arv Z h q_a k_a (.object "java/lang/Object") (10 : Int32) [(.ref u0), (.ref u1), (.ref r1), .null, .null, .null, .null, .null, .null, .null] .null ∧ Ovr Z k_a "java/lang/Object"
abbrev o_R11_2 : Room := { frames := 1, cells := 0, slots := 0, locals := 15 }
theorem o_ef11_2 (m : MethodId) (z0 : Addr) (z1 : Addr) : entryFrame m #[(.ref z0), (.ref z1)] 2 = mkF m 0 #[.val (.ref z0), .val (.ref z1)] [] := by first | (simp [entryFrame, mkF, argsToLocals, Value.category]; done) | rfl
set_option maxRecDepth 65536 in
set_option maxHeartbeats 40000000 in
theorem rm11_2 (l : Launch) (Z : State) (a0 : Array Value) (hw : ∀ d ∈ tables_1, d.before a0 Z = true) (ws : List Jvm.Cond) (r0 : Addr) (r1 : Addr) (q_a : Addr) (k_a : ClassId) (u0 : Addr) (u1 : Addr) (h0 : Heap) (n0 : Nat) (Z0 : n0 ≤ h0.size) (g_r0 : n0 ≤ r0) (g_q_a : n0 ≤ q_a) (E_r0 : Exa Z h0 r0 "java/util/ArrayList") (E_r1 : Exa Z h0 r1 "java/lang/Integer") (F_m : Fld Z h0 r0 "java/util/AbstractList" "modCount" "I" (.int 2)) (F_e : Fld Z h0 r0 "java/util/ArrayList" "elementData" "[Ljava/lang/Object;" (.ref q_a)) (F_z : Fld Z h0 r0 "java/util/ArrayList" "size" "I" (.int 2)) (V_a : Arv Z h0 q_a k_a (.object "java/lang/Object") (10 : Int32) [(.ref u0), (.ref u1), .null, .null, .null, .null, .null, .null, .null, .null] .null) (O_a : Ovr Z k_a "java/lang/Object") (ne_r0_q_a : r0 ≠ q_a) : o_Met l Z (⟨"java/util/ArrayList", "add", "(Ljava/lang/Object;)Z"⟩ : MethodName) jdk_38_method_25_code 2 (some .boolean) ws o_R11_2 #[(.ref r0), (.ref r1)] h0 (o_Q11_2 Z r0 r1 q_a k_a u0 u1 h0 n0) := by
 refine o_met (plainFor_of_name o_pn3) ?_
 intro p e s m below meth c s₁ hx hby hml hown hnm hret hlk hZ e0 X0
 have N0 := Fr.nil n0
 have hml : c.maxLocals = 2 := hml
 have hown : s.vm.findClass "java/util/ArrayList" = some m.cls := hown
 have hret : meth.sig.returnType = (some .boolean) := hret
 have hby : c.code = jdk_38_method_25_code := hby
 have hnm : meth.name = "add" := hnm
 rw [o_ef11_2]
 refine o_gi (XS.aloadN X0.here hx rfl (hb hby o_d11_0) rfl rfl) ?_
 refine o_gi (XS.dup X0.here hx rfl (hb hby o_d11_1) rfl rfl) ?_
 show o_Gs p e below _ s₁ m 2 #[.val (.ref r0), .val (.ref r1)] [(.ref r0), (.ref r0)]
 obtain ⟨T85, X85, e85, st85⟩ := getF X0 hx hZ hown (host := "") (Or.inl (hw _ o_t82)) (Via.of (hw _ o_t83)) e0 F_m (g := (mkF m 2 #[.val (.ref r0), .val (.ref r1)] [(.ref r0), (.ref r0)])) rfl rfl (hb hby o_d11_2)
 refine o_go st85 ?_
 refine o_gi (XS.iconst X85.here hx rfl (hb hby o_d11_5)) ?_
 show o_Gs p e below _ T85 m 6 #[.val (.ref r0), .val (.ref r1)] [(.int 1), (.int 2), (.ref r0)]
 refine o_gi (XS.iadd X85.here hx rfl (hb hby o_d11_6) rfl) ?_
 show o_Gs p e below _ T85 m 7 #[.val (.ref r0), .val (.ref r1)] [(.int ((2 : Int32) + (1 : Int32))), (.ref r0)]
 rw [show ((2 : Int32) + (1 : Int32)) = (3 : Int32) from by decide]
 show o_Gs p e below _ T85 m 7 #[.val (.ref r0), .val (.ref r1)] [(.int 3), (.ref r0)]
 obtain ⟨T86, h86, X86, e86, W86, st86⟩ := putF X85 hx hZ hown (host := "") (Or.inl (hw _ o_t82)) (Via.of (hw _ o_t83)) e85 F_m E_r0 (Or.inl (hw _ o_t62)) (hw _ o_t43) (ty := .int) (by decide) rfl rfl (g := (mkF m 7 #[.val (.ref r0), .val (.ref r1)] [(.int 3), (.ref r0)])) rfl rfl (hb hby o_d11_7)
 have N86 := Fr.snoc X86 N0 g_r0
 have Fw86 := F_m.same W86
 refine o_go st86 ?_
 refine o_gi (XS.aloadN X86.here hx rfl (hb hby o_d11_10) rfl rfl) ?_
 refine o_gi (XS.aloadN X86.here hx rfl (hb hby o_d11_11) rfl rfl) ?_
 refine o_gi (XS.aloadN X86.here hx rfl (hb hby o_d11_12) rfl rfl) ?_
 show o_Gs p e below _ T86 m 13 #[.val (.ref r0), .val (.ref r1)] [(.ref r0), (.ref r1), (.ref r0)]
 have ff88 : Fld Z h86 r0 "java/util/ArrayList" "elementData" "[Ljava/lang/Object;" (.ref q_a) := (F_e.other W86 (Or.inr (slot_ne (Or.inl (hw _ o_t65)) (Or.inl (hw _ o_t62)) (by decide) (t := (.array (.object "java/lang/Object"))) (t' := .int) (by decide) (by decide))))
 obtain ⟨T87, X87, e87, st87⟩ := getF X86 hx hZ hown (host := "") (Or.inl (hw _ o_t64)) Via.refl e86 ff88 (g := (mkF m 13 #[.val (.ref r0), .val (.ref r1)] [(.ref r0), (.ref r1), (.ref r0)])) rfl rfl (hb hby o_d11_13)
 refine o_go st87 ?_
 refine o_gi (XS.aloadN X87.here hx rfl (hb hby o_d11_16) rfl rfl) ?_
 show o_Gs p e below _ T87 m 17 #[.val (.ref r0), .val (.ref r1)] [(.ref r0), (.ref q_a), (.ref r1), (.ref r0)]
 have ff90 : Fld Z h86 r0 "java/util/ArrayList" "size" "I" (.int 2) := (F_z.other W86 (Or.inr (slot_ne (Or.inl (hw _ o_t85)) (Or.inl (hw _ o_t62)) (by decide) (t := .int) (t' := .int) (by decide) (by decide))))
 obtain ⟨T89, X89, e89, st89⟩ := getF X87 hx hZ hown (host := "") (Or.inl (hw _ o_t84)) Via.refl e87 ff90 (g := (mkF m 17 #[.val (.ref r0), .val (.ref r1)] [(.ref r0), (.ref q_a), (.ref r1), (.ref r0)])) rfl rfl (hb hby o_d11_17)
 refine o_go st89 ?_
 show o_Gs p e below _ T89 m 20 #[.val (.ref r0), .val (.ref r1)] [(.int 2), (.ref q_a), (.ref r1), (.ref r0)]
 have ff92 : Arv Z h86 q_a k_a (.object "java/lang/Object") (10 : Int32) [(.ref u0), (.ref u1), .null, .null, .null, .null, .null, .null, .null, .null] .null := (V_a.other W86 (Ne.symm ne_r0_q_a))
 obtain ⟨_, T91, L91, X91, ⟨rfl, N91q, K91, G91_0, G91_1, G91_2, G91_3, G91_4, G91_5⟩, st91⟩ := o_callP X89 hx hZ hown (hw _ o_t86) (hw _ o_t88) (hw _ o_t43) (hw _ o_t87) (hw _ o_t44) (hw _ o_t90) (by decide) (b := r0) (as := [(.ref r1), (.ref q_a), (.int 2)]) (rm12_2 l Z a0 hw [] r0 r1 q_a k_a u0 u1 h86 n0 (Nat.le_trans Z0 (Keep.of_wr W86).1) g_r0 g_q_a (E_r0.wr W86) (E_r1.wr W86) Fw86 ff88 ff90 ff92 O_a ne_r0_q_a) e89 (E_r0.wr W86) o_pd4 rfl (pc := 20) (Ls := #[.val (.ref r0), .val (.ref r1)]) (rest := []) (W := 0) (by rw [hml]; rfl) (Nat.le_of_eq rfl) (by decide) (by decide) (hb hby o_d11_20) (by decide) (by decide)
 have N91 := Fr.app N86 N91q
 refine o_go st91 ?_
 refine o_gi (XS.iconst X91.here hx rfl (hb hby o_d11_23)) ?_
 show o_Gs p e below _ T91 m 24 #[.val (.ref r0), .val (.ref r1)] [(.int 1)]
 exact o_retN X91 hx hlk hret (by simp) (z' := (1 : Int32)) rfl (hb hby o_d11_24) (by decide) (by decide) (⟨rfl, N91, (((Keep.refl h0 ([r0, q_a] : List Addr)).wr W86 (Or.inl (List.mem_of_getElem? (i := 0) rfl))).trans K91 (allS (P := fun x => x ∈ ([r0, q_a] : List Addr) ∨ h0.size ≤ x) (Or.inl (List.mem_of_getElem? (i := 0) rfl)) (allS (P := fun x => x ∈ ([r0, q_a] : List Addr) ∨ h0.size ≤ x) (Or.inl (List.mem_of_getElem? (i := 1) rfl)) all0))), G91_0, G91_1, G91_2, G91_3, G91_4, G91_5⟩)
def o_Q12_3 (Z : State) (r0 : Addr) (r1 : Addr) (q_a : Addr) (k_a : ClassId) (u0 : Addr) (u1 : Addr) (u2 : Addr) (h0 : Heap) (n0 : Nat) (v : Option Value) (h : Heap) (L : List Loc) : Prop := v = none ∧ Fr n0 L ∧ Keep h0 h [r0, q_a] ∧ Exa Z h r0 "java/util/ArrayList" ∧ Fld Z h r0 "java/util/AbstractList" "modCount" "I" (.int 4) ∧ Fld Z h r0 "java/util/ArrayList" "elementData" "[Ljava/lang/Object;" (.ref q_a) ∧ Fld Z h r0 "java/util/ArrayList" "size" "I" (.int 4) ∧ Arv Z h q_a k_a (.object "java/lang/Object") (10 : Int32) [(.ref u0), (.ref u1), (.ref u2), (.ref r1), .null, .null, .null, .null, .null, .null] .null ∧ Ovr Z k_a "java/lang/Object"
abbrev o_R12_3 : Room := { frames := 0, cells := 0, slots := 0, locals := 0 }
theorem o_ef12_3 (m : MethodId) (z0 : Addr) (z1 : Addr) (z2 : Addr) : entryFrame m #[(.ref z0), (.ref z1), (.ref z2), (.int 3)] 4 = mkF m 0 #[.val (.ref z0), .val (.ref z1), .val (.ref z2), .val (.int 3)] [] := by first | (simp [entryFrame, mkF, argsToLocals, Value.category]; done) | rfl
set_option maxRecDepth 65536 in
set_option maxHeartbeats 40000000 in
theorem rm12_3 (l : Launch) (Z : State) (a0 : Array Value) (hw : ∀ d ∈ tables_1, d.before a0 Z = true) (ws : List Jvm.Cond) (r0 : Addr) (r1 : Addr) (q_a : Addr) (k_a : ClassId) (u0 : Addr) (u1 : Addr) (u2 : Addr) (h0 : Heap) (n0 : Nat) (Z0 : n0 ≤ h0.size) (g_r0 : n0 ≤ r0) (g_q_a : n0 ≤ q_a) (E_r0 : Exa Z h0 r0 "java/util/ArrayList") (E_r1 : Exa Z h0 r1 "java/lang/Integer") (F_m : Fld Z h0 r0 "java/util/AbstractList" "modCount" "I" (.int 4)) (F_e : Fld Z h0 r0 "java/util/ArrayList" "elementData" "[Ljava/lang/Object;" (.ref q_a)) (F_z : Fld Z h0 r0 "java/util/ArrayList" "size" "I" (.int 3)) (V_a : Arv Z h0 q_a k_a (.object "java/lang/Object") (10 : Int32) [(.ref u0), (.ref u1), (.ref u2), .null, .null, .null, .null, .null, .null, .null] .null) (O_a : Ovr Z k_a "java/lang/Object") (ne_r0_q_a : r0 ≠ q_a) : o_Met l Z (⟨"java/util/ArrayList", "add", "(Ljava/lang/Object;[Ljava/lang/Object;I)V"⟩ : MethodName) jdk_38_method_24_code 4 none ws o_R12_3 #[(.ref r0), (.ref r1), (.ref q_a), (.int 3)] h0 (o_Q12_3 Z r0 r1 q_a k_a u0 u1 u2 h0 n0) := by
 refine o_met (plainFor_of_name o_pn3) ?_
 intro p e s m below meth c s₁ hx hby hml hown hnm hret hlk hZ e0 X0
 have N0 := Fr.nil n0
 have hml : c.maxLocals = 4 := hml
 have hown : s.vm.findClass "java/util/ArrayList" = some m.cls := hown
 have hret : meth.sig.returnType = none := hret
 have hby : c.code = jdk_38_method_24_code := hby
 have hnm : meth.name = "add" := hnm
 rw [o_ef12_3]
 refine o_gi (XS.iloadN X0.here hx rfl (hb hby o_d12_0) rfl) ?_
 refine o_gi (XS.aloadN X0.here hx rfl (hb hby o_d12_1) rfl rfl) ?_
 show o_Gs p e below _ s₁ m 2 #[.val (.ref r0), .val (.ref r1), .val (.ref q_a), .val (.int 3)] [(.ref q_a), (.int 3)]
 obtain ⟨cl93, Ar93, qa93, sa93, na93, ha93, ga93⟩ := id V_a
 refine o_go (X0.arraylength hx (by rw [e0]; exact Ar93.1) (State.isArrayOf_alike hZ.alike Ar93.2.1) (g := (mkF m 2 #[.val (.ref r0), .val (.ref r1), .val (.ref q_a), .val (.int 3)] [(.ref q_a), (.int 3)])) rfl rfl (hb hby o_d12_2)) ?_
 rw [len_of sa93 (by decide)]
 show o_Gs p e below _ s₁ m 3 #[.val (.ref r0), .val (.ref r1), .val (.ref q_a), .val (.int 3)] [(.int 10), (.int 3)]
 have hd94 : ¬ ((3 : Int32) = (10 : Int32)) := (by decide)
 refine o_gi (XS.icmpYes X0.here hx rfl (pc0 := 3) (pc' := 11) rfl (hb hby o_d12_3) rfl (feq hd94).2 (by decide) (by decide)) ?_
 refine o_gi (XS.aloadN X0.here hx rfl (hb hby o_d12_11) rfl rfl) ?_
 refine o_gi (XS.iloadN X0.here hx rfl (hb hby o_d12_12) rfl) ?_
 refine o_gi (XS.aloadN X0.here hx rfl (hb hby o_d12_13) rfl rfl) ?_
 show o_Gs p e below _ s₁ m 14 #[.val (.ref r0), .val (.ref r1), .val (.ref q_a), .val (.int 3)] [(.ref r1), (.int 3), (.ref q_a)]
 obtain ⟨cl95, Ar95, qa95, sa95, na95, ha95, ga95⟩ := id V_a
 obtain ⟨T95, h95, X95, e95, W95, st95⟩ := stR X0 hx hZ e0 Ar95 (j := (3 : Int32)) (inb_of sa95 ⟨by decide, by decide⟩) rfl (Sto.of Ar95 (by rw [qa95]; exact O_a) (Ins.of_exa E_r1 (hw _ o_t107))) (g := (mkF m 14 #[.val (.ref r0), .val (.ref r1), .val (.ref q_a), .val (.int 3)] [(.ref r1), (.int 3), (.ref q_a)])) rfl rfl (hb hby o_d12_14)
 have V95 : Arv Z h95 q_a k_a (.object "java/lang/Object") (10 : Int32) [(.ref u0), (.ref u1), (.ref u2), (.ref r1), .null, .null, .null, .null, .null, .null] .null := Arv.set Ar95 qa95 sa95 na95 ha95 ga95 rfl W95 3 rfl (Nat.le_of_ble_eq_true rfl)
 have N95 := Fr.snoc X95 N0 g_q_a
 refine o_go st95 ?_
 refine o_gi (XS.aloadN X95.here hx rfl (hb hby o_d12_15) rfl rfl) ?_
 refine o_gi (XS.iloadN X95.here hx rfl (hb hby o_d12_16) rfl) ?_
 refine o_gi (XS.iconst X95.here hx rfl (hb hby o_d12_17)) ?_
 show o_Gs p e below _ T95 m 18 #[.val (.ref r0), .val (.ref r1), .val (.ref q_a), .val (.int 3)] [(.int 1), (.int 3), (.ref r0)]
 refine o_gi (XS.iadd X95.here hx rfl (hb hby o_d12_18) rfl) ?_
 show o_Gs p e below _ T95 m 19 #[.val (.ref r0), .val (.ref r1), .val (.ref q_a), .val (.int 3)] [(.int ((3 : Int32) + (1 : Int32))), (.ref r0)]
 rw [show ((3 : Int32) + (1 : Int32)) = (4 : Int32) from by decide]
 show o_Gs p e below _ T95 m 19 #[.val (.ref r0), .val (.ref r1), .val (.ref q_a), .val (.int 3)] [(.int 4), (.ref r0)]
 have ff97 : Fld Z h95 r0 "java/util/ArrayList" "size" "I" (.int 3) := (F_z.other W95 (Or.inl ne_r0_q_a))
 obtain ⟨T96, h96, X96, e96, W96, st96⟩ := putF X95 hx hZ hown (host := "") (Or.inl (hw _ o_t84)) Via.refl e95 ff97 (E_r0.wr W95) (Or.inl (hw _ o_t85)) (hw _ o_t43) (ty := .int) (by decide) rfl rfl (g := (mkF m 19 #[.val (.ref r0), .val (.ref r1), .val (.ref q_a), .val (.int 3)] [(.int 4), (.ref r0)])) rfl rfl (hb hby o_d12_19)
 have N96 := Fr.snoc X96 N95 g_r0
 have Fw96 := ff97.same W96
 refine o_go st96 ?_
 show o_Gs p e below _ T96 m 22 #[.val (.ref r0), .val (.ref r1), .val (.ref q_a), .val (.int 3)] []
 have ff98 : Fld Z h96 r0 "java/util/AbstractList" "modCount" "I" (.int 4) := ((F_m.other W95 (Or.inl ne_r0_q_a)).other W96 (Or.inr (slot_ne (Or.inl (hw _ o_t62)) (Or.inl (hw _ o_t85)) (by decide) (t := .int) (t' := .int) (by decide) (by decide))))
 have ff99 : Fld Z h96 r0 "java/util/ArrayList" "elementData" "[Ljava/lang/Object;" (.ref q_a) := ((F_e.other W95 (Or.inl ne_r0_q_a)).other W96 (Or.inr (slot_ne (Or.inl (hw _ o_t65)) (Or.inl (hw _ o_t85)) (by decide) (t := (.array (.object "java/lang/Object"))) (t' := .int) (by decide) (by decide))))
 have ff100 : Arv Z h96 q_a k_a (.object "java/lang/Object") (10 : Int32) [(.ref u0), (.ref u1), (.ref u2), (.ref r1), .null, .null, .null, .null, .null, .null] .null := (V95.other W96 (Ne.symm ne_r0_q_a))
 exact o_ret0 X96 hx hlk hret (hb hby o_d12_22) (by decide) (by decide) (by show o_Q12_3 Z r0 r1 q_a k_a u0 u1 u2 h0 n0 _ T96.heap _; rw [e96]; exact ⟨rfl, N96, (((Keep.refl h0 ([r0, q_a] : List Addr)).wr W95 (Or.inl (List.mem_of_getElem? (i := 1) rfl))).wr W96 (Or.inl (List.mem_of_getElem? (i := 0) rfl))), ((E_r0.wr W95).wr W96), ff98, ff99, Fw96, ff100, O_a⟩)
def o_Q11_3 (Z : State) (r0 : Addr) (r1 : Addr) (q_a : Addr) (k_a : ClassId) (u0 : Addr) (u1 : Addr) (u2 : Addr) (h0 : Heap) (n0 : Nat) (v : Option Value) (h : Heap) (L : List Loc) : Prop := v = some (.int 1) ∧ Fr n0 L ∧ Keep h0 h [r0, q_a] ∧ Exa Z h r0 "java/util/ArrayList" ∧ Fld Z h r0 "java/util/AbstractList" "modCount" "I" (.int 4) ∧ Fld Z h r0 "java/util/ArrayList" "elementData" "[Ljava/lang/Object;" (.ref q_a) ∧ Fld Z h r0 "java/util/ArrayList" "size" "I" (.int 4) ∧ Arv Z h q_a k_a (.object "java/lang/Object") (10 : Int32) [(.ref u0), (.ref u1), (.ref u2), (.ref r1), .null, .null, .null, .null, .null, .null] .null ∧ Ovr Z k_a "java/lang/Object"
abbrev o_R11_3 : Room := { frames := 1, cells := 0, slots := 0, locals := 15 }
theorem o_ef11_3 (m : MethodId) (z0 : Addr) (z1 : Addr) : entryFrame m #[(.ref z0), (.ref z1)] 2 = mkF m 0 #[.val (.ref z0), .val (.ref z1)] [] := by first | (simp [entryFrame, mkF, argsToLocals, Value.category]; done) | rfl
set_option maxRecDepth 65536 in
set_option maxHeartbeats 40000000 in
theorem rm11_3 (l : Launch) (Z : State) (a0 : Array Value) (hw : ∀ d ∈ tables_1, d.before a0 Z = true) (ws : List Jvm.Cond) (r0 : Addr) (r1 : Addr) (q_a : Addr) (k_a : ClassId) (u0 : Addr) (u1 : Addr) (u2 : Addr) (h0 : Heap) (n0 : Nat) (Z0 : n0 ≤ h0.size) (g_r0 : n0 ≤ r0) (g_q_a : n0 ≤ q_a) (E_r0 : Exa Z h0 r0 "java/util/ArrayList") (E_r1 : Exa Z h0 r1 "java/lang/Integer") (F_m : Fld Z h0 r0 "java/util/AbstractList" "modCount" "I" (.int 3)) (F_e : Fld Z h0 r0 "java/util/ArrayList" "elementData" "[Ljava/lang/Object;" (.ref q_a)) (F_z : Fld Z h0 r0 "java/util/ArrayList" "size" "I" (.int 3)) (V_a : Arv Z h0 q_a k_a (.object "java/lang/Object") (10 : Int32) [(.ref u0), (.ref u1), (.ref u2), .null, .null, .null, .null, .null, .null, .null] .null) (O_a : Ovr Z k_a "java/lang/Object") (ne_r0_q_a : r0 ≠ q_a) : o_Met l Z (⟨"java/util/ArrayList", "add", "(Ljava/lang/Object;)Z"⟩ : MethodName) jdk_38_method_25_code 2 (some .boolean) ws o_R11_3 #[(.ref r0), (.ref r1)] h0 (o_Q11_3 Z r0 r1 q_a k_a u0 u1 u2 h0 n0) := by
 refine o_met (plainFor_of_name o_pn3) ?_
 intro p e s m below meth c s₁ hx hby hml hown hnm hret hlk hZ e0 X0
 have N0 := Fr.nil n0
 have hml : c.maxLocals = 2 := hml
 have hown : s.vm.findClass "java/util/ArrayList" = some m.cls := hown
 have hret : meth.sig.returnType = (some .boolean) := hret
 have hby : c.code = jdk_38_method_25_code := hby
 have hnm : meth.name = "add" := hnm
 rw [o_ef11_3]
 refine o_gi (XS.aloadN X0.here hx rfl (hb hby o_d11_0) rfl rfl) ?_
 refine o_gi (XS.dup X0.here hx rfl (hb hby o_d11_1) rfl rfl) ?_
 show o_Gs p e below _ s₁ m 2 #[.val (.ref r0), .val (.ref r1)] [(.ref r0), (.ref r0)]
 obtain ⟨T101, X101, e101, st101⟩ := getF X0 hx hZ hown (host := "") (Or.inl (hw _ o_t82)) (Via.of (hw _ o_t83)) e0 F_m (g := (mkF m 2 #[.val (.ref r0), .val (.ref r1)] [(.ref r0), (.ref r0)])) rfl rfl (hb hby o_d11_2)
 refine o_go st101 ?_
 refine o_gi (XS.iconst X101.here hx rfl (hb hby o_d11_5)) ?_
 show o_Gs p e below _ T101 m 6 #[.val (.ref r0), .val (.ref r1)] [(.int 1), (.int 3), (.ref r0)]
 refine o_gi (XS.iadd X101.here hx rfl (hb hby o_d11_6) rfl) ?_
 show o_Gs p e below _ T101 m 7 #[.val (.ref r0), .val (.ref r1)] [(.int ((3 : Int32) + (1 : Int32))), (.ref r0)]
 rw [show ((3 : Int32) + (1 : Int32)) = (4 : Int32) from by decide]
 show o_Gs p e below _ T101 m 7 #[.val (.ref r0), .val (.ref r1)] [(.int 4), (.ref r0)]
 obtain ⟨T102, h102, X102, e102, W102, st102⟩ := putF X101 hx hZ hown (host := "") (Or.inl (hw _ o_t82)) (Via.of (hw _ o_t83)) e101 F_m E_r0 (Or.inl (hw _ o_t62)) (hw _ o_t43) (ty := .int) (by decide) rfl rfl (g := (mkF m 7 #[.val (.ref r0), .val (.ref r1)] [(.int 4), (.ref r0)])) rfl rfl (hb hby o_d11_7)
 have N102 := Fr.snoc X102 N0 g_r0
 have Fw102 := F_m.same W102
 refine o_go st102 ?_
 refine o_gi (XS.aloadN X102.here hx rfl (hb hby o_d11_10) rfl rfl) ?_
 refine o_gi (XS.aloadN X102.here hx rfl (hb hby o_d11_11) rfl rfl) ?_
 refine o_gi (XS.aloadN X102.here hx rfl (hb hby o_d11_12) rfl rfl) ?_
 show o_Gs p e below _ T102 m 13 #[.val (.ref r0), .val (.ref r1)] [(.ref r0), (.ref r1), (.ref r0)]
 have ff104 : Fld Z h102 r0 "java/util/ArrayList" "elementData" "[Ljava/lang/Object;" (.ref q_a) := (F_e.other W102 (Or.inr (slot_ne (Or.inl (hw _ o_t65)) (Or.inl (hw _ o_t62)) (by decide) (t := (.array (.object "java/lang/Object"))) (t' := .int) (by decide) (by decide))))
 obtain ⟨T103, X103, e103, st103⟩ := getF X102 hx hZ hown (host := "") (Or.inl (hw _ o_t64)) Via.refl e102 ff104 (g := (mkF m 13 #[.val (.ref r0), .val (.ref r1)] [(.ref r0), (.ref r1), (.ref r0)])) rfl rfl (hb hby o_d11_13)
 refine o_go st103 ?_
 refine o_gi (XS.aloadN X103.here hx rfl (hb hby o_d11_16) rfl rfl) ?_
 show o_Gs p e below _ T103 m 17 #[.val (.ref r0), .val (.ref r1)] [(.ref r0), (.ref q_a), (.ref r1), (.ref r0)]
 have ff106 : Fld Z h102 r0 "java/util/ArrayList" "size" "I" (.int 3) := (F_z.other W102 (Or.inr (slot_ne (Or.inl (hw _ o_t85)) (Or.inl (hw _ o_t62)) (by decide) (t := .int) (t' := .int) (by decide) (by decide))))
 obtain ⟨T105, X105, e105, st105⟩ := getF X103 hx hZ hown (host := "") (Or.inl (hw _ o_t84)) Via.refl e103 ff106 (g := (mkF m 17 #[.val (.ref r0), .val (.ref r1)] [(.ref r0), (.ref q_a), (.ref r1), (.ref r0)])) rfl rfl (hb hby o_d11_17)
 refine o_go st105 ?_
 show o_Gs p e below _ T105 m 20 #[.val (.ref r0), .val (.ref r1)] [(.int 3), (.ref q_a), (.ref r1), (.ref r0)]
 have ff108 : Arv Z h102 q_a k_a (.object "java/lang/Object") (10 : Int32) [(.ref u0), (.ref u1), (.ref u2), .null, .null, .null, .null, .null, .null, .null] .null := (V_a.other W102 (Ne.symm ne_r0_q_a))
 obtain ⟨_, T107, L107, X107, ⟨rfl, N107q, K107, G107_0, G107_1, G107_2, G107_3, G107_4, G107_5⟩, st107⟩ := o_callP X105 hx hZ hown (hw _ o_t86) (hw _ o_t88) (hw _ o_t43) (hw _ o_t87) (hw _ o_t44) (hw _ o_t90) (by decide) (b := r0) (as := [(.ref r1), (.ref q_a), (.int 3)]) (rm12_3 l Z a0 hw [] r0 r1 q_a k_a u0 u1 u2 h102 n0 (Nat.le_trans Z0 (Keep.of_wr W102).1) g_r0 g_q_a (E_r0.wr W102) (E_r1.wr W102) Fw102 ff104 ff106 ff108 O_a ne_r0_q_a) e105 (E_r0.wr W102) o_pd4 rfl (pc := 20) (Ls := #[.val (.ref r0), .val (.ref r1)]) (rest := []) (W := 0) (by rw [hml]; rfl) (Nat.le_of_eq rfl) (by decide) (by decide) (hb hby o_d11_20) (by decide) (by decide)
 have N107 := Fr.app N102 N107q
 refine o_go st107 ?_
 refine o_gi (XS.iconst X107.here hx rfl (hb hby o_d11_23)) ?_
 show o_Gs p e below _ T107 m 24 #[.val (.ref r0), .val (.ref r1)] [(.int 1)]
 exact o_retN X107 hx hlk hret (by simp) (z' := (1 : Int32)) rfl (hb hby o_d11_24) (by decide) (by decide) (⟨rfl, N107, (((Keep.refl h0 ([r0, q_a] : List Addr)).wr W102 (Or.inl (List.mem_of_getElem? (i := 0) rfl))).trans K107 (allS (P := fun x => x ∈ ([r0, q_a] : List Addr) ∨ h0.size ≤ x) (Or.inl (List.mem_of_getElem? (i := 0) rfl)) (allS (P := fun x => x ∈ ([r0, q_a] : List Addr) ∨ h0.size ≤ x) (Or.inl (List.mem_of_getElem? (i := 1) rfl)) all0))), G107_0, G107_1, G107_2, G107_3, G107_4, G107_5⟩)
def o_Q12_4 (Z : State) (r0 : Addr) (r1 : Addr) (q_a : Addr) (k_a : ClassId) (u0 : Addr) (u1 : Addr) (u2 : Addr) (u3 : Addr) (h0 : Heap) (n0 : Nat) (v : Option Value) (h : Heap) (L : List Loc) : Prop := v = none ∧ Fr n0 L ∧ Keep h0 h [r0, q_a] ∧ Exa Z h r0 "java/util/ArrayList" ∧ Fld Z h r0 "java/util/AbstractList" "modCount" "I" (.int 5) ∧ Fld Z h r0 "java/util/ArrayList" "elementData" "[Ljava/lang/Object;" (.ref q_a) ∧ Fld Z h r0 "java/util/ArrayList" "size" "I" (.int 5) ∧ Arv Z h q_a k_a (.object "java/lang/Object") (10 : Int32) [(.ref u0), (.ref u1), (.ref u2), (.ref u3), (.ref r1), .null, .null, .null, .null, .null] .null ∧ Ovr Z k_a "java/lang/Object"
abbrev o_R12_4 : Room := { frames := 0, cells := 0, slots := 0, locals := 0 }
theorem o_ef12_4 (m : MethodId) (z0 : Addr) (z1 : Addr) (z2 : Addr) : entryFrame m #[(.ref z0), (.ref z1), (.ref z2), (.int 4)] 4 = mkF m 0 #[.val (.ref z0), .val (.ref z1), .val (.ref z2), .val (.int 4)] [] := by first | (simp [entryFrame, mkF, argsToLocals, Value.category]; done) | rfl
set_option maxRecDepth 65536 in
set_option maxHeartbeats 40000000 in
theorem rm12_4 (l : Launch) (Z : State) (a0 : Array Value) (hw : ∀ d ∈ tables_1, d.before a0 Z = true) (ws : List Jvm.Cond) (r0 : Addr) (r1 : Addr) (q_a : Addr) (k_a : ClassId) (u0 : Addr) (u1 : Addr) (u2 : Addr) (u3 : Addr) (h0 : Heap) (n0 : Nat) (Z0 : n0 ≤ h0.size) (g_r0 : n0 ≤ r0) (g_q_a : n0 ≤ q_a) (E_r0 : Exa Z h0 r0 "java/util/ArrayList") (E_r1 : Exa Z h0 r1 "java/lang/Integer") (F_m : Fld Z h0 r0 "java/util/AbstractList" "modCount" "I" (.int 5)) (F_e : Fld Z h0 r0 "java/util/ArrayList" "elementData" "[Ljava/lang/Object;" (.ref q_a)) (F_z : Fld Z h0 r0 "java/util/ArrayList" "size" "I" (.int 4)) (V_a : Arv Z h0 q_a k_a (.object "java/lang/Object") (10 : Int32) [(.ref u0), (.ref u1), (.ref u2), (.ref u3), .null, .null, .null, .null, .null, .null] .null) (O_a : Ovr Z k_a "java/lang/Object") (ne_r0_q_a : r0 ≠ q_a) : o_Met l Z (⟨"java/util/ArrayList", "add", "(Ljava/lang/Object;[Ljava/lang/Object;I)V"⟩ : MethodName) jdk_38_method_24_code 4 none ws o_R12_4 #[(.ref r0), (.ref r1), (.ref q_a), (.int 4)] h0 (o_Q12_4 Z r0 r1 q_a k_a u0 u1 u2 u3 h0 n0) := by
 refine o_met (plainFor_of_name o_pn3) ?_
 intro p e s m below meth c s₁ hx hby hml hown hnm hret hlk hZ e0 X0
 have N0 := Fr.nil n0
 have hml : c.maxLocals = 4 := hml
 have hown : s.vm.findClass "java/util/ArrayList" = some m.cls := hown
 have hret : meth.sig.returnType = none := hret
 have hby : c.code = jdk_38_method_24_code := hby
 have hnm : meth.name = "add" := hnm
 rw [o_ef12_4]
 refine o_gi (XS.iloadN X0.here hx rfl (hb hby o_d12_0) rfl) ?_
 refine o_gi (XS.aloadN X0.here hx rfl (hb hby o_d12_1) rfl rfl) ?_
 show o_Gs p e below _ s₁ m 2 #[.val (.ref r0), .val (.ref r1), .val (.ref q_a), .val (.int 4)] [(.ref q_a), (.int 4)]
 obtain ⟨cl109, Ar109, qa109, sa109, na109, ha109, ga109⟩ := id V_a
 refine o_go (X0.arraylength hx (by rw [e0]; exact Ar109.1) (State.isArrayOf_alike hZ.alike Ar109.2.1) (g := (mkF m 2 #[.val (.ref r0), .val (.ref r1), .val (.ref q_a), .val (.int 4)] [(.ref q_a), (.int 4)])) rfl rfl (hb hby o_d12_2)) ?_
 rw [len_of sa109 (by decide)]
 show o_Gs p e below _ s₁ m 3 #[.val (.ref r0), .val (.ref r1), .val (.ref q_a), .val (.int 4)] [(.int 10), (.int 4)]
 have hd110 : ¬ ((4 : Int32) = (10 : Int32)) := (by decide)
 refine o_gi (XS.icmpYes X0.here hx rfl (pc0 := 3) (pc' := 11) rfl (hb hby o_d12_3) rfl (feq hd110).2 (by decide) (by decide)) ?_
 refine o_gi (XS.aloadN X0.here hx rfl (hb hby o_d12_11) rfl rfl) ?_
 refine o_gi (XS.iloadN X0.here hx rfl (hb hby o_d12_12) rfl) ?_
 refine o_gi (XS.aloadN X0.here hx rfl (hb hby o_d12_13) rfl rfl) ?_
 show o_Gs p e below _ s₁ m 14 #[.val (.ref r0), .val (.ref r1), .val (.ref q_a), .val (.int 4)] [(.ref r1), (.int 4), (.ref q_a)]
 obtain ⟨cl111, Ar111, qa111, sa111, na111, ha111, ga111⟩ := id V_a
 obtain ⟨T111, h111, X111, e111, W111, st111⟩ := stR X0 hx hZ e0 Ar111 (j := (4 : Int32)) (inb_of sa111 ⟨by decide, by decide⟩) rfl (Sto.of Ar111 (by rw [qa111]; exact O_a) (Ins.of_exa E_r1 (hw _ o_t107))) (g := (mkF m 14 #[.val (.ref r0), .val (.ref r1), .val (.ref q_a), .val (.int 4)] [(.ref r1), (.int 4), (.ref q_a)])) rfl rfl (hb hby o_d12_14)
 have V111 : Arv Z h111 q_a k_a (.object "java/lang/Object") (10 : Int32) [(.ref u0), (.ref u1), (.ref u2), (.ref u3), (.ref r1), .null, .null, .null, .null, .null] .null := Arv.set Ar111 qa111 sa111 na111 ha111 ga111 rfl W111 4 rfl (Nat.le_of_ble_eq_true rfl)
 have N111 := Fr.snoc X111 N0 g_q_a
 refine o_go st111 ?_
 refine o_gi (XS.aloadN X111.here hx rfl (hb hby o_d12_15) rfl rfl) ?_
 refine o_gi (XS.iloadN X111.here hx rfl (hb hby o_d12_16) rfl) ?_
 refine o_gi (XS.iconst X111.here hx rfl (hb hby o_d12_17)) ?_
 show o_Gs p e below _ T111 m 18 #[.val (.ref r0), .val (.ref r1), .val (.ref q_a), .val (.int 4)] [(.int 1), (.int 4), (.ref r0)]
 refine o_gi (XS.iadd X111.here hx rfl (hb hby o_d12_18) rfl) ?_
 show o_Gs p e below _ T111 m 19 #[.val (.ref r0), .val (.ref r1), .val (.ref q_a), .val (.int 4)] [(.int ((4 : Int32) + (1 : Int32))), (.ref r0)]
 rw [show ((4 : Int32) + (1 : Int32)) = (5 : Int32) from by decide]
 show o_Gs p e below _ T111 m 19 #[.val (.ref r0), .val (.ref r1), .val (.ref q_a), .val (.int 4)] [(.int 5), (.ref r0)]
 have ff113 : Fld Z h111 r0 "java/util/ArrayList" "size" "I" (.int 4) := (F_z.other W111 (Or.inl ne_r0_q_a))
 obtain ⟨T112, h112, X112, e112, W112, st112⟩ := putF X111 hx hZ hown (host := "") (Or.inl (hw _ o_t84)) Via.refl e111 ff113 (E_r0.wr W111) (Or.inl (hw _ o_t85)) (hw _ o_t43) (ty := .int) (by decide) rfl rfl (g := (mkF m 19 #[.val (.ref r0), .val (.ref r1), .val (.ref q_a), .val (.int 4)] [(.int 5), (.ref r0)])) rfl rfl (hb hby o_d12_19)
 have N112 := Fr.snoc X112 N111 g_r0
 have Fw112 := ff113.same W112
 refine o_go st112 ?_
 show o_Gs p e below _ T112 m 22 #[.val (.ref r0), .val (.ref r1), .val (.ref q_a), .val (.int 4)] []
 have ff114 : Fld Z h112 r0 "java/util/AbstractList" "modCount" "I" (.int 5) := ((F_m.other W111 (Or.inl ne_r0_q_a)).other W112 (Or.inr (slot_ne (Or.inl (hw _ o_t62)) (Or.inl (hw _ o_t85)) (by decide) (t := .int) (t' := .int) (by decide) (by decide))))
 have ff115 : Fld Z h112 r0 "java/util/ArrayList" "elementData" "[Ljava/lang/Object;" (.ref q_a) := ((F_e.other W111 (Or.inl ne_r0_q_a)).other W112 (Or.inr (slot_ne (Or.inl (hw _ o_t65)) (Or.inl (hw _ o_t85)) (by decide) (t := (.array (.object "java/lang/Object"))) (t' := .int) (by decide) (by decide))))
 have ff116 : Arv Z h112 q_a k_a (.object "java/lang/Object") (10 : Int32) [(.ref u0), (.ref u1), (.ref u2), (.ref u3), (.ref r1), .null, .null, .null, .null, .null] .null := (V111.other W112 (Ne.symm ne_r0_q_a))
 exact o_ret0 X112 hx hlk hret (hb hby o_d12_22) (by decide) (by decide) (by show o_Q12_4 Z r0 r1 q_a k_a u0 u1 u2 u3 h0 n0 _ T112.heap _; rw [e112]; exact ⟨rfl, N112, (((Keep.refl h0 ([r0, q_a] : List Addr)).wr W111 (Or.inl (List.mem_of_getElem? (i := 1) rfl))).wr W112 (Or.inl (List.mem_of_getElem? (i := 0) rfl))), ((E_r0.wr W111).wr W112), ff114, ff115, Fw112, ff116, O_a⟩)
def o_Q11_4 (Z : State) (r0 : Addr) (r1 : Addr) (q_a : Addr) (k_a : ClassId) (u0 : Addr) (u1 : Addr) (u2 : Addr) (u3 : Addr) (h0 : Heap) (n0 : Nat) (v : Option Value) (h : Heap) (L : List Loc) : Prop := v = some (.int 1) ∧ Fr n0 L ∧ Keep h0 h [r0, q_a] ∧ Exa Z h r0 "java/util/ArrayList" ∧ Fld Z h r0 "java/util/AbstractList" "modCount" "I" (.int 5) ∧ Fld Z h r0 "java/util/ArrayList" "elementData" "[Ljava/lang/Object;" (.ref q_a) ∧ Fld Z h r0 "java/util/ArrayList" "size" "I" (.int 5) ∧ Arv Z h q_a k_a (.object "java/lang/Object") (10 : Int32) [(.ref u0), (.ref u1), (.ref u2), (.ref u3), (.ref r1), .null, .null, .null, .null, .null] .null ∧ Ovr Z k_a "java/lang/Object"
abbrev o_R11_4 : Room := { frames := 1, cells := 0, slots := 0, locals := 15 }
theorem o_ef11_4 (m : MethodId) (z0 : Addr) (z1 : Addr) : entryFrame m #[(.ref z0), (.ref z1)] 2 = mkF m 0 #[.val (.ref z0), .val (.ref z1)] [] := by first | (simp [entryFrame, mkF, argsToLocals, Value.category]; done) | rfl
set_option maxRecDepth 65536 in
set_option maxHeartbeats 40000000 in
theorem rm11_4 (l : Launch) (Z : State) (a0 : Array Value) (hw : ∀ d ∈ tables_1, d.before a0 Z = true) (ws : List Jvm.Cond) (r0 : Addr) (r1 : Addr) (q_a : Addr) (k_a : ClassId) (u0 : Addr) (u1 : Addr) (u2 : Addr) (u3 : Addr) (h0 : Heap) (n0 : Nat) (Z0 : n0 ≤ h0.size) (g_r0 : n0 ≤ r0) (g_q_a : n0 ≤ q_a) (E_r0 : Exa Z h0 r0 "java/util/ArrayList") (E_r1 : Exa Z h0 r1 "java/lang/Integer") (F_m : Fld Z h0 r0 "java/util/AbstractList" "modCount" "I" (.int 4)) (F_e : Fld Z h0 r0 "java/util/ArrayList" "elementData" "[Ljava/lang/Object;" (.ref q_a)) (F_z : Fld Z h0 r0 "java/util/ArrayList" "size" "I" (.int 4)) (V_a : Arv Z h0 q_a k_a (.object "java/lang/Object") (10 : Int32) [(.ref u0), (.ref u1), (.ref u2), (.ref u3), .null, .null, .null, .null, .null, .null] .null) (O_a : Ovr Z k_a "java/lang/Object") (ne_r0_q_a : r0 ≠ q_a) : o_Met l Z (⟨"java/util/ArrayList", "add", "(Ljava/lang/Object;)Z"⟩ : MethodName) jdk_38_method_25_code 2 (some .boolean) ws o_R11_4 #[(.ref r0), (.ref r1)] h0 (o_Q11_4 Z r0 r1 q_a k_a u0 u1 u2 u3 h0 n0) := by
 refine o_met (plainFor_of_name o_pn3) ?_
 intro p e s m below meth c s₁ hx hby hml hown hnm hret hlk hZ e0 X0
 have N0 := Fr.nil n0
 have hml : c.maxLocals = 2 := hml
 have hown : s.vm.findClass "java/util/ArrayList" = some m.cls := hown
 have hret : meth.sig.returnType = (some .boolean) := hret
 have hby : c.code = jdk_38_method_25_code := hby
 have hnm : meth.name = "add" := hnm
 rw [o_ef11_4]
 refine o_gi (XS.aloadN X0.here hx rfl (hb hby o_d11_0) rfl rfl) ?_
 refine o_gi (XS.dup X0.here hx rfl (hb hby o_d11_1) rfl rfl) ?_
 show o_Gs p e below _ s₁ m 2 #[.val (.ref r0), .val (.ref r1)] [(.ref r0), (.ref r0)]
 obtain ⟨T117, X117, e117, st117⟩ := getF X0 hx hZ hown (host := "") (Or.inl (hw _ o_t82)) (Via.of (hw _ o_t83)) e0 F_m (g := (mkF m 2 #[.val (.ref r0), .val (.ref r1)] [(.ref r0), (.ref r0)])) rfl rfl (hb hby o_d11_2)
 refine o_go st117 ?_
 refine o_gi (XS.iconst X117.here hx rfl (hb hby o_d11_5)) ?_
 show o_Gs p e below _ T117 m 6 #[.val (.ref r0), .val (.ref r1)] [(.int 1), (.int 4), (.ref r0)]
 refine o_gi (XS.iadd X117.here hx rfl (hb hby o_d11_6) rfl) ?_
 show o_Gs p e below _ T117 m 7 #[.val (.ref r0), .val (.ref r1)] [(.int ((4 : Int32) + (1 : Int32))), (.ref r0)]
 rw [show ((4 : Int32) + (1 : Int32)) = (5 : Int32) from by decide]
 show o_Gs p e below _ T117 m 7 #[.val (.ref r0), .val (.ref r1)] [(.int 5), (.ref r0)]
 obtain ⟨T118, h118, X118, e118, W118, st118⟩ := putF X117 hx hZ hown (host := "") (Or.inl (hw _ o_t82)) (Via.of (hw _ o_t83)) e117 F_m E_r0 (Or.inl (hw _ o_t62)) (hw _ o_t43) (ty := .int) (by decide) rfl rfl (g := (mkF m 7 #[.val (.ref r0), .val (.ref r1)] [(.int 5), (.ref r0)])) rfl rfl (hb hby o_d11_7)
 have N118 := Fr.snoc X118 N0 g_r0
 have Fw118 := F_m.same W118
 refine o_go st118 ?_
 refine o_gi (XS.aloadN X118.here hx rfl (hb hby o_d11_10) rfl rfl) ?_
 refine o_gi (XS.aloadN X118.here hx rfl (hb hby o_d11_11) rfl rfl) ?_
 refine o_gi (XS.aloadN X118.here hx rfl (hb hby o_d11_12) rfl rfl) ?_
 show o_Gs p e below _ T118 m 13 #[.val (.ref r0), .val (.ref r1)] [(.ref r0), (.ref r1), (.ref r0)]
 have ff120 : Fld Z h118 r0 "java/util/ArrayList" "elementData" "[Ljava/lang/Object;" (.ref q_a) := (F_e.other W118 (Or.inr (slot_ne (Or.inl (hw _ o_t65)) (Or.inl (hw _ o_t62)) (by decide) (t := (.array (.object "java/lang/Object"))) (t' := .int) (by decide) (by decide))))
 obtain ⟨T119, X119, e119, st119⟩ := getF X118 hx hZ hown (host := "") (Or.inl (hw _ o_t64)) Via.refl e118 ff120 (g := (mkF m 13 #[.val (.ref r0), .val (.ref r1)] [(.ref r0), (.ref r1), (.ref r0)])) rfl rfl (hb hby o_d11_13)
 refine o_go st119 ?_
 refine o_gi (XS.aloadN X119.here hx rfl (hb hby o_d11_16) rfl rfl) ?_
 show o_Gs p e below _ T119 m 17 #[.val (.ref r0), .val (.ref r1)] [(.ref r0), (.ref q_a), (.ref r1), (.ref r0)]
 have ff122 : Fld Z h118 r0 "java/util/ArrayList" "size" "I" (.int 4) := (F_z.other W118 (Or.inr (slot_ne (Or.inl (hw _ o_t85)) (Or.inl (hw _ o_t62)) (by decide) (t := .int) (t' := .int) (by decide) (by decide))))
 obtain ⟨T121, X121, e121, st121⟩ := getF X119 hx hZ hown (host := "") (Or.inl (hw _ o_t84)) Via.refl e119 ff122 (g := (mkF m 17 #[.val (.ref r0), .val (.ref r1)] [(.ref r0), (.ref q_a), (.ref r1), (.ref r0)])) rfl rfl (hb hby o_d11_17)
 refine o_go st121 ?_
 show o_Gs p e below _ T121 m 20 #[.val (.ref r0), .val (.ref r1)] [(.int 4), (.ref q_a), (.ref r1), (.ref r0)]
 have ff124 : Arv Z h118 q_a k_a (.object "java/lang/Object") (10 : Int32) [(.ref u0), (.ref u1), (.ref u2), (.ref u3), .null, .null, .null, .null, .null, .null] .null := (V_a.other W118 (Ne.symm ne_r0_q_a))
 obtain ⟨_, T123, L123, X123, ⟨rfl, N123q, K123, G123_0, G123_1, G123_2, G123_3, G123_4, G123_5⟩, st123⟩ := o_callP X121 hx hZ hown (hw _ o_t86) (hw _ o_t88) (hw _ o_t43) (hw _ o_t87) (hw _ o_t44) (hw _ o_t90) (by decide) (b := r0) (as := [(.ref r1), (.ref q_a), (.int 4)]) (rm12_4 l Z a0 hw [] r0 r1 q_a k_a u0 u1 u2 u3 h118 n0 (Nat.le_trans Z0 (Keep.of_wr W118).1) g_r0 g_q_a (E_r0.wr W118) (E_r1.wr W118) Fw118 ff120 ff122 ff124 O_a ne_r0_q_a) e121 (E_r0.wr W118) o_pd4 rfl (pc := 20) (Ls := #[.val (.ref r0), .val (.ref r1)]) (rest := []) (W := 0) (by rw [hml]; rfl) (Nat.le_of_eq rfl) (by decide) (by decide) (hb hby o_d11_20) (by decide) (by decide)
 have N123 := Fr.app N118 N123q
 refine o_go st123 ?_
 refine o_gi (XS.iconst X123.here hx rfl (hb hby o_d11_23)) ?_
 show o_Gs p e below _ T123 m 24 #[.val (.ref r0), .val (.ref r1)] [(.int 1)]
 exact o_retN X123 hx hlk hret (by simp) (z' := (1 : Int32)) rfl (hb hby o_d11_24) (by decide) (by decide) (⟨rfl, N123, (((Keep.refl h0 ([r0, q_a] : List Addr)).wr W118 (Or.inl (List.mem_of_getElem? (i := 0) rfl))).trans K123 (allS (P := fun x => x ∈ ([r0, q_a] : List Addr) ∨ h0.size ≤ x) (Or.inl (List.mem_of_getElem? (i := 0) rfl)) (allS (P := fun x => x ∈ ([r0, q_a] : List Addr) ∨ h0.size ≤ x) (Or.inl (List.mem_of_getElem? (i := 1) rfl)) all0))), G123_0, G123_1, G123_2, G123_3, G123_4, G123_5⟩)
theorem o_d18_0 : decode jdk_38_method_8_code 0 = .ok (.aload_n 0, 1) := by decide +kernel
theorem o_d18_1 : decode jdk_38_method_8_code 1 = .ok (.getfield 48, 3) := by decide +kernel
theorem o_d18_4 : decode jdk_38_method_8_code 4 = .ok (.ireturn, 1) := by decide +kernel
def o_Q18 (r0 : Addr) (q_z : Int32) (h0 : Heap) (n0 : Nat) (v : Option Value) (h : Heap) (L : List Loc) : Prop := v = some (.int q_z) ∧ Fr n0 L ∧ h = h0
abbrev o_R18 : Room := { frames := 0, cells := 0, slots := 0, locals := 0 }
theorem o_ef18 (m : MethodId) (z0 : Addr) : entryFrame m #[(.ref z0)] 1 = mkF m 0 #[.val (.ref z0)] [] := by first | (simp [entryFrame, mkF, argsToLocals, Value.category]; done) | rfl
set_option maxRecDepth 65536 in
set_option maxHeartbeats 40000000 in
theorem rm18 (l : Launch) (Z : State) (a0 : Array Value) (hw : ∀ d ∈ tables_1, d.before a0 Z = true) (ws : List Jvm.Cond) (r0 : Addr) (q_z : Int32) (h0 : Heap) (n0 : Nat) (F_z : Fld Z h0 r0 "java/util/ArrayList" "size" "I" (.int q_z)) : o_Met l Z (⟨"java/util/ArrayList", "size", "()I"⟩ : MethodName) jdk_38_method_8_code 1 (some .int) ws o_R18 #[(.ref r0)] h0 (o_Q18 r0 q_z h0 n0) := by
 refine o_met (plainFor_of_name o_pn3) ?_
 intro p e s m below meth c s₁ hx hby hml hown hnm hret hlk hZ e0 X0
 have N0 := Fr.nil n0
 have hml : c.maxLocals = 1 := hml
 have hown : s.vm.findClass "java/util/ArrayList" = some m.cls := hown
 have hret : meth.sig.returnType = (some .int) := hret
 have hby : c.code = jdk_38_method_8_code := hby
 have hnm : meth.name = "size" := hnm
 rw [o_ef18]
 refine o_gi (XS.aloadN X0.here hx rfl (hb hby o_d18_0) rfl rfl) ?_
 show o_Gs p e below _ s₁ m 1 #[.val (.ref r0)] [(.ref r0)]
 obtain ⟨T125, X125, e125, st125⟩ := getF X0 hx hZ hown (host := "") (Or.inl (hw _ o_t84)) Via.refl e0 F_z (g := (mkF m 1 #[.val (.ref r0)] [(.ref r0)])) rfl rfl (hb hby o_d18_1)
 refine o_go st125 ?_
 show o_Gs p e below _ T125 m 4 #[.val (.ref r0)] [(.int q_z)]
 exact o_retI X125 hx hlk hret (hb hby o_d18_4) (by decide) (by decide) ⟨rfl, N0, e125⟩
theorem o_d21_0 : decode jdk_41_method_11_code 0 = .ok (.iload_n 0, 1) := by decide +kernel
theorem o_d21_1 : decode jdk_41_method_11_code 1 = .ok (.ifCond .lt 8, 3) := by decide +kernel
theorem o_d21_4 : decode jdk_41_method_11_code 4 = .ok (.iload_n 0, 1) := by decide +kernel
theorem o_d21_5 : decode jdk_41_method_11_code 5 = .ok (.iload_n 1, 1) := by decide +kernel
theorem o_d21_6 : decode jdk_41_method_11_code 6 = .ok (.if_icmp .lt 10, 3) := by decide +kernel
theorem o_d21_16 : decode jdk_41_method_11_code 16 = .ok (.iload_n 0, 1) := by decide +kernel
theorem o_pn4 : plainName "jdk/internal/util/Preconditions" = true := by first | (simp [plainName, overriddenIn]; done) | decide +kernel
theorem o_d21_17 : decode jdk_41_method_11_code 17 = .ok (.ireturn, 1) := by decide +kernel
def o_Q21 (x0 : Int32) (x1 : Int32) (h0 : Heap) (n0 : Nat) (v : Option Value) (h : Heap) (L : List Loc) : Prop := v = some (.int x0) ∧ Fr n0 L ∧ h = h0
abbrev o_R21 : Room := { frames := 0, cells := 0, slots := 0, locals := 0 }
theorem o_ef21 (m : MethodId) (z0 : Int32) (z1 : Int32) : entryFrame m #[(.int z0), (.int z1), .null] 3 = mkF m 0 #[.val (.int z0), .val (.int z1), .val .null] [] := by first | (simp [entryFrame, mkF, argsToLocals, Value.category]; done) | rfl
set_option maxRecDepth 65536 in
set_option maxHeartbeats 40000000 in
theorem rm21 (l : Launch) (Z : State) (a0 : Array Value) (hw : ∀ d ∈ tables_1, d.before a0 Z = true) (ws : List Jvm.Cond) (x0 : Int32) (x1 : Int32) (h0 : Heap) (n0 : Nat) (h1 : ¬ (x0 < (0 : Int32))) (h2 : x0 < x1) : o_Met l Z (⟨"jdk/internal/util/Preconditions", "checkIndex", "(IILjava/util/function/BiFunction;)I"⟩ : MethodName) jdk_41_method_11_code 3 (some .int) ws o_R21 #[(.int x0), (.int x1), .null] h0 (o_Q21 x0 x1 h0 n0) := by
 refine o_met (plainFor_of_name o_pn4) ?_
 intro p e s m below meth c s₁ hx hby hml hown hnm hret hlk hZ e0 X0
 have N0 := Fr.nil n0
 have hml : c.maxLocals = 3 := hml
 have hown : s.vm.findClass "jdk/internal/util/Preconditions" = some m.cls := hown
 have hret : meth.sig.returnType = (some .int) := hret
 have hby : c.code = jdk_41_method_11_code := hby
 have hnm : meth.name = "checkIndex" := hnm
 rw [o_ef21]
 refine o_gi (XS.iloadN X0.here hx rfl (hb hby o_d21_0) rfl) ?_
 show o_Gs p e below _ s₁ m 1 #[.val (.int x0), .val (.int x1), .val .null] [(.int x0)]
 have hd126 : ¬ (x0 < (0 : Int32)) := h1
 refine o_gi (XS.ifNo X0.here hx rfl (hb hby o_d21_1) rfl ((if0 _ _).trans (flt hd126).1)) ?_
 refine o_gi (XS.iloadN X0.here hx rfl (hb hby o_d21_4) rfl) ?_
 refine o_gi (XS.iloadN X0.here hx rfl (hb hby o_d21_5) rfl) ?_
 show o_Gs p e below _ s₁ m 6 #[.val (.int x0), .val (.int x1), .val .null] [(.int x1), (.int x0)]
 have hd127 : x0 < x1 := h2
 refine o_gi (XS.icmpYes X0.here hx rfl (pc0 := 6) (pc' := 16) rfl (hb hby o_d21_6) rfl (tlt hd127).1 (by decide) (by decide)) ?_
 refine o_gi (XS.iloadN X0.here hx rfl (hb hby o_d21_16) rfl) ?_
 show o_Gs p e below _ s₁ m 17 #[.val (.int x0), .val (.int x1), .val .null] [(.int x0)]
 exact o_retI X0 hx hlk hret (hb hby o_d21_17) (by decide) (by decide) ⟨rfl, N0, e0⟩
theorem o_d20_0 : decode jdk_31_method_17_code 0 = .ok (.iload_n 0, 1) := by decide +kernel
theorem o_d20_1 : decode jdk_31_method_17_code 1 = .ok (.iload_n 1, 1) := by decide +kernel
theorem o_d20_2 : decode jdk_31_method_17_code 2 = .ok (.aconst_null, 1) := by decide +kernel
theorem o_d20_3 : decode jdk_31_method_17_code 3 = .ok (.invokestatic 105, 3) := by decide +kernel
theorem o_t142 : (Jvm.Cond.methodLink "java/util/Objects" (105 : Nat) ({ cls := "jdk/internal/util/Preconditions", name := "checkIndex", desc := "(IILjava/util/function/BiFunction;)I" } : Jvm.MethodName)) ∈ tables_1 := List.mem_of_getElem? (i := 142) rfl
theorem o_pd5 : parseMethodDescriptor "(IILjava/util/function/BiFunction;)I" = some ⟨[.int, .int, (.object "java/util/function/BiFunction")], some .int⟩ := by decide +kernel
theorem o_t143 : (Jvm.Cond.static ({ cls := "jdk/internal/util/Preconditions", name := "checkIndex", desc := "(IILjava/util/function/BiFunction;)I" } : Jvm.MethodName)) ∈ tables_1 := List.mem_of_getElem? (i := 143) rfl
theorem o_t144 : (Jvm.Cond.initialized "jdk/internal/util/Preconditions") ∈ tables_1 := List.mem_of_getElem? (i := 144) rfl
theorem o_t145 : (Jvm.Cond.code ({ cls := "jdk/internal/util/Preconditions", name := "checkIndex", desc := "(IILjava/util/function/BiFunction;)I" } : Jvm.MethodName) jdk_41_method_11_code (3 : Nat) (Option.some Jvm.ClassFile.FieldType.int)) ∈ tables_1 := List.mem_of_getElem? (i := 145) rfl
theorem o_pn5 : plainName "java/util/Objects" = true := by first | (simp [plainName, overriddenIn]; done) | decide +kernel
theorem o_d20_6 : decode jdk_31_method_17_code 6 = .ok (.ireturn, 1) := by decide +kernel
def o_Q20 (x0 : Int32) (x1 : Int32) (h0 : Heap) (n0 : Nat) (v : Option Value) (h : Heap) (L : List Loc) : Prop := v = some (.int x0) ∧ Fr n0 L ∧ h = h0
abbrev o_R20 : Room := { frames := 1, cells := 0, slots := 0, locals := 14 }
theorem o_ef20 (m : MethodId) (z0 : Int32) (z1 : Int32) : entryFrame m #[(.int z0), (.int z1)] 2 = mkF m 0 #[.val (.int z0), .val (.int z1)] [] := by first | (simp [entryFrame, mkF, argsToLocals, Value.category]; done) | rfl
set_option maxRecDepth 65536 in
set_option maxHeartbeats 40000000 in
theorem rm20 (l : Launch) (Z : State) (a0 : Array Value) (hw : ∀ d ∈ tables_1, d.before a0 Z = true) (ws : List Jvm.Cond) (x0 : Int32) (x1 : Int32) (h0 : Heap) (n0 : Nat) (h1 : ¬ (x0 < (0 : Int32))) (h2 : x0 < x1) : o_Met l Z (⟨"java/util/Objects", "checkIndex", "(II)I"⟩ : MethodName) jdk_31_method_17_code 2 (some .int) ws o_R20 #[(.int x0), (.int x1)] h0 (o_Q20 x0 x1 h0 n0) := by
 refine o_met (plainFor_of_name o_pn5) ?_
 intro p e s m below meth c s₁ hx hby hml hown hnm hret hlk hZ e0 X0
 have N0 := Fr.nil n0
 have hml : c.maxLocals = 2 := hml
 have hown : s.vm.findClass "java/util/Objects" = some m.cls := hown
 have hret : meth.sig.returnType = (some .int) := hret
 have hby : c.code = jdk_31_method_17_code := hby
 have hnm : meth.name = "checkIndex" := hnm
 rw [o_ef20]
 refine o_gi (XS.iloadN X0.here hx rfl (hb hby o_d20_0) rfl) ?_
 refine o_gi (XS.iloadN X0.here hx rfl (hb hby o_d20_1) rfl) ?_
 refine o_gi (XS.aconstNull X0.here hx rfl (hb hby o_d20_2)) ?_
 show o_Gs p e below _ s₁ m 3 #[.val (.int x0), .val (.int x1)] [.null, (.int x1), (.int x0)]
 obtain ⟨_, T128, L128, X128, ⟨rfl, N128q, e128⟩, st128⟩ := o_callS X0 hx hZ hown (hw _ o_t142) (hw _ o_t143) (hw _ o_t144) (hw _ o_t145) (by decide) (as := [(.int x0), (.int x1), .null]) (rm21 l Z a0 hw [] x0 x1 h0 n0 h1 h2) e0 o_pd5 rfl (pc := 3) (Ls := #[.val (.int x0), .val (.int x1)]) (rest := []) (W := 0) (by rw [hml]; rfl) (Nat.le_of_eq rfl) (by decide) (by decide) (hb hby o_d20_3) (by decide) (by decide)
 have N128 := Fr.app N0 N128q
 refine o_go st128 ?_
 show o_Gs p e below _ T128 m 6 #[.val (.int x0), .val (.int x1)] [(.int x0)]
 exact o_retI X128 hx hlk hret (hb hby o_d20_6) (by decide) (by decide) ⟨rfl, N128, e128⟩
theorem o_d22_0 : decode jdk_38_method_18_code 0 = .ok (.aload_n 0, 1) := by decide +kernel
theorem o_d22_1 : decode jdk_38_method_18_code 1 = .ok (.getfield 9, 3) := by decide +kernel
theorem o_d22_4 : decode jdk_38_method_18_code 4 = .ok (.iload_n 1, 1) := by decide +kernel
theorem o_d22_5 : decode jdk_38_method_18_code 5 = .ok (.aaload, 1) := by decide +kernel
theorem o_d22_6 : decode jdk_38_method_18_code 6 = .ok (.areturn, 1) := by decide +kernel
def o_Q22 (r0 : Addr) (x1 : Int32) (q_a : Addr) (u : Addr) (h0 : Heap) (n0 : Nat) (v : Option Value) (h : Heap) (L : List Loc) : Prop := v = some (.ref u) ∧ Fr n0 L ∧ h = h0
abbrev o_R22 : Room := { frames := 0, cells := 0, slots := 0, locals := 0 }
theorem o_ef22 (m : MethodId) (z0 : Addr) (z1 : Int32) : entryFrame m #[(.ref z0), (.int z1)] 2 = mkF m 0 #[.val (.ref z0), .val (.int z1)] [] := by first | (simp [entryFrame, mkF, argsToLocals, Value.category]; done) | rfl
set_option maxRecDepth 65536 in
set_option maxHeartbeats 40000000 in
theorem rm22 (l : Launch) (Z : State) (a0 : Array Value) (hw : ∀ d ∈ tables_1, d.before a0 Z = true) (ws : List Jvm.Cond) (r0 : Addr) (x1 : Int32) (q_a : Addr) (cl_a : Cell) (u : Addr) (h0 : Heap) (n0 : Nat) (F_e : Fld Z h0 r0 "java/util/ArrayList" "elementData" "[Ljava/lang/Object;" (.ref q_a)) (A_a : Arr Z h0 q_a cl_a (.object "java/lang/Object")) (h_in : ¬ (x1 < 0 ∨ cl_a.slots.size ≤ x1.toNatClampNeg)) (t_a : cl_a.slots[x1.toNatClampNeg]? = some (.ref u)) : o_Met l Z (⟨"java/util/ArrayList", "elementData", "(I)Ljava/lang/Object;"⟩ : MethodName) jdk_38_method_18_code 2 (some (.object "java/lang/Object")) ws o_R22 #[(.ref r0), (.int x1)] h0 (o_Q22 r0 x1 q_a u h0 n0) := by
 refine o_met (plainFor_of_name o_pn3) ?_
 intro p e s m below meth c s₁ hx hby hml hown hnm hret hlk hZ e0 X0
 have N0 := Fr.nil n0
 have hml : c.maxLocals = 2 := hml
 have hown : s.vm.findClass "java/util/ArrayList" = some m.cls := hown
 have hret : meth.sig.returnType = (some (.object "java/lang/Object")) := hret
 have hby : c.code = jdk_38_method_18_code := hby
 have hnm : meth.name = "elementData" := hnm
 rw [o_ef22]
 refine o_gi (XS.aloadN X0.here hx rfl (hb hby o_d22_0) rfl rfl) ?_
 show o_Gs p e below _ s₁ m 1 #[.val (.ref r0), .val (.int x1)] [(.ref r0)]
 obtain ⟨T129, X129, e129, st129⟩ := getF X0 hx hZ hown (host := "") (Or.inl (hw _ o_t64)) Via.refl e0 F_e (g := (mkF m 1 #[.val (.ref r0), .val (.int x1)] [(.ref r0)])) rfl rfl (hb hby o_d22_1)
 refine o_go st129 ?_
 refine o_gi (XS.iloadN X129.here hx rfl (hb hby o_d22_4) rfl) ?_
 show o_Gs p e below _ T129 m 5 #[.val (.ref r0), .val (.int x1)] [(.int x1), (.ref q_a)]
 refine o_go (X129.aaload hx (j := x1) (v := (.ref u)) (by rw [e129]; exact A_a.1) (State.isArrayOf_alike hZ.alike A_a.2.1) rfl A_a.2.2 h_in t_a (g := (mkF m 5 #[.val (.ref r0), .val (.int x1)] [(.int x1), (.ref q_a)])) rfl rfl (hb hby o_d22_5)) ?_
 show o_Gs p e below _ T129 m 6 #[.val (.ref r0), .val (.int x1)] [(.ref u)]
 exact o_retR X129 hx hlk hret rfl rfl (hb hby o_d22_6) (by decide) (by decide) ⟨rfl, N0, e129⟩
theorem o_d19_0 : decode jdk_38_method_20_code 0 = .ok (.iload_n 1, 1) := by decide +kernel
theorem o_d19_1 : decode jdk_38_method_20_code 1 = .ok (.aload_n 0, 1) := by decide +kernel
theorem o_d19_2 : decode jdk_38_method_20_code 2 = .ok (.getfield 48, 3) := by decide +kernel
theorem o_d19_5 : decode jdk_38_method_20_code 5 = .ok (.invokestatic 118, 3) := by decide +kernel
theorem o_t138 : (Jvm.Cond.methodLink "java/util/ArrayList" (118 : Nat) ({ cls := "java/util/Objects", name := "checkIndex", desc := "(II)I" } : Jvm.MethodName)) ∈ tables_1 := List.mem_of_getElem? (i := 138) rfl
theorem o_t139 : (Jvm.Cond.static ({ cls := "java/util/Objects", name := "checkIndex", desc := "(II)I" } : Jvm.MethodName)) ∈ tables_1 := List.mem_of_getElem? (i := 139) rfl
theorem o_t140 : (Jvm.Cond.initialized "java/util/Objects") ∈ tables_1 := List.mem_of_getElem? (i := 140) rfl
theorem o_t141 : (Jvm.Cond.code ({ cls := "java/util/Objects", name := "checkIndex", desc := "(II)I" } : Jvm.MethodName) jdk_31_method_17_code (2 : Nat) (Option.some Jvm.ClassFile.FieldType.int)) ∈ tables_1 := List.mem_of_getElem? (i := 141) rfl
theorem o_d19_8 : decode jdk_38_method_20_code 8 = .ok (.pop, 1) := by decide +kernel
theorem o_d19_9 : decode jdk_38_method_20_code 9 = .ok (.aload_n 0, 1) := by decide +kernel
theorem o_d19_10 : decode jdk_38_method_20_code 10 = .ok (.iload_n 1, 1) := by decide +kernel
theorem o_d19_11 : decode jdk_38_method_20_code 11 = .ok (.invokevirtual 123, 3) := by decide +kernel
theorem o_t146 : (Jvm.Cond.methodLink "java/util/ArrayList" (123 : Nat) ({ cls := "java/util/ArrayList", name := "elementData", desc := "(I)Ljava/lang/Object;" } : Jvm.MethodName)) ∈ tables_1 := List.mem_of_getElem? (i := 146) rfl
theorem o_pd6 : parseMethodDescriptor "(I)Ljava/lang/Object;" = some ⟨[.int], some (.object "java/lang/Object")⟩ := by decide +kernel
theorem o_t147 : (Jvm.Cond.declares ({ cls := "java/util/ArrayList", name := "elementData", desc := "(I)Ljava/lang/Object;" } : Jvm.MethodName)) ∈ tables_1 := List.mem_of_getElem? (i := 147) rfl
theorem o_t149 : (Jvm.Cond.selects "java/util/ArrayList" ({ cls := "java/util/ArrayList", name := "elementData", desc := "(I)Ljava/lang/Object;" } : Jvm.MethodName) ({ cls := "java/util/ArrayList", name := "elementData", desc := "(I)Ljava/lang/Object;" } : Jvm.MethodName)) ∈ tables_1 := List.mem_of_getElem? (i := 149) rfl
theorem o_t148 : (Jvm.Cond.instanceMethod ({ cls := "java/util/ArrayList", name := "elementData", desc := "(I)Ljava/lang/Object;" } : Jvm.MethodName)) ∈ tables_1 := List.mem_of_getElem? (i := 148) rfl
theorem o_t150 : (Jvm.Cond.code ({ cls := "java/util/ArrayList", name := "elementData", desc := "(I)Ljava/lang/Object;" } : Jvm.MethodName) jdk_38_method_18_code (2 : Nat) (Option.some (Jvm.ClassFile.FieldType.object "java/lang/Object"))) ∈ tables_1 := List.mem_of_getElem? (i := 150) rfl
theorem o_d19_14 : decode jdk_38_method_20_code 14 = .ok (.areturn, 1) := by decide +kernel
def o_Q19 (r0 : Addr) (x1 : Int32) (q_z : Int32) (q_a : Addr) (u : Addr) (h0 : Heap) (n0 : Nat) (v : Option Value) (h : Heap) (L : List Loc) : Prop := v = some (.ref u) ∧ Fr n0 L ∧ h = h0
abbrev o_R19 : Room := { frames := 2, cells := 0, slots := 0, locals := 27 }
theorem o_ef19 (m : MethodId) (z0 : Addr) (z1 : Int32) : entryFrame m #[(.ref z0), (.int z1)] 2 = mkF m 0 #[.val (.ref z0), .val (.int z1)] [] := by first | (simp [entryFrame, mkF, argsToLocals, Value.category]; done) | rfl
set_option maxRecDepth 65536 in
set_option maxHeartbeats 40000000 in
theorem rm19 (l : Launch) (Z : State) (a0 : Array Value) (hw : ∀ d ∈ tables_1, d.before a0 Z = true) (ws : List Jvm.Cond) (r0 : Addr) (x1 : Int32) (q_z : Int32) (q_a : Addr) (cl_a : Cell) (u : Addr) (h0 : Heap) (n0 : Nat) (E_r0 : Exa Z h0 r0 "java/util/ArrayList") (F_e : Fld Z h0 r0 "java/util/ArrayList" "elementData" "[Ljava/lang/Object;" (.ref q_a)) (F_z : Fld Z h0 r0 "java/util/ArrayList" "size" "I" (.int q_z)) (h1 : ¬ (x1 < (0 : Int32))) (h2 : x1 < q_z) (A_a : Arr Z h0 q_a cl_a (.object "java/lang/Object")) (h_in : ¬ (x1 < 0 ∨ cl_a.slots.size ≤ x1.toNatClampNeg)) (t_a : cl_a.slots[x1.toNatClampNeg]? = some (.ref u)) : o_Met l Z (⟨"java/util/ArrayList", "get", "(I)Ljava/lang/Object;"⟩ : MethodName) jdk_38_method_20_code 2 (some (.object "java/lang/Object")) ws o_R19 #[(.ref r0), (.int x1)] h0 (o_Q19 r0 x1 q_z q_a u h0 n0) := by
 refine o_met (plainFor_of_name o_pn3) ?_
 intro p e s m below meth c s₁ hx hby hml hown hnm hret hlk hZ e0 X0
 have N0 := Fr.nil n0
 have hml : c.maxLocals = 2 := hml
 have hown : s.vm.findClass "java/util/ArrayList" = some m.cls := hown
 have hret : meth.sig.returnType = (some (.object "java/lang/Object")) := hret
 have hby : c.code = jdk_38_method_20_code := hby
 have hnm : meth.name = "get" := hnm
 rw [o_ef19]
 refine o_gi (XS.iloadN X0.here hx rfl (hb hby o_d19_0) rfl) ?_
 refine o_gi (XS.aloadN X0.here hx rfl (hb hby o_d19_1) rfl rfl) ?_
 show o_Gs p e below _ s₁ m 2 #[.val (.ref r0), .val (.int x1)] [(.ref r0), (.int x1)]
 obtain ⟨T130, X130, e130, st130⟩ := getF X0 hx hZ hown (host := "") (Or.inl (hw _ o_t84)) Via.refl e0 F_z (g := (mkF m 2 #[.val (.ref r0), .val (.int x1)] [(.ref r0), (.int x1)])) rfl rfl (hb hby o_d19_2)
 refine o_go st130 ?_
 show o_Gs p e below _ T130 m 5 #[.val (.ref r0), .val (.int x1)] [(.int q_z), (.int x1)]
 obtain ⟨_, T131, L131, X131, ⟨rfl, N131q, e131⟩, st131⟩ := o_callS X130 hx hZ hown (hw _ o_t138) (hw _ o_t139) (hw _ o_t140) (hw _ o_t141) (by decide) (as := [(.int x1), (.int q_z)]) (rm20 l Z a0 hw [] x1 q_z h0 n0 h1 h2) e130 o_pd1 rfl (pc := 5) (Ls := #[.val (.ref r0), .val (.int x1)]) (rest := []) (W := 0) (by rw [hml]; rfl) (Nat.le_of_eq rfl) (by decide) (by decide) (hb hby o_d19_5) (by decide) (by decide)
 have N131 := Fr.app N0 N131q
 refine o_go st131 ?_
 refine o_gi (XS.pop X131.here hx rfl (hb hby o_d19_8) rfl rfl) ?_
 refine o_gi (XS.aloadN X131.here hx rfl (hb hby o_d19_9) rfl rfl) ?_
 refine o_gi (XS.iloadN X131.here hx rfl (hb hby o_d19_10) rfl) ?_
 show o_Gs p e below _ T131 m 11 #[.val (.ref r0), .val (.int x1)] [(.int x1), (.ref r0)]
 obtain ⟨_, T132, L132, X132, ⟨rfl, N132q, e132⟩, st132⟩ := o_callV X131 hx hZ hown (hw _ o_t146) (hw _ o_t147) (hw _ o_t149) (hw _ o_t148) (hw _ o_t44) (hw _ o_t150) (by decide) (b := r0) (as := [(.int x1)]) (rm22 l Z a0 hw [] r0 x1 q_a cl_a u h0 n0 F_e A_a h_in t_a) e131 E_r0 o_pd6 rfl (pc := 11) (Ls := #[.val (.ref r0), .val (.int x1)]) (rest := []) (W := 0) (by rw [hml]; rfl) (Nat.le_of_eq rfl) (by decide) (by decide) (hb hby o_d19_11) (by decide) (by decide)
 have N132 := Fr.app N131 N132q
 refine o_go st132 ?_
 show o_Gs p e below _ T132 m 14 #[.val (.ref r0), .val (.int x1)] [(.ref u)]
 exact o_retR X132 hx hlk hret rfl rfl (hb hby o_d19_14) (by decide) (by decide) ⟨rfl, N132, e132⟩
def o_rest : Nat → List Int32 → List Int32
 | _, [] => []
 | i, c :: t => if c = (10 : Int32) then Int32.ofNat (i + 1) :: o_rest (i + 1) t else o_rest (i + 1) t
def o_ls (cs : List Int32) : List Int32 := (0 : Int32) :: o_rest 0 cs
theorem o_dropS {cs : List Int32} {i : Nat} (h : i < cs.length) : cs.drop i = cs.getD i 0 :: cs.drop (i + 1) := by
 rw [List.getD_eq_getElem?_getD, List.getElem?_eq_getElem h]; exact List.drop_eq_getElem_cons h
theorem o_ofn {n : Nat} (h : n ≤ 4) : (Int32.ofNat n).toInt = n := Int32.toInt_ofNat_of_lt (by omega)
theorem o_ltn {cs : List Int32} {i : Nat} {k : Int32} (hl : cs.length ≤ 4) (hk : k.toInt = i) (h : k < Int32.ofNat cs.length) : i < cs.length := by
 rw [Int32.lt_iff_toInt_lt, o_ofn hl] at h; omega
theorem o_gen {cs : List Int32} {i : Nat} {k : Int32} (hl : cs.length ≤ 4) (hk : k.toInt = i) (h : ¬ k < Int32.ofNat cs.length) : cs.drop i = [] := by
 rw [Int32.lt_iff_toInt_lt, o_ofn hl] at h; exact List.drop_eq_nil_of_le (by omega)
theorem o_ge4 {cs : List Int32} (hl : cs.length ≤ 4) : ¬ (4 : Int32) < Int32.ofNat cs.length := fun h => by
 have := o_ltn (i := 4) hl rfl h; omega
theorem o_r1 {cs ps : List Int32} {i : Nat} (hl : i < cs.length) (hc : cs.getD i 0 = (10 : Int32)) (h : o_ls cs = ps ++ o_rest i (cs.drop i)) : o_ls cs = (ps ++ [Int32.ofNat (i + 1)]) ++ o_rest (i + 1) (cs.drop (i + 1)) := by
 rw [h, o_dropS hl, o_rest, if_pos hc, List.append_assoc]; rfl
theorem o_r0 {cs ps : List Int32} {i : Nat} (hl : i < cs.length) (hc : ¬ cs.getD i 0 = (10 : Int32)) (h : o_ls cs = ps ++ o_rest i (cs.drop i)) : o_ls cs = ps ++ o_rest (i + 1) (cs.drop (i + 1)) := by
 rw [h, o_dropS hl, o_rest, if_neg hc]
theorem o_rE {cs ps : List Int32} {i : Nat} (hd : cs.drop i = []) (h : o_ls cs = ps ++ o_rest i (cs.drop i)) : o_ls cs = ps := by
 rw [h, hd, o_rest, List.append_nil]
theorem o_hwl {Z : State} {a0 : Array Value} (hw : ∀ d ∈ tables_1, d.before a0 Z = true) : ∀ d ∈ StrChars.Road.wordsLen, d.before a0 Z = true := fun d hd => hw d ((by decide +kernel : ∀ d ∈ StrChars.Road.wordsLen, d ∈ tables_1) d hd)
theorem o_hwc {Z : State} {a0 : Array Value} (hw : ∀ d ∈ tables_1, d.before a0 Z = true) : ∀ d ∈ StrChars.Road.wordsChN, d.before a0 Z = true := fun d hd => hw d ((by decide +kernel : ∀ d ∈ StrChars.Road.wordsChN, d ∈ tables_1) d hd)
def o_Q6 (Z : State) (r0 : Addr) (cs : List Int32) (h0 : Heap) (n0 : Nat) (v : Option Value) (h : Heap) (L : List Loc) : Prop := ∃ b : Addr, ∃ kb : ClassId, v = none ∧ Fr n0 L ∧ Keep h0 h [r0] ∧ h0.size ≤ b ∧ Exa Z h r0 "com/example/foothold/foothold/SourceFile" ∧ Fld Z h r0 "com/example/foothold/foothold/SourceFile" "lineStarts" "[I" (.ref b) ∧ Arv Z h b kb .int (Int32.ofNat (o_ls cs).length) ((o_ls cs).map Value.int) (.int 0)
abbrev o_R6 : Room := { frames := 6, cells := 3, slots := 18, locals := 100 }
abbrev o_P6 (Z : State) (a0 : Array Value) (r0 : Addr) (r1 : Addr) (r2 : Addr) (cl_e : Cell) (cl_c : Cell) (fm : Value) (t2 : Addr) (k2 : ClassId) (q_N : Int32) (q_vs : List Value) (cs : List Int32) (c_0 : Addr) (c_1 : Addr) (c_2 : Addr) (c_3 : Addr) (c_4 : Addr) (s_e : Addr) (x_hi : Int32) (s_c : Addr) (z_cs : Int32) (h0 : Heap) (n0 : Nat) : Prop := (∀ d ∈ tables_1, d.before a0 Z = true) ∧ (n0 ≤ h0.size) ∧ (n0 ≤ r0) ∧ (Old Z n0 h0) ∧ (Arr Z Z.heap s_e cl_e (.object "java/lang/Object")) ∧ (cl_e.slots.size = (0 : Int32).toNatClampNeg) ∧ (Arr Z Z.heap s_c cl_c (.object "java/lang/Integer")) ∧ (cl_c.slots.size = (256 : Int32).toNatClampNeg) ∧ (x_hi = (127 : Int32)) ∧ (cl_c.slots[(128 : Int32).toNatClampNeg]? = some (.ref c_0)) ∧ (Exa Z Z.heap c_0 "java/lang/Integer") ∧ (Fld Z Z.heap c_0 "java/lang/Integer" "value" "I" (.int 0)) ∧ (cl_c.slots[(129 : Int32).toNatClampNeg]? = some (.ref c_1)) ∧ (Exa Z Z.heap c_1 "java/lang/Integer") ∧ (Fld Z Z.heap c_1 "java/lang/Integer" "value" "I" (.int 1)) ∧ (cl_c.slots[(130 : Int32).toNatClampNeg]? = some (.ref c_2)) ∧ (Exa Z Z.heap c_2 "java/lang/Integer") ∧ (Fld Z Z.heap c_2 "java/lang/Integer" "value" "I" (.int 2)) ∧ (cl_c.slots[(131 : Int32).toNatClampNeg]? = some (.ref c_3)) ∧ (Exa Z Z.heap c_3 "java/lang/Integer") ∧ (Fld Z Z.heap c_3 "java/lang/Integer" "value" "I" (.int 3)) ∧ (cl_c.slots[(132 : Int32).toNatClampNeg]? = some (.ref c_4)) ∧ (Exa Z Z.heap c_4 "java/lang/Integer") ∧ (Fld Z Z.heap c_4 "java/lang/Integer" "value" "I" (.int 4)) ∧ (Sta Z Z.heap "jdk/internal/util/Preconditions" "SIOOBE_FORMATTER" "Ljava/util/function/BiFunction;" fm) ∧ (fm.isRef = true) ∧ (¬ z_cs = 0) ∧ (StrChars.Road.CodA cs 0 q_N q_vs) ∧ (∀ c ∈ cs, ¬ c < 0 ∧ ¬ (65535 : Int32) < c) ∧ (cs.length ≤ 4) ∧ (cs.length ≤ 4000) ∧ (r0 ≠ r2) ∧ (r0 ≠ t2) ∧ (Sta Z Z.heap "java/util/ArrayList" "DEFAULTCAPACITY_EMPTY_ELEMENTDATA" "[Ljava/lang/Object;" (.ref s_e)) ∧ (Sta Z Z.heap "java/lang/Integer$IntegerCache" "high" "I" (.int x_hi)) ∧ (Sta Z Z.heap "java/lang/Integer$IntegerCache" "cache" "[Ljava/lang/Integer;" (.ref s_c)) ∧ (Sta Z Z.heap "java/lang/String" "COMPACT_STRINGS" "Z" (.int z_cs))
abbrev o_X6 (Z : State) (p : Program) (s : State) (m : MethodId) (meth : Method) (c : Code) : Prop := (p.tables.exec = Jvm.exec) ∧ (c.code = prog_92_method_1_code) ∧ (c.maxLocals = 5) ∧ (s.vm.findClass "com/example/foothold/foothold/SourceFile" = some m.cls) ∧ (meth.sig.returnType = none) ∧ (meth.locks = false) ∧ (Z.Warmed39 s.vm) ∧ (meth.name = "<init>")
abbrev o_J6 (Z : State) (h0 : Heap) (n0 : Nat) (r0 : Addr) (r2 : Addr) (t2 : Addr) (k2 : ClassId) (q_N : Int32) (q_vs : List Value) (hh : Heap) (al : Addr) (q_a : Addr) (k_a : ClassId) (k_n : Int32) (k_l : List Value) : Prop := (n0 ≤ hh.size) ∧ (Old Z n0 hh) ∧ (Keep h0 hh [r0]) ∧ (n0 ≤ al) ∧ (n0 ≤ q_a) ∧ (h0.size ≤ al) ∧ (h0.size ≤ q_a) ∧ (r0 ≠ al) ∧ (r0 ≠ q_a) ∧ (r2 ≠ al) ∧ (r2 ≠ q_a) ∧ (t2 ≠ al) ∧ (t2 ≠ q_a) ∧ (al ≠ q_a) ∧ (Exa Z hh r0 "com/example/foothold/foothold/SourceFile") ∧ (Fld Z hh r0 "com/example/foothold/foothold/SourceFile" "lineStarts" "[I" .null) ∧ (Exa Z hh r2 "java/lang/String") ∧ (Fld Z hh r2 "java/lang/String" "value" "[B" (.ref t2)) ∧ (Fld Z hh r2 "java/lang/String" "coder" "B" (.int 0)) ∧ (Arv Z hh t2 k2 .byte q_N q_vs (.int 0)) ∧ (Exa Z hh al "java/util/ArrayList") ∧ (Fld Z hh al "java/util/AbstractList" "modCount" "I" (.int k_n)) ∧ (Fld Z hh al "java/util/ArrayList" "elementData" "[Ljava/lang/Object;" (.ref q_a)) ∧ (Fld Z hh al "java/util/ArrayList" "size" "I" (.int k_n)) ∧ (Arv Z hh q_a k_a (.object "java/lang/Object") (10 : Int32) k_l .null) ∧ (Ovr Z k_a "java/lang/Object")
abbrev o_A6 (Z : State) (a : Addr) (w : Int32) : Prop := Exa Z Z.heap a "java/lang/Integer" ∧ Fld Z Z.heap a "java/lang/Integer" "value" "I" (.int w)
theorem o_d6_76 : decode prog_92_method_1_code 76 = .ok (.aload_n 0, 1) := by decide +kernel
theorem o_d6_77 : decode prog_92_method_1_code 77 = .ok (.aload_n 3, 1) := by decide +kernel
theorem o_d6_78 : decode prog_92_method_1_code 78 = .ok (.invokeinterface 41 1, 5) := by decide +kernel
theorem o_t119 : (Jvm.Cond.methodLink "com/example/foothold/foothold/SourceFile" (41 : Nat) ({ cls := "java/util/List", name := "size", desc := "()I" } : Jvm.MethodName)) ∈ tables_1 := List.mem_of_getElem? (i := 119) rfl
theorem o_pd7 : parseMethodDescriptor "()I" = some ⟨[], some .int⟩ := by decide +kernel
theorem o_t120 : (Jvm.Cond.declares ({ cls := "java/util/List", name := "size", desc := "()I" } : Jvm.MethodName)) ∈ tables_1 := List.mem_of_getElem? (i := 120) rfl
theorem o_t121 : (Jvm.Cond.interfaceMethod "java/util/List" "java/util/List" "size" "()I") ∈ tables_1 := List.mem_of_getElem? (i := 121) rfl
theorem o_t122 : (Jvm.Cond.selects "java/util/ArrayList" ({ cls := "java/util/List", name := "size", desc := "()I" } : Jvm.MethodName) ({ cls := "java/util/ArrayList", name := "size", desc := "()I" } : Jvm.MethodName)) ∈ tables_1 := List.mem_of_getElem? (i := 122) rfl
theorem o_t123 : (Jvm.Cond.instanceMethod ({ cls := "java/util/ArrayList", name := "size", desc := "()I" } : Jvm.MethodName)) ∈ tables_1 := List.mem_of_getElem? (i := 123) rfl
theorem o_t124 : (Jvm.Cond.publicMethod ({ cls := "java/util/ArrayList", name := "size", desc := "()I" } : Jvm.MethodName)) ∈ tables_1 := List.mem_of_getElem? (i := 124) rfl
theorem o_t125 : (Jvm.Cond.unhidden "java/util/ArrayList" "size" "()I") ∈ tables_1 := List.mem_of_getElem? (i := 125) rfl
theorem o_t80 : (Jvm.Cond.castable "java/util/ArrayList" "java/util/List") ∈ tables_1 := List.mem_of_getElem? (i := 80) rfl
theorem o_t126 : (Jvm.Cond.code ({ cls := "java/util/ArrayList", name := "size", desc := "()I" } : Jvm.MethodName) jdk_38_method_8_code (1 : Nat) (Option.some Jvm.ClassFile.FieldType.int)) ∈ tables_1 := List.mem_of_getElem? (i := 126) rfl
theorem o_d6_83 : decode prog_92_method_1_code 83 = .ok (.newarray .int, 2) := by decide +kernel
theorem o_t127 : (Jvm.Cond.arrayClass Jvm.ClassFile.FieldType.int) ∈ tables_1 := List.mem_of_getElem? (i := 127) rfl
theorem o_d6_85 : decode prog_92_method_1_code 85 = .ok (.putfield 44, 3) := by decide +kernel
theorem o_t128 : (Jvm.Cond.fieldLink "com/example/foothold/foothold/SourceFile" (44 : Nat) "com/example/foothold/foothold/SourceFile" "lineStarts" "[I") ∈ tables_1 := List.mem_of_getElem? (i := 128) rfl
theorem o_t129 : (Jvm.Cond.laysFinal "com/example/foothold/foothold/SourceFile" "com/example/foothold/foothold/SourceFile" "lineStarts" "[I") ∈ tables_1 := List.mem_of_getElem? (i := 129) rfl
theorem o_t6 : (Jvm.Cond.instantiable "com/example/foothold/foothold/SourceFile" (3 : Nat)) ∈ tables_1 := List.mem_of_getElem? (i := 6) rfl
theorem o_d6_88 : decode prog_92_method_1_code 88 = .ok (.iconst 0, 1) := by decide +kernel
theorem o_d6_89 : decode prog_92_method_1_code 89 = .ok (.istore 4, 2) := by decide +kernel
theorem o_d6_91 : decode prog_92_method_1_code 91 = .ok (.iload 4, 2) := by decide +kernel
theorem o_d6_93 : decode prog_92_method_1_code 93 = .ok (.aload_n 0, 1) := by decide +kernel
theorem o_d6_94 : decode prog_92_method_1_code 94 = .ok (.getfield 44, 3) := by decide +kernel
theorem o_d6_97 : decode prog_92_method_1_code 97 = .ok (.arraylength, 1) := by decide +kernel
theorem o_d6_98 : decode prog_92_method_1_code 98 = .ok (.if_icmp .ge 30, 3) := by decide +kernel
theorem o_d6_101 : decode prog_92_method_1_code 101 = .ok (.aload_n 0, 1) := by decide +kernel
theorem o_d6_102 : decode prog_92_method_1_code 102 = .ok (.getfield 44, 3) := by decide +kernel
theorem o_d6_105 : decode prog_92_method_1_code 105 = .ok (.iload 4, 2) := by decide +kernel
theorem o_d6_107 : decode prog_92_method_1_code 107 = .ok (.aload_n 3, 1) := by decide +kernel
theorem o_d6_108 : decode prog_92_method_1_code 108 = .ok (.iload 4, 2) := by decide +kernel
theorem o_d6_110 : decode prog_92_method_1_code 110 = .ok (.invokeinterface 48 2, 5) := by decide +kernel
theorem o_t130 : (Jvm.Cond.methodLink "com/example/foothold/foothold/SourceFile" (48 : Nat) ({ cls := "java/util/List", name := "get", desc := "(I)Ljava/lang/Object;" } : Jvm.MethodName)) ∈ tables_1 := List.mem_of_getElem? (i := 130) rfl
theorem o_t131 : (Jvm.Cond.declares ({ cls := "java/util/List", name := "get", desc := "(I)Ljava/lang/Object;" } : Jvm.MethodName)) ∈ tables_1 := List.mem_of_getElem? (i := 131) rfl
theorem o_t132 : (Jvm.Cond.interfaceMethod "java/util/List" "java/util/List" "get" "(I)Ljava/lang/Object;") ∈ tables_1 := List.mem_of_getElem? (i := 132) rfl
theorem o_t133 : (Jvm.Cond.selects "java/util/ArrayList" ({ cls := "java/util/List", name := "get", desc := "(I)Ljava/lang/Object;" } : Jvm.MethodName) ({ cls := "java/util/ArrayList", name := "get", desc := "(I)Ljava/lang/Object;" } : Jvm.MethodName)) ∈ tables_1 := List.mem_of_getElem? (i := 133) rfl
theorem o_t134 : (Jvm.Cond.instanceMethod ({ cls := "java/util/ArrayList", name := "get", desc := "(I)Ljava/lang/Object;" } : Jvm.MethodName)) ∈ tables_1 := List.mem_of_getElem? (i := 134) rfl
theorem o_t135 : (Jvm.Cond.publicMethod ({ cls := "java/util/ArrayList", name := "get", desc := "(I)Ljava/lang/Object;" } : Jvm.MethodName)) ∈ tables_1 := List.mem_of_getElem? (i := 135) rfl
theorem o_t136 : (Jvm.Cond.unhidden "java/util/ArrayList" "get" "(I)Ljava/lang/Object;") ∈ tables_1 := List.mem_of_getElem? (i := 136) rfl
theorem o_t137 : (Jvm.Cond.code ({ cls := "java/util/ArrayList", name := "get", desc := "(I)Ljava/lang/Object;" } : Jvm.MethodName) jdk_38_method_20_code (2 : Nat) (Option.some (Jvm.ClassFile.FieldType.object "java/lang/Object"))) ∈ tables_1 := List.mem_of_getElem? (i := 137) rfl
theorem o_d6_115 : decode prog_92_method_1_code 115 = .ok (.checkcast 20, 3) := by decide +kernel
theorem o_t151 : (Jvm.Cond.classLink "com/example/foothold/foothold/SourceFile" (20 : Nat) "java/lang/Integer") ∈ tables_1 := List.mem_of_getElem? (i := 151) rfl
theorem o_d6_118 : decode prog_92_method_1_code 118 = .ok (.invokevirtual 52, 3) := by decide +kernel
theorem o_t153 : (Jvm.Cond.methodLink "com/example/foothold/foothold/SourceFile" (52 : Nat) ({ cls := "java/lang/Integer", name := "intValue", desc := "()I" } : Jvm.MethodName)) ∈ tables_1 := List.mem_of_getElem? (i := 153) rfl
theorem o_t154 : (Jvm.Cond.declares ({ cls := "java/lang/Integer", name := "intValue", desc := "()I" } : Jvm.MethodName)) ∈ tables_1 := List.mem_of_getElem? (i := 154) rfl
theorem o_t156 : (Jvm.Cond.selects "java/lang/Integer" ({ cls := "java/lang/Integer", name := "intValue", desc := "()I" } : Jvm.MethodName) ({ cls := "java/lang/Integer", name := "intValue", desc := "()I" } : Jvm.MethodName)) ∈ tables_1 := List.mem_of_getElem? (i := 156) rfl
theorem o_t155 : (Jvm.Cond.instanceMethod ({ cls := "java/lang/Integer", name := "intValue", desc := "()I" } : Jvm.MethodName)) ∈ tables_1 := List.mem_of_getElem? (i := 155) rfl
theorem o_t68 : (Jvm.Cond.initialized "java/lang/Integer") ∈ tables_1 := List.mem_of_getElem? (i := 68) rfl
theorem o_t157 : (Jvm.Cond.code ({ cls := "java/lang/Integer", name := "intValue", desc := "()I" } : Jvm.MethodName) jdk_33_method_27_code (1 : Nat) (Option.some Jvm.ClassFile.FieldType.int)) ∈ tables_1 := List.mem_of_getElem? (i := 157) rfl
theorem o_d6_121 : decode prog_92_method_1_code 121 = .ok (.iastore, 1) := by decide +kernel
theorem o_d6_122 : decode prog_92_method_1_code 122 = .ok (.iinc 4 1, 3) := by decide +kernel
theorem o_d6_125 : decode prog_92_method_1_code 125 = .ok (.goto (-34), 3) := by decide +kernel
theorem o_d6_128 : decode prog_92_method_1_code 128 = .ok (.return_, 1) := by decide +kernel
set_option maxRecDepth 65536 in
set_option maxHeartbeats 40000000 in
theorem o_t76_1 {l : Launch} {Z : State} {a0 : Array Value} {r0 : Addr} {r1 : Addr} {r2 : Addr} {cl_e : Cell} {cl_c : Cell} {fm : Value} {t2 : Addr} {k2 : ClassId} {q_N : Int32} {q_vs : List Value} {cs : List Int32} {c_0 : Addr} {c_1 : Addr} {c_2 : Addr} {c_3 : Addr} {c_4 : Addr} {s_e : Addr} {x_hi : Int32} {s_c : Addr} {z_cs : Int32} {h0 : Heap} {n0 : Nat} {p : Program} {s : State} {m : MethodId} {meth : Method} {c : Code} {e : Env} {below : List Frame} (hP : o_P6 Z a0 r0 r1 r2 cl_e cl_c fm t2 k2 q_N q_vs cs c_0 c_1 c_2 c_3 c_4 s_e x_hi s_c z_cs h0 n0) (hB : o_X6 Z p s m meth c) {T0 : State} {L0 : List Loc} {hh : Heap} (X0 : Stand p l e o_R6 s m #[(.ref r0), (.ref r1), (.ref r2)] below meth c T0 L0 2 13) (e0 : T0.heap = hh) (N0 : Fr n0 L0) {al q_a : Addr} {k_a : ClassId} {ad0 : Addr} {w0 : Int32} (hJ : o_J6 Z h0 n0 r0 r2 t2 k2 q_N q_vs hh al q_a k_a (1 : Int32) [(.ref ad0), .null, .null, .null, .null, .null, .null, .null, .null, .null]) (B0 : o_A6 Z ad0 w0) (sI : Slot) (hsI : One sI) (hls : o_ls cs = [w0]) : o_Goes p e below (o_End s o_R6 (o_Q6 Z r0 cs h0 n0)) (T0.setTop (mkF m 76 #[.val (.ref r0), .val (.ref r1), .val (.ref r2), .val (.ref al), sI] [])) := by
 obtain ⟨hw, Z0, g_r0, O0, A_e, z_e, A_c, z_c, h_hi, t_c0, E_c0, F_c0, t_c1, E_c1, F_c1, t_c2, E_c2, F_c2, t_c3, E_c3, F_c3, t_c4, E_c4, F_c4, S_fm, rf, z_CS, hcd, hbd, hl4, hl4', ne_r0_r2, ne_r0_t2, S_s_e, S_x_hi, S_s_c, S_z_cs⟩ := id hP
 obtain ⟨hx, hby, hml, hown, hret, hlk, hZ, hnm⟩ := id hB
 obtain ⟨Z1, O1, KK, g_al, g_q_a, sz_al, sz_q_a, ne_r0_al, ne_r0_q_a, ne_r2_al, ne_r2_q_a, ne_t2_al, ne_t2_q_a, ne_al_q_a, jE_r0, jF_l, jE_r2, jF_v, jF_c, jV_t, jE_al, jF_m, jF_e, jF_z, jV_a, jO_a⟩ := hJ
 refine o_gi (XS.aloadN X0.here hx rfl (hb hby o_d6_76) rfl rfl) ?_
 refine o_gi (XS.aloadN X0.here hx rfl (hb hby o_d6_77) rfl rfl) ?_
 show o_Gs p e below _ T0 m 78 #[.val (.ref r0), .val (.ref r1), .val (.ref r2), .val (.ref al), sI] [(.ref al), (.ref r0)]
 obtain ⟨_, T133, L133, X133, ⟨rfl, N133q, e133⟩, st133⟩ := o_callF X0 hx hZ hown (mvT hZ (hw _ o_t119)) (mvT hZ (hw _ o_t120)) (mvT hZ (hw _ o_t121)) (mvT hZ (hw _ o_t122)) (mvT hZ (hw _ o_t123)) (mvT hZ (hw _ o_t124)) (mvT hZ (hw _ o_t125)) (mvT hZ (hw _ o_t80)) (hw _ o_t44) (hw _ o_t126) (by decide) (b := al) (as := []) (rm18 l Z a0 hw [] al (1 : Int32) hh n0 jF_z) e0 jE_al o_pd7 rfl (pc := 78) (Ls := #[.val (.ref r0), .val (.ref r1), .val (.ref r2), .val (.ref al), sI]) (rest := [(.ref r0)]) (W := 1) (by rw [hml]; rfl) (Nat.le_of_eq rfl) (by decide) (by decide) (hb hby o_d6_78) (by decide) (by decide)
 have N133 := Fr.app N0 N133q
 refine o_go st133 ?_
 show o_Gs p e below _ T133 m 83 #[.val (.ref r0), .val (.ref r1), .val (.ref r2), .val (.ref al), sI] [(.int 1), (.ref r0)]
 obtain ⟨T134, h134, k134, X134, e134, E134, A134, st134⟩ := newP X133 hx hZ (aty := .int) (hw _ o_t127) e133 (g := (mkF m 83 #[.val (.ref r0), .val (.ref r1), .val (.ref r2), .val (.ref al), sI] [(.int 1), (.ref r0)])) rfl (hb hby o_d6_83) rfl (by decide) (cap := 1) (by decide) (by decide) (by decide) (by decide)
 obtain ⟨b134, q134⟩ : ∃ z, z = hh.size := ⟨_, rfl⟩
 rw [← q134] at A134 st134
 have lt_b134 : hh.size ≤ b134 := Nat.le_of_eq q134.symm
 have ne_r0_b134 : r0 ≠ b134 := Nat.ne_of_lt (Nat.lt_of_lt_of_le jE_r0.lt lt_b134)
 have ne_r2_b134 : r2 ≠ b134 := Nat.ne_of_lt (Nat.lt_of_lt_of_le jE_r2.lt lt_b134)
 have ne_t2_b134 : t2 ≠ b134 := Nat.ne_of_lt (Nat.lt_of_lt_of_le jV_t.lt lt_b134)
 have ne_al_b134 : al ≠ b134 := Nat.ne_of_lt (Nat.lt_of_lt_of_le jE_al.lt lt_b134)
 have ne_q_a_b134 : q_a ≠ b134 := Nat.ne_of_lt (Nat.lt_of_lt_of_le jV_a.lt lt_b134)
 have g_b134 : n0 ≤ b134 := Nat.le_trans Z1 lt_b134
 have sz_b134 : h0.size ≤ b134 := Nat.le_trans KK.1 lt_b134
 have V134 : Arv Z h134 b134 k134 .int 1 [(.int 0)] (.int 0) := (Arv.new A134 (by decide)).pad (pad_rep [] (.int 0) 1)
 refine o_go st134 ?_
 show o_Gs p e below _ T134 m 85 #[.val (.ref r0), .val (.ref r1), .val (.ref r2), .val (.ref al), sI] [(.ref b134), (.ref r0)]
 obtain ⟨T135, h135, X135, e135, W135, st135⟩ := putF X134 hx hZ hown (host := "") (Or.inl (hw _ o_t128)) Via.refl e134 (jF_l.ext E134) (jE_r0.ext E134) (Or.inr ⟨(hw _ o_t129), rfl, hnm⟩) (hw _ o_t6) (ty := (.array .int)) (by decide) rfl rfl (g := (mkF m 85 #[.val (.ref r0), .val (.ref r1), .val (.ref r2), .val (.ref al), sI] [(.ref b134), (.ref r0)])) rfl rfl (hb hby o_d6_85)
 have N135 := Fr.snoc X135 N133 g_r0
 have Fw135 := (jF_l.ext E134).same W135
 refine o_go st135 ?_
 refine o_gi (XS.iconst X135.here hx rfl (hb hby o_d6_88)) ?_
 refine o_gi (XS.istore X135.here hx rfl (hb hby o_d6_89) rfl (l' := #[.val (.ref r0), .val (.ref r1), .val (.ref r2), .val (.ref al), .val (.int 0)]) (XS.store1 (o := sI) rfl hsI rfl)) ?_
 refine o_gi (XS.iload X135.here hx rfl (hb hby o_d6_91) rfl) ?_
 refine o_gi (XS.aloadN X135.here hx rfl (hb hby o_d6_93) rfl rfl) ?_
 show o_Gs p e below _ T135 m 94 #[.val (.ref r0), .val (.ref r1), .val (.ref r2), .val (.ref al), .val (.int 0)] [(.ref r0), (.int 0)]
 obtain ⟨T136, X136, e136, st136⟩ := getF X135 hx hZ hown (host := "") (Or.inl (hw _ o_t128)) Via.refl e135 Fw135 (g := (mkF m 94 #[.val (.ref r0), .val (.ref r1), .val (.ref r2), .val (.ref al), .val (.int 0)] [(.ref r0), (.int 0)])) rfl rfl (hb hby o_d6_94)
 refine o_go st136 ?_
 show o_Gs p e below _ T136 m 97 #[.val (.ref r0), .val (.ref r1), .val (.ref r2), .val (.ref al), .val (.int 0)] [(.ref b134), (.int 0)]
 have ff137 : Arv Z h135 b134 k134 .int 1 [(.int 0)] (.int 0) := (V134.other W135 (Ne.symm ne_r0_b134))
 obtain ⟨cl138, Ar138, qa138, sa138, na138, ha138, ga138⟩ := id ff137
 refine o_go (X136.arraylength hx (by rw [e136]; exact Ar138.1) (State.isArrayOf_alike hZ.alike Ar138.2.1) (g := (mkF m 97 #[.val (.ref r0), .val (.ref r1), .val (.ref r2), .val (.ref al), .val (.int 0)] [(.ref b134), (.int 0)])) rfl rfl (hb hby o_d6_97)) ?_
 rw [len_of sa138 (by decide)]
 show o_Gs p e below _ T136 m 98 #[.val (.ref r0), .val (.ref r1), .val (.ref r2), .val (.ref al), .val (.int 0)] [(.int 1), (.int 0)]
 have hd139 : (0 : Int32) < (1 : Int32) := (by decide)
 refine o_gi (XS.icmpNo X136.here hx rfl (hb hby o_d6_98) rfl (tlt hd139).2.1) ?_
 refine o_gi (XS.aloadN X136.here hx rfl (hb hby o_d6_101) rfl rfl) ?_
 show o_Gs p e below _ T136 m 102 #[.val (.ref r0), .val (.ref r1), .val (.ref r2), .val (.ref al), .val (.int 0)] [(.ref r0)]
 obtain ⟨T140, X140, e140, st140⟩ := getF X136 hx hZ hown (host := "") (Or.inl (hw _ o_t128)) Via.refl e136 Fw135 (g := (mkF m 102 #[.val (.ref r0), .val (.ref r1), .val (.ref r2), .val (.ref al), .val (.int 0)] [(.ref r0)])) rfl rfl (hb hby o_d6_102)
 refine o_go st140 ?_
 refine o_gi (XS.iload X140.here hx rfl (hb hby o_d6_105) rfl) ?_
 refine o_gi (XS.aloadN X140.here hx rfl (hb hby o_d6_107) rfl rfl) ?_
 refine o_gi (XS.iload X140.here hx rfl (hb hby o_d6_108) rfl) ?_
 show o_Gs p e below _ T140 m 110 #[.val (.ref r0), .val (.ref r1), .val (.ref r2), .val (.ref al), .val (.int 0)] [(.int 0), (.ref al), (.int 0), (.ref b134)]
 have ff142 : Arv Z h135 q_a k_a (.object "java/lang/Object") (10 : Int32) [(.ref ad0), .null, .null, .null, .null, .null, .null, .null, .null, .null] .null := ((jV_a.ext E134).other W135 (Ne.symm ne_r0_q_a))
 obtain ⟨cl143, Ar143, qa143, sa143, na143, ha143, ga143⟩ := id ff142
 have ff144 : Fld Z h135 al "java/util/ArrayList" "elementData" "[Ljava/lang/Object;" (.ref q_a) := ((jF_e.ext E134).other W135 (Or.inl (Ne.symm ne_r0_al)))
 have ff145 : Fld Z h135 al "java/util/ArrayList" "size" "I" (.int 1) := ((jF_z.ext E134).other W135 (Or.inl (Ne.symm ne_r0_al)))
 obtain ⟨_, T141, L141, X141, ⟨rfl, N141q, e141⟩, st141⟩ := o_callF X140 hx hZ hown (mvT hZ (hw _ o_t130)) (mvT hZ (hw _ o_t131)) (mvT hZ (hw _ o_t132)) (mvT hZ (hw _ o_t133)) (mvT hZ (hw _ o_t134)) (mvT hZ (hw _ o_t135)) (mvT hZ (hw _ o_t136)) (mvT hZ (hw _ o_t80)) (hw _ o_t44) (hw _ o_t137) (by decide) (b := al) (as := [(.int 0)]) (rm19 l Z a0 hw [] al (0 : Int32) (1 : Int32) q_a cl143 ad0 h135 n0 ((jE_al.ext E134).wr W135) ff144 ff145 (by decide) (by decide) Ar143 (inb_of sa143 ⟨by decide, by decide⟩) (ha143 _ (by rw [sa143]; decide))) e140 ((jE_al.ext E134).wr W135) o_pd6 rfl (pc := 110) (Ls := #[.val (.ref r0), .val (.ref r1), .val (.ref r2), .val (.ref al), .val (.int 0)]) (rest := [(.int 0), (.ref b134)]) (W := 2) (by rw [hml]; rfl) (Nat.le_of_eq rfl) (by decide) (by decide) (hb hby o_d6_110) (by decide) (by decide)
 have N141 := Fr.app N135 N141q
 refine o_go st141 ?_
 show o_Gs p e below _ T141 m 115 #[.val (.ref r0), .val (.ref r1), .val (.ref r2), .val (.ref al), .val (.int 0)] [(.ref ad0), (.int 0), (.ref b134)]
 have oo147 : Old Z n0 h135 := ((O1.ext E134).wr W135 g_r0)
 obtain ⟨T146, X146, e146, st146⟩ := castY X141 hx hZ hown (hw _ o_t151) e141 (Ins.self (B0.1.ext oo147.2)) (g := (mkF m 115 #[.val (.ref r0), .val (.ref r1), .val (.ref r2), .val (.ref al), .val (.int 0)] [(.ref ad0), (.int 0), (.ref b134)])) rfl rfl (hb hby o_d6_115)
 refine o_go st146 ?_
 show o_Gs p e below _ T146 m 118 #[.val (.ref r0), .val (.ref r1), .val (.ref r2), .val (.ref al), .val (.int 0)] [(.ref ad0), (.int 0), (.ref b134)]
 obtain ⟨_, T148, L148, X148, ⟨rfl, N148q, e148⟩, st148⟩ := o_callV X146 hx hZ hown (hw _ o_t153) (hw _ o_t154) (hw _ o_t156) (hw _ o_t155) (hw _ o_t68) (hw _ o_t157) (by decide) (b := ad0) (as := []) (rm23 l Z a0 hw [] ad0 w0 h135 n0 (B0.2.ext oo147.2)) e146 (B0.1.ext oo147.2) o_pd7 rfl (pc := 118) (Ls := #[.val (.ref r0), .val (.ref r1), .val (.ref r2), .val (.ref al), .val (.int 0)]) (rest := [(.int 0), (.ref b134)]) (W := 2) (by rw [hml]; rfl) (Nat.le_of_eq rfl) (by decide) (by decide) (hb hby o_d6_118) (by decide) (by decide)
 have N148 := Fr.app N141 N148q
 refine o_go st148 ?_
 show o_Gs p e below _ T148 m 121 #[.val (.ref r0), .val (.ref r1), .val (.ref r2), .val (.ref al), .val (.int 0)] [(.int w0), (.int 0), (.ref b134)]
 obtain ⟨cl149, Ar149, qa149, sa149, na149, ha149, ga149⟩ := id ff137
 obtain ⟨T149, h149, X149, e149, W149, st149⟩ := stI X148 hx hZ e148 Ar149 (j := (0 : Int32)) (inb_of sa149 ⟨by decide, by decide⟩) (g := (mkF m 121 #[.val (.ref r0), .val (.ref r1), .val (.ref r2), .val (.ref al), .val (.int 0)] [(.int w0), (.int 0), (.ref b134)])) rfl rfl (hb hby o_d6_121)
 have V149 : Arv Z h149 b134 k134 .int 1 [(.int w0)] (.int 0) := Arv.set Ar149 qa149 sa149 na149 ha149 ga149 rfl W149 0 rfl (Nat.le_of_ble_eq_true rfl)
 have N149 := Fr.snoc X149 N148 g_b134
 refine o_go st149 ?_
 show o_Gs p e below _ T149 m 122 #[.val (.ref r0), .val (.ref r1), .val (.ref r2), .val (.ref al), .val (.int 0)] []
 refine o_gi (XS.iinc X149.here hx rfl (hb hby o_d6_122) rfl (l' := #[.val (.ref r0), .val (.ref r1), .val (.ref r2), .val (.ref al), .val (.int ((0 : Int32) + (1 : Int32)))]) rfl) ?_
 show o_Gs p e below _ T149 m 125 #[.val (.ref r0), .val (.ref r1), .val (.ref r2), .val (.ref al), .val (.int ((0 : Int32) + (1 : Int32)))] []
 rw [show ((0 : Int32) + (1 : Int32)) = (1 : Int32) from by decide]
 refine o_gi (XS.goto X149.here hx rfl (pc0 := 125) (pc' := 91) rfl (hb hby o_d6_125) (by decide) (by decide)) ?_
 refine o_gi (XS.iload X149.here hx rfl (hb hby o_d6_91) rfl) ?_
 refine o_gi (XS.aloadN X149.here hx rfl (hb hby o_d6_93) rfl rfl) ?_
 show o_Gs p e below _ T149 m 94 #[.val (.ref r0), .val (.ref r1), .val (.ref r2), .val (.ref al), .val (.int 1)] [(.ref r0), (.int 1)]
 have ff151 : Fld Z h149 r0 "com/example/foothold/foothold/SourceFile" "lineStarts" "[I" (.ref b134) := (Fw135.other W149 (Or.inl ne_r0_b134))
 obtain ⟨T150, X150, e150, st150⟩ := getF X149 hx hZ hown (host := "") (Or.inl (hw _ o_t128)) Via.refl e149 ff151 (g := (mkF m 94 #[.val (.ref r0), .val (.ref r1), .val (.ref r2), .val (.ref al), .val (.int 1)] [(.ref r0), (.int 1)])) rfl rfl (hb hby o_d6_94)
 refine o_go st150 ?_
 show o_Gs p e below _ T150 m 97 #[.val (.ref r0), .val (.ref r1), .val (.ref r2), .val (.ref al), .val (.int 1)] [(.ref b134), (.int 1)]
 obtain ⟨cl152, Ar152, qa152, sa152, na152, ha152, ga152⟩ := id V149
 refine o_go (X150.arraylength hx (by rw [e150]; exact Ar152.1) (State.isArrayOf_alike hZ.alike Ar152.2.1) (g := (mkF m 97 #[.val (.ref r0), .val (.ref r1), .val (.ref r2), .val (.ref al), .val (.int 1)] [(.ref b134), (.int 1)])) rfl rfl (hb hby o_d6_97)) ?_
 rw [len_of sa152 (by decide)]
 show o_Gs p e below _ T150 m 98 #[.val (.ref r0), .val (.ref r1), .val (.ref r2), .val (.ref al), .val (.int 1)] [(.int 1), (.int 1)]
 have hd153 : ¬ ((1 : Int32) < (1 : Int32)) := (by decide)
 refine o_gi (XS.icmpYes X150.here hx rfl (pc0 := 98) (pc' := 128) rfl (hb hby o_d6_98) rfl (flt hd153).2.1 (by decide) (by decide)) ?_
 show o_Gs p e below _ T150 m 128 #[.val (.ref r0), .val (.ref r1), .val (.ref r2), .val (.ref al), .val (.int 1)] []
 have ff154 : Exa Z h149 r0 "com/example/foothold/foothold/SourceFile" := (((jE_r0.ext E134).wr W135).wr W149)
 exact o_ret0 X150 hx hlk hret (hb hby o_d6_128) (by decide) (by decide) (by show o_Q6 Z r0 cs h0 n0 _ T150.heap _; rw [e150]; exact ⟨_, _, rfl, N149, (((KK.ext E134).wr W135 (Or.inl (List.mem_of_getElem? (i := 0) rfl))).wr W149 (Or.inr sz_b134)), sz_b134, ff154, ff151, by rw [hls]; exact V149⟩)
set_option maxRecDepth 65536 in
set_option maxHeartbeats 40000000 in
theorem o_t76_2 {l : Launch} {Z : State} {a0 : Array Value} {r0 : Addr} {r1 : Addr} {r2 : Addr} {cl_e : Cell} {cl_c : Cell} {fm : Value} {t2 : Addr} {k2 : ClassId} {q_N : Int32} {q_vs : List Value} {cs : List Int32} {c_0 : Addr} {c_1 : Addr} {c_2 : Addr} {c_3 : Addr} {c_4 : Addr} {s_e : Addr} {x_hi : Int32} {s_c : Addr} {z_cs : Int32} {h0 : Heap} {n0 : Nat} {p : Program} {s : State} {m : MethodId} {meth : Method} {c : Code} {e : Env} {below : List Frame} (hP : o_P6 Z a0 r0 r1 r2 cl_e cl_c fm t2 k2 q_N q_vs cs c_0 c_1 c_2 c_3 c_4 s_e x_hi s_c z_cs h0 n0) (hB : o_X6 Z p s m meth c) {T0 : State} {L0 : List Loc} {hh : Heap} (X0 : Stand p l e o_R6 s m #[(.ref r0), (.ref r1), (.ref r2)] below meth c T0 L0 2 13) (e0 : T0.heap = hh) (N0 : Fr n0 L0) {al q_a : Addr} {k_a : ClassId} {ad0 : Addr} {w0 : Int32} {ad1 : Addr} {w1 : Int32} (hJ : o_J6 Z h0 n0 r0 r2 t2 k2 q_N q_vs hh al q_a k_a (2 : Int32) [(.ref ad0), (.ref ad1), .null, .null, .null, .null, .null, .null, .null, .null]) (B0 : o_A6 Z ad0 w0) (B1 : o_A6 Z ad1 w1) (sI : Slot) (hsI : One sI) (hls : o_ls cs = [w0, w1]) : o_Goes p e below (o_End s o_R6 (o_Q6 Z r0 cs h0 n0)) (T0.setTop (mkF m 76 #[.val (.ref r0), .val (.ref r1), .val (.ref r2), .val (.ref al), sI] [])) := by
 obtain ⟨hw, Z0, g_r0, O0, A_e, z_e, A_c, z_c, h_hi, t_c0, E_c0, F_c0, t_c1, E_c1, F_c1, t_c2, E_c2, F_c2, t_c3, E_c3, F_c3, t_c4, E_c4, F_c4, S_fm, rf, z_CS, hcd, hbd, hl4, hl4', ne_r0_r2, ne_r0_t2, S_s_e, S_x_hi, S_s_c, S_z_cs⟩ := id hP
 obtain ⟨hx, hby, hml, hown, hret, hlk, hZ, hnm⟩ := id hB
 obtain ⟨Z1, O1, KK, g_al, g_q_a, sz_al, sz_q_a, ne_r0_al, ne_r0_q_a, ne_r2_al, ne_r2_q_a, ne_t2_al, ne_t2_q_a, ne_al_q_a, jE_r0, jF_l, jE_r2, jF_v, jF_c, jV_t, jE_al, jF_m, jF_e, jF_z, jV_a, jO_a⟩ := hJ
 refine o_gi (XS.aloadN X0.here hx rfl (hb hby o_d6_76) rfl rfl) ?_
 refine o_gi (XS.aloadN X0.here hx rfl (hb hby o_d6_77) rfl rfl) ?_
 show o_Gs p e below _ T0 m 78 #[.val (.ref r0), .val (.ref r1), .val (.ref r2), .val (.ref al), sI] [(.ref al), (.ref r0)]
 obtain ⟨_, T155, L155, X155, ⟨rfl, N155q, e155⟩, st155⟩ := o_callF X0 hx hZ hown (mvT hZ (hw _ o_t119)) (mvT hZ (hw _ o_t120)) (mvT hZ (hw _ o_t121)) (mvT hZ (hw _ o_t122)) (mvT hZ (hw _ o_t123)) (mvT hZ (hw _ o_t124)) (mvT hZ (hw _ o_t125)) (mvT hZ (hw _ o_t80)) (hw _ o_t44) (hw _ o_t126) (by decide) (b := al) (as := []) (rm18 l Z a0 hw [] al (2 : Int32) hh n0 jF_z) e0 jE_al o_pd7 rfl (pc := 78) (Ls := #[.val (.ref r0), .val (.ref r1), .val (.ref r2), .val (.ref al), sI]) (rest := [(.ref r0)]) (W := 1) (by rw [hml]; rfl) (Nat.le_of_eq rfl) (by decide) (by decide) (hb hby o_d6_78) (by decide) (by decide)
 have N155 := Fr.app N0 N155q
 refine o_go st155 ?_
 show o_Gs p e below _ T155 m 83 #[.val (.ref r0), .val (.ref r1), .val (.ref r2), .val (.ref al), sI] [(.int 2), (.ref r0)]
 obtain ⟨T156, h156, k156, X156, e156, E156, A156, st156⟩ := newP X155 hx hZ (aty := .int) (hw _ o_t127) e155 (g := (mkF m 83 #[.val (.ref r0), .val (.ref r1), .val (.ref r2), .val (.ref al), sI] [(.int 2), (.ref r0)])) rfl (hb hby o_d6_83) rfl (by decide) (cap := 2) (by decide) (by decide) (by decide) (by decide)
 obtain ⟨b156, q156⟩ : ∃ z, z = hh.size := ⟨_, rfl⟩
 rw [← q156] at A156 st156
 have lt_b156 : hh.size ≤ b156 := Nat.le_of_eq q156.symm
 have ne_r0_b156 : r0 ≠ b156 := Nat.ne_of_lt (Nat.lt_of_lt_of_le jE_r0.lt lt_b156)
 have ne_r2_b156 : r2 ≠ b156 := Nat.ne_of_lt (Nat.lt_of_lt_of_le jE_r2.lt lt_b156)
 have ne_t2_b156 : t2 ≠ b156 := Nat.ne_of_lt (Nat.lt_of_lt_of_le jV_t.lt lt_b156)
 have ne_al_b156 : al ≠ b156 := Nat.ne_of_lt (Nat.lt_of_lt_of_le jE_al.lt lt_b156)
 have ne_q_a_b156 : q_a ≠ b156 := Nat.ne_of_lt (Nat.lt_of_lt_of_le jV_a.lt lt_b156)
 have g_b156 : n0 ≤ b156 := Nat.le_trans Z1 lt_b156
 have sz_b156 : h0.size ≤ b156 := Nat.le_trans KK.1 lt_b156
 have V156 : Arv Z h156 b156 k156 .int 2 [(.int 0), (.int 0)] (.int 0) := (Arv.new A156 (by decide)).pad (pad_rep [] (.int 0) 2)
 refine o_go st156 ?_
 show o_Gs p e below _ T156 m 85 #[.val (.ref r0), .val (.ref r1), .val (.ref r2), .val (.ref al), sI] [(.ref b156), (.ref r0)]
 obtain ⟨T157, h157, X157, e157, W157, st157⟩ := putF X156 hx hZ hown (host := "") (Or.inl (hw _ o_t128)) Via.refl e156 (jF_l.ext E156) (jE_r0.ext E156) (Or.inr ⟨(hw _ o_t129), rfl, hnm⟩) (hw _ o_t6) (ty := (.array .int)) (by decide) rfl rfl (g := (mkF m 85 #[.val (.ref r0), .val (.ref r1), .val (.ref r2), .val (.ref al), sI] [(.ref b156), (.ref r0)])) rfl rfl (hb hby o_d6_85)
 have N157 := Fr.snoc X157 N155 g_r0
 have Fw157 := (jF_l.ext E156).same W157
 refine o_go st157 ?_
 refine o_gi (XS.iconst X157.here hx rfl (hb hby o_d6_88)) ?_
 refine o_gi (XS.istore X157.here hx rfl (hb hby o_d6_89) rfl (l' := #[.val (.ref r0), .val (.ref r1), .val (.ref r2), .val (.ref al), .val (.int 0)]) (XS.store1 (o := sI) rfl hsI rfl)) ?_
 refine o_gi (XS.iload X157.here hx rfl (hb hby o_d6_91) rfl) ?_
 refine o_gi (XS.aloadN X157.here hx rfl (hb hby o_d6_93) rfl rfl) ?_
 show o_Gs p e below _ T157 m 94 #[.val (.ref r0), .val (.ref r1), .val (.ref r2), .val (.ref al), .val (.int 0)] [(.ref r0), (.int 0)]
 obtain ⟨T158, X158, e158, st158⟩ := getF X157 hx hZ hown (host := "") (Or.inl (hw _ o_t128)) Via.refl e157 Fw157 (g := (mkF m 94 #[.val (.ref r0), .val (.ref r1), .val (.ref r2), .val (.ref al), .val (.int 0)] [(.ref r0), (.int 0)])) rfl rfl (hb hby o_d6_94)
 refine o_go st158 ?_
 show o_Gs p e below _ T158 m 97 #[.val (.ref r0), .val (.ref r1), .val (.ref r2), .val (.ref al), .val (.int 0)] [(.ref b156), (.int 0)]
 have ff159 : Arv Z h157 b156 k156 .int 2 [(.int 0), (.int 0)] (.int 0) := (V156.other W157 (Ne.symm ne_r0_b156))
 obtain ⟨cl160, Ar160, qa160, sa160, na160, ha160, ga160⟩ := id ff159
 refine o_go (X158.arraylength hx (by rw [e158]; exact Ar160.1) (State.isArrayOf_alike hZ.alike Ar160.2.1) (g := (mkF m 97 #[.val (.ref r0), .val (.ref r1), .val (.ref r2), .val (.ref al), .val (.int 0)] [(.ref b156), (.int 0)])) rfl rfl (hb hby o_d6_97)) ?_
 rw [len_of sa160 (by decide)]
 show o_Gs p e below _ T158 m 98 #[.val (.ref r0), .val (.ref r1), .val (.ref r2), .val (.ref al), .val (.int 0)] [(.int 2), (.int 0)]
 have hd161 : (0 : Int32) < (2 : Int32) := (by decide)
 refine o_gi (XS.icmpNo X158.here hx rfl (hb hby o_d6_98) rfl (tlt hd161).2.1) ?_
 refine o_gi (XS.aloadN X158.here hx rfl (hb hby o_d6_101) rfl rfl) ?_
 show o_Gs p e below _ T158 m 102 #[.val (.ref r0), .val (.ref r1), .val (.ref r2), .val (.ref al), .val (.int 0)] [(.ref r0)]
 obtain ⟨T162, X162, e162, st162⟩ := getF X158 hx hZ hown (host := "") (Or.inl (hw _ o_t128)) Via.refl e158 Fw157 (g := (mkF m 102 #[.val (.ref r0), .val (.ref r1), .val (.ref r2), .val (.ref al), .val (.int 0)] [(.ref r0)])) rfl rfl (hb hby o_d6_102)
 refine o_go st162 ?_
 refine o_gi (XS.iload X162.here hx rfl (hb hby o_d6_105) rfl) ?_
 refine o_gi (XS.aloadN X162.here hx rfl (hb hby o_d6_107) rfl rfl) ?_
 refine o_gi (XS.iload X162.here hx rfl (hb hby o_d6_108) rfl) ?_
 show o_Gs p e below _ T162 m 110 #[.val (.ref r0), .val (.ref r1), .val (.ref r2), .val (.ref al), .val (.int 0)] [(.int 0), (.ref al), (.int 0), (.ref b156)]
 have ff164 : Arv Z h157 q_a k_a (.object "java/lang/Object") (10 : Int32) [(.ref ad0), (.ref ad1), .null, .null, .null, .null, .null, .null, .null, .null] .null := ((jV_a.ext E156).other W157 (Ne.symm ne_r0_q_a))
 obtain ⟨cl165, Ar165, qa165, sa165, na165, ha165, ga165⟩ := id ff164
 have ff166 : Fld Z h157 al "java/util/ArrayList" "elementData" "[Ljava/lang/Object;" (.ref q_a) := ((jF_e.ext E156).other W157 (Or.inl (Ne.symm ne_r0_al)))
 have ff167 : Fld Z h157 al "java/util/ArrayList" "size" "I" (.int 2) := ((jF_z.ext E156).other W157 (Or.inl (Ne.symm ne_r0_al)))
 obtain ⟨_, T163, L163, X163, ⟨rfl, N163q, e163⟩, st163⟩ := o_callF X162 hx hZ hown (mvT hZ (hw _ o_t130)) (mvT hZ (hw _ o_t131)) (mvT hZ (hw _ o_t132)) (mvT hZ (hw _ o_t133)) (mvT hZ (hw _ o_t134)) (mvT hZ (hw _ o_t135)) (mvT hZ (hw _ o_t136)) (mvT hZ (hw _ o_t80)) (hw _ o_t44) (hw _ o_t137) (by decide) (b := al) (as := [(.int 0)]) (rm19 l Z a0 hw [] al (0 : Int32) (2 : Int32) q_a cl165 ad0 h157 n0 ((jE_al.ext E156).wr W157) ff166 ff167 (by decide) (by decide) Ar165 (inb_of sa165 ⟨by decide, by decide⟩) (ha165 _ (by rw [sa165]; decide))) e162 ((jE_al.ext E156).wr W157) o_pd6 rfl (pc := 110) (Ls := #[.val (.ref r0), .val (.ref r1), .val (.ref r2), .val (.ref al), .val (.int 0)]) (rest := [(.int 0), (.ref b156)]) (W := 2) (by rw [hml]; rfl) (Nat.le_of_eq rfl) (by decide) (by decide) (hb hby o_d6_110) (by decide) (by decide)
 have N163 := Fr.app N157 N163q
 refine o_go st163 ?_
 show o_Gs p e below _ T163 m 115 #[.val (.ref r0), .val (.ref r1), .val (.ref r2), .val (.ref al), .val (.int 0)] [(.ref ad0), (.int 0), (.ref b156)]
 have oo169 : Old Z n0 h157 := ((O1.ext E156).wr W157 g_r0)
 obtain ⟨T168, X168, e168, st168⟩ := castY X163 hx hZ hown (hw _ o_t151) e163 (Ins.self (B0.1.ext oo169.2)) (g := (mkF m 115 #[.val (.ref r0), .val (.ref r1), .val (.ref r2), .val (.ref al), .val (.int 0)] [(.ref ad0), (.int 0), (.ref b156)])) rfl rfl (hb hby o_d6_115)
 refine o_go st168 ?_
 show o_Gs p e below _ T168 m 118 #[.val (.ref r0), .val (.ref r1), .val (.ref r2), .val (.ref al), .val (.int 0)] [(.ref ad0), (.int 0), (.ref b156)]
 obtain ⟨_, T170, L170, X170, ⟨rfl, N170q, e170⟩, st170⟩ := o_callV X168 hx hZ hown (hw _ o_t153) (hw _ o_t154) (hw _ o_t156) (hw _ o_t155) (hw _ o_t68) (hw _ o_t157) (by decide) (b := ad0) (as := []) (rm23 l Z a0 hw [] ad0 w0 h157 n0 (B0.2.ext oo169.2)) e168 (B0.1.ext oo169.2) o_pd7 rfl (pc := 118) (Ls := #[.val (.ref r0), .val (.ref r1), .val (.ref r2), .val (.ref al), .val (.int 0)]) (rest := [(.int 0), (.ref b156)]) (W := 2) (by rw [hml]; rfl) (Nat.le_of_eq rfl) (by decide) (by decide) (hb hby o_d6_118) (by decide) (by decide)
 have N170 := Fr.app N163 N170q
 refine o_go st170 ?_
 show o_Gs p e below _ T170 m 121 #[.val (.ref r0), .val (.ref r1), .val (.ref r2), .val (.ref al), .val (.int 0)] [(.int w0), (.int 0), (.ref b156)]
 obtain ⟨cl171, Ar171, qa171, sa171, na171, ha171, ga171⟩ := id ff159
 obtain ⟨T171, h171, X171, e171, W171, st171⟩ := stI X170 hx hZ e170 Ar171 (j := (0 : Int32)) (inb_of sa171 ⟨by decide, by decide⟩) (g := (mkF m 121 #[.val (.ref r0), .val (.ref r1), .val (.ref r2), .val (.ref al), .val (.int 0)] [(.int w0), (.int 0), (.ref b156)])) rfl rfl (hb hby o_d6_121)
 have V171 : Arv Z h171 b156 k156 .int 2 [(.int w0), (.int 0)] (.int 0) := Arv.set Ar171 qa171 sa171 na171 ha171 ga171 rfl W171 0 rfl (Nat.le_of_ble_eq_true rfl)
 have N171 := Fr.snoc X171 N170 g_b156
 refine o_go st171 ?_
 show o_Gs p e below _ T171 m 122 #[.val (.ref r0), .val (.ref r1), .val (.ref r2), .val (.ref al), .val (.int 0)] []
 refine o_gi (XS.iinc X171.here hx rfl (hb hby o_d6_122) rfl (l' := #[.val (.ref r0), .val (.ref r1), .val (.ref r2), .val (.ref al), .val (.int ((0 : Int32) + (1 : Int32)))]) rfl) ?_
 show o_Gs p e below _ T171 m 125 #[.val (.ref r0), .val (.ref r1), .val (.ref r2), .val (.ref al), .val (.int ((0 : Int32) + (1 : Int32)))] []
 rw [show ((0 : Int32) + (1 : Int32)) = (1 : Int32) from by decide]
 refine o_gi (XS.goto X171.here hx rfl (pc0 := 125) (pc' := 91) rfl (hb hby o_d6_125) (by decide) (by decide)) ?_
 refine o_gi (XS.iload X171.here hx rfl (hb hby o_d6_91) rfl) ?_
 refine o_gi (XS.aloadN X171.here hx rfl (hb hby o_d6_93) rfl rfl) ?_
 show o_Gs p e below _ T171 m 94 #[.val (.ref r0), .val (.ref r1), .val (.ref r2), .val (.ref al), .val (.int 1)] [(.ref r0), (.int 1)]
 have ff173 : Fld Z h171 r0 "com/example/foothold/foothold/SourceFile" "lineStarts" "[I" (.ref b156) := (Fw157.other W171 (Or.inl ne_r0_b156))
 obtain ⟨T172, X172, e172, st172⟩ := getF X171 hx hZ hown (host := "") (Or.inl (hw _ o_t128)) Via.refl e171 ff173 (g := (mkF m 94 #[.val (.ref r0), .val (.ref r1), .val (.ref r2), .val (.ref al), .val (.int 1)] [(.ref r0), (.int 1)])) rfl rfl (hb hby o_d6_94)
 refine o_go st172 ?_
 show o_Gs p e below _ T172 m 97 #[.val (.ref r0), .val (.ref r1), .val (.ref r2), .val (.ref al), .val (.int 1)] [(.ref b156), (.int 1)]
 obtain ⟨cl174, Ar174, qa174, sa174, na174, ha174, ga174⟩ := id V171
 refine o_go (X172.arraylength hx (by rw [e172]; exact Ar174.1) (State.isArrayOf_alike hZ.alike Ar174.2.1) (g := (mkF m 97 #[.val (.ref r0), .val (.ref r1), .val (.ref r2), .val (.ref al), .val (.int 1)] [(.ref b156), (.int 1)])) rfl rfl (hb hby o_d6_97)) ?_
 rw [len_of sa174 (by decide)]
 show o_Gs p e below _ T172 m 98 #[.val (.ref r0), .val (.ref r1), .val (.ref r2), .val (.ref al), .val (.int 1)] [(.int 2), (.int 1)]
 have hd175 : (1 : Int32) < (2 : Int32) := (by decide)
 refine o_gi (XS.icmpNo X172.here hx rfl (hb hby o_d6_98) rfl (tlt hd175).2.1) ?_
 refine o_gi (XS.aloadN X172.here hx rfl (hb hby o_d6_101) rfl rfl) ?_
 show o_Gs p e below _ T172 m 102 #[.val (.ref r0), .val (.ref r1), .val (.ref r2), .val (.ref al), .val (.int 1)] [(.ref r0)]
 obtain ⟨T176, X176, e176, st176⟩ := getF X172 hx hZ hown (host := "") (Or.inl (hw _ o_t128)) Via.refl e172 ff173 (g := (mkF m 102 #[.val (.ref r0), .val (.ref r1), .val (.ref r2), .val (.ref al), .val (.int 1)] [(.ref r0)])) rfl rfl (hb hby o_d6_102)
 refine o_go st176 ?_
 refine o_gi (XS.iload X176.here hx rfl (hb hby o_d6_105) rfl) ?_
 refine o_gi (XS.aloadN X176.here hx rfl (hb hby o_d6_107) rfl rfl) ?_
 refine o_gi (XS.iload X176.here hx rfl (hb hby o_d6_108) rfl) ?_
 show o_Gs p e below _ T176 m 110 #[.val (.ref r0), .val (.ref r1), .val (.ref r2), .val (.ref al), .val (.int 1)] [(.int 1), (.ref al), (.int 1), (.ref b156)]
 obtain ⟨cl178, Ar178, qa178, sa178, na178, ha178, ga178⟩ := id (ff164.other W171 ne_q_a_b156)
 have ff179 : Exa Z h171 al "java/util/ArrayList" := (((jE_al.ext E156).wr W157).wr W171)
 have ff180 : Fld Z h171 al "java/util/ArrayList" "elementData" "[Ljava/lang/Object;" (.ref q_a) := (ff166.other W171 (Or.inl ne_al_b156))
 have ff181 : Fld Z h171 al "java/util/ArrayList" "size" "I" (.int 2) := (ff167.other W171 (Or.inl ne_al_b156))
 obtain ⟨_, T177, L177, X177, ⟨rfl, N177q, e177⟩, st177⟩ := o_callF X176 hx hZ hown (mvT hZ (hw _ o_t130)) (mvT hZ (hw _ o_t131)) (mvT hZ (hw _ o_t132)) (mvT hZ (hw _ o_t133)) (mvT hZ (hw _ o_t134)) (mvT hZ (hw _ o_t135)) (mvT hZ (hw _ o_t136)) (mvT hZ (hw _ o_t80)) (hw _ o_t44) (hw _ o_t137) (by decide) (b := al) (as := [(.int 1)]) (rm19 l Z a0 hw [] al (1 : Int32) (2 : Int32) q_a cl178 ad1 h171 n0 ff179 ff180 ff181 (by decide) (by decide) Ar178 (inb_of sa178 ⟨by decide, by decide⟩) (ha178 _ (by rw [sa178]; decide))) e176 ff179 o_pd6 rfl (pc := 110) (Ls := #[.val (.ref r0), .val (.ref r1), .val (.ref r2), .val (.ref al), .val (.int 1)]) (rest := [(.int 1), (.ref b156)]) (W := 2) (by rw [hml]; rfl) (Nat.le_of_eq rfl) (by decide) (by decide) (hb hby o_d6_110) (by decide) (by decide)
 have N177 := Fr.app N171 N177q
 refine o_go st177 ?_
 show o_Gs p e below _ T177 m 115 #[.val (.ref r0), .val (.ref r1), .val (.ref r2), .val (.ref al), .val (.int 1)] [(.ref ad1), (.int 1), (.ref b156)]
 have oo183 : Old Z n0 h171 := (oo169.wr W171 g_b156)
 obtain ⟨T182, X182, e182, st182⟩ := castY X177 hx hZ hown (hw _ o_t151) e177 (Ins.self (B1.1.ext oo183.2)) (g := (mkF m 115 #[.val (.ref r0), .val (.ref r1), .val (.ref r2), .val (.ref al), .val (.int 1)] [(.ref ad1), (.int 1), (.ref b156)])) rfl rfl (hb hby o_d6_115)
 refine o_go st182 ?_
 show o_Gs p e below _ T182 m 118 #[.val (.ref r0), .val (.ref r1), .val (.ref r2), .val (.ref al), .val (.int 1)] [(.ref ad1), (.int 1), (.ref b156)]
 obtain ⟨_, T184, L184, X184, ⟨rfl, N184q, e184⟩, st184⟩ := o_callV X182 hx hZ hown (hw _ o_t153) (hw _ o_t154) (hw _ o_t156) (hw _ o_t155) (hw _ o_t68) (hw _ o_t157) (by decide) (b := ad1) (as := []) (rm23 l Z a0 hw [] ad1 w1 h171 n0 (B1.2.ext oo183.2)) e182 (B1.1.ext oo183.2) o_pd7 rfl (pc := 118) (Ls := #[.val (.ref r0), .val (.ref r1), .val (.ref r2), .val (.ref al), .val (.int 1)]) (rest := [(.int 1), (.ref b156)]) (W := 2) (by rw [hml]; rfl) (Nat.le_of_eq rfl) (by decide) (by decide) (hb hby o_d6_118) (by decide) (by decide)
 have N184 := Fr.app N177 N184q
 refine o_go st184 ?_
 show o_Gs p e below _ T184 m 121 #[.val (.ref r0), .val (.ref r1), .val (.ref r2), .val (.ref al), .val (.int 1)] [(.int w1), (.int 1), (.ref b156)]
 obtain ⟨cl185, Ar185, qa185, sa185, na185, ha185, ga185⟩ := id V171
 obtain ⟨T185, h185, X185, e185, W185, st185⟩ := stI X184 hx hZ e184 Ar185 (j := (1 : Int32)) (inb_of sa185 ⟨by decide, by decide⟩) (g := (mkF m 121 #[.val (.ref r0), .val (.ref r1), .val (.ref r2), .val (.ref al), .val (.int 1)] [(.int w1), (.int 1), (.ref b156)])) rfl rfl (hb hby o_d6_121)
 have V185 : Arv Z h185 b156 k156 .int 2 [(.int w0), (.int w1)] (.int 0) := Arv.set Ar185 qa185 sa185 na185 ha185 ga185 rfl W185 1 rfl (Nat.le_of_ble_eq_true rfl)
 have N185 := Fr.snoc X185 N184 g_b156
 refine o_go st185 ?_
 show o_Gs p e below _ T185 m 122 #[.val (.ref r0), .val (.ref r1), .val (.ref r2), .val (.ref al), .val (.int 1)] []
 refine o_gi (XS.iinc X185.here hx rfl (hb hby o_d6_122) rfl (l' := #[.val (.ref r0), .val (.ref r1), .val (.ref r2), .val (.ref al), .val (.int ((1 : Int32) + (1 : Int32)))]) rfl) ?_
 show o_Gs p e below _ T185 m 125 #[.val (.ref r0), .val (.ref r1), .val (.ref r2), .val (.ref al), .val (.int ((1 : Int32) + (1 : Int32)))] []
 rw [show ((1 : Int32) + (1 : Int32)) = (2 : Int32) from by decide]
 refine o_gi (XS.goto X185.here hx rfl (pc0 := 125) (pc' := 91) rfl (hb hby o_d6_125) (by decide) (by decide)) ?_
 refine o_gi (XS.iload X185.here hx rfl (hb hby o_d6_91) rfl) ?_
 refine o_gi (XS.aloadN X185.here hx rfl (hb hby o_d6_93) rfl rfl) ?_
 show o_Gs p e below _ T185 m 94 #[.val (.ref r0), .val (.ref r1), .val (.ref r2), .val (.ref al), .val (.int 2)] [(.ref r0), (.int 2)]
 have ff187 : Fld Z h185 r0 "com/example/foothold/foothold/SourceFile" "lineStarts" "[I" (.ref b156) := (ff173.other W185 (Or.inl ne_r0_b156))
 obtain ⟨T186, X186, e186, st186⟩ := getF X185 hx hZ hown (host := "") (Or.inl (hw _ o_t128)) Via.refl e185 ff187 (g := (mkF m 94 #[.val (.ref r0), .val (.ref r1), .val (.ref r2), .val (.ref al), .val (.int 2)] [(.ref r0), (.int 2)])) rfl rfl (hb hby o_d6_94)
 refine o_go st186 ?_
 show o_Gs p e below _ T186 m 97 #[.val (.ref r0), .val (.ref r1), .val (.ref r2), .val (.ref al), .val (.int 2)] [(.ref b156), (.int 2)]
 obtain ⟨cl188, Ar188, qa188, sa188, na188, ha188, ga188⟩ := id V185
 refine o_go (X186.arraylength hx (by rw [e186]; exact Ar188.1) (State.isArrayOf_alike hZ.alike Ar188.2.1) (g := (mkF m 97 #[.val (.ref r0), .val (.ref r1), .val (.ref r2), .val (.ref al), .val (.int 2)] [(.ref b156), (.int 2)])) rfl rfl (hb hby o_d6_97)) ?_
 rw [len_of sa188 (by decide)]
 show o_Gs p e below _ T186 m 98 #[.val (.ref r0), .val (.ref r1), .val (.ref r2), .val (.ref al), .val (.int 2)] [(.int 2), (.int 2)]
 have hd189 : ¬ ((2 : Int32) < (2 : Int32)) := (by decide)
 refine o_gi (XS.icmpYes X186.here hx rfl (pc0 := 98) (pc' := 128) rfl (hb hby o_d6_98) rfl (flt hd189).2.1 (by decide) (by decide)) ?_
 show o_Gs p e below _ T186 m 128 #[.val (.ref r0), .val (.ref r1), .val (.ref r2), .val (.ref al), .val (.int 2)] []
 have ff190 : Exa Z h185 r0 "com/example/foothold/foothold/SourceFile" := ((((jE_r0.ext E156).wr W157).wr W171).wr W185)
 exact o_ret0 X186 hx hlk hret (hb hby o_d6_128) (by decide) (by decide) (by show o_Q6 Z r0 cs h0 n0 _ T186.heap _; rw [e186]; exact ⟨_, _, rfl, N185, ((((KK.ext E156).wr W157 (Or.inl (List.mem_of_getElem? (i := 0) rfl))).wr W171 (Or.inr sz_b156)).wr W185 (Or.inr sz_b156)), sz_b156, ff190, ff187, by rw [hls]; exact V185⟩)
set_option maxRecDepth 65536 in
set_option maxHeartbeats 40000000 in
theorem o_t76_3 {l : Launch} {Z : State} {a0 : Array Value} {r0 : Addr} {r1 : Addr} {r2 : Addr} {cl_e : Cell} {cl_c : Cell} {fm : Value} {t2 : Addr} {k2 : ClassId} {q_N : Int32} {q_vs : List Value} {cs : List Int32} {c_0 : Addr} {c_1 : Addr} {c_2 : Addr} {c_3 : Addr} {c_4 : Addr} {s_e : Addr} {x_hi : Int32} {s_c : Addr} {z_cs : Int32} {h0 : Heap} {n0 : Nat} {p : Program} {s : State} {m : MethodId} {meth : Method} {c : Code} {e : Env} {below : List Frame} (hP : o_P6 Z a0 r0 r1 r2 cl_e cl_c fm t2 k2 q_N q_vs cs c_0 c_1 c_2 c_3 c_4 s_e x_hi s_c z_cs h0 n0) (hB : o_X6 Z p s m meth c) {T0 : State} {L0 : List Loc} {hh : Heap} (X0 : Stand p l e o_R6 s m #[(.ref r0), (.ref r1), (.ref r2)] below meth c T0 L0 2 13) (e0 : T0.heap = hh) (N0 : Fr n0 L0) {al q_a : Addr} {k_a : ClassId} {ad0 : Addr} {w0 : Int32} {ad1 : Addr} {w1 : Int32} {ad2 : Addr} {w2 : Int32} (hJ : o_J6 Z h0 n0 r0 r2 t2 k2 q_N q_vs hh al q_a k_a (3 : Int32) [(.ref ad0), (.ref ad1), (.ref ad2), .null, .null, .null, .null, .null, .null, .null]) (B0 : o_A6 Z ad0 w0) (B1 : o_A6 Z ad1 w1) (B2 : o_A6 Z ad2 w2) (sI : Slot) (hsI : One sI) (hls : o_ls cs = [w0, w1, w2]) : o_Goes p e below (o_End s o_R6 (o_Q6 Z r0 cs h0 n0)) (T0.setTop (mkF m 76 #[.val (.ref r0), .val (.ref r1), .val (.ref r2), .val (.ref al), sI] [])) := by
 obtain ⟨hw, Z0, g_r0, O0, A_e, z_e, A_c, z_c, h_hi, t_c0, E_c0, F_c0, t_c1, E_c1, F_c1, t_c2, E_c2, F_c2, t_c3, E_c3, F_c3, t_c4, E_c4, F_c4, S_fm, rf, z_CS, hcd, hbd, hl4, hl4', ne_r0_r2, ne_r0_t2, S_s_e, S_x_hi, S_s_c, S_z_cs⟩ := id hP
 obtain ⟨hx, hby, hml, hown, hret, hlk, hZ, hnm⟩ := id hB
 obtain ⟨Z1, O1, KK, g_al, g_q_a, sz_al, sz_q_a, ne_r0_al, ne_r0_q_a, ne_r2_al, ne_r2_q_a, ne_t2_al, ne_t2_q_a, ne_al_q_a, jE_r0, jF_l, jE_r2, jF_v, jF_c, jV_t, jE_al, jF_m, jF_e, jF_z, jV_a, jO_a⟩ := hJ
 refine o_gi (XS.aloadN X0.here hx rfl (hb hby o_d6_76) rfl rfl) ?_
 refine o_gi (XS.aloadN X0.here hx rfl (hb hby o_d6_77) rfl rfl) ?_
 show o_Gs p e below _ T0 m 78 #[.val (.ref r0), .val (.ref r1), .val (.ref r2), .val (.ref al), sI] [(.ref al), (.ref r0)]
 obtain ⟨_, T191, L191, X191, ⟨rfl, N191q, e191⟩, st191⟩ := o_callF X0 hx hZ hown (mvT hZ (hw _ o_t119)) (mvT hZ (hw _ o_t120)) (mvT hZ (hw _ o_t121)) (mvT hZ (hw _ o_t122)) (mvT hZ (hw _ o_t123)) (mvT hZ (hw _ o_t124)) (mvT hZ (hw _ o_t125)) (mvT hZ (hw _ o_t80)) (hw _ o_t44) (hw _ o_t126) (by decide) (b := al) (as := []) (rm18 l Z a0 hw [] al (3 : Int32) hh n0 jF_z) e0 jE_al o_pd7 rfl (pc := 78) (Ls := #[.val (.ref r0), .val (.ref r1), .val (.ref r2), .val (.ref al), sI]) (rest := [(.ref r0)]) (W := 1) (by rw [hml]; rfl) (Nat.le_of_eq rfl) (by decide) (by decide) (hb hby o_d6_78) (by decide) (by decide)
 have N191 := Fr.app N0 N191q
 refine o_go st191 ?_
 show o_Gs p e below _ T191 m 83 #[.val (.ref r0), .val (.ref r1), .val (.ref r2), .val (.ref al), sI] [(.int 3), (.ref r0)]
 obtain ⟨T192, h192, k192, X192, e192, E192, A192, st192⟩ := newP X191 hx hZ (aty := .int) (hw _ o_t127) e191 (g := (mkF m 83 #[.val (.ref r0), .val (.ref r1), .val (.ref r2), .val (.ref al), sI] [(.int 3), (.ref r0)])) rfl (hb hby o_d6_83) rfl (by decide) (cap := 3) (by decide) (by decide) (by decide) (by decide)
 obtain ⟨b192, q192⟩ : ∃ z, z = hh.size := ⟨_, rfl⟩
 rw [← q192] at A192 st192
 have lt_b192 : hh.size ≤ b192 := Nat.le_of_eq q192.symm
 have ne_r0_b192 : r0 ≠ b192 := Nat.ne_of_lt (Nat.lt_of_lt_of_le jE_r0.lt lt_b192)
 have ne_r2_b192 : r2 ≠ b192 := Nat.ne_of_lt (Nat.lt_of_lt_of_le jE_r2.lt lt_b192)
 have ne_t2_b192 : t2 ≠ b192 := Nat.ne_of_lt (Nat.lt_of_lt_of_le jV_t.lt lt_b192)
 have ne_al_b192 : al ≠ b192 := Nat.ne_of_lt (Nat.lt_of_lt_of_le jE_al.lt lt_b192)
 have ne_q_a_b192 : q_a ≠ b192 := Nat.ne_of_lt (Nat.lt_of_lt_of_le jV_a.lt lt_b192)
 have g_b192 : n0 ≤ b192 := Nat.le_trans Z1 lt_b192
 have sz_b192 : h0.size ≤ b192 := Nat.le_trans KK.1 lt_b192
 have V192 : Arv Z h192 b192 k192 .int 3 [(.int 0), (.int 0), (.int 0)] (.int 0) := (Arv.new A192 (by decide)).pad (pad_rep [] (.int 0) 3)
 refine o_go st192 ?_
 show o_Gs p e below _ T192 m 85 #[.val (.ref r0), .val (.ref r1), .val (.ref r2), .val (.ref al), sI] [(.ref b192), (.ref r0)]
 obtain ⟨T193, h193, X193, e193, W193, st193⟩ := putF X192 hx hZ hown (host := "") (Or.inl (hw _ o_t128)) Via.refl e192 (jF_l.ext E192) (jE_r0.ext E192) (Or.inr ⟨(hw _ o_t129), rfl, hnm⟩) (hw _ o_t6) (ty := (.array .int)) (by decide) rfl rfl (g := (mkF m 85 #[.val (.ref r0), .val (.ref r1), .val (.ref r2), .val (.ref al), sI] [(.ref b192), (.ref r0)])) rfl rfl (hb hby o_d6_85)
 have N193 := Fr.snoc X193 N191 g_r0
 have Fw193 := (jF_l.ext E192).same W193
 refine o_go st193 ?_
 refine o_gi (XS.iconst X193.here hx rfl (hb hby o_d6_88)) ?_
 refine o_gi (XS.istore X193.here hx rfl (hb hby o_d6_89) rfl (l' := #[.val (.ref r0), .val (.ref r1), .val (.ref r2), .val (.ref al), .val (.int 0)]) (XS.store1 (o := sI) rfl hsI rfl)) ?_
 refine o_gi (XS.iload X193.here hx rfl (hb hby o_d6_91) rfl) ?_
 refine o_gi (XS.aloadN X193.here hx rfl (hb hby o_d6_93) rfl rfl) ?_
 show o_Gs p e below _ T193 m 94 #[.val (.ref r0), .val (.ref r1), .val (.ref r2), .val (.ref al), .val (.int 0)] [(.ref r0), (.int 0)]
 obtain ⟨T194, X194, e194, st194⟩ := getF X193 hx hZ hown (host := "") (Or.inl (hw _ o_t128)) Via.refl e193 Fw193 (g := (mkF m 94 #[.val (.ref r0), .val (.ref r1), .val (.ref r2), .val (.ref al), .val (.int 0)] [(.ref r0), (.int 0)])) rfl rfl (hb hby o_d6_94)
 refine o_go st194 ?_
 show o_Gs p e below _ T194 m 97 #[.val (.ref r0), .val (.ref r1), .val (.ref r2), .val (.ref al), .val (.int 0)] [(.ref b192), (.int 0)]
 have ff195 : Arv Z h193 b192 k192 .int 3 [(.int 0), (.int 0), (.int 0)] (.int 0) := (V192.other W193 (Ne.symm ne_r0_b192))
 obtain ⟨cl196, Ar196, qa196, sa196, na196, ha196, ga196⟩ := id ff195
 refine o_go (X194.arraylength hx (by rw [e194]; exact Ar196.1) (State.isArrayOf_alike hZ.alike Ar196.2.1) (g := (mkF m 97 #[.val (.ref r0), .val (.ref r1), .val (.ref r2), .val (.ref al), .val (.int 0)] [(.ref b192), (.int 0)])) rfl rfl (hb hby o_d6_97)) ?_
 rw [len_of sa196 (by decide)]
 show o_Gs p e below _ T194 m 98 #[.val (.ref r0), .val (.ref r1), .val (.ref r2), .val (.ref al), .val (.int 0)] [(.int 3), (.int 0)]
 have hd197 : (0 : Int32) < (3 : Int32) := (by decide)
 refine o_gi (XS.icmpNo X194.here hx rfl (hb hby o_d6_98) rfl (tlt hd197).2.1) ?_
 refine o_gi (XS.aloadN X194.here hx rfl (hb hby o_d6_101) rfl rfl) ?_
 show o_Gs p e below _ T194 m 102 #[.val (.ref r0), .val (.ref r1), .val (.ref r2), .val (.ref al), .val (.int 0)] [(.ref r0)]
 obtain ⟨T198, X198, e198, st198⟩ := getF X194 hx hZ hown (host := "") (Or.inl (hw _ o_t128)) Via.refl e194 Fw193 (g := (mkF m 102 #[.val (.ref r0), .val (.ref r1), .val (.ref r2), .val (.ref al), .val (.int 0)] [(.ref r0)])) rfl rfl (hb hby o_d6_102)
 refine o_go st198 ?_
 refine o_gi (XS.iload X198.here hx rfl (hb hby o_d6_105) rfl) ?_
 refine o_gi (XS.aloadN X198.here hx rfl (hb hby o_d6_107) rfl rfl) ?_
 refine o_gi (XS.iload X198.here hx rfl (hb hby o_d6_108) rfl) ?_
 show o_Gs p e below _ T198 m 110 #[.val (.ref r0), .val (.ref r1), .val (.ref r2), .val (.ref al), .val (.int 0)] [(.int 0), (.ref al), (.int 0), (.ref b192)]
 have ff200 : Arv Z h193 q_a k_a (.object "java/lang/Object") (10 : Int32) [(.ref ad0), (.ref ad1), (.ref ad2), .null, .null, .null, .null, .null, .null, .null] .null := ((jV_a.ext E192).other W193 (Ne.symm ne_r0_q_a))
 obtain ⟨cl201, Ar201, qa201, sa201, na201, ha201, ga201⟩ := id ff200
 have ff202 : Fld Z h193 al "java/util/ArrayList" "elementData" "[Ljava/lang/Object;" (.ref q_a) := ((jF_e.ext E192).other W193 (Or.inl (Ne.symm ne_r0_al)))
 have ff203 : Fld Z h193 al "java/util/ArrayList" "size" "I" (.int 3) := ((jF_z.ext E192).other W193 (Or.inl (Ne.symm ne_r0_al)))
 obtain ⟨_, T199, L199, X199, ⟨rfl, N199q, e199⟩, st199⟩ := o_callF X198 hx hZ hown (mvT hZ (hw _ o_t130)) (mvT hZ (hw _ o_t131)) (mvT hZ (hw _ o_t132)) (mvT hZ (hw _ o_t133)) (mvT hZ (hw _ o_t134)) (mvT hZ (hw _ o_t135)) (mvT hZ (hw _ o_t136)) (mvT hZ (hw _ o_t80)) (hw _ o_t44) (hw _ o_t137) (by decide) (b := al) (as := [(.int 0)]) (rm19 l Z a0 hw [] al (0 : Int32) (3 : Int32) q_a cl201 ad0 h193 n0 ((jE_al.ext E192).wr W193) ff202 ff203 (by decide) (by decide) Ar201 (inb_of sa201 ⟨by decide, by decide⟩) (ha201 _ (by rw [sa201]; decide))) e198 ((jE_al.ext E192).wr W193) o_pd6 rfl (pc := 110) (Ls := #[.val (.ref r0), .val (.ref r1), .val (.ref r2), .val (.ref al), .val (.int 0)]) (rest := [(.int 0), (.ref b192)]) (W := 2) (by rw [hml]; rfl) (Nat.le_of_eq rfl) (by decide) (by decide) (hb hby o_d6_110) (by decide) (by decide)
 have N199 := Fr.app N193 N199q
 refine o_go st199 ?_
 show o_Gs p e below _ T199 m 115 #[.val (.ref r0), .val (.ref r1), .val (.ref r2), .val (.ref al), .val (.int 0)] [(.ref ad0), (.int 0), (.ref b192)]
 have oo205 : Old Z n0 h193 := ((O1.ext E192).wr W193 g_r0)
 obtain ⟨T204, X204, e204, st204⟩ := castY X199 hx hZ hown (hw _ o_t151) e199 (Ins.self (B0.1.ext oo205.2)) (g := (mkF m 115 #[.val (.ref r0), .val (.ref r1), .val (.ref r2), .val (.ref al), .val (.int 0)] [(.ref ad0), (.int 0), (.ref b192)])) rfl rfl (hb hby o_d6_115)
 refine o_go st204 ?_
 show o_Gs p e below _ T204 m 118 #[.val (.ref r0), .val (.ref r1), .val (.ref r2), .val (.ref al), .val (.int 0)] [(.ref ad0), (.int 0), (.ref b192)]
 obtain ⟨_, T206, L206, X206, ⟨rfl, N206q, e206⟩, st206⟩ := o_callV X204 hx hZ hown (hw _ o_t153) (hw _ o_t154) (hw _ o_t156) (hw _ o_t155) (hw _ o_t68) (hw _ o_t157) (by decide) (b := ad0) (as := []) (rm23 l Z a0 hw [] ad0 w0 h193 n0 (B0.2.ext oo205.2)) e204 (B0.1.ext oo205.2) o_pd7 rfl (pc := 118) (Ls := #[.val (.ref r0), .val (.ref r1), .val (.ref r2), .val (.ref al), .val (.int 0)]) (rest := [(.int 0), (.ref b192)]) (W := 2) (by rw [hml]; rfl) (Nat.le_of_eq rfl) (by decide) (by decide) (hb hby o_d6_118) (by decide) (by decide)
 have N206 := Fr.app N199 N206q
 refine o_go st206 ?_
 show o_Gs p e below _ T206 m 121 #[.val (.ref r0), .val (.ref r1), .val (.ref r2), .val (.ref al), .val (.int 0)] [(.int w0), (.int 0), (.ref b192)]
 obtain ⟨cl207, Ar207, qa207, sa207, na207, ha207, ga207⟩ := id ff195
 obtain ⟨T207, h207, X207, e207, W207, st207⟩ := stI X206 hx hZ e206 Ar207 (j := (0 : Int32)) (inb_of sa207 ⟨by decide, by decide⟩) (g := (mkF m 121 #[.val (.ref r0), .val (.ref r1), .val (.ref r2), .val (.ref al), .val (.int 0)] [(.int w0), (.int 0), (.ref b192)])) rfl rfl (hb hby o_d6_121)
 have V207 : Arv Z h207 b192 k192 .int 3 [(.int w0), (.int 0), (.int 0)] (.int 0) := Arv.set Ar207 qa207 sa207 na207 ha207 ga207 rfl W207 0 rfl (Nat.le_of_ble_eq_true rfl)
 have N207 := Fr.snoc X207 N206 g_b192
 refine o_go st207 ?_
 show o_Gs p e below _ T207 m 122 #[.val (.ref r0), .val (.ref r1), .val (.ref r2), .val (.ref al), .val (.int 0)] []
 refine o_gi (XS.iinc X207.here hx rfl (hb hby o_d6_122) rfl (l' := #[.val (.ref r0), .val (.ref r1), .val (.ref r2), .val (.ref al), .val (.int ((0 : Int32) + (1 : Int32)))]) rfl) ?_
 show o_Gs p e below _ T207 m 125 #[.val (.ref r0), .val (.ref r1), .val (.ref r2), .val (.ref al), .val (.int ((0 : Int32) + (1 : Int32)))] []
 rw [show ((0 : Int32) + (1 : Int32)) = (1 : Int32) from by decide]
 refine o_gi (XS.goto X207.here hx rfl (pc0 := 125) (pc' := 91) rfl (hb hby o_d6_125) (by decide) (by decide)) ?_
 refine o_gi (XS.iload X207.here hx rfl (hb hby o_d6_91) rfl) ?_
 refine o_gi (XS.aloadN X207.here hx rfl (hb hby o_d6_93) rfl rfl) ?_
 show o_Gs p e below _ T207 m 94 #[.val (.ref r0), .val (.ref r1), .val (.ref r2), .val (.ref al), .val (.int 1)] [(.ref r0), (.int 1)]
 have ff209 : Fld Z h207 r0 "com/example/foothold/foothold/SourceFile" "lineStarts" "[I" (.ref b192) := (Fw193.other W207 (Or.inl ne_r0_b192))
 obtain ⟨T208, X208, e208, st208⟩ := getF X207 hx hZ hown (host := "") (Or.inl (hw _ o_t128)) Via.refl e207 ff209 (g := (mkF m 94 #[.val (.ref r0), .val (.ref r1), .val (.ref r2), .val (.ref al), .val (.int 1)] [(.ref r0), (.int 1)])) rfl rfl (hb hby o_d6_94)
 refine o_go st208 ?_
 show o_Gs p e below _ T208 m 97 #[.val (.ref r0), .val (.ref r1), .val (.ref r2), .val (.ref al), .val (.int 1)] [(.ref b192), (.int 1)]
 obtain ⟨cl210, Ar210, qa210, sa210, na210, ha210, ga210⟩ := id V207
 refine o_go (X208.arraylength hx (by rw [e208]; exact Ar210.1) (State.isArrayOf_alike hZ.alike Ar210.2.1) (g := (mkF m 97 #[.val (.ref r0), .val (.ref r1), .val (.ref r2), .val (.ref al), .val (.int 1)] [(.ref b192), (.int 1)])) rfl rfl (hb hby o_d6_97)) ?_
 rw [len_of sa210 (by decide)]
 show o_Gs p e below _ T208 m 98 #[.val (.ref r0), .val (.ref r1), .val (.ref r2), .val (.ref al), .val (.int 1)] [(.int 3), (.int 1)]
 have hd211 : (1 : Int32) < (3 : Int32) := (by decide)
 refine o_gi (XS.icmpNo X208.here hx rfl (hb hby o_d6_98) rfl (tlt hd211).2.1) ?_
 refine o_gi (XS.aloadN X208.here hx rfl (hb hby o_d6_101) rfl rfl) ?_
 show o_Gs p e below _ T208 m 102 #[.val (.ref r0), .val (.ref r1), .val (.ref r2), .val (.ref al), .val (.int 1)] [(.ref r0)]
 obtain ⟨T212, X212, e212, st212⟩ := getF X208 hx hZ hown (host := "") (Or.inl (hw _ o_t128)) Via.refl e208 ff209 (g := (mkF m 102 #[.val (.ref r0), .val (.ref r1), .val (.ref r2), .val (.ref al), .val (.int 1)] [(.ref r0)])) rfl rfl (hb hby o_d6_102)
 refine o_go st212 ?_
 refine o_gi (XS.iload X212.here hx rfl (hb hby o_d6_105) rfl) ?_
 refine o_gi (XS.aloadN X212.here hx rfl (hb hby o_d6_107) rfl rfl) ?_
 refine o_gi (XS.iload X212.here hx rfl (hb hby o_d6_108) rfl) ?_
 show o_Gs p e below _ T212 m 110 #[.val (.ref r0), .val (.ref r1), .val (.ref r2), .val (.ref al), .val (.int 1)] [(.int 1), (.ref al), (.int 1), (.ref b192)]
 obtain ⟨cl214, Ar214, qa214, sa214, na214, ha214, ga214⟩ := id (ff200.other W207 ne_q_a_b192)
 have ff215 : Exa Z h207 al "java/util/ArrayList" := (((jE_al.ext E192).wr W193).wr W207)
 have ff216 : Fld Z h207 al "java/util/ArrayList" "elementData" "[Ljava/lang/Object;" (.ref q_a) := (ff202.other W207 (Or.inl ne_al_b192))
 have ff217 : Fld Z h207 al "java/util/ArrayList" "size" "I" (.int 3) := (ff203.other W207 (Or.inl ne_al_b192))
 obtain ⟨_, T213, L213, X213, ⟨rfl, N213q, e213⟩, st213⟩ := o_callF X212 hx hZ hown (mvT hZ (hw _ o_t130)) (mvT hZ (hw _ o_t131)) (mvT hZ (hw _ o_t132)) (mvT hZ (hw _ o_t133)) (mvT hZ (hw _ o_t134)) (mvT hZ (hw _ o_t135)) (mvT hZ (hw _ o_t136)) (mvT hZ (hw _ o_t80)) (hw _ o_t44) (hw _ o_t137) (by decide) (b := al) (as := [(.int 1)]) (rm19 l Z a0 hw [] al (1 : Int32) (3 : Int32) q_a cl214 ad1 h207 n0 ff215 ff216 ff217 (by decide) (by decide) Ar214 (inb_of sa214 ⟨by decide, by decide⟩) (ha214 _ (by rw [sa214]; decide))) e212 ff215 o_pd6 rfl (pc := 110) (Ls := #[.val (.ref r0), .val (.ref r1), .val (.ref r2), .val (.ref al), .val (.int 1)]) (rest := [(.int 1), (.ref b192)]) (W := 2) (by rw [hml]; rfl) (Nat.le_of_eq rfl) (by decide) (by decide) (hb hby o_d6_110) (by decide) (by decide)
 have N213 := Fr.app N207 N213q
 refine o_go st213 ?_
 show o_Gs p e below _ T213 m 115 #[.val (.ref r0), .val (.ref r1), .val (.ref r2), .val (.ref al), .val (.int 1)] [(.ref ad1), (.int 1), (.ref b192)]
 have oo219 : Old Z n0 h207 := (oo205.wr W207 g_b192)
 obtain ⟨T218, X218, e218, st218⟩ := castY X213 hx hZ hown (hw _ o_t151) e213 (Ins.self (B1.1.ext oo219.2)) (g := (mkF m 115 #[.val (.ref r0), .val (.ref r1), .val (.ref r2), .val (.ref al), .val (.int 1)] [(.ref ad1), (.int 1), (.ref b192)])) rfl rfl (hb hby o_d6_115)
 refine o_go st218 ?_
 show o_Gs p e below _ T218 m 118 #[.val (.ref r0), .val (.ref r1), .val (.ref r2), .val (.ref al), .val (.int 1)] [(.ref ad1), (.int 1), (.ref b192)]
 obtain ⟨_, T220, L220, X220, ⟨rfl, N220q, e220⟩, st220⟩ := o_callV X218 hx hZ hown (hw _ o_t153) (hw _ o_t154) (hw _ o_t156) (hw _ o_t155) (hw _ o_t68) (hw _ o_t157) (by decide) (b := ad1) (as := []) (rm23 l Z a0 hw [] ad1 w1 h207 n0 (B1.2.ext oo219.2)) e218 (B1.1.ext oo219.2) o_pd7 rfl (pc := 118) (Ls := #[.val (.ref r0), .val (.ref r1), .val (.ref r2), .val (.ref al), .val (.int 1)]) (rest := [(.int 1), (.ref b192)]) (W := 2) (by rw [hml]; rfl) (Nat.le_of_eq rfl) (by decide) (by decide) (hb hby o_d6_118) (by decide) (by decide)
 have N220 := Fr.app N213 N220q
 refine o_go st220 ?_
 show o_Gs p e below _ T220 m 121 #[.val (.ref r0), .val (.ref r1), .val (.ref r2), .val (.ref al), .val (.int 1)] [(.int w1), (.int 1), (.ref b192)]
 obtain ⟨cl221, Ar221, qa221, sa221, na221, ha221, ga221⟩ := id V207
 obtain ⟨T221, h221, X221, e221, W221, st221⟩ := stI X220 hx hZ e220 Ar221 (j := (1 : Int32)) (inb_of sa221 ⟨by decide, by decide⟩) (g := (mkF m 121 #[.val (.ref r0), .val (.ref r1), .val (.ref r2), .val (.ref al), .val (.int 1)] [(.int w1), (.int 1), (.ref b192)])) rfl rfl (hb hby o_d6_121)
 have V221 : Arv Z h221 b192 k192 .int 3 [(.int w0), (.int w1), (.int 0)] (.int 0) := Arv.set Ar221 qa221 sa221 na221 ha221 ga221 rfl W221 1 rfl (Nat.le_of_ble_eq_true rfl)
 have N221 := Fr.snoc X221 N220 g_b192
 refine o_go st221 ?_
 show o_Gs p e below _ T221 m 122 #[.val (.ref r0), .val (.ref r1), .val (.ref r2), .val (.ref al), .val (.int 1)] []
 refine o_gi (XS.iinc X221.here hx rfl (hb hby o_d6_122) rfl (l' := #[.val (.ref r0), .val (.ref r1), .val (.ref r2), .val (.ref al), .val (.int ((1 : Int32) + (1 : Int32)))]) rfl) ?_
 show o_Gs p e below _ T221 m 125 #[.val (.ref r0), .val (.ref r1), .val (.ref r2), .val (.ref al), .val (.int ((1 : Int32) + (1 : Int32)))] []
 rw [show ((1 : Int32) + (1 : Int32)) = (2 : Int32) from by decide]
 refine o_gi (XS.goto X221.here hx rfl (pc0 := 125) (pc' := 91) rfl (hb hby o_d6_125) (by decide) (by decide)) ?_
 refine o_gi (XS.iload X221.here hx rfl (hb hby o_d6_91) rfl) ?_
 refine o_gi (XS.aloadN X221.here hx rfl (hb hby o_d6_93) rfl rfl) ?_
 show o_Gs p e below _ T221 m 94 #[.val (.ref r0), .val (.ref r1), .val (.ref r2), .val (.ref al), .val (.int 2)] [(.ref r0), (.int 2)]
 have ff223 : Fld Z h221 r0 "com/example/foothold/foothold/SourceFile" "lineStarts" "[I" (.ref b192) := (ff209.other W221 (Or.inl ne_r0_b192))
 obtain ⟨T222, X222, e222, st222⟩ := getF X221 hx hZ hown (host := "") (Or.inl (hw _ o_t128)) Via.refl e221 ff223 (g := (mkF m 94 #[.val (.ref r0), .val (.ref r1), .val (.ref r2), .val (.ref al), .val (.int 2)] [(.ref r0), (.int 2)])) rfl rfl (hb hby o_d6_94)
 refine o_go st222 ?_
 show o_Gs p e below _ T222 m 97 #[.val (.ref r0), .val (.ref r1), .val (.ref r2), .val (.ref al), .val (.int 2)] [(.ref b192), (.int 2)]
 obtain ⟨cl224, Ar224, qa224, sa224, na224, ha224, ga224⟩ := id V221
 refine o_go (X222.arraylength hx (by rw [e222]; exact Ar224.1) (State.isArrayOf_alike hZ.alike Ar224.2.1) (g := (mkF m 97 #[.val (.ref r0), .val (.ref r1), .val (.ref r2), .val (.ref al), .val (.int 2)] [(.ref b192), (.int 2)])) rfl rfl (hb hby o_d6_97)) ?_
 rw [len_of sa224 (by decide)]
 show o_Gs p e below _ T222 m 98 #[.val (.ref r0), .val (.ref r1), .val (.ref r2), .val (.ref al), .val (.int 2)] [(.int 3), (.int 2)]
 have hd225 : (2 : Int32) < (3 : Int32) := (by decide)
 refine o_gi (XS.icmpNo X222.here hx rfl (hb hby o_d6_98) rfl (tlt hd225).2.1) ?_
 refine o_gi (XS.aloadN X222.here hx rfl (hb hby o_d6_101) rfl rfl) ?_
 show o_Gs p e below _ T222 m 102 #[.val (.ref r0), .val (.ref r1), .val (.ref r2), .val (.ref al), .val (.int 2)] [(.ref r0)]
 obtain ⟨T226, X226, e226, st226⟩ := getF X222 hx hZ hown (host := "") (Or.inl (hw _ o_t128)) Via.refl e222 ff223 (g := (mkF m 102 #[.val (.ref r0), .val (.ref r1), .val (.ref r2), .val (.ref al), .val (.int 2)] [(.ref r0)])) rfl rfl (hb hby o_d6_102)
 refine o_go st226 ?_
 refine o_gi (XS.iload X226.here hx rfl (hb hby o_d6_105) rfl) ?_
 refine o_gi (XS.aloadN X226.here hx rfl (hb hby o_d6_107) rfl rfl) ?_
 refine o_gi (XS.iload X226.here hx rfl (hb hby o_d6_108) rfl) ?_
 show o_Gs p e below _ T226 m 110 #[.val (.ref r0), .val (.ref r1), .val (.ref r2), .val (.ref al), .val (.int 2)] [(.int 2), (.ref al), (.int 2), (.ref b192)]
 have ff228 : Arv Z h221 q_a k_a (.object "java/lang/Object") (10 : Int32) [(.ref ad0), (.ref ad1), (.ref ad2), .null, .null, .null, .null, .null, .null, .null] .null := ((ff200.other W207 ne_q_a_b192).other W221 ne_q_a_b192)
 obtain ⟨cl229, Ar229, qa229, sa229, na229, ha229, ga229⟩ := id ff228
 have ff230 : Fld Z h221 al "java/util/ArrayList" "elementData" "[Ljava/lang/Object;" (.ref q_a) := (ff216.other W221 (Or.inl ne_al_b192))
 have ff231 : Fld Z h221 al "java/util/ArrayList" "size" "I" (.int 3) := (ff217.other W221 (Or.inl ne_al_b192))
 obtain ⟨_, T227, L227, X227, ⟨rfl, N227q, e227⟩, st227⟩ := o_callF X226 hx hZ hown (mvT hZ (hw _ o_t130)) (mvT hZ (hw _ o_t131)) (mvT hZ (hw _ o_t132)) (mvT hZ (hw _ o_t133)) (mvT hZ (hw _ o_t134)) (mvT hZ (hw _ o_t135)) (mvT hZ (hw _ o_t136)) (mvT hZ (hw _ o_t80)) (hw _ o_t44) (hw _ o_t137) (by decide) (b := al) (as := [(.int 2)]) (rm19 l Z a0 hw [] al (2 : Int32) (3 : Int32) q_a cl229 ad2 h221 n0 (ff215.wr W221) ff230 ff231 (by decide) (by decide) Ar229 (inb_of sa229 ⟨by decide, by decide⟩) (ha229 _ (by rw [sa229]; decide))) e226 (ff215.wr W221) o_pd6 rfl (pc := 110) (Ls := #[.val (.ref r0), .val (.ref r1), .val (.ref r2), .val (.ref al), .val (.int 2)]) (rest := [(.int 2), (.ref b192)]) (W := 2) (by rw [hml]; rfl) (Nat.le_of_eq rfl) (by decide) (by decide) (hb hby o_d6_110) (by decide) (by decide)
 have N227 := Fr.app N221 N227q
 refine o_go st227 ?_
 show o_Gs p e below _ T227 m 115 #[.val (.ref r0), .val (.ref r1), .val (.ref r2), .val (.ref al), .val (.int 2)] [(.ref ad2), (.int 2), (.ref b192)]
 have oo233 : Old Z n0 h221 := (oo219.wr W221 g_b192)
 obtain ⟨T232, X232, e232, st232⟩ := castY X227 hx hZ hown (hw _ o_t151) e227 (Ins.self (B2.1.ext oo233.2)) (g := (mkF m 115 #[.val (.ref r0), .val (.ref r1), .val (.ref r2), .val (.ref al), .val (.int 2)] [(.ref ad2), (.int 2), (.ref b192)])) rfl rfl (hb hby o_d6_115)
 refine o_go st232 ?_
 show o_Gs p e below _ T232 m 118 #[.val (.ref r0), .val (.ref r1), .val (.ref r2), .val (.ref al), .val (.int 2)] [(.ref ad2), (.int 2), (.ref b192)]
 obtain ⟨_, T234, L234, X234, ⟨rfl, N234q, e234⟩, st234⟩ := o_callV X232 hx hZ hown (hw _ o_t153) (hw _ o_t154) (hw _ o_t156) (hw _ o_t155) (hw _ o_t68) (hw _ o_t157) (by decide) (b := ad2) (as := []) (rm23 l Z a0 hw [] ad2 w2 h221 n0 (B2.2.ext oo233.2)) e232 (B2.1.ext oo233.2) o_pd7 rfl (pc := 118) (Ls := #[.val (.ref r0), .val (.ref r1), .val (.ref r2), .val (.ref al), .val (.int 2)]) (rest := [(.int 2), (.ref b192)]) (W := 2) (by rw [hml]; rfl) (Nat.le_of_eq rfl) (by decide) (by decide) (hb hby o_d6_118) (by decide) (by decide)
 have N234 := Fr.app N227 N234q
 refine o_go st234 ?_
 show o_Gs p e below _ T234 m 121 #[.val (.ref r0), .val (.ref r1), .val (.ref r2), .val (.ref al), .val (.int 2)] [(.int w2), (.int 2), (.ref b192)]
 obtain ⟨cl235, Ar235, qa235, sa235, na235, ha235, ga235⟩ := id V221
 obtain ⟨T235, h235, X235, e235, W235, st235⟩ := stI X234 hx hZ e234 Ar235 (j := (2 : Int32)) (inb_of sa235 ⟨by decide, by decide⟩) (g := (mkF m 121 #[.val (.ref r0), .val (.ref r1), .val (.ref r2), .val (.ref al), .val (.int 2)] [(.int w2), (.int 2), (.ref b192)])) rfl rfl (hb hby o_d6_121)
 have V235 : Arv Z h235 b192 k192 .int 3 [(.int w0), (.int w1), (.int w2)] (.int 0) := Arv.set Ar235 qa235 sa235 na235 ha235 ga235 rfl W235 2 rfl (Nat.le_of_ble_eq_true rfl)
 have N235 := Fr.snoc X235 N234 g_b192
 refine o_go st235 ?_
 show o_Gs p e below _ T235 m 122 #[.val (.ref r0), .val (.ref r1), .val (.ref r2), .val (.ref al), .val (.int 2)] []
 refine o_gi (XS.iinc X235.here hx rfl (hb hby o_d6_122) rfl (l' := #[.val (.ref r0), .val (.ref r1), .val (.ref r2), .val (.ref al), .val (.int ((2 : Int32) + (1 : Int32)))]) rfl) ?_
 show o_Gs p e below _ T235 m 125 #[.val (.ref r0), .val (.ref r1), .val (.ref r2), .val (.ref al), .val (.int ((2 : Int32) + (1 : Int32)))] []
 rw [show ((2 : Int32) + (1 : Int32)) = (3 : Int32) from by decide]
 refine o_gi (XS.goto X235.here hx rfl (pc0 := 125) (pc' := 91) rfl (hb hby o_d6_125) (by decide) (by decide)) ?_
 refine o_gi (XS.iload X235.here hx rfl (hb hby o_d6_91) rfl) ?_
 refine o_gi (XS.aloadN X235.here hx rfl (hb hby o_d6_93) rfl rfl) ?_
 show o_Gs p e below _ T235 m 94 #[.val (.ref r0), .val (.ref r1), .val (.ref r2), .val (.ref al), .val (.int 3)] [(.ref r0), (.int 3)]
 have ff237 : Fld Z h235 r0 "com/example/foothold/foothold/SourceFile" "lineStarts" "[I" (.ref b192) := (ff223.other W235 (Or.inl ne_r0_b192))
 obtain ⟨T236, X236, e236, st236⟩ := getF X235 hx hZ hown (host := "") (Or.inl (hw _ o_t128)) Via.refl e235 ff237 (g := (mkF m 94 #[.val (.ref r0), .val (.ref r1), .val (.ref r2), .val (.ref al), .val (.int 3)] [(.ref r0), (.int 3)])) rfl rfl (hb hby o_d6_94)
 refine o_go st236 ?_
 show o_Gs p e below _ T236 m 97 #[.val (.ref r0), .val (.ref r1), .val (.ref r2), .val (.ref al), .val (.int 3)] [(.ref b192), (.int 3)]
 obtain ⟨cl238, Ar238, qa238, sa238, na238, ha238, ga238⟩ := id V235
 refine o_go (X236.arraylength hx (by rw [e236]; exact Ar238.1) (State.isArrayOf_alike hZ.alike Ar238.2.1) (g := (mkF m 97 #[.val (.ref r0), .val (.ref r1), .val (.ref r2), .val (.ref al), .val (.int 3)] [(.ref b192), (.int 3)])) rfl rfl (hb hby o_d6_97)) ?_
 rw [len_of sa238 (by decide)]
 show o_Gs p e below _ T236 m 98 #[.val (.ref r0), .val (.ref r1), .val (.ref r2), .val (.ref al), .val (.int 3)] [(.int 3), (.int 3)]
 have hd239 : ¬ ((3 : Int32) < (3 : Int32)) := (by decide)
 refine o_gi (XS.icmpYes X236.here hx rfl (pc0 := 98) (pc' := 128) rfl (hb hby o_d6_98) rfl (flt hd239).2.1 (by decide) (by decide)) ?_
 show o_Gs p e below _ T236 m 128 #[.val (.ref r0), .val (.ref r1), .val (.ref r2), .val (.ref al), .val (.int 3)] []
 have ff240 : Exa Z h235 r0 "com/example/foothold/foothold/SourceFile" := (((((jE_r0.ext E192).wr W193).wr W207).wr W221).wr W235)
 exact o_ret0 X236 hx hlk hret (hb hby o_d6_128) (by decide) (by decide) (by show o_Q6 Z r0 cs h0 n0 _ T236.heap _; rw [e236]; exact ⟨_, _, rfl, N235, (((((KK.ext E192).wr W193 (Or.inl (List.mem_of_getElem? (i := 0) rfl))).wr W207 (Or.inr sz_b192)).wr W221 (Or.inr sz_b192)).wr W235 (Or.inr sz_b192)), sz_b192, ff240, ff237, by rw [hls]; exact V235⟩)
set_option maxRecDepth 65536 in
set_option maxHeartbeats 40000000 in
theorem o_t76_4 {l : Launch} {Z : State} {a0 : Array Value} {r0 : Addr} {r1 : Addr} {r2 : Addr} {cl_e : Cell} {cl_c : Cell} {fm : Value} {t2 : Addr} {k2 : ClassId} {q_N : Int32} {q_vs : List Value} {cs : List Int32} {c_0 : Addr} {c_1 : Addr} {c_2 : Addr} {c_3 : Addr} {c_4 : Addr} {s_e : Addr} {x_hi : Int32} {s_c : Addr} {z_cs : Int32} {h0 : Heap} {n0 : Nat} {p : Program} {s : State} {m : MethodId} {meth : Method} {c : Code} {e : Env} {below : List Frame} (hP : o_P6 Z a0 r0 r1 r2 cl_e cl_c fm t2 k2 q_N q_vs cs c_0 c_1 c_2 c_3 c_4 s_e x_hi s_c z_cs h0 n0) (hB : o_X6 Z p s m meth c) {T0 : State} {L0 : List Loc} {hh : Heap} (X0 : Stand p l e o_R6 s m #[(.ref r0), (.ref r1), (.ref r2)] below meth c T0 L0 2 13) (e0 : T0.heap = hh) (N0 : Fr n0 L0) {al q_a : Addr} {k_a : ClassId} {ad0 : Addr} {w0 : Int32} {ad1 : Addr} {w1 : Int32} {ad2 : Addr} {w2 : Int32} {ad3 : Addr} {w3 : Int32} (hJ : o_J6 Z h0 n0 r0 r2 t2 k2 q_N q_vs hh al q_a k_a (4 : Int32) [(.ref ad0), (.ref ad1), (.ref ad2), (.ref ad3), .null, .null, .null, .null, .null, .null]) (B0 : o_A6 Z ad0 w0) (B1 : o_A6 Z ad1 w1) (B2 : o_A6 Z ad2 w2) (B3 : o_A6 Z ad3 w3) (sI : Slot) (hsI : One sI) (hls : o_ls cs = [w0, w1, w2, w3]) : o_Goes p e below (o_End s o_R6 (o_Q6 Z r0 cs h0 n0)) (T0.setTop (mkF m 76 #[.val (.ref r0), .val (.ref r1), .val (.ref r2), .val (.ref al), sI] [])) := by
 obtain ⟨hw, Z0, g_r0, O0, A_e, z_e, A_c, z_c, h_hi, t_c0, E_c0, F_c0, t_c1, E_c1, F_c1, t_c2, E_c2, F_c2, t_c3, E_c3, F_c3, t_c4, E_c4, F_c4, S_fm, rf, z_CS, hcd, hbd, hl4, hl4', ne_r0_r2, ne_r0_t2, S_s_e, S_x_hi, S_s_c, S_z_cs⟩ := id hP
 obtain ⟨hx, hby, hml, hown, hret, hlk, hZ, hnm⟩ := id hB
 obtain ⟨Z1, O1, KK, g_al, g_q_a, sz_al, sz_q_a, ne_r0_al, ne_r0_q_a, ne_r2_al, ne_r2_q_a, ne_t2_al, ne_t2_q_a, ne_al_q_a, jE_r0, jF_l, jE_r2, jF_v, jF_c, jV_t, jE_al, jF_m, jF_e, jF_z, jV_a, jO_a⟩ := hJ
 refine o_gi (XS.aloadN X0.here hx rfl (hb hby o_d6_76) rfl rfl) ?_
 refine o_gi (XS.aloadN X0.here hx rfl (hb hby o_d6_77) rfl rfl) ?_
 show o_Gs p e below _ T0 m 78 #[.val (.ref r0), .val (.ref r1), .val (.ref r2), .val (.ref al), sI] [(.ref al), (.ref r0)]
 obtain ⟨_, T241, L241, X241, ⟨rfl, N241q, e241⟩, st241⟩ := o_callF X0 hx hZ hown (mvT hZ (hw _ o_t119)) (mvT hZ (hw _ o_t120)) (mvT hZ (hw _ o_t121)) (mvT hZ (hw _ o_t122)) (mvT hZ (hw _ o_t123)) (mvT hZ (hw _ o_t124)) (mvT hZ (hw _ o_t125)) (mvT hZ (hw _ o_t80)) (hw _ o_t44) (hw _ o_t126) (by decide) (b := al) (as := []) (rm18 l Z a0 hw [] al (4 : Int32) hh n0 jF_z) e0 jE_al o_pd7 rfl (pc := 78) (Ls := #[.val (.ref r0), .val (.ref r1), .val (.ref r2), .val (.ref al), sI]) (rest := [(.ref r0)]) (W := 1) (by rw [hml]; rfl) (Nat.le_of_eq rfl) (by decide) (by decide) (hb hby o_d6_78) (by decide) (by decide)
 have N241 := Fr.app N0 N241q
 refine o_go st241 ?_
 show o_Gs p e below _ T241 m 83 #[.val (.ref r0), .val (.ref r1), .val (.ref r2), .val (.ref al), sI] [(.int 4), (.ref r0)]
 obtain ⟨T242, h242, k242, X242, e242, E242, A242, st242⟩ := newP X241 hx hZ (aty := .int) (hw _ o_t127) e241 (g := (mkF m 83 #[.val (.ref r0), .val (.ref r1), .val (.ref r2), .val (.ref al), sI] [(.int 4), (.ref r0)])) rfl (hb hby o_d6_83) rfl (by decide) (cap := 4) (by decide) (by decide) (by decide) (by decide)
 obtain ⟨b242, q242⟩ : ∃ z, z = hh.size := ⟨_, rfl⟩
 rw [← q242] at A242 st242
 have lt_b242 : hh.size ≤ b242 := Nat.le_of_eq q242.symm
 have ne_r0_b242 : r0 ≠ b242 := Nat.ne_of_lt (Nat.lt_of_lt_of_le jE_r0.lt lt_b242)
 have ne_r2_b242 : r2 ≠ b242 := Nat.ne_of_lt (Nat.lt_of_lt_of_le jE_r2.lt lt_b242)
 have ne_t2_b242 : t2 ≠ b242 := Nat.ne_of_lt (Nat.lt_of_lt_of_le jV_t.lt lt_b242)
 have ne_al_b242 : al ≠ b242 := Nat.ne_of_lt (Nat.lt_of_lt_of_le jE_al.lt lt_b242)
 have ne_q_a_b242 : q_a ≠ b242 := Nat.ne_of_lt (Nat.lt_of_lt_of_le jV_a.lt lt_b242)
 have g_b242 : n0 ≤ b242 := Nat.le_trans Z1 lt_b242
 have sz_b242 : h0.size ≤ b242 := Nat.le_trans KK.1 lt_b242
 have V242 : Arv Z h242 b242 k242 .int 4 [(.int 0), (.int 0), (.int 0), (.int 0)] (.int 0) := (Arv.new A242 (by decide)).pad (pad_rep [] (.int 0) 4)
 refine o_go st242 ?_
 show o_Gs p e below _ T242 m 85 #[.val (.ref r0), .val (.ref r1), .val (.ref r2), .val (.ref al), sI] [(.ref b242), (.ref r0)]
 obtain ⟨T243, h243, X243, e243, W243, st243⟩ := putF X242 hx hZ hown (host := "") (Or.inl (hw _ o_t128)) Via.refl e242 (jF_l.ext E242) (jE_r0.ext E242) (Or.inr ⟨(hw _ o_t129), rfl, hnm⟩) (hw _ o_t6) (ty := (.array .int)) (by decide) rfl rfl (g := (mkF m 85 #[.val (.ref r0), .val (.ref r1), .val (.ref r2), .val (.ref al), sI] [(.ref b242), (.ref r0)])) rfl rfl (hb hby o_d6_85)
 have N243 := Fr.snoc X243 N241 g_r0
 have Fw243 := (jF_l.ext E242).same W243
 refine o_go st243 ?_
 refine o_gi (XS.iconst X243.here hx rfl (hb hby o_d6_88)) ?_
 refine o_gi (XS.istore X243.here hx rfl (hb hby o_d6_89) rfl (l' := #[.val (.ref r0), .val (.ref r1), .val (.ref r2), .val (.ref al), .val (.int 0)]) (XS.store1 (o := sI) rfl hsI rfl)) ?_
 refine o_gi (XS.iload X243.here hx rfl (hb hby o_d6_91) rfl) ?_
 refine o_gi (XS.aloadN X243.here hx rfl (hb hby o_d6_93) rfl rfl) ?_
 show o_Gs p e below _ T243 m 94 #[.val (.ref r0), .val (.ref r1), .val (.ref r2), .val (.ref al), .val (.int 0)] [(.ref r0), (.int 0)]
 obtain ⟨T244, X244, e244, st244⟩ := getF X243 hx hZ hown (host := "") (Or.inl (hw _ o_t128)) Via.refl e243 Fw243 (g := (mkF m 94 #[.val (.ref r0), .val (.ref r1), .val (.ref r2), .val (.ref al), .val (.int 0)] [(.ref r0), (.int 0)])) rfl rfl (hb hby o_d6_94)
 refine o_go st244 ?_
 show o_Gs p e below _ T244 m 97 #[.val (.ref r0), .val (.ref r1), .val (.ref r2), .val (.ref al), .val (.int 0)] [(.ref b242), (.int 0)]
 have ff245 : Arv Z h243 b242 k242 .int 4 [(.int 0), (.int 0), (.int 0), (.int 0)] (.int 0) := (V242.other W243 (Ne.symm ne_r0_b242))
 obtain ⟨cl246, Ar246, qa246, sa246, na246, ha246, ga246⟩ := id ff245
 refine o_go (X244.arraylength hx (by rw [e244]; exact Ar246.1) (State.isArrayOf_alike hZ.alike Ar246.2.1) (g := (mkF m 97 #[.val (.ref r0), .val (.ref r1), .val (.ref r2), .val (.ref al), .val (.int 0)] [(.ref b242), (.int 0)])) rfl rfl (hb hby o_d6_97)) ?_
 rw [len_of sa246 (by decide)]
 show o_Gs p e below _ T244 m 98 #[.val (.ref r0), .val (.ref r1), .val (.ref r2), .val (.ref al), .val (.int 0)] [(.int 4), (.int 0)]
 have hd247 : (0 : Int32) < (4 : Int32) := (by decide)
 refine o_gi (XS.icmpNo X244.here hx rfl (hb hby o_d6_98) rfl (tlt hd247).2.1) ?_
 refine o_gi (XS.aloadN X244.here hx rfl (hb hby o_d6_101) rfl rfl) ?_
 show o_Gs p e below _ T244 m 102 #[.val (.ref r0), .val (.ref r1), .val (.ref r2), .val (.ref al), .val (.int 0)] [(.ref r0)]
 obtain ⟨T248, X248, e248, st248⟩ := getF X244 hx hZ hown (host := "") (Or.inl (hw _ o_t128)) Via.refl e244 Fw243 (g := (mkF m 102 #[.val (.ref r0), .val (.ref r1), .val (.ref r2), .val (.ref al), .val (.int 0)] [(.ref r0)])) rfl rfl (hb hby o_d6_102)
 refine o_go st248 ?_
 refine o_gi (XS.iload X248.here hx rfl (hb hby o_d6_105) rfl) ?_
 refine o_gi (XS.aloadN X248.here hx rfl (hb hby o_d6_107) rfl rfl) ?_
 refine o_gi (XS.iload X248.here hx rfl (hb hby o_d6_108) rfl) ?_
 show o_Gs p e below _ T248 m 110 #[.val (.ref r0), .val (.ref r1), .val (.ref r2), .val (.ref al), .val (.int 0)] [(.int 0), (.ref al), (.int 0), (.ref b242)]
 have ff250 : Arv Z h243 q_a k_a (.object "java/lang/Object") (10 : Int32) [(.ref ad0), (.ref ad1), (.ref ad2), (.ref ad3), .null, .null, .null, .null, .null, .null] .null := ((jV_a.ext E242).other W243 (Ne.symm ne_r0_q_a))
 obtain ⟨cl251, Ar251, qa251, sa251, na251, ha251, ga251⟩ := id ff250
 have ff252 : Fld Z h243 al "java/util/ArrayList" "elementData" "[Ljava/lang/Object;" (.ref q_a) := ((jF_e.ext E242).other W243 (Or.inl (Ne.symm ne_r0_al)))
 have ff253 : Fld Z h243 al "java/util/ArrayList" "size" "I" (.int 4) := ((jF_z.ext E242).other W243 (Or.inl (Ne.symm ne_r0_al)))
 obtain ⟨_, T249, L249, X249, ⟨rfl, N249q, e249⟩, st249⟩ := o_callF X248 hx hZ hown (mvT hZ (hw _ o_t130)) (mvT hZ (hw _ o_t131)) (mvT hZ (hw _ o_t132)) (mvT hZ (hw _ o_t133)) (mvT hZ (hw _ o_t134)) (mvT hZ (hw _ o_t135)) (mvT hZ (hw _ o_t136)) (mvT hZ (hw _ o_t80)) (hw _ o_t44) (hw _ o_t137) (by decide) (b := al) (as := [(.int 0)]) (rm19 l Z a0 hw [] al (0 : Int32) (4 : Int32) q_a cl251 ad0 h243 n0 ((jE_al.ext E242).wr W243) ff252 ff253 (by decide) (by decide) Ar251 (inb_of sa251 ⟨by decide, by decide⟩) (ha251 _ (by rw [sa251]; decide))) e248 ((jE_al.ext E242).wr W243) o_pd6 rfl (pc := 110) (Ls := #[.val (.ref r0), .val (.ref r1), .val (.ref r2), .val (.ref al), .val (.int 0)]) (rest := [(.int 0), (.ref b242)]) (W := 2) (by rw [hml]; rfl) (Nat.le_of_eq rfl) (by decide) (by decide) (hb hby o_d6_110) (by decide) (by decide)
 have N249 := Fr.app N243 N249q
 refine o_go st249 ?_
 show o_Gs p e below _ T249 m 115 #[.val (.ref r0), .val (.ref r1), .val (.ref r2), .val (.ref al), .val (.int 0)] [(.ref ad0), (.int 0), (.ref b242)]
 have oo255 : Old Z n0 h243 := ((O1.ext E242).wr W243 g_r0)
 obtain ⟨T254, X254, e254, st254⟩ := castY X249 hx hZ hown (hw _ o_t151) e249 (Ins.self (B0.1.ext oo255.2)) (g := (mkF m 115 #[.val (.ref r0), .val (.ref r1), .val (.ref r2), .val (.ref al), .val (.int 0)] [(.ref ad0), (.int 0), (.ref b242)])) rfl rfl (hb hby o_d6_115)
 refine o_go st254 ?_
 show o_Gs p e below _ T254 m 118 #[.val (.ref r0), .val (.ref r1), .val (.ref r2), .val (.ref al), .val (.int 0)] [(.ref ad0), (.int 0), (.ref b242)]
 obtain ⟨_, T256, L256, X256, ⟨rfl, N256q, e256⟩, st256⟩ := o_callV X254 hx hZ hown (hw _ o_t153) (hw _ o_t154) (hw _ o_t156) (hw _ o_t155) (hw _ o_t68) (hw _ o_t157) (by decide) (b := ad0) (as := []) (rm23 l Z a0 hw [] ad0 w0 h243 n0 (B0.2.ext oo255.2)) e254 (B0.1.ext oo255.2) o_pd7 rfl (pc := 118) (Ls := #[.val (.ref r0), .val (.ref r1), .val (.ref r2), .val (.ref al), .val (.int 0)]) (rest := [(.int 0), (.ref b242)]) (W := 2) (by rw [hml]; rfl) (Nat.le_of_eq rfl) (by decide) (by decide) (hb hby o_d6_118) (by decide) (by decide)
 have N256 := Fr.app N249 N256q
 refine o_go st256 ?_
 show o_Gs p e below _ T256 m 121 #[.val (.ref r0), .val (.ref r1), .val (.ref r2), .val (.ref al), .val (.int 0)] [(.int w0), (.int 0), (.ref b242)]
 obtain ⟨cl257, Ar257, qa257, sa257, na257, ha257, ga257⟩ := id ff245
 obtain ⟨T257, h257, X257, e257, W257, st257⟩ := stI X256 hx hZ e256 Ar257 (j := (0 : Int32)) (inb_of sa257 ⟨by decide, by decide⟩) (g := (mkF m 121 #[.val (.ref r0), .val (.ref r1), .val (.ref r2), .val (.ref al), .val (.int 0)] [(.int w0), (.int 0), (.ref b242)])) rfl rfl (hb hby o_d6_121)
 have V257 : Arv Z h257 b242 k242 .int 4 [(.int w0), (.int 0), (.int 0), (.int 0)] (.int 0) := Arv.set Ar257 qa257 sa257 na257 ha257 ga257 rfl W257 0 rfl (Nat.le_of_ble_eq_true rfl)
 have N257 := Fr.snoc X257 N256 g_b242
 refine o_go st257 ?_
 show o_Gs p e below _ T257 m 122 #[.val (.ref r0), .val (.ref r1), .val (.ref r2), .val (.ref al), .val (.int 0)] []
 refine o_gi (XS.iinc X257.here hx rfl (hb hby o_d6_122) rfl (l' := #[.val (.ref r0), .val (.ref r1), .val (.ref r2), .val (.ref al), .val (.int ((0 : Int32) + (1 : Int32)))]) rfl) ?_
 show o_Gs p e below _ T257 m 125 #[.val (.ref r0), .val (.ref r1), .val (.ref r2), .val (.ref al), .val (.int ((0 : Int32) + (1 : Int32)))] []
 rw [show ((0 : Int32) + (1 : Int32)) = (1 : Int32) from by decide]
 refine o_gi (XS.goto X257.here hx rfl (pc0 := 125) (pc' := 91) rfl (hb hby o_d6_125) (by decide) (by decide)) ?_
 refine o_gi (XS.iload X257.here hx rfl (hb hby o_d6_91) rfl) ?_
 refine o_gi (XS.aloadN X257.here hx rfl (hb hby o_d6_93) rfl rfl) ?_
 show o_Gs p e below _ T257 m 94 #[.val (.ref r0), .val (.ref r1), .val (.ref r2), .val (.ref al), .val (.int 1)] [(.ref r0), (.int 1)]
 have ff259 : Fld Z h257 r0 "com/example/foothold/foothold/SourceFile" "lineStarts" "[I" (.ref b242) := (Fw243.other W257 (Or.inl ne_r0_b242))
 obtain ⟨T258, X258, e258, st258⟩ := getF X257 hx hZ hown (host := "") (Or.inl (hw _ o_t128)) Via.refl e257 ff259 (g := (mkF m 94 #[.val (.ref r0), .val (.ref r1), .val (.ref r2), .val (.ref al), .val (.int 1)] [(.ref r0), (.int 1)])) rfl rfl (hb hby o_d6_94)
 refine o_go st258 ?_
 show o_Gs p e below _ T258 m 97 #[.val (.ref r0), .val (.ref r1), .val (.ref r2), .val (.ref al), .val (.int 1)] [(.ref b242), (.int 1)]
 obtain ⟨cl260, Ar260, qa260, sa260, na260, ha260, ga260⟩ := id V257
 refine o_go (X258.arraylength hx (by rw [e258]; exact Ar260.1) (State.isArrayOf_alike hZ.alike Ar260.2.1) (g := (mkF m 97 #[.val (.ref r0), .val (.ref r1), .val (.ref r2), .val (.ref al), .val (.int 1)] [(.ref b242), (.int 1)])) rfl rfl (hb hby o_d6_97)) ?_
 rw [len_of sa260 (by decide)]
 show o_Gs p e below _ T258 m 98 #[.val (.ref r0), .val (.ref r1), .val (.ref r2), .val (.ref al), .val (.int 1)] [(.int 4), (.int 1)]
 have hd261 : (1 : Int32) < (4 : Int32) := (by decide)
 refine o_gi (XS.icmpNo X258.here hx rfl (hb hby o_d6_98) rfl (tlt hd261).2.1) ?_
 refine o_gi (XS.aloadN X258.here hx rfl (hb hby o_d6_101) rfl rfl) ?_
 show o_Gs p e below _ T258 m 102 #[.val (.ref r0), .val (.ref r1), .val (.ref r2), .val (.ref al), .val (.int 1)] [(.ref r0)]
 obtain ⟨T262, X262, e262, st262⟩ := getF X258 hx hZ hown (host := "") (Or.inl (hw _ o_t128)) Via.refl e258 ff259 (g := (mkF m 102 #[.val (.ref r0), .val (.ref r1), .val (.ref r2), .val (.ref al), .val (.int 1)] [(.ref r0)])) rfl rfl (hb hby o_d6_102)
 refine o_go st262 ?_
 refine o_gi (XS.iload X262.here hx rfl (hb hby o_d6_105) rfl) ?_
 refine o_gi (XS.aloadN X262.here hx rfl (hb hby o_d6_107) rfl rfl) ?_
 refine o_gi (XS.iload X262.here hx rfl (hb hby o_d6_108) rfl) ?_
 show o_Gs p e below _ T262 m 110 #[.val (.ref r0), .val (.ref r1), .val (.ref r2), .val (.ref al), .val (.int 1)] [(.int 1), (.ref al), (.int 1), (.ref b242)]
 obtain ⟨cl264, Ar264, qa264, sa264, na264, ha264, ga264⟩ := id (ff250.other W257 ne_q_a_b242)
 have ff265 : Exa Z h257 al "java/util/ArrayList" := (((jE_al.ext E242).wr W243).wr W257)
 have ff266 : Fld Z h257 al "java/util/ArrayList" "elementData" "[Ljava/lang/Object;" (.ref q_a) := (ff252.other W257 (Or.inl ne_al_b242))
 have ff267 : Fld Z h257 al "java/util/ArrayList" "size" "I" (.int 4) := (ff253.other W257 (Or.inl ne_al_b242))
 obtain ⟨_, T263, L263, X263, ⟨rfl, N263q, e263⟩, st263⟩ := o_callF X262 hx hZ hown (mvT hZ (hw _ o_t130)) (mvT hZ (hw _ o_t131)) (mvT hZ (hw _ o_t132)) (mvT hZ (hw _ o_t133)) (mvT hZ (hw _ o_t134)) (mvT hZ (hw _ o_t135)) (mvT hZ (hw _ o_t136)) (mvT hZ (hw _ o_t80)) (hw _ o_t44) (hw _ o_t137) (by decide) (b := al) (as := [(.int 1)]) (rm19 l Z a0 hw [] al (1 : Int32) (4 : Int32) q_a cl264 ad1 h257 n0 ff265 ff266 ff267 (by decide) (by decide) Ar264 (inb_of sa264 ⟨by decide, by decide⟩) (ha264 _ (by rw [sa264]; decide))) e262 ff265 o_pd6 rfl (pc := 110) (Ls := #[.val (.ref r0), .val (.ref r1), .val (.ref r2), .val (.ref al), .val (.int 1)]) (rest := [(.int 1), (.ref b242)]) (W := 2) (by rw [hml]; rfl) (Nat.le_of_eq rfl) (by decide) (by decide) (hb hby o_d6_110) (by decide) (by decide)
 have N263 := Fr.app N257 N263q
 refine o_go st263 ?_
 show o_Gs p e below _ T263 m 115 #[.val (.ref r0), .val (.ref r1), .val (.ref r2), .val (.ref al), .val (.int 1)] [(.ref ad1), (.int 1), (.ref b242)]
 have oo269 : Old Z n0 h257 := (oo255.wr W257 g_b242)
 obtain ⟨T268, X268, e268, st268⟩ := castY X263 hx hZ hown (hw _ o_t151) e263 (Ins.self (B1.1.ext oo269.2)) (g := (mkF m 115 #[.val (.ref r0), .val (.ref r1), .val (.ref r2), .val (.ref al), .val (.int 1)] [(.ref ad1), (.int 1), (.ref b242)])) rfl rfl (hb hby o_d6_115)
 refine o_go st268 ?_
 show o_Gs p e below _ T268 m 118 #[.val (.ref r0), .val (.ref r1), .val (.ref r2), .val (.ref al), .val (.int 1)] [(.ref ad1), (.int 1), (.ref b242)]
 obtain ⟨_, T270, L270, X270, ⟨rfl, N270q, e270⟩, st270⟩ := o_callV X268 hx hZ hown (hw _ o_t153) (hw _ o_t154) (hw _ o_t156) (hw _ o_t155) (hw _ o_t68) (hw _ o_t157) (by decide) (b := ad1) (as := []) (rm23 l Z a0 hw [] ad1 w1 h257 n0 (B1.2.ext oo269.2)) e268 (B1.1.ext oo269.2) o_pd7 rfl (pc := 118) (Ls := #[.val (.ref r0), .val (.ref r1), .val (.ref r2), .val (.ref al), .val (.int 1)]) (rest := [(.int 1), (.ref b242)]) (W := 2) (by rw [hml]; rfl) (Nat.le_of_eq rfl) (by decide) (by decide) (hb hby o_d6_118) (by decide) (by decide)
 have N270 := Fr.app N263 N270q
 refine o_go st270 ?_
 show o_Gs p e below _ T270 m 121 #[.val (.ref r0), .val (.ref r1), .val (.ref r2), .val (.ref al), .val (.int 1)] [(.int w1), (.int 1), (.ref b242)]
 obtain ⟨cl271, Ar271, qa271, sa271, na271, ha271, ga271⟩ := id V257
 obtain ⟨T271, h271, X271, e271, W271, st271⟩ := stI X270 hx hZ e270 Ar271 (j := (1 : Int32)) (inb_of sa271 ⟨by decide, by decide⟩) (g := (mkF m 121 #[.val (.ref r0), .val (.ref r1), .val (.ref r2), .val (.ref al), .val (.int 1)] [(.int w1), (.int 1), (.ref b242)])) rfl rfl (hb hby o_d6_121)
 have V271 : Arv Z h271 b242 k242 .int 4 [(.int w0), (.int w1), (.int 0), (.int 0)] (.int 0) := Arv.set Ar271 qa271 sa271 na271 ha271 ga271 rfl W271 1 rfl (Nat.le_of_ble_eq_true rfl)
 have N271 := Fr.snoc X271 N270 g_b242
 refine o_go st271 ?_
 show o_Gs p e below _ T271 m 122 #[.val (.ref r0), .val (.ref r1), .val (.ref r2), .val (.ref al), .val (.int 1)] []
 refine o_gi (XS.iinc X271.here hx rfl (hb hby o_d6_122) rfl (l' := #[.val (.ref r0), .val (.ref r1), .val (.ref r2), .val (.ref al), .val (.int ((1 : Int32) + (1 : Int32)))]) rfl) ?_
 show o_Gs p e below _ T271 m 125 #[.val (.ref r0), .val (.ref r1), .val (.ref r2), .val (.ref al), .val (.int ((1 : Int32) + (1 : Int32)))] []
 rw [show ((1 : Int32) + (1 : Int32)) = (2 : Int32) from by decide]
 refine o_gi (XS.goto X271.here hx rfl (pc0 := 125) (pc' := 91) rfl (hb hby o_d6_125) (by decide) (by decide)) ?_
 refine o_gi (XS.iload X271.here hx rfl (hb hby o_d6_91) rfl) ?_
 refine o_gi (XS.aloadN X271.here hx rfl (hb hby o_d6_93) rfl rfl) ?_
 show o_Gs p e below _ T271 m 94 #[.val (.ref r0), .val (.ref r1), .val (.ref r2), .val (.ref al), .val (.int 2)] [(.ref r0), (.int 2)]
 have ff273 : Fld Z h271 r0 "com/example/foothold/foothold/SourceFile" "lineStarts" "[I" (.ref b242) := (ff259.other W271 (Or.inl ne_r0_b242))
 obtain ⟨T272, X272, e272, st272⟩ := getF X271 hx hZ hown (host := "") (Or.inl (hw _ o_t128)) Via.refl e271 ff273 (g := (mkF m 94 #[.val (.ref r0), .val (.ref r1), .val (.ref r2), .val (.ref al), .val (.int 2)] [(.ref r0), (.int 2)])) rfl rfl (hb hby o_d6_94)
 refine o_go st272 ?_
 show o_Gs p e below _ T272 m 97 #[.val (.ref r0), .val (.ref r1), .val (.ref r2), .val (.ref al), .val (.int 2)] [(.ref b242), (.int 2)]
 obtain ⟨cl274, Ar274, qa274, sa274, na274, ha274, ga274⟩ := id V271
 refine o_go (X272.arraylength hx (by rw [e272]; exact Ar274.1) (State.isArrayOf_alike hZ.alike Ar274.2.1) (g := (mkF m 97 #[.val (.ref r0), .val (.ref r1), .val (.ref r2), .val (.ref al), .val (.int 2)] [(.ref b242), (.int 2)])) rfl rfl (hb hby o_d6_97)) ?_
 rw [len_of sa274 (by decide)]
 show o_Gs p e below _ T272 m 98 #[.val (.ref r0), .val (.ref r1), .val (.ref r2), .val (.ref al), .val (.int 2)] [(.int 4), (.int 2)]
 have hd275 : (2 : Int32) < (4 : Int32) := (by decide)
 refine o_gi (XS.icmpNo X272.here hx rfl (hb hby o_d6_98) rfl (tlt hd275).2.1) ?_
 refine o_gi (XS.aloadN X272.here hx rfl (hb hby o_d6_101) rfl rfl) ?_
 show o_Gs p e below _ T272 m 102 #[.val (.ref r0), .val (.ref r1), .val (.ref r2), .val (.ref al), .val (.int 2)] [(.ref r0)]
 obtain ⟨T276, X276, e276, st276⟩ := getF X272 hx hZ hown (host := "") (Or.inl (hw _ o_t128)) Via.refl e272 ff273 (g := (mkF m 102 #[.val (.ref r0), .val (.ref r1), .val (.ref r2), .val (.ref al), .val (.int 2)] [(.ref r0)])) rfl rfl (hb hby o_d6_102)
 refine o_go st276 ?_
 refine o_gi (XS.iload X276.here hx rfl (hb hby o_d6_105) rfl) ?_
 refine o_gi (XS.aloadN X276.here hx rfl (hb hby o_d6_107) rfl rfl) ?_
 refine o_gi (XS.iload X276.here hx rfl (hb hby o_d6_108) rfl) ?_
 show o_Gs p e below _ T276 m 110 #[.val (.ref r0), .val (.ref r1), .val (.ref r2), .val (.ref al), .val (.int 2)] [(.int 2), (.ref al), (.int 2), (.ref b242)]
 have ff278 : Arv Z h271 q_a k_a (.object "java/lang/Object") (10 : Int32) [(.ref ad0), (.ref ad1), (.ref ad2), (.ref ad3), .null, .null, .null, .null, .null, .null] .null := ((ff250.other W257 ne_q_a_b242).other W271 ne_q_a_b242)
 obtain ⟨cl279, Ar279, qa279, sa279, na279, ha279, ga279⟩ := id ff278
 have ff280 : Fld Z h271 al "java/util/ArrayList" "elementData" "[Ljava/lang/Object;" (.ref q_a) := (ff266.other W271 (Or.inl ne_al_b242))
 have ff281 : Fld Z h271 al "java/util/ArrayList" "size" "I" (.int 4) := (ff267.other W271 (Or.inl ne_al_b242))
 obtain ⟨_, T277, L277, X277, ⟨rfl, N277q, e277⟩, st277⟩ := o_callF X276 hx hZ hown (mvT hZ (hw _ o_t130)) (mvT hZ (hw _ o_t131)) (mvT hZ (hw _ o_t132)) (mvT hZ (hw _ o_t133)) (mvT hZ (hw _ o_t134)) (mvT hZ (hw _ o_t135)) (mvT hZ (hw _ o_t136)) (mvT hZ (hw _ o_t80)) (hw _ o_t44) (hw _ o_t137) (by decide) (b := al) (as := [(.int 2)]) (rm19 l Z a0 hw [] al (2 : Int32) (4 : Int32) q_a cl279 ad2 h271 n0 (ff265.wr W271) ff280 ff281 (by decide) (by decide) Ar279 (inb_of sa279 ⟨by decide, by decide⟩) (ha279 _ (by rw [sa279]; decide))) e276 (ff265.wr W271) o_pd6 rfl (pc := 110) (Ls := #[.val (.ref r0), .val (.ref r1), .val (.ref r2), .val (.ref al), .val (.int 2)]) (rest := [(.int 2), (.ref b242)]) (W := 2) (by rw [hml]; rfl) (Nat.le_of_eq rfl) (by decide) (by decide) (hb hby o_d6_110) (by decide) (by decide)
 have N277 := Fr.app N271 N277q
 refine o_go st277 ?_
 show o_Gs p e below _ T277 m 115 #[.val (.ref r0), .val (.ref r1), .val (.ref r2), .val (.ref al), .val (.int 2)] [(.ref ad2), (.int 2), (.ref b242)]
 have oo283 : Old Z n0 h271 := (oo269.wr W271 g_b242)
 obtain ⟨T282, X282, e282, st282⟩ := castY X277 hx hZ hown (hw _ o_t151) e277 (Ins.self (B2.1.ext oo283.2)) (g := (mkF m 115 #[.val (.ref r0), .val (.ref r1), .val (.ref r2), .val (.ref al), .val (.int 2)] [(.ref ad2), (.int 2), (.ref b242)])) rfl rfl (hb hby o_d6_115)
 refine o_go st282 ?_
 show o_Gs p e below _ T282 m 118 #[.val (.ref r0), .val (.ref r1), .val (.ref r2), .val (.ref al), .val (.int 2)] [(.ref ad2), (.int 2), (.ref b242)]
 obtain ⟨_, T284, L284, X284, ⟨rfl, N284q, e284⟩, st284⟩ := o_callV X282 hx hZ hown (hw _ o_t153) (hw _ o_t154) (hw _ o_t156) (hw _ o_t155) (hw _ o_t68) (hw _ o_t157) (by decide) (b := ad2) (as := []) (rm23 l Z a0 hw [] ad2 w2 h271 n0 (B2.2.ext oo283.2)) e282 (B2.1.ext oo283.2) o_pd7 rfl (pc := 118) (Ls := #[.val (.ref r0), .val (.ref r1), .val (.ref r2), .val (.ref al), .val (.int 2)]) (rest := [(.int 2), (.ref b242)]) (W := 2) (by rw [hml]; rfl) (Nat.le_of_eq rfl) (by decide) (by decide) (hb hby o_d6_118) (by decide) (by decide)
 have N284 := Fr.app N277 N284q
 refine o_go st284 ?_
 show o_Gs p e below _ T284 m 121 #[.val (.ref r0), .val (.ref r1), .val (.ref r2), .val (.ref al), .val (.int 2)] [(.int w2), (.int 2), (.ref b242)]
 obtain ⟨cl285, Ar285, qa285, sa285, na285, ha285, ga285⟩ := id V271
 obtain ⟨T285, h285, X285, e285, W285, st285⟩ := stI X284 hx hZ e284 Ar285 (j := (2 : Int32)) (inb_of sa285 ⟨by decide, by decide⟩) (g := (mkF m 121 #[.val (.ref r0), .val (.ref r1), .val (.ref r2), .val (.ref al), .val (.int 2)] [(.int w2), (.int 2), (.ref b242)])) rfl rfl (hb hby o_d6_121)
 have V285 : Arv Z h285 b242 k242 .int 4 [(.int w0), (.int w1), (.int w2), (.int 0)] (.int 0) := Arv.set Ar285 qa285 sa285 na285 ha285 ga285 rfl W285 2 rfl (Nat.le_of_ble_eq_true rfl)
 have N285 := Fr.snoc X285 N284 g_b242
 refine o_go st285 ?_
 show o_Gs p e below _ T285 m 122 #[.val (.ref r0), .val (.ref r1), .val (.ref r2), .val (.ref al), .val (.int 2)] []
 refine o_gi (XS.iinc X285.here hx rfl (hb hby o_d6_122) rfl (l' := #[.val (.ref r0), .val (.ref r1), .val (.ref r2), .val (.ref al), .val (.int ((2 : Int32) + (1 : Int32)))]) rfl) ?_
 show o_Gs p e below _ T285 m 125 #[.val (.ref r0), .val (.ref r1), .val (.ref r2), .val (.ref al), .val (.int ((2 : Int32) + (1 : Int32)))] []
 rw [show ((2 : Int32) + (1 : Int32)) = (3 : Int32) from by decide]
 refine o_gi (XS.goto X285.here hx rfl (pc0 := 125) (pc' := 91) rfl (hb hby o_d6_125) (by decide) (by decide)) ?_
 refine o_gi (XS.iload X285.here hx rfl (hb hby o_d6_91) rfl) ?_
 refine o_gi (XS.aloadN X285.here hx rfl (hb hby o_d6_93) rfl rfl) ?_
 show o_Gs p e below _ T285 m 94 #[.val (.ref r0), .val (.ref r1), .val (.ref r2), .val (.ref al), .val (.int 3)] [(.ref r0), (.int 3)]
 have ff287 : Fld Z h285 r0 "com/example/foothold/foothold/SourceFile" "lineStarts" "[I" (.ref b242) := (ff273.other W285 (Or.inl ne_r0_b242))
 obtain ⟨T286, X286, e286, st286⟩ := getF X285 hx hZ hown (host := "") (Or.inl (hw _ o_t128)) Via.refl e285 ff287 (g := (mkF m 94 #[.val (.ref r0), .val (.ref r1), .val (.ref r2), .val (.ref al), .val (.int 3)] [(.ref r0), (.int 3)])) rfl rfl (hb hby o_d6_94)
 refine o_go st286 ?_
 show o_Gs p e below _ T286 m 97 #[.val (.ref r0), .val (.ref r1), .val (.ref r2), .val (.ref al), .val (.int 3)] [(.ref b242), (.int 3)]
 obtain ⟨cl288, Ar288, qa288, sa288, na288, ha288, ga288⟩ := id V285
 refine o_go (X286.arraylength hx (by rw [e286]; exact Ar288.1) (State.isArrayOf_alike hZ.alike Ar288.2.1) (g := (mkF m 97 #[.val (.ref r0), .val (.ref r1), .val (.ref r2), .val (.ref al), .val (.int 3)] [(.ref b242), (.int 3)])) rfl rfl (hb hby o_d6_97)) ?_
 rw [len_of sa288 (by decide)]
 show o_Gs p e below _ T286 m 98 #[.val (.ref r0), .val (.ref r1), .val (.ref r2), .val (.ref al), .val (.int 3)] [(.int 4), (.int 3)]
 have hd289 : (3 : Int32) < (4 : Int32) := (by decide)
 refine o_gi (XS.icmpNo X286.here hx rfl (hb hby o_d6_98) rfl (tlt hd289).2.1) ?_
 refine o_gi (XS.aloadN X286.here hx rfl (hb hby o_d6_101) rfl rfl) ?_
 show o_Gs p e below _ T286 m 102 #[.val (.ref r0), .val (.ref r1), .val (.ref r2), .val (.ref al), .val (.int 3)] [(.ref r0)]
 obtain ⟨T290, X290, e290, st290⟩ := getF X286 hx hZ hown (host := "") (Or.inl (hw _ o_t128)) Via.refl e286 ff287 (g := (mkF m 102 #[.val (.ref r0), .val (.ref r1), .val (.ref r2), .val (.ref al), .val (.int 3)] [(.ref r0)])) rfl rfl (hb hby o_d6_102)
 refine o_go st290 ?_
 refine o_gi (XS.iload X290.here hx rfl (hb hby o_d6_105) rfl) ?_
 refine o_gi (XS.aloadN X290.here hx rfl (hb hby o_d6_107) rfl rfl) ?_
 refine o_gi (XS.iload X290.here hx rfl (hb hby o_d6_108) rfl) ?_
 show o_Gs p e below _ T290 m 110 #[.val (.ref r0), .val (.ref r1), .val (.ref r2), .val (.ref al), .val (.int 3)] [(.int 3), (.ref al), (.int 3), (.ref b242)]
 obtain ⟨cl292, Ar292, qa292, sa292, na292, ha292, ga292⟩ := id (ff278.other W285 ne_q_a_b242)
 have ff293 : Fld Z h285 al "java/util/ArrayList" "elementData" "[Ljava/lang/Object;" (.ref q_a) := (ff280.other W285 (Or.inl ne_al_b242))
 have ff294 : Fld Z h285 al "java/util/ArrayList" "size" "I" (.int 4) := (ff281.other W285 (Or.inl ne_al_b242))
 obtain ⟨_, T291, L291, X291, ⟨rfl, N291q, e291⟩, st291⟩ := o_callF X290 hx hZ hown (mvT hZ (hw _ o_t130)) (mvT hZ (hw _ o_t131)) (mvT hZ (hw _ o_t132)) (mvT hZ (hw _ o_t133)) (mvT hZ (hw _ o_t134)) (mvT hZ (hw _ o_t135)) (mvT hZ (hw _ o_t136)) (mvT hZ (hw _ o_t80)) (hw _ o_t44) (hw _ o_t137) (by decide) (b := al) (as := [(.int 3)]) (rm19 l Z a0 hw [] al (3 : Int32) (4 : Int32) q_a cl292 ad3 h285 n0 ((ff265.wr W271).wr W285) ff293 ff294 (by decide) (by decide) Ar292 (inb_of sa292 ⟨by decide, by decide⟩) (ha292 _ (by rw [sa292]; decide))) e290 ((ff265.wr W271).wr W285) o_pd6 rfl (pc := 110) (Ls := #[.val (.ref r0), .val (.ref r1), .val (.ref r2), .val (.ref al), .val (.int 3)]) (rest := [(.int 3), (.ref b242)]) (W := 2) (by rw [hml]; rfl) (Nat.le_of_eq rfl) (by decide) (by decide) (hb hby o_d6_110) (by decide) (by decide)
 have N291 := Fr.app N285 N291q
 refine o_go st291 ?_
 show o_Gs p e below _ T291 m 115 #[.val (.ref r0), .val (.ref r1), .val (.ref r2), .val (.ref al), .val (.int 3)] [(.ref ad3), (.int 3), (.ref b242)]
 have oo296 : Old Z n0 h285 := (oo283.wr W285 g_b242)
 obtain ⟨T295, X295, e295, st295⟩ := castY X291 hx hZ hown (hw _ o_t151) e291 (Ins.self (B3.1.ext oo296.2)) (g := (mkF m 115 #[.val (.ref r0), .val (.ref r1), .val (.ref r2), .val (.ref al), .val (.int 3)] [(.ref ad3), (.int 3), (.ref b242)])) rfl rfl (hb hby o_d6_115)
 refine o_go st295 ?_
 show o_Gs p e below _ T295 m 118 #[.val (.ref r0), .val (.ref r1), .val (.ref r2), .val (.ref al), .val (.int 3)] [(.ref ad3), (.int 3), (.ref b242)]
 obtain ⟨_, T297, L297, X297, ⟨rfl, N297q, e297⟩, st297⟩ := o_callV X295 hx hZ hown (hw _ o_t153) (hw _ o_t154) (hw _ o_t156) (hw _ o_t155) (hw _ o_t68) (hw _ o_t157) (by decide) (b := ad3) (as := []) (rm23 l Z a0 hw [] ad3 w3 h285 n0 (B3.2.ext oo296.2)) e295 (B3.1.ext oo296.2) o_pd7 rfl (pc := 118) (Ls := #[.val (.ref r0), .val (.ref r1), .val (.ref r2), .val (.ref al), .val (.int 3)]) (rest := [(.int 3), (.ref b242)]) (W := 2) (by rw [hml]; rfl) (Nat.le_of_eq rfl) (by decide) (by decide) (hb hby o_d6_118) (by decide) (by decide)
 have N297 := Fr.app N291 N297q
 refine o_go st297 ?_
 show o_Gs p e below _ T297 m 121 #[.val (.ref r0), .val (.ref r1), .val (.ref r2), .val (.ref al), .val (.int 3)] [(.int w3), (.int 3), (.ref b242)]
 obtain ⟨cl298, Ar298, qa298, sa298, na298, ha298, ga298⟩ := id V285
 obtain ⟨T298, h298, X298, e298, W298, st298⟩ := stI X297 hx hZ e297 Ar298 (j := (3 : Int32)) (inb_of sa298 ⟨by decide, by decide⟩) (g := (mkF m 121 #[.val (.ref r0), .val (.ref r1), .val (.ref r2), .val (.ref al), .val (.int 3)] [(.int w3), (.int 3), (.ref b242)])) rfl rfl (hb hby o_d6_121)
 have V298 : Arv Z h298 b242 k242 .int 4 [(.int w0), (.int w1), (.int w2), (.int w3)] (.int 0) := Arv.set Ar298 qa298 sa298 na298 ha298 ga298 rfl W298 3 rfl (Nat.le_of_ble_eq_true rfl)
 have N298 := Fr.snoc X298 N297 g_b242
 refine o_go st298 ?_
 show o_Gs p e below _ T298 m 122 #[.val (.ref r0), .val (.ref r1), .val (.ref r2), .val (.ref al), .val (.int 3)] []
 refine o_gi (XS.iinc X298.here hx rfl (hb hby o_d6_122) rfl (l' := #[.val (.ref r0), .val (.ref r1), .val (.ref r2), .val (.ref al), .val (.int ((3 : Int32) + (1 : Int32)))]) rfl) ?_
 show o_Gs p e below _ T298 m 125 #[.val (.ref r0), .val (.ref r1), .val (.ref r2), .val (.ref al), .val (.int ((3 : Int32) + (1 : Int32)))] []
 rw [show ((3 : Int32) + (1 : Int32)) = (4 : Int32) from by decide]
 refine o_gi (XS.goto X298.here hx rfl (pc0 := 125) (pc' := 91) rfl (hb hby o_d6_125) (by decide) (by decide)) ?_
 refine o_gi (XS.iload X298.here hx rfl (hb hby o_d6_91) rfl) ?_
 refine o_gi (XS.aloadN X298.here hx rfl (hb hby o_d6_93) rfl rfl) ?_
 show o_Gs p e below _ T298 m 94 #[.val (.ref r0), .val (.ref r1), .val (.ref r2), .val (.ref al), .val (.int 4)] [(.ref r0), (.int 4)]
 have ff300 : Fld Z h298 r0 "com/example/foothold/foothold/SourceFile" "lineStarts" "[I" (.ref b242) := (ff287.other W298 (Or.inl ne_r0_b242))
 obtain ⟨T299, X299, e299, st299⟩ := getF X298 hx hZ hown (host := "") (Or.inl (hw _ o_t128)) Via.refl e298 ff300 (g := (mkF m 94 #[.val (.ref r0), .val (.ref r1), .val (.ref r2), .val (.ref al), .val (.int 4)] [(.ref r0), (.int 4)])) rfl rfl (hb hby o_d6_94)
 refine o_go st299 ?_
 show o_Gs p e below _ T299 m 97 #[.val (.ref r0), .val (.ref r1), .val (.ref r2), .val (.ref al), .val (.int 4)] [(.ref b242), (.int 4)]
 obtain ⟨cl301, Ar301, qa301, sa301, na301, ha301, ga301⟩ := id V298
 refine o_go (X299.arraylength hx (by rw [e299]; exact Ar301.1) (State.isArrayOf_alike hZ.alike Ar301.2.1) (g := (mkF m 97 #[.val (.ref r0), .val (.ref r1), .val (.ref r2), .val (.ref al), .val (.int 4)] [(.ref b242), (.int 4)])) rfl rfl (hb hby o_d6_97)) ?_
 rw [len_of sa301 (by decide)]
 show o_Gs p e below _ T299 m 98 #[.val (.ref r0), .val (.ref r1), .val (.ref r2), .val (.ref al), .val (.int 4)] [(.int 4), (.int 4)]
 have hd302 : ¬ ((4 : Int32) < (4 : Int32)) := (by decide)
 refine o_gi (XS.icmpYes X299.here hx rfl (pc0 := 98) (pc' := 128) rfl (hb hby o_d6_98) rfl (flt hd302).2.1 (by decide) (by decide)) ?_
 show o_Gs p e below _ T299 m 128 #[.val (.ref r0), .val (.ref r1), .val (.ref r2), .val (.ref al), .val (.int 4)] []
 have ff303 : Exa Z h298 r0 "com/example/foothold/foothold/SourceFile" := ((((((jE_r0.ext E242).wr W243).wr W257).wr W271).wr W285).wr W298)
 exact o_ret0 X299 hx hlk hret (hb hby o_d6_128) (by decide) (by decide) (by show o_Q6 Z r0 cs h0 n0 _ T299.heap _; rw [e299]; exact ⟨_, _, rfl, N298, ((((((KK.ext E242).wr W243 (Or.inl (List.mem_of_getElem? (i := 0) rfl))).wr W257 (Or.inr sz_b242)).wr W271 (Or.inr sz_b242)).wr W285 (Or.inr sz_b242)).wr W298 (Or.inr sz_b242)), sz_b242, ff303, ff300, by rw [hls]; exact V298⟩)
set_option maxRecDepth 65536 in
set_option maxHeartbeats 40000000 in
theorem o_t76_5 {l : Launch} {Z : State} {a0 : Array Value} {r0 : Addr} {r1 : Addr} {r2 : Addr} {cl_e : Cell} {cl_c : Cell} {fm : Value} {t2 : Addr} {k2 : ClassId} {q_N : Int32} {q_vs : List Value} {cs : List Int32} {c_0 : Addr} {c_1 : Addr} {c_2 : Addr} {c_3 : Addr} {c_4 : Addr} {s_e : Addr} {x_hi : Int32} {s_c : Addr} {z_cs : Int32} {h0 : Heap} {n0 : Nat} {p : Program} {s : State} {m : MethodId} {meth : Method} {c : Code} {e : Env} {below : List Frame} (hP : o_P6 Z a0 r0 r1 r2 cl_e cl_c fm t2 k2 q_N q_vs cs c_0 c_1 c_2 c_3 c_4 s_e x_hi s_c z_cs h0 n0) (hB : o_X6 Z p s m meth c) {T0 : State} {L0 : List Loc} {hh : Heap} (X0 : Stand p l e o_R6 s m #[(.ref r0), (.ref r1), (.ref r2)] below meth c T0 L0 2 13) (e0 : T0.heap = hh) (N0 : Fr n0 L0) {al q_a : Addr} {k_a : ClassId} {ad0 : Addr} {w0 : Int32} {ad1 : Addr} {w1 : Int32} {ad2 : Addr} {w2 : Int32} {ad3 : Addr} {w3 : Int32} {ad4 : Addr} {w4 : Int32} (hJ : o_J6 Z h0 n0 r0 r2 t2 k2 q_N q_vs hh al q_a k_a (5 : Int32) [(.ref ad0), (.ref ad1), (.ref ad2), (.ref ad3), (.ref ad4), .null, .null, .null, .null, .null]) (B0 : o_A6 Z ad0 w0) (B1 : o_A6 Z ad1 w1) (B2 : o_A6 Z ad2 w2) (B3 : o_A6 Z ad3 w3) (B4 : o_A6 Z ad4 w4) (sI : Slot) (hsI : One sI) (hls : o_ls cs = [w0, w1, w2, w3, w4]) : o_Goes p e below (o_End s o_R6 (o_Q6 Z r0 cs h0 n0)) (T0.setTop (mkF m 76 #[.val (.ref r0), .val (.ref r1), .val (.ref r2), .val (.ref al), sI] [])) := by
 obtain ⟨hw, Z0, g_r0, O0, A_e, z_e, A_c, z_c, h_hi, t_c0, E_c0, F_c0, t_c1, E_c1, F_c1, t_c2, E_c2, F_c2, t_c3, E_c3, F_c3, t_c4, E_c4, F_c4, S_fm, rf, z_CS, hcd, hbd, hl4, hl4', ne_r0_r2, ne_r0_t2, S_s_e, S_x_hi, S_s_c, S_z_cs⟩ := id hP
 obtain ⟨hx, hby, hml, hown, hret, hlk, hZ, hnm⟩ := id hB
 obtain ⟨Z1, O1, KK, g_al, g_q_a, sz_al, sz_q_a, ne_r0_al, ne_r0_q_a, ne_r2_al, ne_r2_q_a, ne_t2_al, ne_t2_q_a, ne_al_q_a, jE_r0, jF_l, jE_r2, jF_v, jF_c, jV_t, jE_al, jF_m, jF_e, jF_z, jV_a, jO_a⟩ := hJ
 refine o_gi (XS.aloadN X0.here hx rfl (hb hby o_d6_76) rfl rfl) ?_
 refine o_gi (XS.aloadN X0.here hx rfl (hb hby o_d6_77) rfl rfl) ?_
 show o_Gs p e below _ T0 m 78 #[.val (.ref r0), .val (.ref r1), .val (.ref r2), .val (.ref al), sI] [(.ref al), (.ref r0)]
 obtain ⟨_, T304, L304, X304, ⟨rfl, N304q, e304⟩, st304⟩ := o_callF X0 hx hZ hown (mvT hZ (hw _ o_t119)) (mvT hZ (hw _ o_t120)) (mvT hZ (hw _ o_t121)) (mvT hZ (hw _ o_t122)) (mvT hZ (hw _ o_t123)) (mvT hZ (hw _ o_t124)) (mvT hZ (hw _ o_t125)) (mvT hZ (hw _ o_t80)) (hw _ o_t44) (hw _ o_t126) (by decide) (b := al) (as := []) (rm18 l Z a0 hw [] al (5 : Int32) hh n0 jF_z) e0 jE_al o_pd7 rfl (pc := 78) (Ls := #[.val (.ref r0), .val (.ref r1), .val (.ref r2), .val (.ref al), sI]) (rest := [(.ref r0)]) (W := 1) (by rw [hml]; rfl) (Nat.le_of_eq rfl) (by decide) (by decide) (hb hby o_d6_78) (by decide) (by decide)
 have N304 := Fr.app N0 N304q
 refine o_go st304 ?_
 show o_Gs p e below _ T304 m 83 #[.val (.ref r0), .val (.ref r1), .val (.ref r2), .val (.ref al), sI] [(.int 5), (.ref r0)]
 obtain ⟨T305, h305, k305, X305, e305, E305, A305, st305⟩ := newP X304 hx hZ (aty := .int) (hw _ o_t127) e304 (g := (mkF m 83 #[.val (.ref r0), .val (.ref r1), .val (.ref r2), .val (.ref al), sI] [(.int 5), (.ref r0)])) rfl (hb hby o_d6_83) rfl (by decide) (cap := 5) (by decide) (by decide) (by decide) (by decide)
 obtain ⟨b305, q305⟩ : ∃ z, z = hh.size := ⟨_, rfl⟩
 rw [← q305] at A305 st305
 have lt_b305 : hh.size ≤ b305 := Nat.le_of_eq q305.symm
 have ne_r0_b305 : r0 ≠ b305 := Nat.ne_of_lt (Nat.lt_of_lt_of_le jE_r0.lt lt_b305)
 have ne_r2_b305 : r2 ≠ b305 := Nat.ne_of_lt (Nat.lt_of_lt_of_le jE_r2.lt lt_b305)
 have ne_t2_b305 : t2 ≠ b305 := Nat.ne_of_lt (Nat.lt_of_lt_of_le jV_t.lt lt_b305)
 have ne_al_b305 : al ≠ b305 := Nat.ne_of_lt (Nat.lt_of_lt_of_le jE_al.lt lt_b305)
 have ne_q_a_b305 : q_a ≠ b305 := Nat.ne_of_lt (Nat.lt_of_lt_of_le jV_a.lt lt_b305)
 have g_b305 : n0 ≤ b305 := Nat.le_trans Z1 lt_b305
 have sz_b305 : h0.size ≤ b305 := Nat.le_trans KK.1 lt_b305
 have V305 : Arv Z h305 b305 k305 .int 5 [(.int 0), (.int 0), (.int 0), (.int 0), (.int 0)] (.int 0) := (Arv.new A305 (by decide)).pad (pad_rep [] (.int 0) 5)
 refine o_go st305 ?_
 show o_Gs p e below _ T305 m 85 #[.val (.ref r0), .val (.ref r1), .val (.ref r2), .val (.ref al), sI] [(.ref b305), (.ref r0)]
 obtain ⟨T306, h306, X306, e306, W306, st306⟩ := putF X305 hx hZ hown (host := "") (Or.inl (hw _ o_t128)) Via.refl e305 (jF_l.ext E305) (jE_r0.ext E305) (Or.inr ⟨(hw _ o_t129), rfl, hnm⟩) (hw _ o_t6) (ty := (.array .int)) (by decide) rfl rfl (g := (mkF m 85 #[.val (.ref r0), .val (.ref r1), .val (.ref r2), .val (.ref al), sI] [(.ref b305), (.ref r0)])) rfl rfl (hb hby o_d6_85)
 have N306 := Fr.snoc X306 N304 g_r0
 have Fw306 := (jF_l.ext E305).same W306
 refine o_go st306 ?_
 refine o_gi (XS.iconst X306.here hx rfl (hb hby o_d6_88)) ?_
 refine o_gi (XS.istore X306.here hx rfl (hb hby o_d6_89) rfl (l' := #[.val (.ref r0), .val (.ref r1), .val (.ref r2), .val (.ref al), .val (.int 0)]) (XS.store1 (o := sI) rfl hsI rfl)) ?_
 refine o_gi (XS.iload X306.here hx rfl (hb hby o_d6_91) rfl) ?_
 refine o_gi (XS.aloadN X306.here hx rfl (hb hby o_d6_93) rfl rfl) ?_
 show o_Gs p e below _ T306 m 94 #[.val (.ref r0), .val (.ref r1), .val (.ref r2), .val (.ref al), .val (.int 0)] [(.ref r0), (.int 0)]
 obtain ⟨T307, X307, e307, st307⟩ := getF X306 hx hZ hown (host := "") (Or.inl (hw _ o_t128)) Via.refl e306 Fw306 (g := (mkF m 94 #[.val (.ref r0), .val (.ref r1), .val (.ref r2), .val (.ref al), .val (.int 0)] [(.ref r0), (.int 0)])) rfl rfl (hb hby o_d6_94)
 refine o_go st307 ?_
 show o_Gs p e below _ T307 m 97 #[.val (.ref r0), .val (.ref r1), .val (.ref r2), .val (.ref al), .val (.int 0)] [(.ref b305), (.int 0)]
 have ff308 : Arv Z h306 b305 k305 .int 5 [(.int 0), (.int 0), (.int 0), (.int 0), (.int 0)] (.int 0) := (V305.other W306 (Ne.symm ne_r0_b305))
 obtain ⟨cl309, Ar309, qa309, sa309, na309, ha309, ga309⟩ := id ff308
 refine o_go (X307.arraylength hx (by rw [e307]; exact Ar309.1) (State.isArrayOf_alike hZ.alike Ar309.2.1) (g := (mkF m 97 #[.val (.ref r0), .val (.ref r1), .val (.ref r2), .val (.ref al), .val (.int 0)] [(.ref b305), (.int 0)])) rfl rfl (hb hby o_d6_97)) ?_
 rw [len_of sa309 (by decide)]
 show o_Gs p e below _ T307 m 98 #[.val (.ref r0), .val (.ref r1), .val (.ref r2), .val (.ref al), .val (.int 0)] [(.int 5), (.int 0)]
 have hd310 : (0 : Int32) < (5 : Int32) := (by decide)
 refine o_gi (XS.icmpNo X307.here hx rfl (hb hby o_d6_98) rfl (tlt hd310).2.1) ?_
 refine o_gi (XS.aloadN X307.here hx rfl (hb hby o_d6_101) rfl rfl) ?_
 show o_Gs p e below _ T307 m 102 #[.val (.ref r0), .val (.ref r1), .val (.ref r2), .val (.ref al), .val (.int 0)] [(.ref r0)]
 obtain ⟨T311, X311, e311, st311⟩ := getF X307 hx hZ hown (host := "") (Or.inl (hw _ o_t128)) Via.refl e307 Fw306 (g := (mkF m 102 #[.val (.ref r0), .val (.ref r1), .val (.ref r2), .val (.ref al), .val (.int 0)] [(.ref r0)])) rfl rfl (hb hby o_d6_102)
 refine o_go st311 ?_
 refine o_gi (XS.iload X311.here hx rfl (hb hby o_d6_105) rfl) ?_
 refine o_gi (XS.aloadN X311.here hx rfl (hb hby o_d6_107) rfl rfl) ?_
 refine o_gi (XS.iload X311.here hx rfl (hb hby o_d6_108) rfl) ?_
 show o_Gs p e below _ T311 m 110 #[.val (.ref r0), .val (.ref r1), .val (.ref r2), .val (.ref al), .val (.int 0)] [(.int 0), (.ref al), (.int 0), (.ref b305)]
 have ff313 : Arv Z h306 q_a k_a (.object "java/lang/Object") (10 : Int32) [(.ref ad0), (.ref ad1), (.ref ad2), (.ref ad3), (.ref ad4), .null, .null, .null, .null, .null] .null := ((jV_a.ext E305).other W306 (Ne.symm ne_r0_q_a))
 obtain ⟨cl314, Ar314, qa314, sa314, na314, ha314, ga314⟩ := id ff313
 have ff315 : Fld Z h306 al "java/util/ArrayList" "elementData" "[Ljava/lang/Object;" (.ref q_a) := ((jF_e.ext E305).other W306 (Or.inl (Ne.symm ne_r0_al)))
 have ff316 : Fld Z h306 al "java/util/ArrayList" "size" "I" (.int 5) := ((jF_z.ext E305).other W306 (Or.inl (Ne.symm ne_r0_al)))
 obtain ⟨_, T312, L312, X312, ⟨rfl, N312q, e312⟩, st312⟩ := o_callF X311 hx hZ hown (mvT hZ (hw _ o_t130)) (mvT hZ (hw _ o_t131)) (mvT hZ (hw _ o_t132)) (mvT hZ (hw _ o_t133)) (mvT hZ (hw _ o_t134)) (mvT hZ (hw _ o_t135)) (mvT hZ (hw _ o_t136)) (mvT hZ (hw _ o_t80)) (hw _ o_t44) (hw _ o_t137) (by decide) (b := al) (as := [(.int 0)]) (rm19 l Z a0 hw [] al (0 : Int32) (5 : Int32) q_a cl314 ad0 h306 n0 ((jE_al.ext E305).wr W306) ff315 ff316 (by decide) (by decide) Ar314 (inb_of sa314 ⟨by decide, by decide⟩) (ha314 _ (by rw [sa314]; decide))) e311 ((jE_al.ext E305).wr W306) o_pd6 rfl (pc := 110) (Ls := #[.val (.ref r0), .val (.ref r1), .val (.ref r2), .val (.ref al), .val (.int 0)]) (rest := [(.int 0), (.ref b305)]) (W := 2) (by rw [hml]; rfl) (Nat.le_of_eq rfl) (by decide) (by decide) (hb hby o_d6_110) (by decide) (by decide)
 have N312 := Fr.app N306 N312q
 refine o_go st312 ?_
 show o_Gs p e below _ T312 m 115 #[.val (.ref r0), .val (.ref r1), .val (.ref r2), .val (.ref al), .val (.int 0)] [(.ref ad0), (.int 0), (.ref b305)]
 have oo318 : Old Z n0 h306 := ((O1.ext E305).wr W306 g_r0)
 obtain ⟨T317, X317, e317, st317⟩ := castY X312 hx hZ hown (hw _ o_t151) e312 (Ins.self (B0.1.ext oo318.2)) (g := (mkF m 115 #[.val (.ref r0), .val (.ref r1), .val (.ref r2), .val (.ref al), .val (.int 0)] [(.ref ad0), (.int 0), (.ref b305)])) rfl rfl (hb hby o_d6_115)
 refine o_go st317 ?_
 show o_Gs p e below _ T317 m 118 #[.val (.ref r0), .val (.ref r1), .val (.ref r2), .val (.ref al), .val (.int 0)] [(.ref ad0), (.int 0), (.ref b305)]
 obtain ⟨_, T319, L319, X319, ⟨rfl, N319q, e319⟩, st319⟩ := o_callV X317 hx hZ hown (hw _ o_t153) (hw _ o_t154) (hw _ o_t156) (hw _ o_t155) (hw _ o_t68) (hw _ o_t157) (by decide) (b := ad0) (as := []) (rm23 l Z a0 hw [] ad0 w0 h306 n0 (B0.2.ext oo318.2)) e317 (B0.1.ext oo318.2) o_pd7 rfl (pc := 118) (Ls := #[.val (.ref r0), .val (.ref r1), .val (.ref r2), .val (.ref al), .val (.int 0)]) (rest := [(.int 0), (.ref b305)]) (W := 2) (by rw [hml]; rfl) (Nat.le_of_eq rfl) (by decide) (by decide) (hb hby o_d6_118) (by decide) (by decide)
 have N319 := Fr.app N312 N319q
 refine o_go st319 ?_
 show o_Gs p e below _ T319 m 121 #[.val (.ref r0), .val (.ref r1), .val (.ref r2), .val (.ref al), .val (.int 0)] [(.int w0), (.int 0), (.ref b305)]
 obtain ⟨cl320, Ar320, qa320, sa320, na320, ha320, ga320⟩ := id ff308
 obtain ⟨T320, h320, X320, e320, W320, st320⟩ := stI X319 hx hZ e319 Ar320 (j := (0 : Int32)) (inb_of sa320 ⟨by decide, by decide⟩) (g := (mkF m 121 #[.val (.ref r0), .val (.ref r1), .val (.ref r2), .val (.ref al), .val (.int 0)] [(.int w0), (.int 0), (.ref b305)])) rfl rfl (hb hby o_d6_121)
 have V320 : Arv Z h320 b305 k305 .int 5 [(.int w0), (.int 0), (.int 0), (.int 0), (.int 0)] (.int 0) := Arv.set Ar320 qa320 sa320 na320 ha320 ga320 rfl W320 0 rfl (Nat.le_of_ble_eq_true rfl)
 have N320 := Fr.snoc X320 N319 g_b305
 refine o_go st320 ?_
 show o_Gs p e below _ T320 m 122 #[.val (.ref r0), .val (.ref r1), .val (.ref r2), .val (.ref al), .val (.int 0)] []
 refine o_gi (XS.iinc X320.here hx rfl (hb hby o_d6_122) rfl (l' := #[.val (.ref r0), .val (.ref r1), .val (.ref r2), .val (.ref al), .val (.int ((0 : Int32) + (1 : Int32)))]) rfl) ?_
 show o_Gs p e below _ T320 m 125 #[.val (.ref r0), .val (.ref r1), .val (.ref r2), .val (.ref al), .val (.int ((0 : Int32) + (1 : Int32)))] []
 rw [show ((0 : Int32) + (1 : Int32)) = (1 : Int32) from by decide]
 refine o_gi (XS.goto X320.here hx rfl (pc0 := 125) (pc' := 91) rfl (hb hby o_d6_125) (by decide) (by decide)) ?_
 refine o_gi (XS.iload X320.here hx rfl (hb hby o_d6_91) rfl) ?_
 refine o_gi (XS.aloadN X320.here hx rfl (hb hby o_d6_93) rfl rfl) ?_
 show o_Gs p e below _ T320 m 94 #[.val (.ref r0), .val (.ref r1), .val (.ref r2), .val (.ref al), .val (.int 1)] [(.ref r0), (.int 1)]
 have ff322 : Fld Z h320 r0 "com/example/foothold/foothold/SourceFile" "lineStarts" "[I" (.ref b305) := (Fw306.other W320 (Or.inl ne_r0_b305))
 obtain ⟨T321, X321, e321, st321⟩ := getF X320 hx hZ hown (host := "") (Or.inl (hw _ o_t128)) Via.refl e320 ff322 (g := (mkF m 94 #[.val (.ref r0), .val (.ref r1), .val (.ref r2), .val (.ref al), .val (.int 1)] [(.ref r0), (.int 1)])) rfl rfl (hb hby o_d6_94)
 refine o_go st321 ?_
 show o_Gs p e below _ T321 m 97 #[.val (.ref r0), .val (.ref r1), .val (.ref r2), .val (.ref al), .val (.int 1)] [(.ref b305), (.int 1)]
 obtain ⟨cl323, Ar323, qa323, sa323, na323, ha323, ga323⟩ := id V320
 refine o_go (X321.arraylength hx (by rw [e321]; exact Ar323.1) (State.isArrayOf_alike hZ.alike Ar323.2.1) (g := (mkF m 97 #[.val (.ref r0), .val (.ref r1), .val (.ref r2), .val (.ref al), .val (.int 1)] [(.ref b305), (.int 1)])) rfl rfl (hb hby o_d6_97)) ?_
 rw [len_of sa323 (by decide)]
 show o_Gs p e below _ T321 m 98 #[.val (.ref r0), .val (.ref r1), .val (.ref r2), .val (.ref al), .val (.int 1)] [(.int 5), (.int 1)]
 have hd324 : (1 : Int32) < (5 : Int32) := (by decide)
 refine o_gi (XS.icmpNo X321.here hx rfl (hb hby o_d6_98) rfl (tlt hd324).2.1) ?_
 refine o_gi (XS.aloadN X321.here hx rfl (hb hby o_d6_101) rfl rfl) ?_
 show o_Gs p e below _ T321 m 102 #[.val (.ref r0), .val (.ref r1), .val (.ref r2), .val (.ref al), .val (.int 1)] [(.ref r0)]
 obtain ⟨T325, X325, e325, st325⟩ := getF X321 hx hZ hown (host := "") (Or.inl (hw _ o_t128)) Via.refl e321 ff322 (g := (mkF m 102 #[.val (.ref r0), .val (.ref r1), .val (.ref r2), .val (.ref al), .val (.int 1)] [(.ref r0)])) rfl rfl (hb hby o_d6_102)
 refine o_go st325 ?_
 refine o_gi (XS.iload X325.here hx rfl (hb hby o_d6_105) rfl) ?_
 refine o_gi (XS.aloadN X325.here hx rfl (hb hby o_d6_107) rfl rfl) ?_
 refine o_gi (XS.iload X325.here hx rfl (hb hby o_d6_108) rfl) ?_
 show o_Gs p e below _ T325 m 110 #[.val (.ref r0), .val (.ref r1), .val (.ref r2), .val (.ref al), .val (.int 1)] [(.int 1), (.ref al), (.int 1), (.ref b305)]
 obtain ⟨cl327, Ar327, qa327, sa327, na327, ha327, ga327⟩ := id (ff313.other W320 ne_q_a_b305)
 have ff328 : Exa Z h320 al "java/util/ArrayList" := (((jE_al.ext E305).wr W306).wr W320)
 have ff329 : Fld Z h320 al "java/util/ArrayList" "elementData" "[Ljava/lang/Object;" (.ref q_a) := (ff315.other W320 (Or.inl ne_al_b305))
 have ff330 : Fld Z h320 al "java/util/ArrayList" "size" "I" (.int 5) := (ff316.other W320 (Or.inl ne_al_b305))
 obtain ⟨_, T326, L326, X326, ⟨rfl, N326q, e326⟩, st326⟩ := o_callF X325 hx hZ hown (mvT hZ (hw _ o_t130)) (mvT hZ (hw _ o_t131)) (mvT hZ (hw _ o_t132)) (mvT hZ (hw _ o_t133)) (mvT hZ (hw _ o_t134)) (mvT hZ (hw _ o_t135)) (mvT hZ (hw _ o_t136)) (mvT hZ (hw _ o_t80)) (hw _ o_t44) (hw _ o_t137) (by decide) (b := al) (as := [(.int 1)]) (rm19 l Z a0 hw [] al (1 : Int32) (5 : Int32) q_a cl327 ad1 h320 n0 ff328 ff329 ff330 (by decide) (by decide) Ar327 (inb_of sa327 ⟨by decide, by decide⟩) (ha327 _ (by rw [sa327]; decide))) e325 ff328 o_pd6 rfl (pc := 110) (Ls := #[.val (.ref r0), .val (.ref r1), .val (.ref r2), .val (.ref al), .val (.int 1)]) (rest := [(.int 1), (.ref b305)]) (W := 2) (by rw [hml]; rfl) (Nat.le_of_eq rfl) (by decide) (by decide) (hb hby o_d6_110) (by decide) (by decide)
 have N326 := Fr.app N320 N326q
 refine o_go st326 ?_
 show o_Gs p e below _ T326 m 115 #[.val (.ref r0), .val (.ref r1), .val (.ref r2), .val (.ref al), .val (.int 1)] [(.ref ad1), (.int 1), (.ref b305)]
 have oo332 : Old Z n0 h320 := (oo318.wr W320 g_b305)
 obtain ⟨T331, X331, e331, st331⟩ := castY X326 hx hZ hown (hw _ o_t151) e326 (Ins.self (B1.1.ext oo332.2)) (g := (mkF m 115 #[.val (.ref r0), .val (.ref r1), .val (.ref r2), .val (.ref al), .val (.int 1)] [(.ref ad1), (.int 1), (.ref b305)])) rfl rfl (hb hby o_d6_115)
 refine o_go st331 ?_
 show o_Gs p e below _ T331 m 118 #[.val (.ref r0), .val (.ref r1), .val (.ref r2), .val (.ref al), .val (.int 1)] [(.ref ad1), (.int 1), (.ref b305)]
 obtain ⟨_, T333, L333, X333, ⟨rfl, N333q, e333⟩, st333⟩ := o_callV X331 hx hZ hown (hw _ o_t153) (hw _ o_t154) (hw _ o_t156) (hw _ o_t155) (hw _ o_t68) (hw _ o_t157) (by decide) (b := ad1) (as := []) (rm23 l Z a0 hw [] ad1 w1 h320 n0 (B1.2.ext oo332.2)) e331 (B1.1.ext oo332.2) o_pd7 rfl (pc := 118) (Ls := #[.val (.ref r0), .val (.ref r1), .val (.ref r2), .val (.ref al), .val (.int 1)]) (rest := [(.int 1), (.ref b305)]) (W := 2) (by rw [hml]; rfl) (Nat.le_of_eq rfl) (by decide) (by decide) (hb hby o_d6_118) (by decide) (by decide)
 have N333 := Fr.app N326 N333q
 refine o_go st333 ?_
 show o_Gs p e below _ T333 m 121 #[.val (.ref r0), .val (.ref r1), .val (.ref r2), .val (.ref al), .val (.int 1)] [(.int w1), (.int 1), (.ref b305)]
 obtain ⟨cl334, Ar334, qa334, sa334, na334, ha334, ga334⟩ := id V320
 obtain ⟨T334, h334, X334, e334, W334, st334⟩ := stI X333 hx hZ e333 Ar334 (j := (1 : Int32)) (inb_of sa334 ⟨by decide, by decide⟩) (g := (mkF m 121 #[.val (.ref r0), .val (.ref r1), .val (.ref r2), .val (.ref al), .val (.int 1)] [(.int w1), (.int 1), (.ref b305)])) rfl rfl (hb hby o_d6_121)
 have V334 : Arv Z h334 b305 k305 .int 5 [(.int w0), (.int w1), (.int 0), (.int 0), (.int 0)] (.int 0) := Arv.set Ar334 qa334 sa334 na334 ha334 ga334 rfl W334 1 rfl (Nat.le_of_ble_eq_true rfl)
 have N334 := Fr.snoc X334 N333 g_b305
 refine o_go st334 ?_
 show o_Gs p e below _ T334 m 122 #[.val (.ref r0), .val (.ref r1), .val (.ref r2), .val (.ref al), .val (.int 1)] []
 refine o_gi (XS.iinc X334.here hx rfl (hb hby o_d6_122) rfl (l' := #[.val (.ref r0), .val (.ref r1), .val (.ref r2), .val (.ref al), .val (.int ((1 : Int32) + (1 : Int32)))]) rfl) ?_
 show o_Gs p e below _ T334 m 125 #[.val (.ref r0), .val (.ref r1), .val (.ref r2), .val (.ref al), .val (.int ((1 : Int32) + (1 : Int32)))] []
 rw [show ((1 : Int32) + (1 : Int32)) = (2 : Int32) from by decide]
 refine o_gi (XS.goto X334.here hx rfl (pc0 := 125) (pc' := 91) rfl (hb hby o_d6_125) (by decide) (by decide)) ?_
 refine o_gi (XS.iload X334.here hx rfl (hb hby o_d6_91) rfl) ?_
 refine o_gi (XS.aloadN X334.here hx rfl (hb hby o_d6_93) rfl rfl) ?_
 show o_Gs p e below _ T334 m 94 #[.val (.ref r0), .val (.ref r1), .val (.ref r2), .val (.ref al), .val (.int 2)] [(.ref r0), (.int 2)]
 have ff336 : Fld Z h334 r0 "com/example/foothold/foothold/SourceFile" "lineStarts" "[I" (.ref b305) := (ff322.other W334 (Or.inl ne_r0_b305))
 obtain ⟨T335, X335, e335, st335⟩ := getF X334 hx hZ hown (host := "") (Or.inl (hw _ o_t128)) Via.refl e334 ff336 (g := (mkF m 94 #[.val (.ref r0), .val (.ref r1), .val (.ref r2), .val (.ref al), .val (.int 2)] [(.ref r0), (.int 2)])) rfl rfl (hb hby o_d6_94)
 refine o_go st335 ?_
 show o_Gs p e below _ T335 m 97 #[.val (.ref r0), .val (.ref r1), .val (.ref r2), .val (.ref al), .val (.int 2)] [(.ref b305), (.int 2)]
 obtain ⟨cl337, Ar337, qa337, sa337, na337, ha337, ga337⟩ := id V334
 refine o_go (X335.arraylength hx (by rw [e335]; exact Ar337.1) (State.isArrayOf_alike hZ.alike Ar337.2.1) (g := (mkF m 97 #[.val (.ref r0), .val (.ref r1), .val (.ref r2), .val (.ref al), .val (.int 2)] [(.ref b305), (.int 2)])) rfl rfl (hb hby o_d6_97)) ?_
 rw [len_of sa337 (by decide)]
 show o_Gs p e below _ T335 m 98 #[.val (.ref r0), .val (.ref r1), .val (.ref r2), .val (.ref al), .val (.int 2)] [(.int 5), (.int 2)]
 have hd338 : (2 : Int32) < (5 : Int32) := (by decide)
 refine o_gi (XS.icmpNo X335.here hx rfl (hb hby o_d6_98) rfl (tlt hd338).2.1) ?_
 refine o_gi (XS.aloadN X335.here hx rfl (hb hby o_d6_101) rfl rfl) ?_
 show o_Gs p e below _ T335 m 102 #[.val (.ref r0), .val (.ref r1), .val (.ref r2), .val (.ref al), .val (.int 2)] [(.ref r0)]
 obtain ⟨T339, X339, e339, st339⟩ := getF X335 hx hZ hown (host := "") (Or.inl (hw _ o_t128)) Via.refl e335 ff336 (g := (mkF m 102 #[.val (.ref r0), .val (.ref r1), .val (.ref r2), .val (.ref al), .val (.int 2)] [(.ref r0)])) rfl rfl (hb hby o_d6_102)
 refine o_go st339 ?_
 refine o_gi (XS.iload X339.here hx rfl (hb hby o_d6_105) rfl) ?_
 refine o_gi (XS.aloadN X339.here hx rfl (hb hby o_d6_107) rfl rfl) ?_
 refine o_gi (XS.iload X339.here hx rfl (hb hby o_d6_108) rfl) ?_
 show o_Gs p e below _ T339 m 110 #[.val (.ref r0), .val (.ref r1), .val (.ref r2), .val (.ref al), .val (.int 2)] [(.int 2), (.ref al), (.int 2), (.ref b305)]
 have ff341 : Arv Z h334 q_a k_a (.object "java/lang/Object") (10 : Int32) [(.ref ad0), (.ref ad1), (.ref ad2), (.ref ad3), (.ref ad4), .null, .null, .null, .null, .null] .null := ((ff313.other W320 ne_q_a_b305).other W334 ne_q_a_b305)
 obtain ⟨cl342, Ar342, qa342, sa342, na342, ha342, ga342⟩ := id ff341
 have ff343 : Fld Z h334 al "java/util/ArrayList" "elementData" "[Ljava/lang/Object;" (.ref q_a) := (ff329.other W334 (Or.inl ne_al_b305))
 have ff344 : Fld Z h334 al "java/util/ArrayList" "size" "I" (.int 5) := (ff330.other W334 (Or.inl ne_al_b305))
 obtain ⟨_, T340, L340, X340, ⟨rfl, N340q, e340⟩, st340⟩ := o_callF X339 hx hZ hown (mvT hZ (hw _ o_t130)) (mvT hZ (hw _ o_t131)) (mvT hZ (hw _ o_t132)) (mvT hZ (hw _ o_t133)) (mvT hZ (hw _ o_t134)) (mvT hZ (hw _ o_t135)) (mvT hZ (hw _ o_t136)) (mvT hZ (hw _ o_t80)) (hw _ o_t44) (hw _ o_t137) (by decide) (b := al) (as := [(.int 2)]) (rm19 l Z a0 hw [] al (2 : Int32) (5 : Int32) q_a cl342 ad2 h334 n0 (ff328.wr W334) ff343 ff344 (by decide) (by decide) Ar342 (inb_of sa342 ⟨by decide, by decide⟩) (ha342 _ (by rw [sa342]; decide))) e339 (ff328.wr W334) o_pd6 rfl (pc := 110) (Ls := #[.val (.ref r0), .val (.ref r1), .val (.ref r2), .val (.ref al), .val (.int 2)]) (rest := [(.int 2), (.ref b305)]) (W := 2) (by rw [hml]; rfl) (Nat.le_of_eq rfl) (by decide) (by decide) (hb hby o_d6_110) (by decide) (by decide)
 have N340 := Fr.app N334 N340q
 refine o_go st340 ?_
 show o_Gs p e below _ T340 m 115 #[.val (.ref r0), .val (.ref r1), .val (.ref r2), .val (.ref al), .val (.int 2)] [(.ref ad2), (.int 2), (.ref b305)]
 have oo346 : Old Z n0 h334 := (oo332.wr W334 g_b305)
 obtain ⟨T345, X345, e345, st345⟩ := castY X340 hx hZ hown (hw _ o_t151) e340 (Ins.self (B2.1.ext oo346.2)) (g := (mkF m 115 #[.val (.ref r0), .val (.ref r1), .val (.ref r2), .val (.ref al), .val (.int 2)] [(.ref ad2), (.int 2), (.ref b305)])) rfl rfl (hb hby o_d6_115)
 refine o_go st345 ?_
 show o_Gs p e below _ T345 m 118 #[.val (.ref r0), .val (.ref r1), .val (.ref r2), .val (.ref al), .val (.int 2)] [(.ref ad2), (.int 2), (.ref b305)]
 obtain ⟨_, T347, L347, X347, ⟨rfl, N347q, e347⟩, st347⟩ := o_callV X345 hx hZ hown (hw _ o_t153) (hw _ o_t154) (hw _ o_t156) (hw _ o_t155) (hw _ o_t68) (hw _ o_t157) (by decide) (b := ad2) (as := []) (rm23 l Z a0 hw [] ad2 w2 h334 n0 (B2.2.ext oo346.2)) e345 (B2.1.ext oo346.2) o_pd7 rfl (pc := 118) (Ls := #[.val (.ref r0), .val (.ref r1), .val (.ref r2), .val (.ref al), .val (.int 2)]) (rest := [(.int 2), (.ref b305)]) (W := 2) (by rw [hml]; rfl) (Nat.le_of_eq rfl) (by decide) (by decide) (hb hby o_d6_118) (by decide) (by decide)
 have N347 := Fr.app N340 N347q
 refine o_go st347 ?_
 show o_Gs p e below _ T347 m 121 #[.val (.ref r0), .val (.ref r1), .val (.ref r2), .val (.ref al), .val (.int 2)] [(.int w2), (.int 2), (.ref b305)]
 obtain ⟨cl348, Ar348, qa348, sa348, na348, ha348, ga348⟩ := id V334
 obtain ⟨T348, h348, X348, e348, W348, st348⟩ := stI X347 hx hZ e347 Ar348 (j := (2 : Int32)) (inb_of sa348 ⟨by decide, by decide⟩) (g := (mkF m 121 #[.val (.ref r0), .val (.ref r1), .val (.ref r2), .val (.ref al), .val (.int 2)] [(.int w2), (.int 2), (.ref b305)])) rfl rfl (hb hby o_d6_121)
 have V348 : Arv Z h348 b305 k305 .int 5 [(.int w0), (.int w1), (.int w2), (.int 0), (.int 0)] (.int 0) := Arv.set Ar348 qa348 sa348 na348 ha348 ga348 rfl W348 2 rfl (Nat.le_of_ble_eq_true rfl)
 have N348 := Fr.snoc X348 N347 g_b305
 refine o_go st348 ?_
 show o_Gs p e below _ T348 m 122 #[.val (.ref r0), .val (.ref r1), .val (.ref r2), .val (.ref al), .val (.int 2)] []
 refine o_gi (XS.iinc X348.here hx rfl (hb hby o_d6_122) rfl (l' := #[.val (.ref r0), .val (.ref r1), .val (.ref r2), .val (.ref al), .val (.int ((2 : Int32) + (1 : Int32)))]) rfl) ?_
 show o_Gs p e below _ T348 m 125 #[.val (.ref r0), .val (.ref r1), .val (.ref r2), .val (.ref al), .val (.int ((2 : Int32) + (1 : Int32)))] []
 rw [show ((2 : Int32) + (1 : Int32)) = (3 : Int32) from by decide]
 refine o_gi (XS.goto X348.here hx rfl (pc0 := 125) (pc' := 91) rfl (hb hby o_d6_125) (by decide) (by decide)) ?_
 refine o_gi (XS.iload X348.here hx rfl (hb hby o_d6_91) rfl) ?_
 refine o_gi (XS.aloadN X348.here hx rfl (hb hby o_d6_93) rfl rfl) ?_
 show o_Gs p e below _ T348 m 94 #[.val (.ref r0), .val (.ref r1), .val (.ref r2), .val (.ref al), .val (.int 3)] [(.ref r0), (.int 3)]
 have ff350 : Fld Z h348 r0 "com/example/foothold/foothold/SourceFile" "lineStarts" "[I" (.ref b305) := (ff336.other W348 (Or.inl ne_r0_b305))
 obtain ⟨T349, X349, e349, st349⟩ := getF X348 hx hZ hown (host := "") (Or.inl (hw _ o_t128)) Via.refl e348 ff350 (g := (mkF m 94 #[.val (.ref r0), .val (.ref r1), .val (.ref r2), .val (.ref al), .val (.int 3)] [(.ref r0), (.int 3)])) rfl rfl (hb hby o_d6_94)
 refine o_go st349 ?_
 show o_Gs p e below _ T349 m 97 #[.val (.ref r0), .val (.ref r1), .val (.ref r2), .val (.ref al), .val (.int 3)] [(.ref b305), (.int 3)]
 obtain ⟨cl351, Ar351, qa351, sa351, na351, ha351, ga351⟩ := id V348
 refine o_go (X349.arraylength hx (by rw [e349]; exact Ar351.1) (State.isArrayOf_alike hZ.alike Ar351.2.1) (g := (mkF m 97 #[.val (.ref r0), .val (.ref r1), .val (.ref r2), .val (.ref al), .val (.int 3)] [(.ref b305), (.int 3)])) rfl rfl (hb hby o_d6_97)) ?_
 rw [len_of sa351 (by decide)]
 show o_Gs p e below _ T349 m 98 #[.val (.ref r0), .val (.ref r1), .val (.ref r2), .val (.ref al), .val (.int 3)] [(.int 5), (.int 3)]
 have hd352 : (3 : Int32) < (5 : Int32) := (by decide)
 refine o_gi (XS.icmpNo X349.here hx rfl (hb hby o_d6_98) rfl (tlt hd352).2.1) ?_
 refine o_gi (XS.aloadN X349.here hx rfl (hb hby o_d6_101) rfl rfl) ?_
 show o_Gs p e below _ T349 m 102 #[.val (.ref r0), .val (.ref r1), .val (.ref r2), .val (.ref al), .val (.int 3)] [(.ref r0)]
 obtain ⟨T353, X353, e353, st353⟩ := getF X349 hx hZ hown (host := "") (Or.inl (hw _ o_t128)) Via.refl e349 ff350 (g := (mkF m 102 #[.val (.ref r0), .val (.ref r1), .val (.ref r2), .val (.ref al), .val (.int 3)] [(.ref r0)])) rfl rfl (hb hby o_d6_102)
 refine o_go st353 ?_
 refine o_gi (XS.iload X353.here hx rfl (hb hby o_d6_105) rfl) ?_
 refine o_gi (XS.aloadN X353.here hx rfl (hb hby o_d6_107) rfl rfl) ?_
 refine o_gi (XS.iload X353.here hx rfl (hb hby o_d6_108) rfl) ?_
 show o_Gs p e below _ T353 m 110 #[.val (.ref r0), .val (.ref r1), .val (.ref r2), .val (.ref al), .val (.int 3)] [(.int 3), (.ref al), (.int 3), (.ref b305)]
 obtain ⟨cl355, Ar355, qa355, sa355, na355, ha355, ga355⟩ := id (ff341.other W348 ne_q_a_b305)
 have ff356 : Fld Z h348 al "java/util/ArrayList" "elementData" "[Ljava/lang/Object;" (.ref q_a) := (ff343.other W348 (Or.inl ne_al_b305))
 have ff357 : Fld Z h348 al "java/util/ArrayList" "size" "I" (.int 5) := (ff344.other W348 (Or.inl ne_al_b305))
 obtain ⟨_, T354, L354, X354, ⟨rfl, N354q, e354⟩, st354⟩ := o_callF X353 hx hZ hown (mvT hZ (hw _ o_t130)) (mvT hZ (hw _ o_t131)) (mvT hZ (hw _ o_t132)) (mvT hZ (hw _ o_t133)) (mvT hZ (hw _ o_t134)) (mvT hZ (hw _ o_t135)) (mvT hZ (hw _ o_t136)) (mvT hZ (hw _ o_t80)) (hw _ o_t44) (hw _ o_t137) (by decide) (b := al) (as := [(.int 3)]) (rm19 l Z a0 hw [] al (3 : Int32) (5 : Int32) q_a cl355 ad3 h348 n0 ((ff328.wr W334).wr W348) ff356 ff357 (by decide) (by decide) Ar355 (inb_of sa355 ⟨by decide, by decide⟩) (ha355 _ (by rw [sa355]; decide))) e353 ((ff328.wr W334).wr W348) o_pd6 rfl (pc := 110) (Ls := #[.val (.ref r0), .val (.ref r1), .val (.ref r2), .val (.ref al), .val (.int 3)]) (rest := [(.int 3), (.ref b305)]) (W := 2) (by rw [hml]; rfl) (Nat.le_of_eq rfl) (by decide) (by decide) (hb hby o_d6_110) (by decide) (by decide)
 have N354 := Fr.app N348 N354q
 refine o_go st354 ?_
 show o_Gs p e below _ T354 m 115 #[.val (.ref r0), .val (.ref r1), .val (.ref r2), .val (.ref al), .val (.int 3)] [(.ref ad3), (.int 3), (.ref b305)]
 have oo359 : Old Z n0 h348 := (oo346.wr W348 g_b305)
 obtain ⟨T358, X358, e358, st358⟩ := castY X354 hx hZ hown (hw _ o_t151) e354 (Ins.self (B3.1.ext oo359.2)) (g := (mkF m 115 #[.val (.ref r0), .val (.ref r1), .val (.ref r2), .val (.ref al), .val (.int 3)] [(.ref ad3), (.int 3), (.ref b305)])) rfl rfl (hb hby o_d6_115)
 refine o_go st358 ?_
 show o_Gs p e below _ T358 m 118 #[.val (.ref r0), .val (.ref r1), .val (.ref r2), .val (.ref al), .val (.int 3)] [(.ref ad3), (.int 3), (.ref b305)]
 obtain ⟨_, T360, L360, X360, ⟨rfl, N360q, e360⟩, st360⟩ := o_callV X358 hx hZ hown (hw _ o_t153) (hw _ o_t154) (hw _ o_t156) (hw _ o_t155) (hw _ o_t68) (hw _ o_t157) (by decide) (b := ad3) (as := []) (rm23 l Z a0 hw [] ad3 w3 h348 n0 (B3.2.ext oo359.2)) e358 (B3.1.ext oo359.2) o_pd7 rfl (pc := 118) (Ls := #[.val (.ref r0), .val (.ref r1), .val (.ref r2), .val (.ref al), .val (.int 3)]) (rest := [(.int 3), (.ref b305)]) (W := 2) (by rw [hml]; rfl) (Nat.le_of_eq rfl) (by decide) (by decide) (hb hby o_d6_118) (by decide) (by decide)
 have N360 := Fr.app N354 N360q
 refine o_go st360 ?_
 show o_Gs p e below _ T360 m 121 #[.val (.ref r0), .val (.ref r1), .val (.ref r2), .val (.ref al), .val (.int 3)] [(.int w3), (.int 3), (.ref b305)]
 obtain ⟨cl361, Ar361, qa361, sa361, na361, ha361, ga361⟩ := id V348
 obtain ⟨T361, h361, X361, e361, W361, st361⟩ := stI X360 hx hZ e360 Ar361 (j := (3 : Int32)) (inb_of sa361 ⟨by decide, by decide⟩) (g := (mkF m 121 #[.val (.ref r0), .val (.ref r1), .val (.ref r2), .val (.ref al), .val (.int 3)] [(.int w3), (.int 3), (.ref b305)])) rfl rfl (hb hby o_d6_121)
 have V361 : Arv Z h361 b305 k305 .int 5 [(.int w0), (.int w1), (.int w2), (.int w3), (.int 0)] (.int 0) := Arv.set Ar361 qa361 sa361 na361 ha361 ga361 rfl W361 3 rfl (Nat.le_of_ble_eq_true rfl)
 have N361 := Fr.snoc X361 N360 g_b305
 refine o_go st361 ?_
 show o_Gs p e below _ T361 m 122 #[.val (.ref r0), .val (.ref r1), .val (.ref r2), .val (.ref al), .val (.int 3)] []
 refine o_gi (XS.iinc X361.here hx rfl (hb hby o_d6_122) rfl (l' := #[.val (.ref r0), .val (.ref r1), .val (.ref r2), .val (.ref al), .val (.int ((3 : Int32) + (1 : Int32)))]) rfl) ?_
 show o_Gs p e below _ T361 m 125 #[.val (.ref r0), .val (.ref r1), .val (.ref r2), .val (.ref al), .val (.int ((3 : Int32) + (1 : Int32)))] []
 rw [show ((3 : Int32) + (1 : Int32)) = (4 : Int32) from by decide]
 refine o_gi (XS.goto X361.here hx rfl (pc0 := 125) (pc' := 91) rfl (hb hby o_d6_125) (by decide) (by decide)) ?_
 refine o_gi (XS.iload X361.here hx rfl (hb hby o_d6_91) rfl) ?_
 refine o_gi (XS.aloadN X361.here hx rfl (hb hby o_d6_93) rfl rfl) ?_
 show o_Gs p e below _ T361 m 94 #[.val (.ref r0), .val (.ref r1), .val (.ref r2), .val (.ref al), .val (.int 4)] [(.ref r0), (.int 4)]
 have ff363 : Fld Z h361 r0 "com/example/foothold/foothold/SourceFile" "lineStarts" "[I" (.ref b305) := (ff350.other W361 (Or.inl ne_r0_b305))
 obtain ⟨T362, X362, e362, st362⟩ := getF X361 hx hZ hown (host := "") (Or.inl (hw _ o_t128)) Via.refl e361 ff363 (g := (mkF m 94 #[.val (.ref r0), .val (.ref r1), .val (.ref r2), .val (.ref al), .val (.int 4)] [(.ref r0), (.int 4)])) rfl rfl (hb hby o_d6_94)
 refine o_go st362 ?_
 show o_Gs p e below _ T362 m 97 #[.val (.ref r0), .val (.ref r1), .val (.ref r2), .val (.ref al), .val (.int 4)] [(.ref b305), (.int 4)]
 obtain ⟨cl364, Ar364, qa364, sa364, na364, ha364, ga364⟩ := id V361
 refine o_go (X362.arraylength hx (by rw [e362]; exact Ar364.1) (State.isArrayOf_alike hZ.alike Ar364.2.1) (g := (mkF m 97 #[.val (.ref r0), .val (.ref r1), .val (.ref r2), .val (.ref al), .val (.int 4)] [(.ref b305), (.int 4)])) rfl rfl (hb hby o_d6_97)) ?_
 rw [len_of sa364 (by decide)]
 show o_Gs p e below _ T362 m 98 #[.val (.ref r0), .val (.ref r1), .val (.ref r2), .val (.ref al), .val (.int 4)] [(.int 5), (.int 4)]
 have hd365 : (4 : Int32) < (5 : Int32) := (by decide)
 refine o_gi (XS.icmpNo X362.here hx rfl (hb hby o_d6_98) rfl (tlt hd365).2.1) ?_
 refine o_gi (XS.aloadN X362.here hx rfl (hb hby o_d6_101) rfl rfl) ?_
 show o_Gs p e below _ T362 m 102 #[.val (.ref r0), .val (.ref r1), .val (.ref r2), .val (.ref al), .val (.int 4)] [(.ref r0)]
 obtain ⟨T366, X366, e366, st366⟩ := getF X362 hx hZ hown (host := "") (Or.inl (hw _ o_t128)) Via.refl e362 ff363 (g := (mkF m 102 #[.val (.ref r0), .val (.ref r1), .val (.ref r2), .val (.ref al), .val (.int 4)] [(.ref r0)])) rfl rfl (hb hby o_d6_102)
 refine o_go st366 ?_
 refine o_gi (XS.iload X366.here hx rfl (hb hby o_d6_105) rfl) ?_
 refine o_gi (XS.aloadN X366.here hx rfl (hb hby o_d6_107) rfl rfl) ?_
 refine o_gi (XS.iload X366.here hx rfl (hb hby o_d6_108) rfl) ?_
 show o_Gs p e below _ T366 m 110 #[.val (.ref r0), .val (.ref r1), .val (.ref r2), .val (.ref al), .val (.int 4)] [(.int 4), (.ref al), (.int 4), (.ref b305)]
 have ff368 : Arv Z h361 q_a k_a (.object "java/lang/Object") (10 : Int32) [(.ref ad0), (.ref ad1), (.ref ad2), (.ref ad3), (.ref ad4), .null, .null, .null, .null, .null] .null := ((ff341.other W348 ne_q_a_b305).other W361 ne_q_a_b305)
 obtain ⟨cl369, Ar369, qa369, sa369, na369, ha369, ga369⟩ := id ff368
 have ff370 : Exa Z h361 al "java/util/ArrayList" := (((ff328.wr W334).wr W348).wr W361)
 have ff371 : Fld Z h361 al "java/util/ArrayList" "elementData" "[Ljava/lang/Object;" (.ref q_a) := (ff356.other W361 (Or.inl ne_al_b305))
 have ff372 : Fld Z h361 al "java/util/ArrayList" "size" "I" (.int 5) := (ff357.other W361 (Or.inl ne_al_b305))
 obtain ⟨_, T367, L367, X367, ⟨rfl, N367q, e367⟩, st367⟩ := o_callF X366 hx hZ hown (mvT hZ (hw _ o_t130)) (mvT hZ (hw _ o_t131)) (mvT hZ (hw _ o_t132)) (mvT hZ (hw _ o_t133)) (mvT hZ (hw _ o_t134)) (mvT hZ (hw _ o_t135)) (mvT hZ (hw _ o_t136)) (mvT hZ (hw _ o_t80)) (hw _ o_t44) (hw _ o_t137) (by decide) (b := al) (as := [(.int 4)]) (rm19 l Z a0 hw [] al (4 : Int32) (5 : Int32) q_a cl369 ad4 h361 n0 ff370 ff371 ff372 (by decide) (by decide) Ar369 (inb_of sa369 ⟨by decide, by decide⟩) (ha369 _ (by rw [sa369]; decide))) e366 ff370 o_pd6 rfl (pc := 110) (Ls := #[.val (.ref r0), .val (.ref r1), .val (.ref r2), .val (.ref al), .val (.int 4)]) (rest := [(.int 4), (.ref b305)]) (W := 2) (by rw [hml]; rfl) (Nat.le_of_eq rfl) (by decide) (by decide) (hb hby o_d6_110) (by decide) (by decide)
 have N367 := Fr.app N361 N367q
 refine o_go st367 ?_
 show o_Gs p e below _ T367 m 115 #[.val (.ref r0), .val (.ref r1), .val (.ref r2), .val (.ref al), .val (.int 4)] [(.ref ad4), (.int 4), (.ref b305)]
 have oo374 : Old Z n0 h361 := (oo359.wr W361 g_b305)
 obtain ⟨T373, X373, e373, st373⟩ := castY X367 hx hZ hown (hw _ o_t151) e367 (Ins.self (B4.1.ext oo374.2)) (g := (mkF m 115 #[.val (.ref r0), .val (.ref r1), .val (.ref r2), .val (.ref al), .val (.int 4)] [(.ref ad4), (.int 4), (.ref b305)])) rfl rfl (hb hby o_d6_115)
 refine o_go st373 ?_
 show o_Gs p e below _ T373 m 118 #[.val (.ref r0), .val (.ref r1), .val (.ref r2), .val (.ref al), .val (.int 4)] [(.ref ad4), (.int 4), (.ref b305)]
 obtain ⟨_, T375, L375, X375, ⟨rfl, N375q, e375⟩, st375⟩ := o_callV X373 hx hZ hown (hw _ o_t153) (hw _ o_t154) (hw _ o_t156) (hw _ o_t155) (hw _ o_t68) (hw _ o_t157) (by decide) (b := ad4) (as := []) (rm23 l Z a0 hw [] ad4 w4 h361 n0 (B4.2.ext oo374.2)) e373 (B4.1.ext oo374.2) o_pd7 rfl (pc := 118) (Ls := #[.val (.ref r0), .val (.ref r1), .val (.ref r2), .val (.ref al), .val (.int 4)]) (rest := [(.int 4), (.ref b305)]) (W := 2) (by rw [hml]; rfl) (Nat.le_of_eq rfl) (by decide) (by decide) (hb hby o_d6_118) (by decide) (by decide)
 have N375 := Fr.app N367 N375q
 refine o_go st375 ?_
 show o_Gs p e below _ T375 m 121 #[.val (.ref r0), .val (.ref r1), .val (.ref r2), .val (.ref al), .val (.int 4)] [(.int w4), (.int 4), (.ref b305)]
 obtain ⟨cl376, Ar376, qa376, sa376, na376, ha376, ga376⟩ := id V361
 obtain ⟨T376, h376, X376, e376, W376, st376⟩ := stI X375 hx hZ e375 Ar376 (j := (4 : Int32)) (inb_of sa376 ⟨by decide, by decide⟩) (g := (mkF m 121 #[.val (.ref r0), .val (.ref r1), .val (.ref r2), .val (.ref al), .val (.int 4)] [(.int w4), (.int 4), (.ref b305)])) rfl rfl (hb hby o_d6_121)
 have V376 : Arv Z h376 b305 k305 .int 5 [(.int w0), (.int w1), (.int w2), (.int w3), (.int w4)] (.int 0) := Arv.set Ar376 qa376 sa376 na376 ha376 ga376 rfl W376 4 rfl (Nat.le_of_ble_eq_true rfl)
 have N376 := Fr.snoc X376 N375 g_b305
 refine o_go st376 ?_
 show o_Gs p e below _ T376 m 122 #[.val (.ref r0), .val (.ref r1), .val (.ref r2), .val (.ref al), .val (.int 4)] []
 refine o_gi (XS.iinc X376.here hx rfl (hb hby o_d6_122) rfl (l' := #[.val (.ref r0), .val (.ref r1), .val (.ref r2), .val (.ref al), .val (.int ((4 : Int32) + (1 : Int32)))]) rfl) ?_
 show o_Gs p e below _ T376 m 125 #[.val (.ref r0), .val (.ref r1), .val (.ref r2), .val (.ref al), .val (.int ((4 : Int32) + (1 : Int32)))] []
 rw [show ((4 : Int32) + (1 : Int32)) = (5 : Int32) from by decide]
 refine o_gi (XS.goto X376.here hx rfl (pc0 := 125) (pc' := 91) rfl (hb hby o_d6_125) (by decide) (by decide)) ?_
 refine o_gi (XS.iload X376.here hx rfl (hb hby o_d6_91) rfl) ?_
 refine o_gi (XS.aloadN X376.here hx rfl (hb hby o_d6_93) rfl rfl) ?_
 show o_Gs p e below _ T376 m 94 #[.val (.ref r0), .val (.ref r1), .val (.ref r2), .val (.ref al), .val (.int 5)] [(.ref r0), (.int 5)]
 have ff378 : Fld Z h376 r0 "com/example/foothold/foothold/SourceFile" "lineStarts" "[I" (.ref b305) := (ff363.other W376 (Or.inl ne_r0_b305))
 obtain ⟨T377, X377, e377, st377⟩ := getF X376 hx hZ hown (host := "") (Or.inl (hw _ o_t128)) Via.refl e376 ff378 (g := (mkF m 94 #[.val (.ref r0), .val (.ref r1), .val (.ref r2), .val (.ref al), .val (.int 5)] [(.ref r0), (.int 5)])) rfl rfl (hb hby o_d6_94)
 refine o_go st377 ?_
 show o_Gs p e below _ T377 m 97 #[.val (.ref r0), .val (.ref r1), .val (.ref r2), .val (.ref al), .val (.int 5)] [(.ref b305), (.int 5)]
 obtain ⟨cl379, Ar379, qa379, sa379, na379, ha379, ga379⟩ := id V376
 refine o_go (X377.arraylength hx (by rw [e377]; exact Ar379.1) (State.isArrayOf_alike hZ.alike Ar379.2.1) (g := (mkF m 97 #[.val (.ref r0), .val (.ref r1), .val (.ref r2), .val (.ref al), .val (.int 5)] [(.ref b305), (.int 5)])) rfl rfl (hb hby o_d6_97)) ?_
 rw [len_of sa379 (by decide)]
 show o_Gs p e below _ T377 m 98 #[.val (.ref r0), .val (.ref r1), .val (.ref r2), .val (.ref al), .val (.int 5)] [(.int 5), (.int 5)]
 have hd380 : ¬ ((5 : Int32) < (5 : Int32)) := (by decide)
 refine o_gi (XS.icmpYes X377.here hx rfl (pc0 := 98) (pc' := 128) rfl (hb hby o_d6_98) rfl (flt hd380).2.1 (by decide) (by decide)) ?_
 show o_Gs p e below _ T377 m 128 #[.val (.ref r0), .val (.ref r1), .val (.ref r2), .val (.ref al), .val (.int 5)] []
 have ff381 : Exa Z h376 r0 "com/example/foothold/foothold/SourceFile" := (((((((jE_r0.ext E305).wr W306).wr W320).wr W334).wr W348).wr W361).wr W376)
 exact o_ret0 X377 hx hlk hret (hb hby o_d6_128) (by decide) (by decide) (by show o_Q6 Z r0 cs h0 n0 _ T377.heap _; rw [e377]; exact ⟨_, _, rfl, N376, (((((((KK.ext E305).wr W306 (Or.inl (List.mem_of_getElem? (i := 0) rfl))).wr W320 (Or.inr sz_b305)).wr W334 (Or.inr sz_b305)).wr W348 (Or.inr sz_b305)).wr W361 (Or.inr sz_b305)).wr W376 (Or.inr sz_b305)), sz_b305, ff381, ff378, by rw [hls]; exact V376⟩)
theorem o_d6_36 : decode prog_92_method_1_code 36 = .ok (.iload 4, 2) := by decide +kernel
theorem o_d6_38 : decode prog_92_method_1_code 38 = .ok (.aload_n 2, 1) := by decide +kernel
theorem o_d6_39 : decode prog_92_method_1_code 39 = .ok (.invokevirtual 31, 3) := by decide +kernel
theorem o_t108 : (Jvm.Cond.methodLink "com/example/foothold/foothold/SourceFile" (31 : Nat) ({ cls := "java/lang/String", name := "length", desc := "()I" } : Jvm.MethodName)) ∈ tables_1 := List.mem_of_getElem? (i := 108) rfl
theorem o_t109 : (Jvm.Cond.declares ({ cls := "java/lang/String", name := "length", desc := "()I" } : Jvm.MethodName)) ∈ tables_1 := List.mem_of_getElem? (i := 109) rfl
theorem o_t111 : (Jvm.Cond.selects "java/lang/String" ({ cls := "java/lang/String", name := "length", desc := "()I" } : Jvm.MethodName) ({ cls := "java/lang/String", name := "length", desc := "()I" } : Jvm.MethodName)) ∈ tables_1 := List.mem_of_getElem? (i := 111) rfl
theorem o_t110 : (Jvm.Cond.instanceMethod ({ cls := "java/lang/String", name := "length", desc := "()I" } : Jvm.MethodName)) ∈ tables_1 := List.mem_of_getElem? (i := 110) rfl
theorem o_t10 : (Jvm.Cond.instantiable "java/lang/String" (4 : Nat)) ∈ tables_1 := List.mem_of_getElem? (i := 10) rfl
theorem o_d6_42 : decode prog_92_method_1_code 42 = .ok (.if_icmp .ge 34, 3) := by decide +kernel
set_option maxRecDepth 65536 in
set_option maxHeartbeats 40000000 in
theorem o_p36_4_1 {l : Launch} {Z : State} {a0 : Array Value} {r0 : Addr} {r1 : Addr} {r2 : Addr} {cl_e : Cell} {cl_c : Cell} {fm : Value} {t2 : Addr} {k2 : ClassId} {q_N : Int32} {q_vs : List Value} {cs : List Int32} {c_0 : Addr} {c_1 : Addr} {c_2 : Addr} {c_3 : Addr} {c_4 : Addr} {s_e : Addr} {x_hi : Int32} {s_c : Addr} {z_cs : Int32} {h0 : Heap} {n0 : Nat} {p : Program} {s : State} {m : MethodId} {meth : Method} {c : Code} {e : Env} {below : List Frame} (hP : o_P6 Z a0 r0 r1 r2 cl_e cl_c fm t2 k2 q_N q_vs cs c_0 c_1 c_2 c_3 c_4 s_e x_hi s_c z_cs h0 n0) (hB : o_X6 Z p s m meth c) {T0 : State} {L0 : List Loc} {hh : Heap} (X0 : Stand p l e o_R6 s m #[(.ref r0), (.ref r1), (.ref r2)] below meth c T0 L0 2 13) (e0 : T0.heap = hh) (N0 : Fr n0 L0) {al q_a : Addr} {k_a : ClassId} {ad0 : Addr} {w0 : Int32} (hJ : o_J6 Z h0 n0 r0 r2 t2 k2 q_N q_vs hh al q_a k_a (1 : Int32) [(.ref ad0), .null, .null, .null, .null, .null, .null, .null, .null, .null]) (B0 : o_A6 Z ad0 w0) (hls : o_ls cs = [w0] ++ o_rest 4 (cs.drop 4)) : o_Goes p e below (o_End s o_R6 (o_Q6 Z r0 cs h0 n0)) (T0.setTop (mkF m 36 #[.val (.ref r0), .val (.ref r1), .val (.ref r2), .val (.ref al), .val (.int 4)] [])) := by
 obtain ⟨hw, Z0, g_r0, O0, A_e, z_e, A_c, z_c, h_hi, t_c0, E_c0, F_c0, t_c1, E_c1, F_c1, t_c2, E_c2, F_c2, t_c3, E_c3, F_c3, t_c4, E_c4, F_c4, S_fm, rf, z_CS, hcd, hbd, hl4, hl4', ne_r0_r2, ne_r0_t2, S_s_e, S_x_hi, S_s_c, S_z_cs⟩ := id hP
 obtain ⟨hx, hby, hml, hown, hret, hlk, hZ, hnm⟩ := id hB
 obtain ⟨Z1, O1, KK, g_al, g_q_a, sz_al, sz_q_a, ne_r0_al, ne_r0_q_a, ne_r2_al, ne_r2_q_a, ne_t2_al, ne_t2_q_a, ne_al_q_a, jE_r0, jF_l, jE_r2, jF_v, jF_c, jV_t, jE_al, jF_m, jF_e, jF_z, jV_a, jO_a⟩ := hJ
 refine o_gi (XS.iload X0.here hx rfl (hb hby o_d6_36) rfl) ?_
 refine o_gi (XS.aloadN X0.here hx rfl (hb hby o_d6_38) rfl rfl) ?_
 show o_Gs p e below _ T0 m 39 #[.val (.ref r0), .val (.ref r1), .val (.ref r2), .val (.ref al), .val (.int 4)] [(.ref r2), (.int 4)]
 obtain ⟨T382, X382, e382, st382⟩ := o_callLen X0 hx hZ hown (hw _ o_t108) (hw _ o_t109) (hw _ o_t111) (hw _ o_t110) (hw _ o_t10) (o_hwl hw) jE_r2 jF_v jF_c jV_t hcd hbd hl4' (S_z_cs.ext O1.2) z_CS (nn := (Int32.ofNat cs.length)) rfl e0 (pc := 39) (Ls := #[.val (.ref r0), .val (.ref r1), .val (.ref r2), .val (.ref al), .val (.int 4)]) (rest := [(.int 4)]) (W := 1) (by rw [hml]; rfl) (Nat.le_of_eq rfl) (by decide) (by decide) (hb hby o_d6_39) (by decide) (by decide)
 refine o_go st382 ?_
 show o_Gs p e below _ T382 m 42 #[.val (.ref r0), .val (.ref r1), .val (.ref r2), .val (.ref al), .val (.int 4)] [(.int (Int32.ofNat cs.length)), (.int 4)]
 have hd383 : ¬ ((4 : Int32) < (Int32.ofNat cs.length)) := (o_ge4 hl4)
 refine o_gi (XS.icmpYes X382.here hx rfl (pc0 := 42) (pc' := 76) rfl (hb hby o_d6_42) rfl (flt hd383).2.1 (by decide) (by decide)) ?_
 exact o_t76_1 hP hB X382 e382 N0 ⟨Z1, O1, KK, g_al, g_q_a, sz_al, sz_q_a, ne_r0_al, ne_r0_q_a, ne_r2_al, ne_r2_q_a, ne_t2_al, ne_t2_q_a, ne_al_q_a, jE_r0, jF_l, jE_r2, jF_v, jF_c, jV_t, jE_al, jF_m, jF_e, jF_z, jV_a, jO_a⟩ B0 _ (One.val rfl) (o_rE (o_gen hl4 rfl (o_ge4 hl4)) hls)
set_option maxRecDepth 65536 in
set_option maxHeartbeats 40000000 in
theorem o_p36_4_2 {l : Launch} {Z : State} {a0 : Array Value} {r0 : Addr} {r1 : Addr} {r2 : Addr} {cl_e : Cell} {cl_c : Cell} {fm : Value} {t2 : Addr} {k2 : ClassId} {q_N : Int32} {q_vs : List Value} {cs : List Int32} {c_0 : Addr} {c_1 : Addr} {c_2 : Addr} {c_3 : Addr} {c_4 : Addr} {s_e : Addr} {x_hi : Int32} {s_c : Addr} {z_cs : Int32} {h0 : Heap} {n0 : Nat} {p : Program} {s : State} {m : MethodId} {meth : Method} {c : Code} {e : Env} {below : List Frame} (hP : o_P6 Z a0 r0 r1 r2 cl_e cl_c fm t2 k2 q_N q_vs cs c_0 c_1 c_2 c_3 c_4 s_e x_hi s_c z_cs h0 n0) (hB : o_X6 Z p s m meth c) {T0 : State} {L0 : List Loc} {hh : Heap} (X0 : Stand p l e o_R6 s m #[(.ref r0), (.ref r1), (.ref r2)] below meth c T0 L0 2 13) (e0 : T0.heap = hh) (N0 : Fr n0 L0) {al q_a : Addr} {k_a : ClassId} {ad0 : Addr} {w0 : Int32} {ad1 : Addr} {w1 : Int32} (hJ : o_J6 Z h0 n0 r0 r2 t2 k2 q_N q_vs hh al q_a k_a (2 : Int32) [(.ref ad0), (.ref ad1), .null, .null, .null, .null, .null, .null, .null, .null]) (B0 : o_A6 Z ad0 w0) (B1 : o_A6 Z ad1 w1) (hls : o_ls cs = [w0, w1] ++ o_rest 4 (cs.drop 4)) : o_Goes p e below (o_End s o_R6 (o_Q6 Z r0 cs h0 n0)) (T0.setTop (mkF m 36 #[.val (.ref r0), .val (.ref r1), .val (.ref r2), .val (.ref al), .val (.int 4)] [])) := by
 obtain ⟨hw, Z0, g_r0, O0, A_e, z_e, A_c, z_c, h_hi, t_c0, E_c0, F_c0, t_c1, E_c1, F_c1, t_c2, E_c2, F_c2, t_c3, E_c3, F_c3, t_c4, E_c4, F_c4, S_fm, rf, z_CS, hcd, hbd, hl4, hl4', ne_r0_r2, ne_r0_t2, S_s_e, S_x_hi, S_s_c, S_z_cs⟩ := id hP
 obtain ⟨hx, hby, hml, hown, hret, hlk, hZ, hnm⟩ := id hB
 obtain ⟨Z1, O1, KK, g_al, g_q_a, sz_al, sz_q_a, ne_r0_al, ne_r0_q_a, ne_r2_al, ne_r2_q_a, ne_t2_al, ne_t2_q_a, ne_al_q_a, jE_r0, jF_l, jE_r2, jF_v, jF_c, jV_t, jE_al, jF_m, jF_e, jF_z, jV_a, jO_a⟩ := hJ
 refine o_gi (XS.iload X0.here hx rfl (hb hby o_d6_36) rfl) ?_
 refine o_gi (XS.aloadN X0.here hx rfl (hb hby o_d6_38) rfl rfl) ?_
 show o_Gs p e below _ T0 m 39 #[.val (.ref r0), .val (.ref r1), .val (.ref r2), .val (.ref al), .val (.int 4)] [(.ref r2), (.int 4)]
 obtain ⟨T384, X384, e384, st384⟩ := o_callLen X0 hx hZ hown (hw _ o_t108) (hw _ o_t109) (hw _ o_t111) (hw _ o_t110) (hw _ o_t10) (o_hwl hw) jE_r2 jF_v jF_c jV_t hcd hbd hl4' (S_z_cs.ext O1.2) z_CS (nn := (Int32.ofNat cs.length)) rfl e0 (pc := 39) (Ls := #[.val (.ref r0), .val (.ref r1), .val (.ref r2), .val (.ref al), .val (.int 4)]) (rest := [(.int 4)]) (W := 1) (by rw [hml]; rfl) (Nat.le_of_eq rfl) (by decide) (by decide) (hb hby o_d6_39) (by decide) (by decide)
 refine o_go st384 ?_
 show o_Gs p e below _ T384 m 42 #[.val (.ref r0), .val (.ref r1), .val (.ref r2), .val (.ref al), .val (.int 4)] [(.int (Int32.ofNat cs.length)), (.int 4)]
 have hd385 : ¬ ((4 : Int32) < (Int32.ofNat cs.length)) := (o_ge4 hl4)
 refine o_gi (XS.icmpYes X384.here hx rfl (pc0 := 42) (pc' := 76) rfl (hb hby o_d6_42) rfl (flt hd385).2.1 (by decide) (by decide)) ?_
 exact o_t76_2 hP hB X384 e384 N0 ⟨Z1, O1, KK, g_al, g_q_a, sz_al, sz_q_a, ne_r0_al, ne_r0_q_a, ne_r2_al, ne_r2_q_a, ne_t2_al, ne_t2_q_a, ne_al_q_a, jE_r0, jF_l, jE_r2, jF_v, jF_c, jV_t, jE_al, jF_m, jF_e, jF_z, jV_a, jO_a⟩ B0 B1 _ (One.val rfl) (o_rE (o_gen hl4 rfl (o_ge4 hl4)) hls)
set_option maxRecDepth 65536 in
set_option maxHeartbeats 40000000 in
theorem o_p36_4_3 {l : Launch} {Z : State} {a0 : Array Value} {r0 : Addr} {r1 : Addr} {r2 : Addr} {cl_e : Cell} {cl_c : Cell} {fm : Value} {t2 : Addr} {k2 : ClassId} {q_N : Int32} {q_vs : List Value} {cs : List Int32} {c_0 : Addr} {c_1 : Addr} {c_2 : Addr} {c_3 : Addr} {c_4 : Addr} {s_e : Addr} {x_hi : Int32} {s_c : Addr} {z_cs : Int32} {h0 : Heap} {n0 : Nat} {p : Program} {s : State} {m : MethodId} {meth : Method} {c : Code} {e : Env} {below : List Frame} (hP : o_P6 Z a0 r0 r1 r2 cl_e cl_c fm t2 k2 q_N q_vs cs c_0 c_1 c_2 c_3 c_4 s_e x_hi s_c z_cs h0 n0) (hB : o_X6 Z p s m meth c) {T0 : State} {L0 : List Loc} {hh : Heap} (X0 : Stand p l e o_R6 s m #[(.ref r0), (.ref r1), (.ref r2)] below meth c T0 L0 2 13) (e0 : T0.heap = hh) (N0 : Fr n0 L0) {al q_a : Addr} {k_a : ClassId} {ad0 : Addr} {w0 : Int32} {ad1 : Addr} {w1 : Int32} {ad2 : Addr} {w2 : Int32} (hJ : o_J6 Z h0 n0 r0 r2 t2 k2 q_N q_vs hh al q_a k_a (3 : Int32) [(.ref ad0), (.ref ad1), (.ref ad2), .null, .null, .null, .null, .null, .null, .null]) (B0 : o_A6 Z ad0 w0) (B1 : o_A6 Z ad1 w1) (B2 : o_A6 Z ad2 w2) (hls : o_ls cs = [w0, w1, w2] ++ o_rest 4 (cs.drop 4)) : o_Goes p e below (o_End s o_R6 (o_Q6 Z r0 cs h0 n0)) (T0.setTop (mkF m 36 #[.val (.ref r0), .val (.ref r1), .val (.ref r2), .val (.ref al), .val (.int 4)] [])) := by
 obtain ⟨hw, Z0, g_r0, O0, A_e, z_e, A_c, z_c, h_hi, t_c0, E_c0, F_c0, t_c1, E_c1, F_c1, t_c2, E_c2, F_c2, t_c3, E_c3, F_c3, t_c4, E_c4, F_c4, S_fm, rf, z_CS, hcd, hbd, hl4, hl4', ne_r0_r2, ne_r0_t2, S_s_e, S_x_hi, S_s_c, S_z_cs⟩ := id hP
 obtain ⟨hx, hby, hml, hown, hret, hlk, hZ, hnm⟩ := id hB
 obtain ⟨Z1, O1, KK, g_al, g_q_a, sz_al, sz_q_a, ne_r0_al, ne_r0_q_a, ne_r2_al, ne_r2_q_a, ne_t2_al, ne_t2_q_a, ne_al_q_a, jE_r0, jF_l, jE_r2, jF_v, jF_c, jV_t, jE_al, jF_m, jF_e, jF_z, jV_a, jO_a⟩ := hJ
 refine o_gi (XS.iload X0.here hx rfl (hb hby o_d6_36) rfl) ?_
 refine o_gi (XS.aloadN X0.here hx rfl (hb hby o_d6_38) rfl rfl) ?_
 show o_Gs p e below _ T0 m 39 #[.val (.ref r0), .val (.ref r1), .val (.ref r2), .val (.ref al), .val (.int 4)] [(.ref r2), (.int 4)]
 obtain ⟨T386, X386, e386, st386⟩ := o_callLen X0 hx hZ hown (hw _ o_t108) (hw _ o_t109) (hw _ o_t111) (hw _ o_t110) (hw _ o_t10) (o_hwl hw) jE_r2 jF_v jF_c jV_t hcd hbd hl4' (S_z_cs.ext O1.2) z_CS (nn := (Int32.ofNat cs.length)) rfl e0 (pc := 39) (Ls := #[.val (.ref r0), .val (.ref r1), .val (.ref r2), .val (.ref al), .val (.int 4)]) (rest := [(.int 4)]) (W := 1) (by rw [hml]; rfl) (Nat.le_of_eq rfl) (by decide) (by decide) (hb hby o_d6_39) (by decide) (by decide)
 refine o_go st386 ?_
 show o_Gs p e below _ T386 m 42 #[.val (.ref r0), .val (.ref r1), .val (.ref r2), .val (.ref al), .val (.int 4)] [(.int (Int32.ofNat cs.length)), (.int 4)]
 have hd387 : ¬ ((4 : Int32) < (Int32.ofNat cs.length)) := (o_ge4 hl4)
 refine o_gi (XS.icmpYes X386.here hx rfl (pc0 := 42) (pc' := 76) rfl (hb hby o_d6_42) rfl (flt hd387).2.1 (by decide) (by decide)) ?_
 exact o_t76_3 hP hB X386 e386 N0 ⟨Z1, O1, KK, g_al, g_q_a, sz_al, sz_q_a, ne_r0_al, ne_r0_q_a, ne_r2_al, ne_r2_q_a, ne_t2_al, ne_t2_q_a, ne_al_q_a, jE_r0, jF_l, jE_r2, jF_v, jF_c, jV_t, jE_al, jF_m, jF_e, jF_z, jV_a, jO_a⟩ B0 B1 B2 _ (One.val rfl) (o_rE (o_gen hl4 rfl (o_ge4 hl4)) hls)
set_option maxRecDepth 65536 in
set_option maxHeartbeats 40000000 in
theorem o_p36_4_4 {l : Launch} {Z : State} {a0 : Array Value} {r0 : Addr} {r1 : Addr} {r2 : Addr} {cl_e : Cell} {cl_c : Cell} {fm : Value} {t2 : Addr} {k2 : ClassId} {q_N : Int32} {q_vs : List Value} {cs : List Int32} {c_0 : Addr} {c_1 : Addr} {c_2 : Addr} {c_3 : Addr} {c_4 : Addr} {s_e : Addr} {x_hi : Int32} {s_c : Addr} {z_cs : Int32} {h0 : Heap} {n0 : Nat} {p : Program} {s : State} {m : MethodId} {meth : Method} {c : Code} {e : Env} {below : List Frame} (hP : o_P6 Z a0 r0 r1 r2 cl_e cl_c fm t2 k2 q_N q_vs cs c_0 c_1 c_2 c_3 c_4 s_e x_hi s_c z_cs h0 n0) (hB : o_X6 Z p s m meth c) {T0 : State} {L0 : List Loc} {hh : Heap} (X0 : Stand p l e o_R6 s m #[(.ref r0), (.ref r1), (.ref r2)] below meth c T0 L0 2 13) (e0 : T0.heap = hh) (N0 : Fr n0 L0) {al q_a : Addr} {k_a : ClassId} {ad0 : Addr} {w0 : Int32} {ad1 : Addr} {w1 : Int32} {ad2 : Addr} {w2 : Int32} {ad3 : Addr} {w3 : Int32} (hJ : o_J6 Z h0 n0 r0 r2 t2 k2 q_N q_vs hh al q_a k_a (4 : Int32) [(.ref ad0), (.ref ad1), (.ref ad2), (.ref ad3), .null, .null, .null, .null, .null, .null]) (B0 : o_A6 Z ad0 w0) (B1 : o_A6 Z ad1 w1) (B2 : o_A6 Z ad2 w2) (B3 : o_A6 Z ad3 w3) (hls : o_ls cs = [w0, w1, w2, w3] ++ o_rest 4 (cs.drop 4)) : o_Goes p e below (o_End s o_R6 (o_Q6 Z r0 cs h0 n0)) (T0.setTop (mkF m 36 #[.val (.ref r0), .val (.ref r1), .val (.ref r2), .val (.ref al), .val (.int 4)] [])) := by
 obtain ⟨hw, Z0, g_r0, O0, A_e, z_e, A_c, z_c, h_hi, t_c0, E_c0, F_c0, t_c1, E_c1, F_c1, t_c2, E_c2, F_c2, t_c3, E_c3, F_c3, t_c4, E_c4, F_c4, S_fm, rf, z_CS, hcd, hbd, hl4, hl4', ne_r0_r2, ne_r0_t2, S_s_e, S_x_hi, S_s_c, S_z_cs⟩ := id hP
 obtain ⟨hx, hby, hml, hown, hret, hlk, hZ, hnm⟩ := id hB
 obtain ⟨Z1, O1, KK, g_al, g_q_a, sz_al, sz_q_a, ne_r0_al, ne_r0_q_a, ne_r2_al, ne_r2_q_a, ne_t2_al, ne_t2_q_a, ne_al_q_a, jE_r0, jF_l, jE_r2, jF_v, jF_c, jV_t, jE_al, jF_m, jF_e, jF_z, jV_a, jO_a⟩ := hJ
 refine o_gi (XS.iload X0.here hx rfl (hb hby o_d6_36) rfl) ?_
 refine o_gi (XS.aloadN X0.here hx rfl (hb hby o_d6_38) rfl rfl) ?_
 show o_Gs p e below _ T0 m 39 #[.val (.ref r0), .val (.ref r1), .val (.ref r2), .val (.ref al), .val (.int 4)] [(.ref r2), (.int 4)]
 obtain ⟨T388, X388, e388, st388⟩ := o_callLen X0 hx hZ hown (hw _ o_t108) (hw _ o_t109) (hw _ o_t111) (hw _ o_t110) (hw _ o_t10) (o_hwl hw) jE_r2 jF_v jF_c jV_t hcd hbd hl4' (S_z_cs.ext O1.2) z_CS (nn := (Int32.ofNat cs.length)) rfl e0 (pc := 39) (Ls := #[.val (.ref r0), .val (.ref r1), .val (.ref r2), .val (.ref al), .val (.int 4)]) (rest := [(.int 4)]) (W := 1) (by rw [hml]; rfl) (Nat.le_of_eq rfl) (by decide) (by decide) (hb hby o_d6_39) (by decide) (by decide)
 refine o_go st388 ?_
 show o_Gs p e below _ T388 m 42 #[.val (.ref r0), .val (.ref r1), .val (.ref r2), .val (.ref al), .val (.int 4)] [(.int (Int32.ofNat cs.length)), (.int 4)]
 have hd389 : ¬ ((4 : Int32) < (Int32.ofNat cs.length)) := (o_ge4 hl4)
 refine o_gi (XS.icmpYes X388.here hx rfl (pc0 := 42) (pc' := 76) rfl (hb hby o_d6_42) rfl (flt hd389).2.1 (by decide) (by decide)) ?_
 exact o_t76_4 hP hB X388 e388 N0 ⟨Z1, O1, KK, g_al, g_q_a, sz_al, sz_q_a, ne_r0_al, ne_r0_q_a, ne_r2_al, ne_r2_q_a, ne_t2_al, ne_t2_q_a, ne_al_q_a, jE_r0, jF_l, jE_r2, jF_v, jF_c, jV_t, jE_al, jF_m, jF_e, jF_z, jV_a, jO_a⟩ B0 B1 B2 B3 _ (One.val rfl) (o_rE (o_gen hl4 rfl (o_ge4 hl4)) hls)
set_option maxRecDepth 65536 in
set_option maxHeartbeats 40000000 in
theorem o_p36_4_5 {l : Launch} {Z : State} {a0 : Array Value} {r0 : Addr} {r1 : Addr} {r2 : Addr} {cl_e : Cell} {cl_c : Cell} {fm : Value} {t2 : Addr} {k2 : ClassId} {q_N : Int32} {q_vs : List Value} {cs : List Int32} {c_0 : Addr} {c_1 : Addr} {c_2 : Addr} {c_3 : Addr} {c_4 : Addr} {s_e : Addr} {x_hi : Int32} {s_c : Addr} {z_cs : Int32} {h0 : Heap} {n0 : Nat} {p : Program} {s : State} {m : MethodId} {meth : Method} {c : Code} {e : Env} {below : List Frame} (hP : o_P6 Z a0 r0 r1 r2 cl_e cl_c fm t2 k2 q_N q_vs cs c_0 c_1 c_2 c_3 c_4 s_e x_hi s_c z_cs h0 n0) (hB : o_X6 Z p s m meth c) {T0 : State} {L0 : List Loc} {hh : Heap} (X0 : Stand p l e o_R6 s m #[(.ref r0), (.ref r1), (.ref r2)] below meth c T0 L0 2 13) (e0 : T0.heap = hh) (N0 : Fr n0 L0) {al q_a : Addr} {k_a : ClassId} {ad0 : Addr} {w0 : Int32} {ad1 : Addr} {w1 : Int32} {ad2 : Addr} {w2 : Int32} {ad3 : Addr} {w3 : Int32} {ad4 : Addr} {w4 : Int32} (hJ : o_J6 Z h0 n0 r0 r2 t2 k2 q_N q_vs hh al q_a k_a (5 : Int32) [(.ref ad0), (.ref ad1), (.ref ad2), (.ref ad3), (.ref ad4), .null, .null, .null, .null, .null]) (B0 : o_A6 Z ad0 w0) (B1 : o_A6 Z ad1 w1) (B2 : o_A6 Z ad2 w2) (B3 : o_A6 Z ad3 w3) (B4 : o_A6 Z ad4 w4) (hls : o_ls cs = [w0, w1, w2, w3, w4] ++ o_rest 4 (cs.drop 4)) : o_Goes p e below (o_End s o_R6 (o_Q6 Z r0 cs h0 n0)) (T0.setTop (mkF m 36 #[.val (.ref r0), .val (.ref r1), .val (.ref r2), .val (.ref al), .val (.int 4)] [])) := by
 obtain ⟨hw, Z0, g_r0, O0, A_e, z_e, A_c, z_c, h_hi, t_c0, E_c0, F_c0, t_c1, E_c1, F_c1, t_c2, E_c2, F_c2, t_c3, E_c3, F_c3, t_c4, E_c4, F_c4, S_fm, rf, z_CS, hcd, hbd, hl4, hl4', ne_r0_r2, ne_r0_t2, S_s_e, S_x_hi, S_s_c, S_z_cs⟩ := id hP
 obtain ⟨hx, hby, hml, hown, hret, hlk, hZ, hnm⟩ := id hB
 obtain ⟨Z1, O1, KK, g_al, g_q_a, sz_al, sz_q_a, ne_r0_al, ne_r0_q_a, ne_r2_al, ne_r2_q_a, ne_t2_al, ne_t2_q_a, ne_al_q_a, jE_r0, jF_l, jE_r2, jF_v, jF_c, jV_t, jE_al, jF_m, jF_e, jF_z, jV_a, jO_a⟩ := hJ
 refine o_gi (XS.iload X0.here hx rfl (hb hby o_d6_36) rfl) ?_
 refine o_gi (XS.aloadN X0.here hx rfl (hb hby o_d6_38) rfl rfl) ?_
 show o_Gs p e below _ T0 m 39 #[.val (.ref r0), .val (.ref r1), .val (.ref r2), .val (.ref al), .val (.int 4)] [(.ref r2), (.int 4)]
 obtain ⟨T390, X390, e390, st390⟩ := o_callLen X0 hx hZ hown (hw _ o_t108) (hw _ o_t109) (hw _ o_t111) (hw _ o_t110) (hw _ o_t10) (o_hwl hw) jE_r2 jF_v jF_c jV_t hcd hbd hl4' (S_z_cs.ext O1.2) z_CS (nn := (Int32.ofNat cs.length)) rfl e0 (pc := 39) (Ls := #[.val (.ref r0), .val (.ref r1), .val (.ref r2), .val (.ref al), .val (.int 4)]) (rest := [(.int 4)]) (W := 1) (by rw [hml]; rfl) (Nat.le_of_eq rfl) (by decide) (by decide) (hb hby o_d6_39) (by decide) (by decide)
 refine o_go st390 ?_
 show o_Gs p e below _ T390 m 42 #[.val (.ref r0), .val (.ref r1), .val (.ref r2), .val (.ref al), .val (.int 4)] [(.int (Int32.ofNat cs.length)), (.int 4)]
 have hd391 : ¬ ((4 : Int32) < (Int32.ofNat cs.length)) := (o_ge4 hl4)
 refine o_gi (XS.icmpYes X390.here hx rfl (pc0 := 42) (pc' := 76) rfl (hb hby o_d6_42) rfl (flt hd391).2.1 (by decide) (by decide)) ?_
 exact o_t76_5 hP hB X390 e390 N0 ⟨Z1, O1, KK, g_al, g_q_a, sz_al, sz_q_a, ne_r0_al, ne_r0_q_a, ne_r2_al, ne_r2_q_a, ne_t2_al, ne_t2_q_a, ne_al_q_a, jE_r0, jF_l, jE_r2, jF_v, jF_c, jV_t, jE_al, jF_m, jF_e, jF_z, jV_a, jO_a⟩ B0 B1 B2 B3 B4 _ (One.val rfl) (o_rE (o_gen hl4 rfl (o_ge4 hl4)) hls)
theorem o_d6_45 : decode prog_92_method_1_code 45 = .ok (.aload_n 2, 1) := by decide +kernel
theorem o_d6_46 : decode prog_92_method_1_code 46 = .ok (.iload 4, 2) := by decide +kernel
theorem o_d6_48 : decode prog_92_method_1_code 48 = .ok (.invokevirtual 37, 3) := by decide +kernel
theorem o_t178 : (Jvm.Cond.methodLink "com/example/foothold/foothold/SourceFile" (37 : Nat) ({ cls := "java/lang/String", name := "charAt", desc := "(I)C" } : Jvm.MethodName)) ∈ tables_1 := List.mem_of_getElem? (i := 178) rfl
theorem o_t179 : (Jvm.Cond.declares ({ cls := "java/lang/String", name := "charAt", desc := "(I)C" } : Jvm.MethodName)) ∈ tables_1 := List.mem_of_getElem? (i := 179) rfl
theorem o_t181 : (Jvm.Cond.selects "java/lang/String" ({ cls := "java/lang/String", name := "charAt", desc := "(I)C" } : Jvm.MethodName) ({ cls := "java/lang/String", name := "charAt", desc := "(I)C" } : Jvm.MethodName)) ∈ tables_1 := List.mem_of_getElem? (i := 181) rfl
theorem o_t180 : (Jvm.Cond.instanceMethod ({ cls := "java/lang/String", name := "charAt", desc := "(I)C" } : Jvm.MethodName)) ∈ tables_1 := List.mem_of_getElem? (i := 180) rfl
theorem o_d6_51 : decode prog_92_method_1_code 51 = .ok (.bipush 10, 2) := by decide +kernel
theorem o_d6_53 : decode prog_92_method_1_code 53 = .ok (.if_icmp .ne 17, 3) := by decide +kernel
theorem o_d6_56 : decode prog_92_method_1_code 56 = .ok (.aload_n 3, 1) := by decide +kernel
theorem o_d6_57 : decode prog_92_method_1_code 57 = .ok (.iload 4, 2) := by decide +kernel
theorem o_d6_59 : decode prog_92_method_1_code 59 = .ok (.iconst 1, 1) := by decide +kernel
theorem o_d6_60 : decode prog_92_method_1_code 60 = .ok (.iadd, 1) := by decide +kernel
theorem o_d6_61 : decode prog_92_method_1_code 61 = .ok (.invokestatic 19, 3) := by decide +kernel
theorem o_t66 : (Jvm.Cond.methodLink "com/example/foothold/foothold/SourceFile" (19 : Nat) ({ cls := "java/lang/Integer", name := "valueOf", desc := "(I)Ljava/lang/Integer;" } : Jvm.MethodName)) ∈ tables_1 := List.mem_of_getElem? (i := 66) rfl
theorem o_pd8 : parseMethodDescriptor "(I)Ljava/lang/Integer;" = some ⟨[.int], some (.object "java/lang/Integer")⟩ := by decide +kernel
theorem o_t67 : (Jvm.Cond.static ({ cls := "java/lang/Integer", name := "valueOf", desc := "(I)Ljava/lang/Integer;" } : Jvm.MethodName)) ∈ tables_1 := List.mem_of_getElem? (i := 67) rfl
theorem o_t69 : (Jvm.Cond.code ({ cls := "java/lang/Integer", name := "valueOf", desc := "(I)Ljava/lang/Integer;" } : Jvm.MethodName) jdk_33_method_22_code (1 : Nat) (Option.some (Jvm.ClassFile.FieldType.object "java/lang/Integer"))) ∈ tables_1 := List.mem_of_getElem? (i := 69) rfl
theorem o_d6_64 : decode prog_92_method_1_code 64 = .ok (.invokeinterface 25 2, 5) := by decide +kernel
theorem o_t73 : (Jvm.Cond.methodLink "com/example/foothold/foothold/SourceFile" (25 : Nat) ({ cls := "java/util/List", name := "add", desc := "(Ljava/lang/Object;)Z" } : Jvm.MethodName)) ∈ tables_1 := List.mem_of_getElem? (i := 73) rfl
theorem o_pd9 : parseMethodDescriptor "(Ljava/lang/Object;)Z" = some ⟨[(.object "java/lang/Object")], some .boolean⟩ := by decide +kernel
theorem o_t74 : (Jvm.Cond.declares ({ cls := "java/util/List", name := "add", desc := "(Ljava/lang/Object;)Z" } : Jvm.MethodName)) ∈ tables_1 := List.mem_of_getElem? (i := 74) rfl
theorem o_t75 : (Jvm.Cond.interfaceMethod "java/util/List" "java/util/List" "add" "(Ljava/lang/Object;)Z") ∈ tables_1 := List.mem_of_getElem? (i := 75) rfl
theorem o_t76 : (Jvm.Cond.selects "java/util/ArrayList" ({ cls := "java/util/List", name := "add", desc := "(Ljava/lang/Object;)Z" } : Jvm.MethodName) ({ cls := "java/util/ArrayList", name := "add", desc := "(Ljava/lang/Object;)Z" } : Jvm.MethodName)) ∈ tables_1 := List.mem_of_getElem? (i := 76) rfl
theorem o_t77 : (Jvm.Cond.instanceMethod ({ cls := "java/util/ArrayList", name := "add", desc := "(Ljava/lang/Object;)Z" } : Jvm.MethodName)) ∈ tables_1 := List.mem_of_getElem? (i := 77) rfl
theorem o_t78 : (Jvm.Cond.publicMethod ({ cls := "java/util/ArrayList", name := "add", desc := "(Ljava/lang/Object;)Z" } : Jvm.MethodName)) ∈ tables_1 := List.mem_of_getElem? (i := 78) rfl
theorem o_t79 : (Jvm.Cond.unhidden "java/util/ArrayList" "add" "(Ljava/lang/Object;)Z") ∈ tables_1 := List.mem_of_getElem? (i := 79) rfl
theorem o_t81 : (Jvm.Cond.code ({ cls := "java/util/ArrayList", name := "add", desc := "(Ljava/lang/Object;)Z" } : Jvm.MethodName) jdk_38_method_25_code (2 : Nat) (Option.some Jvm.ClassFile.FieldType.boolean)) ∈ tables_1 := List.mem_of_getElem? (i := 81) rfl
theorem o_d6_69 : decode prog_92_method_1_code 69 = .ok (.pop, 1) := by decide +kernel
theorem o_d6_70 : decode prog_92_method_1_code 70 = .ok (.iinc 4 1, 3) := by decide +kernel
theorem o_d6_73 : decode prog_92_method_1_code 73 = .ok (.goto (-37), 3) := by decide +kernel
set_option maxRecDepth 65536 in
set_option maxHeartbeats 40000000 in
theorem o_p36_3_1 {l : Launch} {Z : State} {a0 : Array Value} {r0 : Addr} {r1 : Addr} {r2 : Addr} {cl_e : Cell} {cl_c : Cell} {fm : Value} {t2 : Addr} {k2 : ClassId} {q_N : Int32} {q_vs : List Value} {cs : List Int32} {c_0 : Addr} {c_1 : Addr} {c_2 : Addr} {c_3 : Addr} {c_4 : Addr} {s_e : Addr} {x_hi : Int32} {s_c : Addr} {z_cs : Int32} {h0 : Heap} {n0 : Nat} {p : Program} {s : State} {m : MethodId} {meth : Method} {c : Code} {e : Env} {below : List Frame} (hP : o_P6 Z a0 r0 r1 r2 cl_e cl_c fm t2 k2 q_N q_vs cs c_0 c_1 c_2 c_3 c_4 s_e x_hi s_c z_cs h0 n0) (hB : o_X6 Z p s m meth c) {T0 : State} {L0 : List Loc} {hh : Heap} (X0 : Stand p l e o_R6 s m #[(.ref r0), (.ref r1), (.ref r2)] below meth c T0 L0 2 13) (e0 : T0.heap = hh) (N0 : Fr n0 L0) {al q_a : Addr} {k_a : ClassId} {ad0 : Addr} {w0 : Int32} (hJ : o_J6 Z h0 n0 r0 r2 t2 k2 q_N q_vs hh al q_a k_a (1 : Int32) [(.ref ad0), .null, .null, .null, .null, .null, .null, .null, .null, .null]) (B0 : o_A6 Z ad0 w0) (hls : o_ls cs = [w0] ++ o_rest 3 (cs.drop 3)) : o_Goes p e below (o_End s o_R6 (o_Q6 Z r0 cs h0 n0)) (T0.setTop (mkF m 36 #[.val (.ref r0), .val (.ref r1), .val (.ref r2), .val (.ref al), .val (.int 3)] [])) := by
 obtain ⟨hw, Z0, g_r0, O0, A_e, z_e, A_c, z_c, h_hi, t_c0, E_c0, F_c0, t_c1, E_c1, F_c1, t_c2, E_c2, F_c2, t_c3, E_c3, F_c3, t_c4, E_c4, F_c4, S_fm, rf, z_CS, hcd, hbd, hl4, hl4', ne_r0_r2, ne_r0_t2, S_s_e, S_x_hi, S_s_c, S_z_cs⟩ := id hP
 obtain ⟨hx, hby, hml, hown, hret, hlk, hZ, hnm⟩ := id hB
 obtain ⟨Z1, O1, KK, g_al, g_q_a, sz_al, sz_q_a, ne_r0_al, ne_r0_q_a, ne_r2_al, ne_r2_q_a, ne_t2_al, ne_t2_q_a, ne_al_q_a, jE_r0, jF_l, jE_r2, jF_v, jF_c, jV_t, jE_al, jF_m, jF_e, jF_z, jV_a, jO_a⟩ := hJ
 refine o_gi (XS.iload X0.here hx rfl (hb hby o_d6_36) rfl) ?_
 refine o_gi (XS.aloadN X0.here hx rfl (hb hby o_d6_38) rfl rfl) ?_
 show o_Gs p e below _ T0 m 39 #[.val (.ref r0), .val (.ref r1), .val (.ref r2), .val (.ref al), .val (.int 3)] [(.ref r2), (.int 3)]
 obtain ⟨T392, X392, e392, st392⟩ := o_callLen X0 hx hZ hown (hw _ o_t108) (hw _ o_t109) (hw _ o_t111) (hw _ o_t110) (hw _ o_t10) (o_hwl hw) jE_r2 jF_v jF_c jV_t hcd hbd hl4' (S_z_cs.ext O1.2) z_CS (nn := (Int32.ofNat cs.length)) rfl e0 (pc := 39) (Ls := #[.val (.ref r0), .val (.ref r1), .val (.ref r2), .val (.ref al), .val (.int 3)]) (rest := [(.int 3)]) (W := 1) (by rw [hml]; rfl) (Nat.le_of_eq rfl) (by decide) (by decide) (hb hby o_d6_39) (by decide) (by decide)
 refine o_go st392 ?_
 show o_Gs p e below _ T392 m 42 #[.val (.ref r0), .val (.ref r1), .val (.ref r2), .val (.ref al), .val (.int 3)] [(.int (Int32.ofNat cs.length)), (.int 3)]
 by_cases hc393 : (3 : Int32) < (Int32.ofNat cs.length)
 ·refine o_gi (XS.icmpNo X392.here hx rfl (hb hby o_d6_42) rfl (tlt hc393).2.1) ?_
  refine o_gi (XS.aloadN X392.here hx rfl (hb hby o_d6_45) rfl rfl) ?_
  refine o_gi (XS.iload X392.here hx rfl (hb hby o_d6_46) rfl) ?_
  show o_Gs p e below _ T392 m 48 #[.val (.ref r0), .val (.ref r1), .val (.ref r2), .val (.ref al), .val (.int 3)] [(.int 3), (.ref r2)]
  obtain ⟨T394, X394, e394, st394⟩ := o_callCh X392 hx hZ hown (hw _ o_t178) (hw _ o_t179) (hw _ o_t181) (hw _ o_t180) (hw _ o_t10) (o_hwc hw) jE_r2 jF_v jF_c jV_t hcd hbd hl4' (S_z_cs.ext O1.2) z_CS (S_fm.ext O1.2) rf (i := 3) (u := (cs.getD 3 0)) (o_ltn hl4 rfl hc393) rfl rfl e392 (pc := 48) (Ls := #[.val (.ref r0), .val (.ref r1), .val (.ref r2), .val (.ref al), .val (.int 3)]) (rest := []) (W := 0) (by rw [hml]; rfl) (Nat.le_of_eq rfl) (by decide) (by decide) (hb hby o_d6_48) (by decide) (by decide)
  refine o_go st394 ?_
  refine o_gi (XS.bipush X394.here hx rfl (hb hby o_d6_51)) ?_
  show o_Gs p e below _ T394 m 53 #[.val (.ref r0), .val (.ref r1), .val (.ref r2), .val (.ref al), .val (.int 3)] [(.int 10), (.int (cs.getD 3 0))]
  by_cases hc395 : (cs.getD 3 0) = (10 : Int32)
  ·refine o_gi (XS.icmpNo X394.here hx rfl (hb hby o_d6_53) rfl (teq hc395).2) ?_
   refine o_gi (XS.aloadN X394.here hx rfl (hb hby o_d6_56) rfl rfl) ?_
   refine o_gi (XS.iload X394.here hx rfl (hb hby o_d6_57) rfl) ?_
   refine o_gi (XS.iconst X394.here hx rfl (hb hby o_d6_59)) ?_
   show o_Gs p e below _ T394 m 60 #[.val (.ref r0), .val (.ref r1), .val (.ref r2), .val (.ref al), .val (.int 3)] [(.int 1), (.int 3), (.ref al)]
   refine o_gi (XS.iadd X394.here hx rfl (hb hby o_d6_60) rfl) ?_
   show o_Gs p e below _ T394 m 61 #[.val (.ref r0), .val (.ref r1), .val (.ref r2), .val (.ref al), .val (.int 3)] [(.int ((3 : Int32) + (1 : Int32))), (.ref al)]
   rw [show ((3 : Int32) + (1 : Int32)) = (4 : Int32) from by decide]
   show o_Gs p e below _ T394 m 61 #[.val (.ref r0), .val (.ref r1), .val (.ref r2), .val (.ref al), .val (.int 3)] [(.int 4), (.ref al)]
   obtain ⟨_, T396, L396, X396, ⟨rfl, N396q, e396⟩, st396⟩ := o_callS X394 hx hZ hown (hw _ o_t66) (hw _ o_t67) (hw _ o_t68) (hw _ o_t69) (by decide) (as := [(.int 4)]) (rm10_4 l Z a0 hw [] c_4 cl_c x_hi s_c hh n0 Z1 O1 A_c z_c h_hi t_c4 S_x_hi S_s_c) e394 o_pd8 rfl (pc := 61) (Ls := #[.val (.ref r0), .val (.ref r1), .val (.ref r2), .val (.ref al), .val (.int 3)]) (rest := [(.ref al)]) (W := 1) (by rw [hml]; rfl) (Nat.le_of_eq rfl) (by decide) (by decide) (hb hby o_d6_61) (by decide) (by decide)
   have N396 := Fr.app N0 N396q
   refine o_go st396 ?_
   show o_Gs p e below _ T396 m 64 #[.val (.ref r0), .val (.ref r1), .val (.ref r2), .val (.ref al), .val (.int 3)] [(.ref c_4), (.ref al)]
   obtain ⟨_, T397, L397, X397, ⟨rfl, N397q, K397, G397_0, G397_1, G397_2, G397_3, G397_4, G397_5⟩, st397⟩ := o_callF X396 hx hZ hown (mvT hZ (hw _ o_t73)) (mvT hZ (hw _ o_t74)) (mvT hZ (hw _ o_t75)) (mvT hZ (hw _ o_t76)) (mvT hZ (hw _ o_t77)) (mvT hZ (hw _ o_t78)) (mvT hZ (hw _ o_t79)) (mvT hZ (hw _ o_t80)) (hw _ o_t44) (hw _ o_t81) (by decide) (b := al) (as := [(.ref c_4)]) (rm11_1 l Z a0 hw [] al c_4 q_a k_a ad0 hh n0 Z1 g_al g_q_a jE_al (E_c4.ext O1.2) jF_m jF_e jF_z jV_a jO_a ne_al_q_a) e396 jE_al o_pd9 rfl (pc := 64) (Ls := #[.val (.ref r0), .val (.ref r1), .val (.ref r2), .val (.ref al), .val (.int 3)]) (rest := []) (W := 0) (by rw [hml]; rfl) (Nat.le_of_eq rfl) (by decide) (by decide) (hb hby o_d6_64) (by decide) (by decide)
   have N397 := Fr.app N396 N397q
   refine o_go st397 ?_
   refine o_gi (XS.pop X397.here hx rfl (hb hby o_d6_69) rfl rfl) ?_
   show o_Gs p e below _ T397 m 70 #[.val (.ref r0), .val (.ref r1), .val (.ref r2), .val (.ref al), .val (.int 3)] []
   refine o_gi (XS.iinc X397.here hx rfl (hb hby o_d6_70) rfl (l' := #[.val (.ref r0), .val (.ref r1), .val (.ref r2), .val (.ref al), .val (.int ((3 : Int32) + (1 : Int32)))]) rfl) ?_
   show o_Gs p e below _ T397 m 73 #[.val (.ref r0), .val (.ref r1), .val (.ref r2), .val (.ref al), .val (.int ((3 : Int32) + (1 : Int32)))] []
   rw [show ((3 : Int32) + (1 : Int32)) = (4 : Int32) from by decide]
   refine o_gi (XS.goto X397.here hx rfl (pc0 := 73) (pc' := 36) rfl (hb hby o_d6_73) (by decide) (by decide)) ?_
   have ff398 : Fld Z T397.heap r0 "com/example/foothold/foothold/SourceFile" "lineStarts" "[I" .null := (jF_l.keep K397 (ninS ne_r0_al (ninS ne_r0_q_a nin0)))
   have ff399 : Fld Z T397.heap r2 "java/lang/String" "value" "[B" (.ref t2) := (jF_v.keep K397 (ninS ne_r2_al (ninS ne_r2_q_a nin0)))
   have ff400 : Fld Z T397.heap r2 "java/lang/String" "coder" "B" (.int 0) := (jF_c.keep K397 (ninS ne_r2_al (ninS ne_r2_q_a nin0)))
   have ff401 : Arv Z T397.heap t2 k2 .byte q_N q_vs (.int 0) := (jV_t.keep K397 (ninS ne_t2_al (ninS ne_t2_q_a nin0)))
   have oo402 : Old Z n0 T397.heap := (O1.keep K397 (allS g_al (allS g_q_a all0)))
   exact o_p36_4_2 hP hB X397 rfl N397 ⟨(Nat.le_trans Z1 K397.1), oo402, (KK.trans K397 (allS (P := fun x => x ∈ ([r0] : List Addr) ∨ h0.size ≤ x) (Or.inr sz_al) (allS (P := fun x => x ∈ ([r0] : List Addr) ∨ h0.size ≤ x) (Or.inr sz_q_a) all0))), g_al, g_q_a, sz_al, sz_q_a, ne_r0_al, ne_r0_q_a, ne_r2_al, ne_r2_q_a, ne_t2_al, ne_t2_q_a, ne_al_q_a, (jE_r0.keep K397), ff398, (jE_r2.keep K397), ff399, ff400, ff401, G397_0, G397_1, G397_2, G397_3, G397_4, G397_5⟩ B0 ⟨E_c4, F_c4⟩ (o_r1 (o_ltn hl4 rfl hc393) hc395 hls)
  ·refine o_gi (XS.icmpYes X394.here hx rfl (pc0 := 53) (pc' := 70) rfl (hb hby o_d6_53) rfl (feq hc395).2 (by decide) (by decide)) ?_
   show o_Gs p e below _ T394 m 70 #[.val (.ref r0), .val (.ref r1), .val (.ref r2), .val (.ref al), .val (.int 3)] []
   refine o_gi (XS.iinc X394.here hx rfl (hb hby o_d6_70) rfl (l' := #[.val (.ref r0), .val (.ref r1), .val (.ref r2), .val (.ref al), .val (.int ((3 : Int32) + (1 : Int32)))]) rfl) ?_
   show o_Gs p e below _ T394 m 73 #[.val (.ref r0), .val (.ref r1), .val (.ref r2), .val (.ref al), .val (.int ((3 : Int32) + (1 : Int32)))] []
   rw [show ((3 : Int32) + (1 : Int32)) = (4 : Int32) from by decide]
   refine o_gi (XS.goto X394.here hx rfl (pc0 := 73) (pc' := 36) rfl (hb hby o_d6_73) (by decide) (by decide)) ?_
   exact o_p36_4_1 hP hB X394 e394 N0 ⟨Z1, O1, KK, g_al, g_q_a, sz_al, sz_q_a, ne_r0_al, ne_r0_q_a, ne_r2_al, ne_r2_q_a, ne_t2_al, ne_t2_q_a, ne_al_q_a, jE_r0, jF_l, jE_r2, jF_v, jF_c, jV_t, jE_al, jF_m, jF_e, jF_z, jV_a, jO_a⟩ B0 (o_r0 (o_ltn hl4 rfl hc393) hc395 hls)
 ·refine o_gi (XS.icmpYes X392.here hx rfl (pc0 := 42) (pc' := 76) rfl (hb hby o_d6_42) rfl (flt hc393).2.1 (by decide) (by decide)) ?_
  exact o_t76_1 hP hB X392 e392 N0 ⟨Z1, O1, KK, g_al, g_q_a, sz_al, sz_q_a, ne_r0_al, ne_r0_q_a, ne_r2_al, ne_r2_q_a, ne_t2_al, ne_t2_q_a, ne_al_q_a, jE_r0, jF_l, jE_r2, jF_v, jF_c, jV_t, jE_al, jF_m, jF_e, jF_z, jV_a, jO_a⟩ B0 _ (One.val rfl) (o_rE (o_gen hl4 rfl hc393) hls)
set_option maxRecDepth 65536 in
set_option maxHeartbeats 40000000 in
theorem o_p36_3_2 {l : Launch} {Z : State} {a0 : Array Value} {r0 : Addr} {r1 : Addr} {r2 : Addr} {cl_e : Cell} {cl_c : Cell} {fm : Value} {t2 : Addr} {k2 : ClassId} {q_N : Int32} {q_vs : List Value} {cs : List Int32} {c_0 : Addr} {c_1 : Addr} {c_2 : Addr} {c_3 : Addr} {c_4 : Addr} {s_e : Addr} {x_hi : Int32} {s_c : Addr} {z_cs : Int32} {h0 : Heap} {n0 : Nat} {p : Program} {s : State} {m : MethodId} {meth : Method} {c : Code} {e : Env} {below : List Frame} (hP : o_P6 Z a0 r0 r1 r2 cl_e cl_c fm t2 k2 q_N q_vs cs c_0 c_1 c_2 c_3 c_4 s_e x_hi s_c z_cs h0 n0) (hB : o_X6 Z p s m meth c) {T0 : State} {L0 : List Loc} {hh : Heap} (X0 : Stand p l e o_R6 s m #[(.ref r0), (.ref r1), (.ref r2)] below meth c T0 L0 2 13) (e0 : T0.heap = hh) (N0 : Fr n0 L0) {al q_a : Addr} {k_a : ClassId} {ad0 : Addr} {w0 : Int32} {ad1 : Addr} {w1 : Int32} (hJ : o_J6 Z h0 n0 r0 r2 t2 k2 q_N q_vs hh al q_a k_a (2 : Int32) [(.ref ad0), (.ref ad1), .null, .null, .null, .null, .null, .null, .null, .null]) (B0 : o_A6 Z ad0 w0) (B1 : o_A6 Z ad1 w1) (hls : o_ls cs = [w0, w1] ++ o_rest 3 (cs.drop 3)) : o_Goes p e below (o_End s o_R6 (o_Q6 Z r0 cs h0 n0)) (T0.setTop (mkF m 36 #[.val (.ref r0), .val (.ref r1), .val (.ref r2), .val (.ref al), .val (.int 3)] [])) := by
 obtain ⟨hw, Z0, g_r0, O0, A_e, z_e, A_c, z_c, h_hi, t_c0, E_c0, F_c0, t_c1, E_c1, F_c1, t_c2, E_c2, F_c2, t_c3, E_c3, F_c3, t_c4, E_c4, F_c4, S_fm, rf, z_CS, hcd, hbd, hl4, hl4', ne_r0_r2, ne_r0_t2, S_s_e, S_x_hi, S_s_c, S_z_cs⟩ := id hP
 obtain ⟨hx, hby, hml, hown, hret, hlk, hZ, hnm⟩ := id hB
 obtain ⟨Z1, O1, KK, g_al, g_q_a, sz_al, sz_q_a, ne_r0_al, ne_r0_q_a, ne_r2_al, ne_r2_q_a, ne_t2_al, ne_t2_q_a, ne_al_q_a, jE_r0, jF_l, jE_r2, jF_v, jF_c, jV_t, jE_al, jF_m, jF_e, jF_z, jV_a, jO_a⟩ := hJ
 refine o_gi (XS.iload X0.here hx rfl (hb hby o_d6_36) rfl) ?_
 refine o_gi (XS.aloadN X0.here hx rfl (hb hby o_d6_38) rfl rfl) ?_
 show o_Gs p e below _ T0 m 39 #[.val (.ref r0), .val (.ref r1), .val (.ref r2), .val (.ref al), .val (.int 3)] [(.ref r2), (.int 3)]
 obtain ⟨T403, X403, e403, st403⟩ := o_callLen X0 hx hZ hown (hw _ o_t108) (hw _ o_t109) (hw _ o_t111) (hw _ o_t110) (hw _ o_t10) (o_hwl hw) jE_r2 jF_v jF_c jV_t hcd hbd hl4' (S_z_cs.ext O1.2) z_CS (nn := (Int32.ofNat cs.length)) rfl e0 (pc := 39) (Ls := #[.val (.ref r0), .val (.ref r1), .val (.ref r2), .val (.ref al), .val (.int 3)]) (rest := [(.int 3)]) (W := 1) (by rw [hml]; rfl) (Nat.le_of_eq rfl) (by decide) (by decide) (hb hby o_d6_39) (by decide) (by decide)
 refine o_go st403 ?_
 show o_Gs p e below _ T403 m 42 #[.val (.ref r0), .val (.ref r1), .val (.ref r2), .val (.ref al), .val (.int 3)] [(.int (Int32.ofNat cs.length)), (.int 3)]
 by_cases hc404 : (3 : Int32) < (Int32.ofNat cs.length)
 ·refine o_gi (XS.icmpNo X403.here hx rfl (hb hby o_d6_42) rfl (tlt hc404).2.1) ?_
  refine o_gi (XS.aloadN X403.here hx rfl (hb hby o_d6_45) rfl rfl) ?_
  refine o_gi (XS.iload X403.here hx rfl (hb hby o_d6_46) rfl) ?_
  show o_Gs p e below _ T403 m 48 #[.val (.ref r0), .val (.ref r1), .val (.ref r2), .val (.ref al), .val (.int 3)] [(.int 3), (.ref r2)]
  obtain ⟨T405, X405, e405, st405⟩ := o_callCh X403 hx hZ hown (hw _ o_t178) (hw _ o_t179) (hw _ o_t181) (hw _ o_t180) (hw _ o_t10) (o_hwc hw) jE_r2 jF_v jF_c jV_t hcd hbd hl4' (S_z_cs.ext O1.2) z_CS (S_fm.ext O1.2) rf (i := 3) (u := (cs.getD 3 0)) (o_ltn hl4 rfl hc404) rfl rfl e403 (pc := 48) (Ls := #[.val (.ref r0), .val (.ref r1), .val (.ref r2), .val (.ref al), .val (.int 3)]) (rest := []) (W := 0) (by rw [hml]; rfl) (Nat.le_of_eq rfl) (by decide) (by decide) (hb hby o_d6_48) (by decide) (by decide)
  refine o_go st405 ?_
  refine o_gi (XS.bipush X405.here hx rfl (hb hby o_d6_51)) ?_
  show o_Gs p e below _ T405 m 53 #[.val (.ref r0), .val (.ref r1), .val (.ref r2), .val (.ref al), .val (.int 3)] [(.int 10), (.int (cs.getD 3 0))]
  by_cases hc406 : (cs.getD 3 0) = (10 : Int32)
  ·refine o_gi (XS.icmpNo X405.here hx rfl (hb hby o_d6_53) rfl (teq hc406).2) ?_
   refine o_gi (XS.aloadN X405.here hx rfl (hb hby o_d6_56) rfl rfl) ?_
   refine o_gi (XS.iload X405.here hx rfl (hb hby o_d6_57) rfl) ?_
   refine o_gi (XS.iconst X405.here hx rfl (hb hby o_d6_59)) ?_
   show o_Gs p e below _ T405 m 60 #[.val (.ref r0), .val (.ref r1), .val (.ref r2), .val (.ref al), .val (.int 3)] [(.int 1), (.int 3), (.ref al)]
   refine o_gi (XS.iadd X405.here hx rfl (hb hby o_d6_60) rfl) ?_
   show o_Gs p e below _ T405 m 61 #[.val (.ref r0), .val (.ref r1), .val (.ref r2), .val (.ref al), .val (.int 3)] [(.int ((3 : Int32) + (1 : Int32))), (.ref al)]
   rw [show ((3 : Int32) + (1 : Int32)) = (4 : Int32) from by decide]
   show o_Gs p e below _ T405 m 61 #[.val (.ref r0), .val (.ref r1), .val (.ref r2), .val (.ref al), .val (.int 3)] [(.int 4), (.ref al)]
   obtain ⟨_, T407, L407, X407, ⟨rfl, N407q, e407⟩, st407⟩ := o_callS X405 hx hZ hown (hw _ o_t66) (hw _ o_t67) (hw _ o_t68) (hw _ o_t69) (by decide) (as := [(.int 4)]) (rm10_4 l Z a0 hw [] c_4 cl_c x_hi s_c hh n0 Z1 O1 A_c z_c h_hi t_c4 S_x_hi S_s_c) e405 o_pd8 rfl (pc := 61) (Ls := #[.val (.ref r0), .val (.ref r1), .val (.ref r2), .val (.ref al), .val (.int 3)]) (rest := [(.ref al)]) (W := 1) (by rw [hml]; rfl) (Nat.le_of_eq rfl) (by decide) (by decide) (hb hby o_d6_61) (by decide) (by decide)
   have N407 := Fr.app N0 N407q
   refine o_go st407 ?_
   show o_Gs p e below _ T407 m 64 #[.val (.ref r0), .val (.ref r1), .val (.ref r2), .val (.ref al), .val (.int 3)] [(.ref c_4), (.ref al)]
   obtain ⟨_, T408, L408, X408, ⟨rfl, N408q, K408, G408_0, G408_1, G408_2, G408_3, G408_4, G408_5⟩, st408⟩ := o_callF X407 hx hZ hown (mvT hZ (hw _ o_t73)) (mvT hZ (hw _ o_t74)) (mvT hZ (hw _ o_t75)) (mvT hZ (hw _ o_t76)) (mvT hZ (hw _ o_t77)) (mvT hZ (hw _ o_t78)) (mvT hZ (hw _ o_t79)) (mvT hZ (hw _ o_t80)) (hw _ o_t44) (hw _ o_t81) (by decide) (b := al) (as := [(.ref c_4)]) (rm11_2 l Z a0 hw [] al c_4 q_a k_a ad0 ad1 hh n0 Z1 g_al g_q_a jE_al (E_c4.ext O1.2) jF_m jF_e jF_z jV_a jO_a ne_al_q_a) e407 jE_al o_pd9 rfl (pc := 64) (Ls := #[.val (.ref r0), .val (.ref r1), .val (.ref r2), .val (.ref al), .val (.int 3)]) (rest := []) (W := 0) (by rw [hml]; rfl) (Nat.le_of_eq rfl) (by decide) (by decide) (hb hby o_d6_64) (by decide) (by decide)
   have N408 := Fr.app N407 N408q
   refine o_go st408 ?_
   refine o_gi (XS.pop X408.here hx rfl (hb hby o_d6_69) rfl rfl) ?_
   show o_Gs p e below _ T408 m 70 #[.val (.ref r0), .val (.ref r1), .val (.ref r2), .val (.ref al), .val (.int 3)] []
   refine o_gi (XS.iinc X408.here hx rfl (hb hby o_d6_70) rfl (l' := #[.val (.ref r0), .val (.ref r1), .val (.ref r2), .val (.ref al), .val (.int ((3 : Int32) + (1 : Int32)))]) rfl) ?_
   show o_Gs p e below _ T408 m 73 #[.val (.ref r0), .val (.ref r1), .val (.ref r2), .val (.ref al), .val (.int ((3 : Int32) + (1 : Int32)))] []
   rw [show ((3 : Int32) + (1 : Int32)) = (4 : Int32) from by decide]
   refine o_gi (XS.goto X408.here hx rfl (pc0 := 73) (pc' := 36) rfl (hb hby o_d6_73) (by decide) (by decide)) ?_
   have ff409 : Fld Z T408.heap r0 "com/example/foothold/foothold/SourceFile" "lineStarts" "[I" .null := (jF_l.keep K408 (ninS ne_r0_al (ninS ne_r0_q_a nin0)))
   have ff410 : Fld Z T408.heap r2 "java/lang/String" "value" "[B" (.ref t2) := (jF_v.keep K408 (ninS ne_r2_al (ninS ne_r2_q_a nin0)))
   have ff411 : Fld Z T408.heap r2 "java/lang/String" "coder" "B" (.int 0) := (jF_c.keep K408 (ninS ne_r2_al (ninS ne_r2_q_a nin0)))
   have ff412 : Arv Z T408.heap t2 k2 .byte q_N q_vs (.int 0) := (jV_t.keep K408 (ninS ne_t2_al (ninS ne_t2_q_a nin0)))
   have oo413 : Old Z n0 T408.heap := (O1.keep K408 (allS g_al (allS g_q_a all0)))
   exact o_p36_4_3 hP hB X408 rfl N408 ⟨(Nat.le_trans Z1 K408.1), oo413, (KK.trans K408 (allS (P := fun x => x ∈ ([r0] : List Addr) ∨ h0.size ≤ x) (Or.inr sz_al) (allS (P := fun x => x ∈ ([r0] : List Addr) ∨ h0.size ≤ x) (Or.inr sz_q_a) all0))), g_al, g_q_a, sz_al, sz_q_a, ne_r0_al, ne_r0_q_a, ne_r2_al, ne_r2_q_a, ne_t2_al, ne_t2_q_a, ne_al_q_a, (jE_r0.keep K408), ff409, (jE_r2.keep K408), ff410, ff411, ff412, G408_0, G408_1, G408_2, G408_3, G408_4, G408_5⟩ B0 B1 ⟨E_c4, F_c4⟩ (o_r1 (o_ltn hl4 rfl hc404) hc406 hls)
  ·refine o_gi (XS.icmpYes X405.here hx rfl (pc0 := 53) (pc' := 70) rfl (hb hby o_d6_53) rfl (feq hc406).2 (by decide) (by decide)) ?_
   show o_Gs p e below _ T405 m 70 #[.val (.ref r0), .val (.ref r1), .val (.ref r2), .val (.ref al), .val (.int 3)] []
   refine o_gi (XS.iinc X405.here hx rfl (hb hby o_d6_70) rfl (l' := #[.val (.ref r0), .val (.ref r1), .val (.ref r2), .val (.ref al), .val (.int ((3 : Int32) + (1 : Int32)))]) rfl) ?_
   show o_Gs p e below _ T405 m 73 #[.val (.ref r0), .val (.ref r1), .val (.ref r2), .val (.ref al), .val (.int ((3 : Int32) + (1 : Int32)))] []
   rw [show ((3 : Int32) + (1 : Int32)) = (4 : Int32) from by decide]
   refine o_gi (XS.goto X405.here hx rfl (pc0 := 73) (pc' := 36) rfl (hb hby o_d6_73) (by decide) (by decide)) ?_
   exact o_p36_4_2 hP hB X405 e405 N0 ⟨Z1, O1, KK, g_al, g_q_a, sz_al, sz_q_a, ne_r0_al, ne_r0_q_a, ne_r2_al, ne_r2_q_a, ne_t2_al, ne_t2_q_a, ne_al_q_a, jE_r0, jF_l, jE_r2, jF_v, jF_c, jV_t, jE_al, jF_m, jF_e, jF_z, jV_a, jO_a⟩ B0 B1 (o_r0 (o_ltn hl4 rfl hc404) hc406 hls)
 ·refine o_gi (XS.icmpYes X403.here hx rfl (pc0 := 42) (pc' := 76) rfl (hb hby o_d6_42) rfl (flt hc404).2.1 (by decide) (by decide)) ?_
  exact o_t76_2 hP hB X403 e403 N0 ⟨Z1, O1, KK, g_al, g_q_a, sz_al, sz_q_a, ne_r0_al, ne_r0_q_a, ne_r2_al, ne_r2_q_a, ne_t2_al, ne_t2_q_a, ne_al_q_a, jE_r0, jF_l, jE_r2, jF_v, jF_c, jV_t, jE_al, jF_m, jF_e, jF_z, jV_a, jO_a⟩ B0 B1 _ (One.val rfl) (o_rE (o_gen hl4 rfl hc404) hls)
set_option maxRecDepth 65536 in
set_option maxHeartbeats 40000000 in
theorem o_p36_3_3 {l : Launch} {Z : State} {a0 : Array Value} {r0 : Addr} {r1 : Addr} {r2 : Addr} {cl_e : Cell} {cl_c : Cell} {fm : Value} {t2 : Addr} {k2 : ClassId} {q_N : Int32} {q_vs : List Value} {cs : List Int32} {c_0 : Addr} {c_1 : Addr} {c_2 : Addr} {c_3 : Addr} {c_4 : Addr} {s_e : Addr} {x_hi : Int32} {s_c : Addr} {z_cs : Int32} {h0 : Heap} {n0 : Nat} {p : Program} {s : State} {m : MethodId} {meth : Method} {c : Code} {e : Env} {below : List Frame} (hP : o_P6 Z a0 r0 r1 r2 cl_e cl_c fm t2 k2 q_N q_vs cs c_0 c_1 c_2 c_3 c_4 s_e x_hi s_c z_cs h0 n0) (hB : o_X6 Z p s m meth c) {T0 : State} {L0 : List Loc} {hh : Heap} (X0 : Stand p l e o_R6 s m #[(.ref r0), (.ref r1), (.ref r2)] below meth c T0 L0 2 13) (e0 : T0.heap = hh) (N0 : Fr n0 L0) {al q_a : Addr} {k_a : ClassId} {ad0 : Addr} {w0 : Int32} {ad1 : Addr} {w1 : Int32} {ad2 : Addr} {w2 : Int32} (hJ : o_J6 Z h0 n0 r0 r2 t2 k2 q_N q_vs hh al q_a k_a (3 : Int32) [(.ref ad0), (.ref ad1), (.ref ad2), .null, .null, .null, .null, .null, .null, .null]) (B0 : o_A6 Z ad0 w0) (B1 : o_A6 Z ad1 w1) (B2 : o_A6 Z ad2 w2) (hls : o_ls cs = [w0, w1, w2] ++ o_rest 3 (cs.drop 3)) : o_Goes p e below (o_End s o_R6 (o_Q6 Z r0 cs h0 n0)) (T0.setTop (mkF m 36 #[.val (.ref r0), .val (.ref r1), .val (.ref r2), .val (.ref al), .val (.int 3)] [])) := by
 obtain ⟨hw, Z0, g_r0, O0, A_e, z_e, A_c, z_c, h_hi, t_c0, E_c0, F_c0, t_c1, E_c1, F_c1, t_c2, E_c2, F_c2, t_c3, E_c3, F_c3, t_c4, E_c4, F_c4, S_fm, rf, z_CS, hcd, hbd, hl4, hl4', ne_r0_r2, ne_r0_t2, S_s_e, S_x_hi, S_s_c, S_z_cs⟩ := id hP
 obtain ⟨hx, hby, hml, hown, hret, hlk, hZ, hnm⟩ := id hB
 obtain ⟨Z1, O1, KK, g_al, g_q_a, sz_al, sz_q_a, ne_r0_al, ne_r0_q_a, ne_r2_al, ne_r2_q_a, ne_t2_al, ne_t2_q_a, ne_al_q_a, jE_r0, jF_l, jE_r2, jF_v, jF_c, jV_t, jE_al, jF_m, jF_e, jF_z, jV_a, jO_a⟩ := hJ
 refine o_gi (XS.iload X0.here hx rfl (hb hby o_d6_36) rfl) ?_
 refine o_gi (XS.aloadN X0.here hx rfl (hb hby o_d6_38) rfl rfl) ?_
 show o_Gs p e below _ T0 m 39 #[.val (.ref r0), .val (.ref r1), .val (.ref r2), .val (.ref al), .val (.int 3)] [(.ref r2), (.int 3)]
 obtain ⟨T414, X414, e414, st414⟩ := o_callLen X0 hx hZ hown (hw _ o_t108) (hw _ o_t109) (hw _ o_t111) (hw _ o_t110) (hw _ o_t10) (o_hwl hw) jE_r2 jF_v jF_c jV_t hcd hbd hl4' (S_z_cs.ext O1.2) z_CS (nn := (Int32.ofNat cs.length)) rfl e0 (pc := 39) (Ls := #[.val (.ref r0), .val (.ref r1), .val (.ref r2), .val (.ref al), .val (.int 3)]) (rest := [(.int 3)]) (W := 1) (by rw [hml]; rfl) (Nat.le_of_eq rfl) (by decide) (by decide) (hb hby o_d6_39) (by decide) (by decide)
 refine o_go st414 ?_
 show o_Gs p e below _ T414 m 42 #[.val (.ref r0), .val (.ref r1), .val (.ref r2), .val (.ref al), .val (.int 3)] [(.int (Int32.ofNat cs.length)), (.int 3)]
 by_cases hc415 : (3 : Int32) < (Int32.ofNat cs.length)
 ·refine o_gi (XS.icmpNo X414.here hx rfl (hb hby o_d6_42) rfl (tlt hc415).2.1) ?_
  refine o_gi (XS.aloadN X414.here hx rfl (hb hby o_d6_45) rfl rfl) ?_
  refine o_gi (XS.iload X414.here hx rfl (hb hby o_d6_46) rfl) ?_
  show o_Gs p e below _ T414 m 48 #[.val (.ref r0), .val (.ref r1), .val (.ref r2), .val (.ref al), .val (.int 3)] [(.int 3), (.ref r2)]
  obtain ⟨T416, X416, e416, st416⟩ := o_callCh X414 hx hZ hown (hw _ o_t178) (hw _ o_t179) (hw _ o_t181) (hw _ o_t180) (hw _ o_t10) (o_hwc hw) jE_r2 jF_v jF_c jV_t hcd hbd hl4' (S_z_cs.ext O1.2) z_CS (S_fm.ext O1.2) rf (i := 3) (u := (cs.getD 3 0)) (o_ltn hl4 rfl hc415) rfl rfl e414 (pc := 48) (Ls := #[.val (.ref r0), .val (.ref r1), .val (.ref r2), .val (.ref al), .val (.int 3)]) (rest := []) (W := 0) (by rw [hml]; rfl) (Nat.le_of_eq rfl) (by decide) (by decide) (hb hby o_d6_48) (by decide) (by decide)
  refine o_go st416 ?_
  refine o_gi (XS.bipush X416.here hx rfl (hb hby o_d6_51)) ?_
  show o_Gs p e below _ T416 m 53 #[.val (.ref r0), .val (.ref r1), .val (.ref r2), .val (.ref al), .val (.int 3)] [(.int 10), (.int (cs.getD 3 0))]
  by_cases hc417 : (cs.getD 3 0) = (10 : Int32)
  ·refine o_gi (XS.icmpNo X416.here hx rfl (hb hby o_d6_53) rfl (teq hc417).2) ?_
   refine o_gi (XS.aloadN X416.here hx rfl (hb hby o_d6_56) rfl rfl) ?_
   refine o_gi (XS.iload X416.here hx rfl (hb hby o_d6_57) rfl) ?_
   refine o_gi (XS.iconst X416.here hx rfl (hb hby o_d6_59)) ?_
   show o_Gs p e below _ T416 m 60 #[.val (.ref r0), .val (.ref r1), .val (.ref r2), .val (.ref al), .val (.int 3)] [(.int 1), (.int 3), (.ref al)]
   refine o_gi (XS.iadd X416.here hx rfl (hb hby o_d6_60) rfl) ?_
   show o_Gs p e below _ T416 m 61 #[.val (.ref r0), .val (.ref r1), .val (.ref r2), .val (.ref al), .val (.int 3)] [(.int ((3 : Int32) + (1 : Int32))), (.ref al)]
   rw [show ((3 : Int32) + (1 : Int32)) = (4 : Int32) from by decide]
   show o_Gs p e below _ T416 m 61 #[.val (.ref r0), .val (.ref r1), .val (.ref r2), .val (.ref al), .val (.int 3)] [(.int 4), (.ref al)]
   obtain ⟨_, T418, L418, X418, ⟨rfl, N418q, e418⟩, st418⟩ := o_callS X416 hx hZ hown (hw _ o_t66) (hw _ o_t67) (hw _ o_t68) (hw _ o_t69) (by decide) (as := [(.int 4)]) (rm10_4 l Z a0 hw [] c_4 cl_c x_hi s_c hh n0 Z1 O1 A_c z_c h_hi t_c4 S_x_hi S_s_c) e416 o_pd8 rfl (pc := 61) (Ls := #[.val (.ref r0), .val (.ref r1), .val (.ref r2), .val (.ref al), .val (.int 3)]) (rest := [(.ref al)]) (W := 1) (by rw [hml]; rfl) (Nat.le_of_eq rfl) (by decide) (by decide) (hb hby o_d6_61) (by decide) (by decide)
   have N418 := Fr.app N0 N418q
   refine o_go st418 ?_
   show o_Gs p e below _ T418 m 64 #[.val (.ref r0), .val (.ref r1), .val (.ref r2), .val (.ref al), .val (.int 3)] [(.ref c_4), (.ref al)]
   obtain ⟨_, T419, L419, X419, ⟨rfl, N419q, K419, G419_0, G419_1, G419_2, G419_3, G419_4, G419_5⟩, st419⟩ := o_callF X418 hx hZ hown (mvT hZ (hw _ o_t73)) (mvT hZ (hw _ o_t74)) (mvT hZ (hw _ o_t75)) (mvT hZ (hw _ o_t76)) (mvT hZ (hw _ o_t77)) (mvT hZ (hw _ o_t78)) (mvT hZ (hw _ o_t79)) (mvT hZ (hw _ o_t80)) (hw _ o_t44) (hw _ o_t81) (by decide) (b := al) (as := [(.ref c_4)]) (rm11_3 l Z a0 hw [] al c_4 q_a k_a ad0 ad1 ad2 hh n0 Z1 g_al g_q_a jE_al (E_c4.ext O1.2) jF_m jF_e jF_z jV_a jO_a ne_al_q_a) e418 jE_al o_pd9 rfl (pc := 64) (Ls := #[.val (.ref r0), .val (.ref r1), .val (.ref r2), .val (.ref al), .val (.int 3)]) (rest := []) (W := 0) (by rw [hml]; rfl) (Nat.le_of_eq rfl) (by decide) (by decide) (hb hby o_d6_64) (by decide) (by decide)
   have N419 := Fr.app N418 N419q
   refine o_go st419 ?_
   refine o_gi (XS.pop X419.here hx rfl (hb hby o_d6_69) rfl rfl) ?_
   show o_Gs p e below _ T419 m 70 #[.val (.ref r0), .val (.ref r1), .val (.ref r2), .val (.ref al), .val (.int 3)] []
   refine o_gi (XS.iinc X419.here hx rfl (hb hby o_d6_70) rfl (l' := #[.val (.ref r0), .val (.ref r1), .val (.ref r2), .val (.ref al), .val (.int ((3 : Int32) + (1 : Int32)))]) rfl) ?_
   show o_Gs p e below _ T419 m 73 #[.val (.ref r0), .val (.ref r1), .val (.ref r2), .val (.ref al), .val (.int ((3 : Int32) + (1 : Int32)))] []
   rw [show ((3 : Int32) + (1 : Int32)) = (4 : Int32) from by decide]
   refine o_gi (XS.goto X419.here hx rfl (pc0 := 73) (pc' := 36) rfl (hb hby o_d6_73) (by decide) (by decide)) ?_
   have ff420 : Fld Z T419.heap r0 "com/example/foothold/foothold/SourceFile" "lineStarts" "[I" .null := (jF_l.keep K419 (ninS ne_r0_al (ninS ne_r0_q_a nin0)))
   have ff421 : Fld Z T419.heap r2 "java/lang/String" "value" "[B" (.ref t2) := (jF_v.keep K419 (ninS ne_r2_al (ninS ne_r2_q_a nin0)))
   have ff422 : Fld Z T419.heap r2 "java/lang/String" "coder" "B" (.int 0) := (jF_c.keep K419 (ninS ne_r2_al (ninS ne_r2_q_a nin0)))
   have ff423 : Arv Z T419.heap t2 k2 .byte q_N q_vs (.int 0) := (jV_t.keep K419 (ninS ne_t2_al (ninS ne_t2_q_a nin0)))
   have oo424 : Old Z n0 T419.heap := (O1.keep K419 (allS g_al (allS g_q_a all0)))
   exact o_p36_4_4 hP hB X419 rfl N419 ⟨(Nat.le_trans Z1 K419.1), oo424, (KK.trans K419 (allS (P := fun x => x ∈ ([r0] : List Addr) ∨ h0.size ≤ x) (Or.inr sz_al) (allS (P := fun x => x ∈ ([r0] : List Addr) ∨ h0.size ≤ x) (Or.inr sz_q_a) all0))), g_al, g_q_a, sz_al, sz_q_a, ne_r0_al, ne_r0_q_a, ne_r2_al, ne_r2_q_a, ne_t2_al, ne_t2_q_a, ne_al_q_a, (jE_r0.keep K419), ff420, (jE_r2.keep K419), ff421, ff422, ff423, G419_0, G419_1, G419_2, G419_3, G419_4, G419_5⟩ B0 B1 B2 ⟨E_c4, F_c4⟩ (o_r1 (o_ltn hl4 rfl hc415) hc417 hls)
  ·refine o_gi (XS.icmpYes X416.here hx rfl (pc0 := 53) (pc' := 70) rfl (hb hby o_d6_53) rfl (feq hc417).2 (by decide) (by decide)) ?_
   show o_Gs p e below _ T416 m 70 #[.val (.ref r0), .val (.ref r1), .val (.ref r2), .val (.ref al), .val (.int 3)] []
   refine o_gi (XS.iinc X416.here hx rfl (hb hby o_d6_70) rfl (l' := #[.val (.ref r0), .val (.ref r1), .val (.ref r2), .val (.ref al), .val (.int ((3 : Int32) + (1 : Int32)))]) rfl) ?_
   show o_Gs p e below _ T416 m 73 #[.val (.ref r0), .val (.ref r1), .val (.ref r2), .val (.ref al), .val (.int ((3 : Int32) + (1 : Int32)))] []
   rw [show ((3 : Int32) + (1 : Int32)) = (4 : Int32) from by decide]
   refine o_gi (XS.goto X416.here hx rfl (pc0 := 73) (pc' := 36) rfl (hb hby o_d6_73) (by decide) (by decide)) ?_
   exact o_p36_4_3 hP hB X416 e416 N0 ⟨Z1, O1, KK, g_al, g_q_a, sz_al, sz_q_a, ne_r0_al, ne_r0_q_a, ne_r2_al, ne_r2_q_a, ne_t2_al, ne_t2_q_a, ne_al_q_a, jE_r0, jF_l, jE_r2, jF_v, jF_c, jV_t, jE_al, jF_m, jF_e, jF_z, jV_a, jO_a⟩ B0 B1 B2 (o_r0 (o_ltn hl4 rfl hc415) hc417 hls)
 ·refine o_gi (XS.icmpYes X414.here hx rfl (pc0 := 42) (pc' := 76) rfl (hb hby o_d6_42) rfl (flt hc415).2.1 (by decide) (by decide)) ?_
  exact o_t76_3 hP hB X414 e414 N0 ⟨Z1, O1, KK, g_al, g_q_a, sz_al, sz_q_a, ne_r0_al, ne_r0_q_a, ne_r2_al, ne_r2_q_a, ne_t2_al, ne_t2_q_a, ne_al_q_a, jE_r0, jF_l, jE_r2, jF_v, jF_c, jV_t, jE_al, jF_m, jF_e, jF_z, jV_a, jO_a⟩ B0 B1 B2 _ (One.val rfl) (o_rE (o_gen hl4 rfl hc415) hls)
set_option maxRecDepth 65536 in
set_option maxHeartbeats 40000000 in
theorem o_p36_3_4 {l : Launch} {Z : State} {a0 : Array Value} {r0 : Addr} {r1 : Addr} {r2 : Addr} {cl_e : Cell} {cl_c : Cell} {fm : Value} {t2 : Addr} {k2 : ClassId} {q_N : Int32} {q_vs : List Value} {cs : List Int32} {c_0 : Addr} {c_1 : Addr} {c_2 : Addr} {c_3 : Addr} {c_4 : Addr} {s_e : Addr} {x_hi : Int32} {s_c : Addr} {z_cs : Int32} {h0 : Heap} {n0 : Nat} {p : Program} {s : State} {m : MethodId} {meth : Method} {c : Code} {e : Env} {below : List Frame} (hP : o_P6 Z a0 r0 r1 r2 cl_e cl_c fm t2 k2 q_N q_vs cs c_0 c_1 c_2 c_3 c_4 s_e x_hi s_c z_cs h0 n0) (hB : o_X6 Z p s m meth c) {T0 : State} {L0 : List Loc} {hh : Heap} (X0 : Stand p l e o_R6 s m #[(.ref r0), (.ref r1), (.ref r2)] below meth c T0 L0 2 13) (e0 : T0.heap = hh) (N0 : Fr n0 L0) {al q_a : Addr} {k_a : ClassId} {ad0 : Addr} {w0 : Int32} {ad1 : Addr} {w1 : Int32} {ad2 : Addr} {w2 : Int32} {ad3 : Addr} {w3 : Int32} (hJ : o_J6 Z h0 n0 r0 r2 t2 k2 q_N q_vs hh al q_a k_a (4 : Int32) [(.ref ad0), (.ref ad1), (.ref ad2), (.ref ad3), .null, .null, .null, .null, .null, .null]) (B0 : o_A6 Z ad0 w0) (B1 : o_A6 Z ad1 w1) (B2 : o_A6 Z ad2 w2) (B3 : o_A6 Z ad3 w3) (hls : o_ls cs = [w0, w1, w2, w3] ++ o_rest 3 (cs.drop 3)) : o_Goes p e below (o_End s o_R6 (o_Q6 Z r0 cs h0 n0)) (T0.setTop (mkF m 36 #[.val (.ref r0), .val (.ref r1), .val (.ref r2), .val (.ref al), .val (.int 3)] [])) := by
 obtain ⟨hw, Z0, g_r0, O0, A_e, z_e, A_c, z_c, h_hi, t_c0, E_c0, F_c0, t_c1, E_c1, F_c1, t_c2, E_c2, F_c2, t_c3, E_c3, F_c3, t_c4, E_c4, F_c4, S_fm, rf, z_CS, hcd, hbd, hl4, hl4', ne_r0_r2, ne_r0_t2, S_s_e, S_x_hi, S_s_c, S_z_cs⟩ := id hP
 obtain ⟨hx, hby, hml, hown, hret, hlk, hZ, hnm⟩ := id hB
 obtain ⟨Z1, O1, KK, g_al, g_q_a, sz_al, sz_q_a, ne_r0_al, ne_r0_q_a, ne_r2_al, ne_r2_q_a, ne_t2_al, ne_t2_q_a, ne_al_q_a, jE_r0, jF_l, jE_r2, jF_v, jF_c, jV_t, jE_al, jF_m, jF_e, jF_z, jV_a, jO_a⟩ := hJ
 refine o_gi (XS.iload X0.here hx rfl (hb hby o_d6_36) rfl) ?_
 refine o_gi (XS.aloadN X0.here hx rfl (hb hby o_d6_38) rfl rfl) ?_
 show o_Gs p e below _ T0 m 39 #[.val (.ref r0), .val (.ref r1), .val (.ref r2), .val (.ref al), .val (.int 3)] [(.ref r2), (.int 3)]
 obtain ⟨T425, X425, e425, st425⟩ := o_callLen X0 hx hZ hown (hw _ o_t108) (hw _ o_t109) (hw _ o_t111) (hw _ o_t110) (hw _ o_t10) (o_hwl hw) jE_r2 jF_v jF_c jV_t hcd hbd hl4' (S_z_cs.ext O1.2) z_CS (nn := (Int32.ofNat cs.length)) rfl e0 (pc := 39) (Ls := #[.val (.ref r0), .val (.ref r1), .val (.ref r2), .val (.ref al), .val (.int 3)]) (rest := [(.int 3)]) (W := 1) (by rw [hml]; rfl) (Nat.le_of_eq rfl) (by decide) (by decide) (hb hby o_d6_39) (by decide) (by decide)
 refine o_go st425 ?_
 show o_Gs p e below _ T425 m 42 #[.val (.ref r0), .val (.ref r1), .val (.ref r2), .val (.ref al), .val (.int 3)] [(.int (Int32.ofNat cs.length)), (.int 3)]
 by_cases hc426 : (3 : Int32) < (Int32.ofNat cs.length)
 ·refine o_gi (XS.icmpNo X425.here hx rfl (hb hby o_d6_42) rfl (tlt hc426).2.1) ?_
  refine o_gi (XS.aloadN X425.here hx rfl (hb hby o_d6_45) rfl rfl) ?_
  refine o_gi (XS.iload X425.here hx rfl (hb hby o_d6_46) rfl) ?_
  show o_Gs p e below _ T425 m 48 #[.val (.ref r0), .val (.ref r1), .val (.ref r2), .val (.ref al), .val (.int 3)] [(.int 3), (.ref r2)]
  obtain ⟨T427, X427, e427, st427⟩ := o_callCh X425 hx hZ hown (hw _ o_t178) (hw _ o_t179) (hw _ o_t181) (hw _ o_t180) (hw _ o_t10) (o_hwc hw) jE_r2 jF_v jF_c jV_t hcd hbd hl4' (S_z_cs.ext O1.2) z_CS (S_fm.ext O1.2) rf (i := 3) (u := (cs.getD 3 0)) (o_ltn hl4 rfl hc426) rfl rfl e425 (pc := 48) (Ls := #[.val (.ref r0), .val (.ref r1), .val (.ref r2), .val (.ref al), .val (.int 3)]) (rest := []) (W := 0) (by rw [hml]; rfl) (Nat.le_of_eq rfl) (by decide) (by decide) (hb hby o_d6_48) (by decide) (by decide)
  refine o_go st427 ?_
  refine o_gi (XS.bipush X427.here hx rfl (hb hby o_d6_51)) ?_
  show o_Gs p e below _ T427 m 53 #[.val (.ref r0), .val (.ref r1), .val (.ref r2), .val (.ref al), .val (.int 3)] [(.int 10), (.int (cs.getD 3 0))]
  by_cases hc428 : (cs.getD 3 0) = (10 : Int32)
  ·refine o_gi (XS.icmpNo X427.here hx rfl (hb hby o_d6_53) rfl (teq hc428).2) ?_
   refine o_gi (XS.aloadN X427.here hx rfl (hb hby o_d6_56) rfl rfl) ?_
   refine o_gi (XS.iload X427.here hx rfl (hb hby o_d6_57) rfl) ?_
   refine o_gi (XS.iconst X427.here hx rfl (hb hby o_d6_59)) ?_
   show o_Gs p e below _ T427 m 60 #[.val (.ref r0), .val (.ref r1), .val (.ref r2), .val (.ref al), .val (.int 3)] [(.int 1), (.int 3), (.ref al)]
   refine o_gi (XS.iadd X427.here hx rfl (hb hby o_d6_60) rfl) ?_
   show o_Gs p e below _ T427 m 61 #[.val (.ref r0), .val (.ref r1), .val (.ref r2), .val (.ref al), .val (.int 3)] [(.int ((3 : Int32) + (1 : Int32))), (.ref al)]
   rw [show ((3 : Int32) + (1 : Int32)) = (4 : Int32) from by decide]
   show o_Gs p e below _ T427 m 61 #[.val (.ref r0), .val (.ref r1), .val (.ref r2), .val (.ref al), .val (.int 3)] [(.int 4), (.ref al)]
   obtain ⟨_, T429, L429, X429, ⟨rfl, N429q, e429⟩, st429⟩ := o_callS X427 hx hZ hown (hw _ o_t66) (hw _ o_t67) (hw _ o_t68) (hw _ o_t69) (by decide) (as := [(.int 4)]) (rm10_4 l Z a0 hw [] c_4 cl_c x_hi s_c hh n0 Z1 O1 A_c z_c h_hi t_c4 S_x_hi S_s_c) e427 o_pd8 rfl (pc := 61) (Ls := #[.val (.ref r0), .val (.ref r1), .val (.ref r2), .val (.ref al), .val (.int 3)]) (rest := [(.ref al)]) (W := 1) (by rw [hml]; rfl) (Nat.le_of_eq rfl) (by decide) (by decide) (hb hby o_d6_61) (by decide) (by decide)
   have N429 := Fr.app N0 N429q
   refine o_go st429 ?_
   show o_Gs p e below _ T429 m 64 #[.val (.ref r0), .val (.ref r1), .val (.ref r2), .val (.ref al), .val (.int 3)] [(.ref c_4), (.ref al)]
   obtain ⟨_, T430, L430, X430, ⟨rfl, N430q, K430, G430_0, G430_1, G430_2, G430_3, G430_4, G430_5⟩, st430⟩ := o_callF X429 hx hZ hown (mvT hZ (hw _ o_t73)) (mvT hZ (hw _ o_t74)) (mvT hZ (hw _ o_t75)) (mvT hZ (hw _ o_t76)) (mvT hZ (hw _ o_t77)) (mvT hZ (hw _ o_t78)) (mvT hZ (hw _ o_t79)) (mvT hZ (hw _ o_t80)) (hw _ o_t44) (hw _ o_t81) (by decide) (b := al) (as := [(.ref c_4)]) (rm11_4 l Z a0 hw [] al c_4 q_a k_a ad0 ad1 ad2 ad3 hh n0 Z1 g_al g_q_a jE_al (E_c4.ext O1.2) jF_m jF_e jF_z jV_a jO_a ne_al_q_a) e429 jE_al o_pd9 rfl (pc := 64) (Ls := #[.val (.ref r0), .val (.ref r1), .val (.ref r2), .val (.ref al), .val (.int 3)]) (rest := []) (W := 0) (by rw [hml]; rfl) (Nat.le_of_eq rfl) (by decide) (by decide) (hb hby o_d6_64) (by decide) (by decide)
   have N430 := Fr.app N429 N430q
   refine o_go st430 ?_
   refine o_gi (XS.pop X430.here hx rfl (hb hby o_d6_69) rfl rfl) ?_
   show o_Gs p e below _ T430 m 70 #[.val (.ref r0), .val (.ref r1), .val (.ref r2), .val (.ref al), .val (.int 3)] []
   refine o_gi (XS.iinc X430.here hx rfl (hb hby o_d6_70) rfl (l' := #[.val (.ref r0), .val (.ref r1), .val (.ref r2), .val (.ref al), .val (.int ((3 : Int32) + (1 : Int32)))]) rfl) ?_
   show o_Gs p e below _ T430 m 73 #[.val (.ref r0), .val (.ref r1), .val (.ref r2), .val (.ref al), .val (.int ((3 : Int32) + (1 : Int32)))] []
   rw [show ((3 : Int32) + (1 : Int32)) = (4 : Int32) from by decide]
   refine o_gi (XS.goto X430.here hx rfl (pc0 := 73) (pc' := 36) rfl (hb hby o_d6_73) (by decide) (by decide)) ?_
   have ff431 : Fld Z T430.heap r0 "com/example/foothold/foothold/SourceFile" "lineStarts" "[I" .null := (jF_l.keep K430 (ninS ne_r0_al (ninS ne_r0_q_a nin0)))
   have ff432 : Fld Z T430.heap r2 "java/lang/String" "value" "[B" (.ref t2) := (jF_v.keep K430 (ninS ne_r2_al (ninS ne_r2_q_a nin0)))
   have ff433 : Fld Z T430.heap r2 "java/lang/String" "coder" "B" (.int 0) := (jF_c.keep K430 (ninS ne_r2_al (ninS ne_r2_q_a nin0)))
   have ff434 : Arv Z T430.heap t2 k2 .byte q_N q_vs (.int 0) := (jV_t.keep K430 (ninS ne_t2_al (ninS ne_t2_q_a nin0)))
   have oo435 : Old Z n0 T430.heap := (O1.keep K430 (allS g_al (allS g_q_a all0)))
   exact o_p36_4_5 hP hB X430 rfl N430 ⟨(Nat.le_trans Z1 K430.1), oo435, (KK.trans K430 (allS (P := fun x => x ∈ ([r0] : List Addr) ∨ h0.size ≤ x) (Or.inr sz_al) (allS (P := fun x => x ∈ ([r0] : List Addr) ∨ h0.size ≤ x) (Or.inr sz_q_a) all0))), g_al, g_q_a, sz_al, sz_q_a, ne_r0_al, ne_r0_q_a, ne_r2_al, ne_r2_q_a, ne_t2_al, ne_t2_q_a, ne_al_q_a, (jE_r0.keep K430), ff431, (jE_r2.keep K430), ff432, ff433, ff434, G430_0, G430_1, G430_2, G430_3, G430_4, G430_5⟩ B0 B1 B2 B3 ⟨E_c4, F_c4⟩ (o_r1 (o_ltn hl4 rfl hc426) hc428 hls)
  ·refine o_gi (XS.icmpYes X427.here hx rfl (pc0 := 53) (pc' := 70) rfl (hb hby o_d6_53) rfl (feq hc428).2 (by decide) (by decide)) ?_
   show o_Gs p e below _ T427 m 70 #[.val (.ref r0), .val (.ref r1), .val (.ref r2), .val (.ref al), .val (.int 3)] []
   refine o_gi (XS.iinc X427.here hx rfl (hb hby o_d6_70) rfl (l' := #[.val (.ref r0), .val (.ref r1), .val (.ref r2), .val (.ref al), .val (.int ((3 : Int32) + (1 : Int32)))]) rfl) ?_
   show o_Gs p e below _ T427 m 73 #[.val (.ref r0), .val (.ref r1), .val (.ref r2), .val (.ref al), .val (.int ((3 : Int32) + (1 : Int32)))] []
   rw [show ((3 : Int32) + (1 : Int32)) = (4 : Int32) from by decide]
   refine o_gi (XS.goto X427.here hx rfl (pc0 := 73) (pc' := 36) rfl (hb hby o_d6_73) (by decide) (by decide)) ?_
   exact o_p36_4_4 hP hB X427 e427 N0 ⟨Z1, O1, KK, g_al, g_q_a, sz_al, sz_q_a, ne_r0_al, ne_r0_q_a, ne_r2_al, ne_r2_q_a, ne_t2_al, ne_t2_q_a, ne_al_q_a, jE_r0, jF_l, jE_r2, jF_v, jF_c, jV_t, jE_al, jF_m, jF_e, jF_z, jV_a, jO_a⟩ B0 B1 B2 B3 (o_r0 (o_ltn hl4 rfl hc426) hc428 hls)
 ·refine o_gi (XS.icmpYes X425.here hx rfl (pc0 := 42) (pc' := 76) rfl (hb hby o_d6_42) rfl (flt hc426).2.1 (by decide) (by decide)) ?_
  exact o_t76_4 hP hB X425 e425 N0 ⟨Z1, O1, KK, g_al, g_q_a, sz_al, sz_q_a, ne_r0_al, ne_r0_q_a, ne_r2_al, ne_r2_q_a, ne_t2_al, ne_t2_q_a, ne_al_q_a, jE_r0, jF_l, jE_r2, jF_v, jF_c, jV_t, jE_al, jF_m, jF_e, jF_z, jV_a, jO_a⟩ B0 B1 B2 B3 _ (One.val rfl) (o_rE (o_gen hl4 rfl hc426) hls)
set_option maxRecDepth 65536 in
set_option maxHeartbeats 40000000 in
theorem o_p36_2_1 {l : Launch} {Z : State} {a0 : Array Value} {r0 : Addr} {r1 : Addr} {r2 : Addr} {cl_e : Cell} {cl_c : Cell} {fm : Value} {t2 : Addr} {k2 : ClassId} {q_N : Int32} {q_vs : List Value} {cs : List Int32} {c_0 : Addr} {c_1 : Addr} {c_2 : Addr} {c_3 : Addr} {c_4 : Addr} {s_e : Addr} {x_hi : Int32} {s_c : Addr} {z_cs : Int32} {h0 : Heap} {n0 : Nat} {p : Program} {s : State} {m : MethodId} {meth : Method} {c : Code} {e : Env} {below : List Frame} (hP : o_P6 Z a0 r0 r1 r2 cl_e cl_c fm t2 k2 q_N q_vs cs c_0 c_1 c_2 c_3 c_4 s_e x_hi s_c z_cs h0 n0) (hB : o_X6 Z p s m meth c) {T0 : State} {L0 : List Loc} {hh : Heap} (X0 : Stand p l e o_R6 s m #[(.ref r0), (.ref r1), (.ref r2)] below meth c T0 L0 2 13) (e0 : T0.heap = hh) (N0 : Fr n0 L0) {al q_a : Addr} {k_a : ClassId} {ad0 : Addr} {w0 : Int32} (hJ : o_J6 Z h0 n0 r0 r2 t2 k2 q_N q_vs hh al q_a k_a (1 : Int32) [(.ref ad0), .null, .null, .null, .null, .null, .null, .null, .null, .null]) (B0 : o_A6 Z ad0 w0) (hls : o_ls cs = [w0] ++ o_rest 2 (cs.drop 2)) : o_Goes p e below (o_End s o_R6 (o_Q6 Z r0 cs h0 n0)) (T0.setTop (mkF m 36 #[.val (.ref r0), .val (.ref r1), .val (.ref r2), .val (.ref al), .val (.int 2)] [])) := by
 obtain ⟨hw, Z0, g_r0, O0, A_e, z_e, A_c, z_c, h_hi, t_c0, E_c0, F_c0, t_c1, E_c1, F_c1, t_c2, E_c2, F_c2, t_c3, E_c3, F_c3, t_c4, E_c4, F_c4, S_fm, rf, z_CS, hcd, hbd, hl4, hl4', ne_r0_r2, ne_r0_t2, S_s_e, S_x_hi, S_s_c, S_z_cs⟩ := id hP
 obtain ⟨hx, hby, hml, hown, hret, hlk, hZ, hnm⟩ := id hB
 obtain ⟨Z1, O1, KK, g_al, g_q_a, sz_al, sz_q_a, ne_r0_al, ne_r0_q_a, ne_r2_al, ne_r2_q_a, ne_t2_al, ne_t2_q_a, ne_al_q_a, jE_r0, jF_l, jE_r2, jF_v, jF_c, jV_t, jE_al, jF_m, jF_e, jF_z, jV_a, jO_a⟩ := hJ
 refine o_gi (XS.iload X0.here hx rfl (hb hby o_d6_36) rfl) ?_
 refine o_gi (XS.aloadN X0.here hx rfl (hb hby o_d6_38) rfl rfl) ?_
 show o_Gs p e below _ T0 m 39 #[.val (.ref r0), .val (.ref r1), .val (.ref r2), .val (.ref al), .val (.int 2)] [(.ref r2), (.int 2)]
 obtain ⟨T436, X436, e436, st436⟩ := o_callLen X0 hx hZ hown (hw _ o_t108) (hw _ o_t109) (hw _ o_t111) (hw _ o_t110) (hw _ o_t10) (o_hwl hw) jE_r2 jF_v jF_c jV_t hcd hbd hl4' (S_z_cs.ext O1.2) z_CS (nn := (Int32.ofNat cs.length)) rfl e0 (pc := 39) (Ls := #[.val (.ref r0), .val (.ref r1), .val (.ref r2), .val (.ref al), .val (.int 2)]) (rest := [(.int 2)]) (W := 1) (by rw [hml]; rfl) (Nat.le_of_eq rfl) (by decide) (by decide) (hb hby o_d6_39) (by decide) (by decide)
 refine o_go st436 ?_
 show o_Gs p e below _ T436 m 42 #[.val (.ref r0), .val (.ref r1), .val (.ref r2), .val (.ref al), .val (.int 2)] [(.int (Int32.ofNat cs.length)), (.int 2)]
 by_cases hc437 : (2 : Int32) < (Int32.ofNat cs.length)
 ·refine o_gi (XS.icmpNo X436.here hx rfl (hb hby o_d6_42) rfl (tlt hc437).2.1) ?_
  refine o_gi (XS.aloadN X436.here hx rfl (hb hby o_d6_45) rfl rfl) ?_
  refine o_gi (XS.iload X436.here hx rfl (hb hby o_d6_46) rfl) ?_
  show o_Gs p e below _ T436 m 48 #[.val (.ref r0), .val (.ref r1), .val (.ref r2), .val (.ref al), .val (.int 2)] [(.int 2), (.ref r2)]
  obtain ⟨T438, X438, e438, st438⟩ := o_callCh X436 hx hZ hown (hw _ o_t178) (hw _ o_t179) (hw _ o_t181) (hw _ o_t180) (hw _ o_t10) (o_hwc hw) jE_r2 jF_v jF_c jV_t hcd hbd hl4' (S_z_cs.ext O1.2) z_CS (S_fm.ext O1.2) rf (i := 2) (u := (cs.getD 2 0)) (o_ltn hl4 rfl hc437) rfl rfl e436 (pc := 48) (Ls := #[.val (.ref r0), .val (.ref r1), .val (.ref r2), .val (.ref al), .val (.int 2)]) (rest := []) (W := 0) (by rw [hml]; rfl) (Nat.le_of_eq rfl) (by decide) (by decide) (hb hby o_d6_48) (by decide) (by decide)
  refine o_go st438 ?_
  refine o_gi (XS.bipush X438.here hx rfl (hb hby o_d6_51)) ?_
  show o_Gs p e below _ T438 m 53 #[.val (.ref r0), .val (.ref r1), .val (.ref r2), .val (.ref al), .val (.int 2)] [(.int 10), (.int (cs.getD 2 0))]
  by_cases hc439 : (cs.getD 2 0) = (10 : Int32)
  ·refine o_gi (XS.icmpNo X438.here hx rfl (hb hby o_d6_53) rfl (teq hc439).2) ?_
   refine o_gi (XS.aloadN X438.here hx rfl (hb hby o_d6_56) rfl rfl) ?_
   refine o_gi (XS.iload X438.here hx rfl (hb hby o_d6_57) rfl) ?_
   refine o_gi (XS.iconst X438.here hx rfl (hb hby o_d6_59)) ?_
   show o_Gs p e below _ T438 m 60 #[.val (.ref r0), .val (.ref r1), .val (.ref r2), .val (.ref al), .val (.int 2)] [(.int 1), (.int 2), (.ref al)]
   refine o_gi (XS.iadd X438.here hx rfl (hb hby o_d6_60) rfl) ?_
   show o_Gs p e below _ T438 m 61 #[.val (.ref r0), .val (.ref r1), .val (.ref r2), .val (.ref al), .val (.int 2)] [(.int ((2 : Int32) + (1 : Int32))), (.ref al)]
   rw [show ((2 : Int32) + (1 : Int32)) = (3 : Int32) from by decide]
   show o_Gs p e below _ T438 m 61 #[.val (.ref r0), .val (.ref r1), .val (.ref r2), .val (.ref al), .val (.int 2)] [(.int 3), (.ref al)]
   obtain ⟨_, T440, L440, X440, ⟨rfl, N440q, e440⟩, st440⟩ := o_callS X438 hx hZ hown (hw _ o_t66) (hw _ o_t67) (hw _ o_t68) (hw _ o_t69) (by decide) (as := [(.int 3)]) (rm10_3 l Z a0 hw [] c_3 cl_c x_hi s_c hh n0 Z1 O1 A_c z_c h_hi t_c3 S_x_hi S_s_c) e438 o_pd8 rfl (pc := 61) (Ls := #[.val (.ref r0), .val (.ref r1), .val (.ref r2), .val (.ref al), .val (.int 2)]) (rest := [(.ref al)]) (W := 1) (by rw [hml]; rfl) (Nat.le_of_eq rfl) (by decide) (by decide) (hb hby o_d6_61) (by decide) (by decide)
   have N440 := Fr.app N0 N440q
   refine o_go st440 ?_
   show o_Gs p e below _ T440 m 64 #[.val (.ref r0), .val (.ref r1), .val (.ref r2), .val (.ref al), .val (.int 2)] [(.ref c_3), (.ref al)]
   obtain ⟨_, T441, L441, X441, ⟨rfl, N441q, K441, G441_0, G441_1, G441_2, G441_3, G441_4, G441_5⟩, st441⟩ := o_callF X440 hx hZ hown (mvT hZ (hw _ o_t73)) (mvT hZ (hw _ o_t74)) (mvT hZ (hw _ o_t75)) (mvT hZ (hw _ o_t76)) (mvT hZ (hw _ o_t77)) (mvT hZ (hw _ o_t78)) (mvT hZ (hw _ o_t79)) (mvT hZ (hw _ o_t80)) (hw _ o_t44) (hw _ o_t81) (by decide) (b := al) (as := [(.ref c_3)]) (rm11_1 l Z a0 hw [] al c_3 q_a k_a ad0 hh n0 Z1 g_al g_q_a jE_al (E_c3.ext O1.2) jF_m jF_e jF_z jV_a jO_a ne_al_q_a) e440 jE_al o_pd9 rfl (pc := 64) (Ls := #[.val (.ref r0), .val (.ref r1), .val (.ref r2), .val (.ref al), .val (.int 2)]) (rest := []) (W := 0) (by rw [hml]; rfl) (Nat.le_of_eq rfl) (by decide) (by decide) (hb hby o_d6_64) (by decide) (by decide)
   have N441 := Fr.app N440 N441q
   refine o_go st441 ?_
   refine o_gi (XS.pop X441.here hx rfl (hb hby o_d6_69) rfl rfl) ?_
   show o_Gs p e below _ T441 m 70 #[.val (.ref r0), .val (.ref r1), .val (.ref r2), .val (.ref al), .val (.int 2)] []
   refine o_gi (XS.iinc X441.here hx rfl (hb hby o_d6_70) rfl (l' := #[.val (.ref r0), .val (.ref r1), .val (.ref r2), .val (.ref al), .val (.int ((2 : Int32) + (1 : Int32)))]) rfl) ?_
   show o_Gs p e below _ T441 m 73 #[.val (.ref r0), .val (.ref r1), .val (.ref r2), .val (.ref al), .val (.int ((2 : Int32) + (1 : Int32)))] []
   rw [show ((2 : Int32) + (1 : Int32)) = (3 : Int32) from by decide]
   refine o_gi (XS.goto X441.here hx rfl (pc0 := 73) (pc' := 36) rfl (hb hby o_d6_73) (by decide) (by decide)) ?_
   have ff442 : Fld Z T441.heap r0 "com/example/foothold/foothold/SourceFile" "lineStarts" "[I" .null := (jF_l.keep K441 (ninS ne_r0_al (ninS ne_r0_q_a nin0)))
   have ff443 : Fld Z T441.heap r2 "java/lang/String" "value" "[B" (.ref t2) := (jF_v.keep K441 (ninS ne_r2_al (ninS ne_r2_q_a nin0)))
   have ff444 : Fld Z T441.heap r2 "java/lang/String" "coder" "B" (.int 0) := (jF_c.keep K441 (ninS ne_r2_al (ninS ne_r2_q_a nin0)))
   have ff445 : Arv Z T441.heap t2 k2 .byte q_N q_vs (.int 0) := (jV_t.keep K441 (ninS ne_t2_al (ninS ne_t2_q_a nin0)))
   have oo446 : Old Z n0 T441.heap := (O1.keep K441 (allS g_al (allS g_q_a all0)))
   exact o_p36_3_2 hP hB X441 rfl N441 ⟨(Nat.le_trans Z1 K441.1), oo446, (KK.trans K441 (allS (P := fun x => x ∈ ([r0] : List Addr) ∨ h0.size ≤ x) (Or.inr sz_al) (allS (P := fun x => x ∈ ([r0] : List Addr) ∨ h0.size ≤ x) (Or.inr sz_q_a) all0))), g_al, g_q_a, sz_al, sz_q_a, ne_r0_al, ne_r0_q_a, ne_r2_al, ne_r2_q_a, ne_t2_al, ne_t2_q_a, ne_al_q_a, (jE_r0.keep K441), ff442, (jE_r2.keep K441), ff443, ff444, ff445, G441_0, G441_1, G441_2, G441_3, G441_4, G441_5⟩ B0 ⟨E_c3, F_c3⟩ (o_r1 (o_ltn hl4 rfl hc437) hc439 hls)
  ·refine o_gi (XS.icmpYes X438.here hx rfl (pc0 := 53) (pc' := 70) rfl (hb hby o_d6_53) rfl (feq hc439).2 (by decide) (by decide)) ?_
   show o_Gs p e below _ T438 m 70 #[.val (.ref r0), .val (.ref r1), .val (.ref r2), .val (.ref al), .val (.int 2)] []
   refine o_gi (XS.iinc X438.here hx rfl (hb hby o_d6_70) rfl (l' := #[.val (.ref r0), .val (.ref r1), .val (.ref r2), .val (.ref al), .val (.int ((2 : Int32) + (1 : Int32)))]) rfl) ?_
   show o_Gs p e below _ T438 m 73 #[.val (.ref r0), .val (.ref r1), .val (.ref r2), .val (.ref al), .val (.int ((2 : Int32) + (1 : Int32)))] []
   rw [show ((2 : Int32) + (1 : Int32)) = (3 : Int32) from by decide]
   refine o_gi (XS.goto X438.here hx rfl (pc0 := 73) (pc' := 36) rfl (hb hby o_d6_73) (by decide) (by decide)) ?_
   exact o_p36_3_1 hP hB X438 e438 N0 ⟨Z1, O1, KK, g_al, g_q_a, sz_al, sz_q_a, ne_r0_al, ne_r0_q_a, ne_r2_al, ne_r2_q_a, ne_t2_al, ne_t2_q_a, ne_al_q_a, jE_r0, jF_l, jE_r2, jF_v, jF_c, jV_t, jE_al, jF_m, jF_e, jF_z, jV_a, jO_a⟩ B0 (o_r0 (o_ltn hl4 rfl hc437) hc439 hls)
 ·refine o_gi (XS.icmpYes X436.here hx rfl (pc0 := 42) (pc' := 76) rfl (hb hby o_d6_42) rfl (flt hc437).2.1 (by decide) (by decide)) ?_
  exact o_t76_1 hP hB X436 e436 N0 ⟨Z1, O1, KK, g_al, g_q_a, sz_al, sz_q_a, ne_r0_al, ne_r0_q_a, ne_r2_al, ne_r2_q_a, ne_t2_al, ne_t2_q_a, ne_al_q_a, jE_r0, jF_l, jE_r2, jF_v, jF_c, jV_t, jE_al, jF_m, jF_e, jF_z, jV_a, jO_a⟩ B0 _ (One.val rfl) (o_rE (o_gen hl4 rfl hc437) hls)
set_option maxRecDepth 65536 in
set_option maxHeartbeats 40000000 in
theorem o_p36_2_2 {l : Launch} {Z : State} {a0 : Array Value} {r0 : Addr} {r1 : Addr} {r2 : Addr} {cl_e : Cell} {cl_c : Cell} {fm : Value} {t2 : Addr} {k2 : ClassId} {q_N : Int32} {q_vs : List Value} {cs : List Int32} {c_0 : Addr} {c_1 : Addr} {c_2 : Addr} {c_3 : Addr} {c_4 : Addr} {s_e : Addr} {x_hi : Int32} {s_c : Addr} {z_cs : Int32} {h0 : Heap} {n0 : Nat} {p : Program} {s : State} {m : MethodId} {meth : Method} {c : Code} {e : Env} {below : List Frame} (hP : o_P6 Z a0 r0 r1 r2 cl_e cl_c fm t2 k2 q_N q_vs cs c_0 c_1 c_2 c_3 c_4 s_e x_hi s_c z_cs h0 n0) (hB : o_X6 Z p s m meth c) {T0 : State} {L0 : List Loc} {hh : Heap} (X0 : Stand p l e o_R6 s m #[(.ref r0), (.ref r1), (.ref r2)] below meth c T0 L0 2 13) (e0 : T0.heap = hh) (N0 : Fr n0 L0) {al q_a : Addr} {k_a : ClassId} {ad0 : Addr} {w0 : Int32} {ad1 : Addr} {w1 : Int32} (hJ : o_J6 Z h0 n0 r0 r2 t2 k2 q_N q_vs hh al q_a k_a (2 : Int32) [(.ref ad0), (.ref ad1), .null, .null, .null, .null, .null, .null, .null, .null]) (B0 : o_A6 Z ad0 w0) (B1 : o_A6 Z ad1 w1) (hls : o_ls cs = [w0, w1] ++ o_rest 2 (cs.drop 2)) : o_Goes p e below (o_End s o_R6 (o_Q6 Z r0 cs h0 n0)) (T0.setTop (mkF m 36 #[.val (.ref r0), .val (.ref r1), .val (.ref r2), .val (.ref al), .val (.int 2)] [])) := by
 obtain ⟨hw, Z0, g_r0, O0, A_e, z_e, A_c, z_c, h_hi, t_c0, E_c0, F_c0, t_c1, E_c1, F_c1, t_c2, E_c2, F_c2, t_c3, E_c3, F_c3, t_c4, E_c4, F_c4, S_fm, rf, z_CS, hcd, hbd, hl4, hl4', ne_r0_r2, ne_r0_t2, S_s_e, S_x_hi, S_s_c, S_z_cs⟩ := id hP
 obtain ⟨hx, hby, hml, hown, hret, hlk, hZ, hnm⟩ := id hB
 obtain ⟨Z1, O1, KK, g_al, g_q_a, sz_al, sz_q_a, ne_r0_al, ne_r0_q_a, ne_r2_al, ne_r2_q_a, ne_t2_al, ne_t2_q_a, ne_al_q_a, jE_r0, jF_l, jE_r2, jF_v, jF_c, jV_t, jE_al, jF_m, jF_e, jF_z, jV_a, jO_a⟩ := hJ
 refine o_gi (XS.iload X0.here hx rfl (hb hby o_d6_36) rfl) ?_
 refine o_gi (XS.aloadN X0.here hx rfl (hb hby o_d6_38) rfl rfl) ?_
 show o_Gs p e below _ T0 m 39 #[.val (.ref r0), .val (.ref r1), .val (.ref r2), .val (.ref al), .val (.int 2)] [(.ref r2), (.int 2)]
 obtain ⟨T447, X447, e447, st447⟩ := o_callLen X0 hx hZ hown (hw _ o_t108) (hw _ o_t109) (hw _ o_t111) (hw _ o_t110) (hw _ o_t10) (o_hwl hw) jE_r2 jF_v jF_c jV_t hcd hbd hl4' (S_z_cs.ext O1.2) z_CS (nn := (Int32.ofNat cs.length)) rfl e0 (pc := 39) (Ls := #[.val (.ref r0), .val (.ref r1), .val (.ref r2), .val (.ref al), .val (.int 2)]) (rest := [(.int 2)]) (W := 1) (by rw [hml]; rfl) (Nat.le_of_eq rfl) (by decide) (by decide) (hb hby o_d6_39) (by decide) (by decide)
 refine o_go st447 ?_
 show o_Gs p e below _ T447 m 42 #[.val (.ref r0), .val (.ref r1), .val (.ref r2), .val (.ref al), .val (.int 2)] [(.int (Int32.ofNat cs.length)), (.int 2)]
 by_cases hc448 : (2 : Int32) < (Int32.ofNat cs.length)
 ·refine o_gi (XS.icmpNo X447.here hx rfl (hb hby o_d6_42) rfl (tlt hc448).2.1) ?_
  refine o_gi (XS.aloadN X447.here hx rfl (hb hby o_d6_45) rfl rfl) ?_
  refine o_gi (XS.iload X447.here hx rfl (hb hby o_d6_46) rfl) ?_
  show o_Gs p e below _ T447 m 48 #[.val (.ref r0), .val (.ref r1), .val (.ref r2), .val (.ref al), .val (.int 2)] [(.int 2), (.ref r2)]
  obtain ⟨T449, X449, e449, st449⟩ := o_callCh X447 hx hZ hown (hw _ o_t178) (hw _ o_t179) (hw _ o_t181) (hw _ o_t180) (hw _ o_t10) (o_hwc hw) jE_r2 jF_v jF_c jV_t hcd hbd hl4' (S_z_cs.ext O1.2) z_CS (S_fm.ext O1.2) rf (i := 2) (u := (cs.getD 2 0)) (o_ltn hl4 rfl hc448) rfl rfl e447 (pc := 48) (Ls := #[.val (.ref r0), .val (.ref r1), .val (.ref r2), .val (.ref al), .val (.int 2)]) (rest := []) (W := 0) (by rw [hml]; rfl) (Nat.le_of_eq rfl) (by decide) (by decide) (hb hby o_d6_48) (by decide) (by decide)
  refine o_go st449 ?_
  refine o_gi (XS.bipush X449.here hx rfl (hb hby o_d6_51)) ?_
  show o_Gs p e below _ T449 m 53 #[.val (.ref r0), .val (.ref r1), .val (.ref r2), .val (.ref al), .val (.int 2)] [(.int 10), (.int (cs.getD 2 0))]
  by_cases hc450 : (cs.getD 2 0) = (10 : Int32)
  ·refine o_gi (XS.icmpNo X449.here hx rfl (hb hby o_d6_53) rfl (teq hc450).2) ?_
   refine o_gi (XS.aloadN X449.here hx rfl (hb hby o_d6_56) rfl rfl) ?_
   refine o_gi (XS.iload X449.here hx rfl (hb hby o_d6_57) rfl) ?_
   refine o_gi (XS.iconst X449.here hx rfl (hb hby o_d6_59)) ?_
   show o_Gs p e below _ T449 m 60 #[.val (.ref r0), .val (.ref r1), .val (.ref r2), .val (.ref al), .val (.int 2)] [(.int 1), (.int 2), (.ref al)]
   refine o_gi (XS.iadd X449.here hx rfl (hb hby o_d6_60) rfl) ?_
   show o_Gs p e below _ T449 m 61 #[.val (.ref r0), .val (.ref r1), .val (.ref r2), .val (.ref al), .val (.int 2)] [(.int ((2 : Int32) + (1 : Int32))), (.ref al)]
   rw [show ((2 : Int32) + (1 : Int32)) = (3 : Int32) from by decide]
   show o_Gs p e below _ T449 m 61 #[.val (.ref r0), .val (.ref r1), .val (.ref r2), .val (.ref al), .val (.int 2)] [(.int 3), (.ref al)]
   obtain ⟨_, T451, L451, X451, ⟨rfl, N451q, e451⟩, st451⟩ := o_callS X449 hx hZ hown (hw _ o_t66) (hw _ o_t67) (hw _ o_t68) (hw _ o_t69) (by decide) (as := [(.int 3)]) (rm10_3 l Z a0 hw [] c_3 cl_c x_hi s_c hh n0 Z1 O1 A_c z_c h_hi t_c3 S_x_hi S_s_c) e449 o_pd8 rfl (pc := 61) (Ls := #[.val (.ref r0), .val (.ref r1), .val (.ref r2), .val (.ref al), .val (.int 2)]) (rest := [(.ref al)]) (W := 1) (by rw [hml]; rfl) (Nat.le_of_eq rfl) (by decide) (by decide) (hb hby o_d6_61) (by decide) (by decide)
   have N451 := Fr.app N0 N451q
   refine o_go st451 ?_
   show o_Gs p e below _ T451 m 64 #[.val (.ref r0), .val (.ref r1), .val (.ref r2), .val (.ref al), .val (.int 2)] [(.ref c_3), (.ref al)]
   obtain ⟨_, T452, L452, X452, ⟨rfl, N452q, K452, G452_0, G452_1, G452_2, G452_3, G452_4, G452_5⟩, st452⟩ := o_callF X451 hx hZ hown (mvT hZ (hw _ o_t73)) (mvT hZ (hw _ o_t74)) (mvT hZ (hw _ o_t75)) (mvT hZ (hw _ o_t76)) (mvT hZ (hw _ o_t77)) (mvT hZ (hw _ o_t78)) (mvT hZ (hw _ o_t79)) (mvT hZ (hw _ o_t80)) (hw _ o_t44) (hw _ o_t81) (by decide) (b := al) (as := [(.ref c_3)]) (rm11_2 l Z a0 hw [] al c_3 q_a k_a ad0 ad1 hh n0 Z1 g_al g_q_a jE_al (E_c3.ext O1.2) jF_m jF_e jF_z jV_a jO_a ne_al_q_a) e451 jE_al o_pd9 rfl (pc := 64) (Ls := #[.val (.ref r0), .val (.ref r1), .val (.ref r2), .val (.ref al), .val (.int 2)]) (rest := []) (W := 0) (by rw [hml]; rfl) (Nat.le_of_eq rfl) (by decide) (by decide) (hb hby o_d6_64) (by decide) (by decide)
   have N452 := Fr.app N451 N452q
   refine o_go st452 ?_
   refine o_gi (XS.pop X452.here hx rfl (hb hby o_d6_69) rfl rfl) ?_
   show o_Gs p e below _ T452 m 70 #[.val (.ref r0), .val (.ref r1), .val (.ref r2), .val (.ref al), .val (.int 2)] []
   refine o_gi (XS.iinc X452.here hx rfl (hb hby o_d6_70) rfl (l' := #[.val (.ref r0), .val (.ref r1), .val (.ref r2), .val (.ref al), .val (.int ((2 : Int32) + (1 : Int32)))]) rfl) ?_
   show o_Gs p e below _ T452 m 73 #[.val (.ref r0), .val (.ref r1), .val (.ref r2), .val (.ref al), .val (.int ((2 : Int32) + (1 : Int32)))] []
   rw [show ((2 : Int32) + (1 : Int32)) = (3 : Int32) from by decide]
   refine o_gi (XS.goto X452.here hx rfl (pc0 := 73) (pc' := 36) rfl (hb hby o_d6_73) (by decide) (by decide)) ?_
   have ff453 : Fld Z T452.heap r0 "com/example/foothold/foothold/SourceFile" "lineStarts" "[I" .null := (jF_l.keep K452 (ninS ne_r0_al (ninS ne_r0_q_a nin0)))
   have ff454 : Fld Z T452.heap r2 "java/lang/String" "value" "[B" (.ref t2) := (jF_v.keep K452 (ninS ne_r2_al (ninS ne_r2_q_a nin0)))
   have ff455 : Fld Z T452.heap r2 "java/lang/String" "coder" "B" (.int 0) := (jF_c.keep K452 (ninS ne_r2_al (ninS ne_r2_q_a nin0)))
   have ff456 : Arv Z T452.heap t2 k2 .byte q_N q_vs (.int 0) := (jV_t.keep K452 (ninS ne_t2_al (ninS ne_t2_q_a nin0)))
   have oo457 : Old Z n0 T452.heap := (O1.keep K452 (allS g_al (allS g_q_a all0)))
   exact o_p36_3_3 hP hB X452 rfl N452 ⟨(Nat.le_trans Z1 K452.1), oo457, (KK.trans K452 (allS (P := fun x => x ∈ ([r0] : List Addr) ∨ h0.size ≤ x) (Or.inr sz_al) (allS (P := fun x => x ∈ ([r0] : List Addr) ∨ h0.size ≤ x) (Or.inr sz_q_a) all0))), g_al, g_q_a, sz_al, sz_q_a, ne_r0_al, ne_r0_q_a, ne_r2_al, ne_r2_q_a, ne_t2_al, ne_t2_q_a, ne_al_q_a, (jE_r0.keep K452), ff453, (jE_r2.keep K452), ff454, ff455, ff456, G452_0, G452_1, G452_2, G452_3, G452_4, G452_5⟩ B0 B1 ⟨E_c3, F_c3⟩ (o_r1 (o_ltn hl4 rfl hc448) hc450 hls)
  ·refine o_gi (XS.icmpYes X449.here hx rfl (pc0 := 53) (pc' := 70) rfl (hb hby o_d6_53) rfl (feq hc450).2 (by decide) (by decide)) ?_
   show o_Gs p e below _ T449 m 70 #[.val (.ref r0), .val (.ref r1), .val (.ref r2), .val (.ref al), .val (.int 2)] []
   refine o_gi (XS.iinc X449.here hx rfl (hb hby o_d6_70) rfl (l' := #[.val (.ref r0), .val (.ref r1), .val (.ref r2), .val (.ref al), .val (.int ((2 : Int32) + (1 : Int32)))]) rfl) ?_
   show o_Gs p e below _ T449 m 73 #[.val (.ref r0), .val (.ref r1), .val (.ref r2), .val (.ref al), .val (.int ((2 : Int32) + (1 : Int32)))] []
   rw [show ((2 : Int32) + (1 : Int32)) = (3 : Int32) from by decide]
   refine o_gi (XS.goto X449.here hx rfl (pc0 := 73) (pc' := 36) rfl (hb hby o_d6_73) (by decide) (by decide)) ?_
   exact o_p36_3_2 hP hB X449 e449 N0 ⟨Z1, O1, KK, g_al, g_q_a, sz_al, sz_q_a, ne_r0_al, ne_r0_q_a, ne_r2_al, ne_r2_q_a, ne_t2_al, ne_t2_q_a, ne_al_q_a, jE_r0, jF_l, jE_r2, jF_v, jF_c, jV_t, jE_al, jF_m, jF_e, jF_z, jV_a, jO_a⟩ B0 B1 (o_r0 (o_ltn hl4 rfl hc448) hc450 hls)
 ·refine o_gi (XS.icmpYes X447.here hx rfl (pc0 := 42) (pc' := 76) rfl (hb hby o_d6_42) rfl (flt hc448).2.1 (by decide) (by decide)) ?_
  exact o_t76_2 hP hB X447 e447 N0 ⟨Z1, O1, KK, g_al, g_q_a, sz_al, sz_q_a, ne_r0_al, ne_r0_q_a, ne_r2_al, ne_r2_q_a, ne_t2_al, ne_t2_q_a, ne_al_q_a, jE_r0, jF_l, jE_r2, jF_v, jF_c, jV_t, jE_al, jF_m, jF_e, jF_z, jV_a, jO_a⟩ B0 B1 _ (One.val rfl) (o_rE (o_gen hl4 rfl hc448) hls)
set_option maxRecDepth 65536 in
set_option maxHeartbeats 40000000 in
theorem o_p36_2_3 {l : Launch} {Z : State} {a0 : Array Value} {r0 : Addr} {r1 : Addr} {r2 : Addr} {cl_e : Cell} {cl_c : Cell} {fm : Value} {t2 : Addr} {k2 : ClassId} {q_N : Int32} {q_vs : List Value} {cs : List Int32} {c_0 : Addr} {c_1 : Addr} {c_2 : Addr} {c_3 : Addr} {c_4 : Addr} {s_e : Addr} {x_hi : Int32} {s_c : Addr} {z_cs : Int32} {h0 : Heap} {n0 : Nat} {p : Program} {s : State} {m : MethodId} {meth : Method} {c : Code} {e : Env} {below : List Frame} (hP : o_P6 Z a0 r0 r1 r2 cl_e cl_c fm t2 k2 q_N q_vs cs c_0 c_1 c_2 c_3 c_4 s_e x_hi s_c z_cs h0 n0) (hB : o_X6 Z p s m meth c) {T0 : State} {L0 : List Loc} {hh : Heap} (X0 : Stand p l e o_R6 s m #[(.ref r0), (.ref r1), (.ref r2)] below meth c T0 L0 2 13) (e0 : T0.heap = hh) (N0 : Fr n0 L0) {al q_a : Addr} {k_a : ClassId} {ad0 : Addr} {w0 : Int32} {ad1 : Addr} {w1 : Int32} {ad2 : Addr} {w2 : Int32} (hJ : o_J6 Z h0 n0 r0 r2 t2 k2 q_N q_vs hh al q_a k_a (3 : Int32) [(.ref ad0), (.ref ad1), (.ref ad2), .null, .null, .null, .null, .null, .null, .null]) (B0 : o_A6 Z ad0 w0) (B1 : o_A6 Z ad1 w1) (B2 : o_A6 Z ad2 w2) (hls : o_ls cs = [w0, w1, w2] ++ o_rest 2 (cs.drop 2)) : o_Goes p e below (o_End s o_R6 (o_Q6 Z r0 cs h0 n0)) (T0.setTop (mkF m 36 #[.val (.ref r0), .val (.ref r1), .val (.ref r2), .val (.ref al), .val (.int 2)] [])) := by
 obtain ⟨hw, Z0, g_r0, O0, A_e, z_e, A_c, z_c, h_hi, t_c0, E_c0, F_c0, t_c1, E_c1, F_c1, t_c2, E_c2, F_c2, t_c3, E_c3, F_c3, t_c4, E_c4, F_c4, S_fm, rf, z_CS, hcd, hbd, hl4, hl4', ne_r0_r2, ne_r0_t2, S_s_e, S_x_hi, S_s_c, S_z_cs⟩ := id hP
 obtain ⟨hx, hby, hml, hown, hret, hlk, hZ, hnm⟩ := id hB
 obtain ⟨Z1, O1, KK, g_al, g_q_a, sz_al, sz_q_a, ne_r0_al, ne_r0_q_a, ne_r2_al, ne_r2_q_a, ne_t2_al, ne_t2_q_a, ne_al_q_a, jE_r0, jF_l, jE_r2, jF_v, jF_c, jV_t, jE_al, jF_m, jF_e, jF_z, jV_a, jO_a⟩ := hJ
 refine o_gi (XS.iload X0.here hx rfl (hb hby o_d6_36) rfl) ?_
 refine o_gi (XS.aloadN X0.here hx rfl (hb hby o_d6_38) rfl rfl) ?_
 show o_Gs p e below _ T0 m 39 #[.val (.ref r0), .val (.ref r1), .val (.ref r2), .val (.ref al), .val (.int 2)] [(.ref r2), (.int 2)]
 obtain ⟨T458, X458, e458, st458⟩ := o_callLen X0 hx hZ hown (hw _ o_t108) (hw _ o_t109) (hw _ o_t111) (hw _ o_t110) (hw _ o_t10) (o_hwl hw) jE_r2 jF_v jF_c jV_t hcd hbd hl4' (S_z_cs.ext O1.2) z_CS (nn := (Int32.ofNat cs.length)) rfl e0 (pc := 39) (Ls := #[.val (.ref r0), .val (.ref r1), .val (.ref r2), .val (.ref al), .val (.int 2)]) (rest := [(.int 2)]) (W := 1) (by rw [hml]; rfl) (Nat.le_of_eq rfl) (by decide) (by decide) (hb hby o_d6_39) (by decide) (by decide)
 refine o_go st458 ?_
 show o_Gs p e below _ T458 m 42 #[.val (.ref r0), .val (.ref r1), .val (.ref r2), .val (.ref al), .val (.int 2)] [(.int (Int32.ofNat cs.length)), (.int 2)]
 by_cases hc459 : (2 : Int32) < (Int32.ofNat cs.length)
 ·refine o_gi (XS.icmpNo X458.here hx rfl (hb hby o_d6_42) rfl (tlt hc459).2.1) ?_
  refine o_gi (XS.aloadN X458.here hx rfl (hb hby o_d6_45) rfl rfl) ?_
  refine o_gi (XS.iload X458.here hx rfl (hb hby o_d6_46) rfl) ?_
  show o_Gs p e below _ T458 m 48 #[.val (.ref r0), .val (.ref r1), .val (.ref r2), .val (.ref al), .val (.int 2)] [(.int 2), (.ref r2)]
  obtain ⟨T460, X460, e460, st460⟩ := o_callCh X458 hx hZ hown (hw _ o_t178) (hw _ o_t179) (hw _ o_t181) (hw _ o_t180) (hw _ o_t10) (o_hwc hw) jE_r2 jF_v jF_c jV_t hcd hbd hl4' (S_z_cs.ext O1.2) z_CS (S_fm.ext O1.2) rf (i := 2) (u := (cs.getD 2 0)) (o_ltn hl4 rfl hc459) rfl rfl e458 (pc := 48) (Ls := #[.val (.ref r0), .val (.ref r1), .val (.ref r2), .val (.ref al), .val (.int 2)]) (rest := []) (W := 0) (by rw [hml]; rfl) (Nat.le_of_eq rfl) (by decide) (by decide) (hb hby o_d6_48) (by decide) (by decide)
  refine o_go st460 ?_
  refine o_gi (XS.bipush X460.here hx rfl (hb hby o_d6_51)) ?_
  show o_Gs p e below _ T460 m 53 #[.val (.ref r0), .val (.ref r1), .val (.ref r2), .val (.ref al), .val (.int 2)] [(.int 10), (.int (cs.getD 2 0))]
  by_cases hc461 : (cs.getD 2 0) = (10 : Int32)
  ·refine o_gi (XS.icmpNo X460.here hx rfl (hb hby o_d6_53) rfl (teq hc461).2) ?_
   refine o_gi (XS.aloadN X460.here hx rfl (hb hby o_d6_56) rfl rfl) ?_
   refine o_gi (XS.iload X460.here hx rfl (hb hby o_d6_57) rfl) ?_
   refine o_gi (XS.iconst X460.here hx rfl (hb hby o_d6_59)) ?_
   show o_Gs p e below _ T460 m 60 #[.val (.ref r0), .val (.ref r1), .val (.ref r2), .val (.ref al), .val (.int 2)] [(.int 1), (.int 2), (.ref al)]
   refine o_gi (XS.iadd X460.here hx rfl (hb hby o_d6_60) rfl) ?_
   show o_Gs p e below _ T460 m 61 #[.val (.ref r0), .val (.ref r1), .val (.ref r2), .val (.ref al), .val (.int 2)] [(.int ((2 : Int32) + (1 : Int32))), (.ref al)]
   rw [show ((2 : Int32) + (1 : Int32)) = (3 : Int32) from by decide]
   show o_Gs p e below _ T460 m 61 #[.val (.ref r0), .val (.ref r1), .val (.ref r2), .val (.ref al), .val (.int 2)] [(.int 3), (.ref al)]
   obtain ⟨_, T462, L462, X462, ⟨rfl, N462q, e462⟩, st462⟩ := o_callS X460 hx hZ hown (hw _ o_t66) (hw _ o_t67) (hw _ o_t68) (hw _ o_t69) (by decide) (as := [(.int 3)]) (rm10_3 l Z a0 hw [] c_3 cl_c x_hi s_c hh n0 Z1 O1 A_c z_c h_hi t_c3 S_x_hi S_s_c) e460 o_pd8 rfl (pc := 61) (Ls := #[.val (.ref r0), .val (.ref r1), .val (.ref r2), .val (.ref al), .val (.int 2)]) (rest := [(.ref al)]) (W := 1) (by rw [hml]; rfl) (Nat.le_of_eq rfl) (by decide) (by decide) (hb hby o_d6_61) (by decide) (by decide)
   have N462 := Fr.app N0 N462q
   refine o_go st462 ?_
   show o_Gs p e below _ T462 m 64 #[.val (.ref r0), .val (.ref r1), .val (.ref r2), .val (.ref al), .val (.int 2)] [(.ref c_3), (.ref al)]
   obtain ⟨_, T463, L463, X463, ⟨rfl, N463q, K463, G463_0, G463_1, G463_2, G463_3, G463_4, G463_5⟩, st463⟩ := o_callF X462 hx hZ hown (mvT hZ (hw _ o_t73)) (mvT hZ (hw _ o_t74)) (mvT hZ (hw _ o_t75)) (mvT hZ (hw _ o_t76)) (mvT hZ (hw _ o_t77)) (mvT hZ (hw _ o_t78)) (mvT hZ (hw _ o_t79)) (mvT hZ (hw _ o_t80)) (hw _ o_t44) (hw _ o_t81) (by decide) (b := al) (as := [(.ref c_3)]) (rm11_3 l Z a0 hw [] al c_3 q_a k_a ad0 ad1 ad2 hh n0 Z1 g_al g_q_a jE_al (E_c3.ext O1.2) jF_m jF_e jF_z jV_a jO_a ne_al_q_a) e462 jE_al o_pd9 rfl (pc := 64) (Ls := #[.val (.ref r0), .val (.ref r1), .val (.ref r2), .val (.ref al), .val (.int 2)]) (rest := []) (W := 0) (by rw [hml]; rfl) (Nat.le_of_eq rfl) (by decide) (by decide) (hb hby o_d6_64) (by decide) (by decide)
   have N463 := Fr.app N462 N463q
   refine o_go st463 ?_
   refine o_gi (XS.pop X463.here hx rfl (hb hby o_d6_69) rfl rfl) ?_
   show o_Gs p e below _ T463 m 70 #[.val (.ref r0), .val (.ref r1), .val (.ref r2), .val (.ref al), .val (.int 2)] []
   refine o_gi (XS.iinc X463.here hx rfl (hb hby o_d6_70) rfl (l' := #[.val (.ref r0), .val (.ref r1), .val (.ref r2), .val (.ref al), .val (.int ((2 : Int32) + (1 : Int32)))]) rfl) ?_
   show o_Gs p e below _ T463 m 73 #[.val (.ref r0), .val (.ref r1), .val (.ref r2), .val (.ref al), .val (.int ((2 : Int32) + (1 : Int32)))] []
   rw [show ((2 : Int32) + (1 : Int32)) = (3 : Int32) from by decide]
   refine o_gi (XS.goto X463.here hx rfl (pc0 := 73) (pc' := 36) rfl (hb hby o_d6_73) (by decide) (by decide)) ?_
   have ff464 : Fld Z T463.heap r0 "com/example/foothold/foothold/SourceFile" "lineStarts" "[I" .null := (jF_l.keep K463 (ninS ne_r0_al (ninS ne_r0_q_a nin0)))
   have ff465 : Fld Z T463.heap r2 "java/lang/String" "value" "[B" (.ref t2) := (jF_v.keep K463 (ninS ne_r2_al (ninS ne_r2_q_a nin0)))
   have ff466 : Fld Z T463.heap r2 "java/lang/String" "coder" "B" (.int 0) := (jF_c.keep K463 (ninS ne_r2_al (ninS ne_r2_q_a nin0)))
   have ff467 : Arv Z T463.heap t2 k2 .byte q_N q_vs (.int 0) := (jV_t.keep K463 (ninS ne_t2_al (ninS ne_t2_q_a nin0)))
   have oo468 : Old Z n0 T463.heap := (O1.keep K463 (allS g_al (allS g_q_a all0)))
   exact o_p36_3_4 hP hB X463 rfl N463 ⟨(Nat.le_trans Z1 K463.1), oo468, (KK.trans K463 (allS (P := fun x => x ∈ ([r0] : List Addr) ∨ h0.size ≤ x) (Or.inr sz_al) (allS (P := fun x => x ∈ ([r0] : List Addr) ∨ h0.size ≤ x) (Or.inr sz_q_a) all0))), g_al, g_q_a, sz_al, sz_q_a, ne_r0_al, ne_r0_q_a, ne_r2_al, ne_r2_q_a, ne_t2_al, ne_t2_q_a, ne_al_q_a, (jE_r0.keep K463), ff464, (jE_r2.keep K463), ff465, ff466, ff467, G463_0, G463_1, G463_2, G463_3, G463_4, G463_5⟩ B0 B1 B2 ⟨E_c3, F_c3⟩ (o_r1 (o_ltn hl4 rfl hc459) hc461 hls)
  ·refine o_gi (XS.icmpYes X460.here hx rfl (pc0 := 53) (pc' := 70) rfl (hb hby o_d6_53) rfl (feq hc461).2 (by decide) (by decide)) ?_
   show o_Gs p e below _ T460 m 70 #[.val (.ref r0), .val (.ref r1), .val (.ref r2), .val (.ref al), .val (.int 2)] []
   refine o_gi (XS.iinc X460.here hx rfl (hb hby o_d6_70) rfl (l' := #[.val (.ref r0), .val (.ref r1), .val (.ref r2), .val (.ref al), .val (.int ((2 : Int32) + (1 : Int32)))]) rfl) ?_
   show o_Gs p e below _ T460 m 73 #[.val (.ref r0), .val (.ref r1), .val (.ref r2), .val (.ref al), .val (.int ((2 : Int32) + (1 : Int32)))] []
   rw [show ((2 : Int32) + (1 : Int32)) = (3 : Int32) from by decide]
   refine o_gi (XS.goto X460.here hx rfl (pc0 := 73) (pc' := 36) rfl (hb hby o_d6_73) (by decide) (by decide)) ?_
   exact o_p36_3_3 hP hB X460 e460 N0 ⟨Z1, O1, KK, g_al, g_q_a, sz_al, sz_q_a, ne_r0_al, ne_r0_q_a, ne_r2_al, ne_r2_q_a, ne_t2_al, ne_t2_q_a, ne_al_q_a, jE_r0, jF_l, jE_r2, jF_v, jF_c, jV_t, jE_al, jF_m, jF_e, jF_z, jV_a, jO_a⟩ B0 B1 B2 (o_r0 (o_ltn hl4 rfl hc459) hc461 hls)
 ·refine o_gi (XS.icmpYes X458.here hx rfl (pc0 := 42) (pc' := 76) rfl (hb hby o_d6_42) rfl (flt hc459).2.1 (by decide) (by decide)) ?_
  exact o_t76_3 hP hB X458 e458 N0 ⟨Z1, O1, KK, g_al, g_q_a, sz_al, sz_q_a, ne_r0_al, ne_r0_q_a, ne_r2_al, ne_r2_q_a, ne_t2_al, ne_t2_q_a, ne_al_q_a, jE_r0, jF_l, jE_r2, jF_v, jF_c, jV_t, jE_al, jF_m, jF_e, jF_z, jV_a, jO_a⟩ B0 B1 B2 _ (One.val rfl) (o_rE (o_gen hl4 rfl hc459) hls)
set_option maxRecDepth 65536 in
set_option maxHeartbeats 40000000 in
theorem o_p36_1_1 {l : Launch} {Z : State} {a0 : Array Value} {r0 : Addr} {r1 : Addr} {r2 : Addr} {cl_e : Cell} {cl_c : Cell} {fm : Value} {t2 : Addr} {k2 : ClassId} {q_N : Int32} {q_vs : List Value} {cs : List Int32} {c_0 : Addr} {c_1 : Addr} {c_2 : Addr} {c_3 : Addr} {c_4 : Addr} {s_e : Addr} {x_hi : Int32} {s_c : Addr} {z_cs : Int32} {h0 : Heap} {n0 : Nat} {p : Program} {s : State} {m : MethodId} {meth : Method} {c : Code} {e : Env} {below : List Frame} (hP : o_P6 Z a0 r0 r1 r2 cl_e cl_c fm t2 k2 q_N q_vs cs c_0 c_1 c_2 c_3 c_4 s_e x_hi s_c z_cs h0 n0) (hB : o_X6 Z p s m meth c) {T0 : State} {L0 : List Loc} {hh : Heap} (X0 : Stand p l e o_R6 s m #[(.ref r0), (.ref r1), (.ref r2)] below meth c T0 L0 2 13) (e0 : T0.heap = hh) (N0 : Fr n0 L0) {al q_a : Addr} {k_a : ClassId} {ad0 : Addr} {w0 : Int32} (hJ : o_J6 Z h0 n0 r0 r2 t2 k2 q_N q_vs hh al q_a k_a (1 : Int32) [(.ref ad0), .null, .null, .null, .null, .null, .null, .null, .null, .null]) (B0 : o_A6 Z ad0 w0) (hls : o_ls cs = [w0] ++ o_rest 1 (cs.drop 1)) : o_Goes p e below (o_End s o_R6 (o_Q6 Z r0 cs h0 n0)) (T0.setTop (mkF m 36 #[.val (.ref r0), .val (.ref r1), .val (.ref r2), .val (.ref al), .val (.int 1)] [])) := by
 obtain ⟨hw, Z0, g_r0, O0, A_e, z_e, A_c, z_c, h_hi, t_c0, E_c0, F_c0, t_c1, E_c1, F_c1, t_c2, E_c2, F_c2, t_c3, E_c3, F_c3, t_c4, E_c4, F_c4, S_fm, rf, z_CS, hcd, hbd, hl4, hl4', ne_r0_r2, ne_r0_t2, S_s_e, S_x_hi, S_s_c, S_z_cs⟩ := id hP
 obtain ⟨hx, hby, hml, hown, hret, hlk, hZ, hnm⟩ := id hB
 obtain ⟨Z1, O1, KK, g_al, g_q_a, sz_al, sz_q_a, ne_r0_al, ne_r0_q_a, ne_r2_al, ne_r2_q_a, ne_t2_al, ne_t2_q_a, ne_al_q_a, jE_r0, jF_l, jE_r2, jF_v, jF_c, jV_t, jE_al, jF_m, jF_e, jF_z, jV_a, jO_a⟩ := hJ
 refine o_gi (XS.iload X0.here hx rfl (hb hby o_d6_36) rfl) ?_
 refine o_gi (XS.aloadN X0.here hx rfl (hb hby o_d6_38) rfl rfl) ?_
 show o_Gs p e below _ T0 m 39 #[.val (.ref r0), .val (.ref r1), .val (.ref r2), .val (.ref al), .val (.int 1)] [(.ref r2), (.int 1)]
 obtain ⟨T469, X469, e469, st469⟩ := o_callLen X0 hx hZ hown (hw _ o_t108) (hw _ o_t109) (hw _ o_t111) (hw _ o_t110) (hw _ o_t10) (o_hwl hw) jE_r2 jF_v jF_c jV_t hcd hbd hl4' (S_z_cs.ext O1.2) z_CS (nn := (Int32.ofNat cs.length)) rfl e0 (pc := 39) (Ls := #[.val (.ref r0), .val (.ref r1), .val (.ref r2), .val (.ref al), .val (.int 1)]) (rest := [(.int 1)]) (W := 1) (by rw [hml]; rfl) (Nat.le_of_eq rfl) (by decide) (by decide) (hb hby o_d6_39) (by decide) (by decide)
 refine o_go st469 ?_
 show o_Gs p e below _ T469 m 42 #[.val (.ref r0), .val (.ref r1), .val (.ref r2), .val (.ref al), .val (.int 1)] [(.int (Int32.ofNat cs.length)), (.int 1)]
 by_cases hc470 : (1 : Int32) < (Int32.ofNat cs.length)
 ·refine o_gi (XS.icmpNo X469.here hx rfl (hb hby o_d6_42) rfl (tlt hc470).2.1) ?_
  refine o_gi (XS.aloadN X469.here hx rfl (hb hby o_d6_45) rfl rfl) ?_
  refine o_gi (XS.iload X469.here hx rfl (hb hby o_d6_46) rfl) ?_
  show o_Gs p e below _ T469 m 48 #[.val (.ref r0), .val (.ref r1), .val (.ref r2), .val (.ref al), .val (.int 1)] [(.int 1), (.ref r2)]
  obtain ⟨T471, X471, e471, st471⟩ := o_callCh X469 hx hZ hown (hw _ o_t178) (hw _ o_t179) (hw _ o_t181) (hw _ o_t180) (hw _ o_t10) (o_hwc hw) jE_r2 jF_v jF_c jV_t hcd hbd hl4' (S_z_cs.ext O1.2) z_CS (S_fm.ext O1.2) rf (i := 1) (u := (cs.getD 1 0)) (o_ltn hl4 rfl hc470) rfl rfl e469 (pc := 48) (Ls := #[.val (.ref r0), .val (.ref r1), .val (.ref r2), .val (.ref al), .val (.int 1)]) (rest := []) (W := 0) (by rw [hml]; rfl) (Nat.le_of_eq rfl) (by decide) (by decide) (hb hby o_d6_48) (by decide) (by decide)
  refine o_go st471 ?_
  refine o_gi (XS.bipush X471.here hx rfl (hb hby o_d6_51)) ?_
  show o_Gs p e below _ T471 m 53 #[.val (.ref r0), .val (.ref r1), .val (.ref r2), .val (.ref al), .val (.int 1)] [(.int 10), (.int (cs.getD 1 0))]
  by_cases hc472 : (cs.getD 1 0) = (10 : Int32)
  ·refine o_gi (XS.icmpNo X471.here hx rfl (hb hby o_d6_53) rfl (teq hc472).2) ?_
   refine o_gi (XS.aloadN X471.here hx rfl (hb hby o_d6_56) rfl rfl) ?_
   refine o_gi (XS.iload X471.here hx rfl (hb hby o_d6_57) rfl) ?_
   refine o_gi (XS.iconst X471.here hx rfl (hb hby o_d6_59)) ?_
   show o_Gs p e below _ T471 m 60 #[.val (.ref r0), .val (.ref r1), .val (.ref r2), .val (.ref al), .val (.int 1)] [(.int 1), (.int 1), (.ref al)]
   refine o_gi (XS.iadd X471.here hx rfl (hb hby o_d6_60) rfl) ?_
   show o_Gs p e below _ T471 m 61 #[.val (.ref r0), .val (.ref r1), .val (.ref r2), .val (.ref al), .val (.int 1)] [(.int ((1 : Int32) + (1 : Int32))), (.ref al)]
   rw [show ((1 : Int32) + (1 : Int32)) = (2 : Int32) from by decide]
   show o_Gs p e below _ T471 m 61 #[.val (.ref r0), .val (.ref r1), .val (.ref r2), .val (.ref al), .val (.int 1)] [(.int 2), (.ref al)]
   obtain ⟨_, T473, L473, X473, ⟨rfl, N473q, e473⟩, st473⟩ := o_callS X471 hx hZ hown (hw _ o_t66) (hw _ o_t67) (hw _ o_t68) (hw _ o_t69) (by decide) (as := [(.int 2)]) (rm10_2 l Z a0 hw [] c_2 cl_c x_hi s_c hh n0 Z1 O1 A_c z_c h_hi t_c2 S_x_hi S_s_c) e471 o_pd8 rfl (pc := 61) (Ls := #[.val (.ref r0), .val (.ref r1), .val (.ref r2), .val (.ref al), .val (.int 1)]) (rest := [(.ref al)]) (W := 1) (by rw [hml]; rfl) (Nat.le_of_eq rfl) (by decide) (by decide) (hb hby o_d6_61) (by decide) (by decide)
   have N473 := Fr.app N0 N473q
   refine o_go st473 ?_
   show o_Gs p e below _ T473 m 64 #[.val (.ref r0), .val (.ref r1), .val (.ref r2), .val (.ref al), .val (.int 1)] [(.ref c_2), (.ref al)]
   obtain ⟨_, T474, L474, X474, ⟨rfl, N474q, K474, G474_0, G474_1, G474_2, G474_3, G474_4, G474_5⟩, st474⟩ := o_callF X473 hx hZ hown (mvT hZ (hw _ o_t73)) (mvT hZ (hw _ o_t74)) (mvT hZ (hw _ o_t75)) (mvT hZ (hw _ o_t76)) (mvT hZ (hw _ o_t77)) (mvT hZ (hw _ o_t78)) (mvT hZ (hw _ o_t79)) (mvT hZ (hw _ o_t80)) (hw _ o_t44) (hw _ o_t81) (by decide) (b := al) (as := [(.ref c_2)]) (rm11_1 l Z a0 hw [] al c_2 q_a k_a ad0 hh n0 Z1 g_al g_q_a jE_al (E_c2.ext O1.2) jF_m jF_e jF_z jV_a jO_a ne_al_q_a) e473 jE_al o_pd9 rfl (pc := 64) (Ls := #[.val (.ref r0), .val (.ref r1), .val (.ref r2), .val (.ref al), .val (.int 1)]) (rest := []) (W := 0) (by rw [hml]; rfl) (Nat.le_of_eq rfl) (by decide) (by decide) (hb hby o_d6_64) (by decide) (by decide)
   have N474 := Fr.app N473 N474q
   refine o_go st474 ?_
   refine o_gi (XS.pop X474.here hx rfl (hb hby o_d6_69) rfl rfl) ?_
   show o_Gs p e below _ T474 m 70 #[.val (.ref r0), .val (.ref r1), .val (.ref r2), .val (.ref al), .val (.int 1)] []
   refine o_gi (XS.iinc X474.here hx rfl (hb hby o_d6_70) rfl (l' := #[.val (.ref r0), .val (.ref r1), .val (.ref r2), .val (.ref al), .val (.int ((1 : Int32) + (1 : Int32)))]) rfl) ?_
   show o_Gs p e below _ T474 m 73 #[.val (.ref r0), .val (.ref r1), .val (.ref r2), .val (.ref al), .val (.int ((1 : Int32) + (1 : Int32)))] []
   rw [show ((1 : Int32) + (1 : Int32)) = (2 : Int32) from by decide]
   refine o_gi (XS.goto X474.here hx rfl (pc0 := 73) (pc' := 36) rfl (hb hby o_d6_73) (by decide) (by decide)) ?_
   have ff475 : Fld Z T474.heap r0 "com/example/foothold/foothold/SourceFile" "lineStarts" "[I" .null := (jF_l.keep K474 (ninS ne_r0_al (ninS ne_r0_q_a nin0)))
   have ff476 : Fld Z T474.heap r2 "java/lang/String" "value" "[B" (.ref t2) := (jF_v.keep K474 (ninS ne_r2_al (ninS ne_r2_q_a nin0)))
   have ff477 : Fld Z T474.heap r2 "java/lang/String" "coder" "B" (.int 0) := (jF_c.keep K474 (ninS ne_r2_al (ninS ne_r2_q_a nin0)))
   have ff478 : Arv Z T474.heap t2 k2 .byte q_N q_vs (.int 0) := (jV_t.keep K474 (ninS ne_t2_al (ninS ne_t2_q_a nin0)))
   have oo479 : Old Z n0 T474.heap := (O1.keep K474 (allS g_al (allS g_q_a all0)))
   exact o_p36_2_2 hP hB X474 rfl N474 ⟨(Nat.le_trans Z1 K474.1), oo479, (KK.trans K474 (allS (P := fun x => x ∈ ([r0] : List Addr) ∨ h0.size ≤ x) (Or.inr sz_al) (allS (P := fun x => x ∈ ([r0] : List Addr) ∨ h0.size ≤ x) (Or.inr sz_q_a) all0))), g_al, g_q_a, sz_al, sz_q_a, ne_r0_al, ne_r0_q_a, ne_r2_al, ne_r2_q_a, ne_t2_al, ne_t2_q_a, ne_al_q_a, (jE_r0.keep K474), ff475, (jE_r2.keep K474), ff476, ff477, ff478, G474_0, G474_1, G474_2, G474_3, G474_4, G474_5⟩ B0 ⟨E_c2, F_c2⟩ (o_r1 (o_ltn hl4 rfl hc470) hc472 hls)
  ·refine o_gi (XS.icmpYes X471.here hx rfl (pc0 := 53) (pc' := 70) rfl (hb hby o_d6_53) rfl (feq hc472).2 (by decide) (by decide)) ?_
   show o_Gs p e below _ T471 m 70 #[.val (.ref r0), .val (.ref r1), .val (.ref r2), .val (.ref al), .val (.int 1)] []
   refine o_gi (XS.iinc X471.here hx rfl (hb hby o_d6_70) rfl (l' := #[.val (.ref r0), .val (.ref r1), .val (.ref r2), .val (.ref al), .val (.int ((1 : Int32) + (1 : Int32)))]) rfl) ?_
   show o_Gs p e below _ T471 m 73 #[.val (.ref r0), .val (.ref r1), .val (.ref r2), .val (.ref al), .val (.int ((1 : Int32) + (1 : Int32)))] []
   rw [show ((1 : Int32) + (1 : Int32)) = (2 : Int32) from by decide]
   refine o_gi (XS.goto X471.here hx rfl (pc0 := 73) (pc' := 36) rfl (hb hby o_d6_73) (by decide) (by decide)) ?_
   exact o_p36_2_1 hP hB X471 e471 N0 ⟨Z1, O1, KK, g_al, g_q_a, sz_al, sz_q_a, ne_r0_al, ne_r0_q_a, ne_r2_al, ne_r2_q_a, ne_t2_al, ne_t2_q_a, ne_al_q_a, jE_r0, jF_l, jE_r2, jF_v, jF_c, jV_t, jE_al, jF_m, jF_e, jF_z, jV_a, jO_a⟩ B0 (o_r0 (o_ltn hl4 rfl hc470) hc472 hls)
 ·refine o_gi (XS.icmpYes X469.here hx rfl (pc0 := 42) (pc' := 76) rfl (hb hby o_d6_42) rfl (flt hc470).2.1 (by decide) (by decide)) ?_
  exact o_t76_1 hP hB X469 e469 N0 ⟨Z1, O1, KK, g_al, g_q_a, sz_al, sz_q_a, ne_r0_al, ne_r0_q_a, ne_r2_al, ne_r2_q_a, ne_t2_al, ne_t2_q_a, ne_al_q_a, jE_r0, jF_l, jE_r2, jF_v, jF_c, jV_t, jE_al, jF_m, jF_e, jF_z, jV_a, jO_a⟩ B0 _ (One.val rfl) (o_rE (o_gen hl4 rfl hc470) hls)
set_option maxRecDepth 65536 in
set_option maxHeartbeats 40000000 in
theorem o_p36_1_2 {l : Launch} {Z : State} {a0 : Array Value} {r0 : Addr} {r1 : Addr} {r2 : Addr} {cl_e : Cell} {cl_c : Cell} {fm : Value} {t2 : Addr} {k2 : ClassId} {q_N : Int32} {q_vs : List Value} {cs : List Int32} {c_0 : Addr} {c_1 : Addr} {c_2 : Addr} {c_3 : Addr} {c_4 : Addr} {s_e : Addr} {x_hi : Int32} {s_c : Addr} {z_cs : Int32} {h0 : Heap} {n0 : Nat} {p : Program} {s : State} {m : MethodId} {meth : Method} {c : Code} {e : Env} {below : List Frame} (hP : o_P6 Z a0 r0 r1 r2 cl_e cl_c fm t2 k2 q_N q_vs cs c_0 c_1 c_2 c_3 c_4 s_e x_hi s_c z_cs h0 n0) (hB : o_X6 Z p s m meth c) {T0 : State} {L0 : List Loc} {hh : Heap} (X0 : Stand p l e o_R6 s m #[(.ref r0), (.ref r1), (.ref r2)] below meth c T0 L0 2 13) (e0 : T0.heap = hh) (N0 : Fr n0 L0) {al q_a : Addr} {k_a : ClassId} {ad0 : Addr} {w0 : Int32} {ad1 : Addr} {w1 : Int32} (hJ : o_J6 Z h0 n0 r0 r2 t2 k2 q_N q_vs hh al q_a k_a (2 : Int32) [(.ref ad0), (.ref ad1), .null, .null, .null, .null, .null, .null, .null, .null]) (B0 : o_A6 Z ad0 w0) (B1 : o_A6 Z ad1 w1) (hls : o_ls cs = [w0, w1] ++ o_rest 1 (cs.drop 1)) : o_Goes p e below (o_End s o_R6 (o_Q6 Z r0 cs h0 n0)) (T0.setTop (mkF m 36 #[.val (.ref r0), .val (.ref r1), .val (.ref r2), .val (.ref al), .val (.int 1)] [])) := by
 obtain ⟨hw, Z0, g_r0, O0, A_e, z_e, A_c, z_c, h_hi, t_c0, E_c0, F_c0, t_c1, E_c1, F_c1, t_c2, E_c2, F_c2, t_c3, E_c3, F_c3, t_c4, E_c4, F_c4, S_fm, rf, z_CS, hcd, hbd, hl4, hl4', ne_r0_r2, ne_r0_t2, S_s_e, S_x_hi, S_s_c, S_z_cs⟩ := id hP
 obtain ⟨hx, hby, hml, hown, hret, hlk, hZ, hnm⟩ := id hB
 obtain ⟨Z1, O1, KK, g_al, g_q_a, sz_al, sz_q_a, ne_r0_al, ne_r0_q_a, ne_r2_al, ne_r2_q_a, ne_t2_al, ne_t2_q_a, ne_al_q_a, jE_r0, jF_l, jE_r2, jF_v, jF_c, jV_t, jE_al, jF_m, jF_e, jF_z, jV_a, jO_a⟩ := hJ
 refine o_gi (XS.iload X0.here hx rfl (hb hby o_d6_36) rfl) ?_
 refine o_gi (XS.aloadN X0.here hx rfl (hb hby o_d6_38) rfl rfl) ?_
 show o_Gs p e below _ T0 m 39 #[.val (.ref r0), .val (.ref r1), .val (.ref r2), .val (.ref al), .val (.int 1)] [(.ref r2), (.int 1)]
 obtain ⟨T480, X480, e480, st480⟩ := o_callLen X0 hx hZ hown (hw _ o_t108) (hw _ o_t109) (hw _ o_t111) (hw _ o_t110) (hw _ o_t10) (o_hwl hw) jE_r2 jF_v jF_c jV_t hcd hbd hl4' (S_z_cs.ext O1.2) z_CS (nn := (Int32.ofNat cs.length)) rfl e0 (pc := 39) (Ls := #[.val (.ref r0), .val (.ref r1), .val (.ref r2), .val (.ref al), .val (.int 1)]) (rest := [(.int 1)]) (W := 1) (by rw [hml]; rfl) (Nat.le_of_eq rfl) (by decide) (by decide) (hb hby o_d6_39) (by decide) (by decide)
 refine o_go st480 ?_
 show o_Gs p e below _ T480 m 42 #[.val (.ref r0), .val (.ref r1), .val (.ref r2), .val (.ref al), .val (.int 1)] [(.int (Int32.ofNat cs.length)), (.int 1)]
 by_cases hc481 : (1 : Int32) < (Int32.ofNat cs.length)
 ·refine o_gi (XS.icmpNo X480.here hx rfl (hb hby o_d6_42) rfl (tlt hc481).2.1) ?_
  refine o_gi (XS.aloadN X480.here hx rfl (hb hby o_d6_45) rfl rfl) ?_
  refine o_gi (XS.iload X480.here hx rfl (hb hby o_d6_46) rfl) ?_
  show o_Gs p e below _ T480 m 48 #[.val (.ref r0), .val (.ref r1), .val (.ref r2), .val (.ref al), .val (.int 1)] [(.int 1), (.ref r2)]
  obtain ⟨T482, X482, e482, st482⟩ := o_callCh X480 hx hZ hown (hw _ o_t178) (hw _ o_t179) (hw _ o_t181) (hw _ o_t180) (hw _ o_t10) (o_hwc hw) jE_r2 jF_v jF_c jV_t hcd hbd hl4' (S_z_cs.ext O1.2) z_CS (S_fm.ext O1.2) rf (i := 1) (u := (cs.getD 1 0)) (o_ltn hl4 rfl hc481) rfl rfl e480 (pc := 48) (Ls := #[.val (.ref r0), .val (.ref r1), .val (.ref r2), .val (.ref al), .val (.int 1)]) (rest := []) (W := 0) (by rw [hml]; rfl) (Nat.le_of_eq rfl) (by decide) (by decide) (hb hby o_d6_48) (by decide) (by decide)
  refine o_go st482 ?_
  refine o_gi (XS.bipush X482.here hx rfl (hb hby o_d6_51)) ?_
  show o_Gs p e below _ T482 m 53 #[.val (.ref r0), .val (.ref r1), .val (.ref r2), .val (.ref al), .val (.int 1)] [(.int 10), (.int (cs.getD 1 0))]
  by_cases hc483 : (cs.getD 1 0) = (10 : Int32)
  ·refine o_gi (XS.icmpNo X482.here hx rfl (hb hby o_d6_53) rfl (teq hc483).2) ?_
   refine o_gi (XS.aloadN X482.here hx rfl (hb hby o_d6_56) rfl rfl) ?_
   refine o_gi (XS.iload X482.here hx rfl (hb hby o_d6_57) rfl) ?_
   refine o_gi (XS.iconst X482.here hx rfl (hb hby o_d6_59)) ?_
   show o_Gs p e below _ T482 m 60 #[.val (.ref r0), .val (.ref r1), .val (.ref r2), .val (.ref al), .val (.int 1)] [(.int 1), (.int 1), (.ref al)]
   refine o_gi (XS.iadd X482.here hx rfl (hb hby o_d6_60) rfl) ?_
   show o_Gs p e below _ T482 m 61 #[.val (.ref r0), .val (.ref r1), .val (.ref r2), .val (.ref al), .val (.int 1)] [(.int ((1 : Int32) + (1 : Int32))), (.ref al)]
   rw [show ((1 : Int32) + (1 : Int32)) = (2 : Int32) from by decide]
   show o_Gs p e below _ T482 m 61 #[.val (.ref r0), .val (.ref r1), .val (.ref r2), .val (.ref al), .val (.int 1)] [(.int 2), (.ref al)]
   obtain ⟨_, T484, L484, X484, ⟨rfl, N484q, e484⟩, st484⟩ := o_callS X482 hx hZ hown (hw _ o_t66) (hw _ o_t67) (hw _ o_t68) (hw _ o_t69) (by decide) (as := [(.int 2)]) (rm10_2 l Z a0 hw [] c_2 cl_c x_hi s_c hh n0 Z1 O1 A_c z_c h_hi t_c2 S_x_hi S_s_c) e482 o_pd8 rfl (pc := 61) (Ls := #[.val (.ref r0), .val (.ref r1), .val (.ref r2), .val (.ref al), .val (.int 1)]) (rest := [(.ref al)]) (W := 1) (by rw [hml]; rfl) (Nat.le_of_eq rfl) (by decide) (by decide) (hb hby o_d6_61) (by decide) (by decide)
   have N484 := Fr.app N0 N484q
   refine o_go st484 ?_
   show o_Gs p e below _ T484 m 64 #[.val (.ref r0), .val (.ref r1), .val (.ref r2), .val (.ref al), .val (.int 1)] [(.ref c_2), (.ref al)]
   obtain ⟨_, T485, L485, X485, ⟨rfl, N485q, K485, G485_0, G485_1, G485_2, G485_3, G485_4, G485_5⟩, st485⟩ := o_callF X484 hx hZ hown (mvT hZ (hw _ o_t73)) (mvT hZ (hw _ o_t74)) (mvT hZ (hw _ o_t75)) (mvT hZ (hw _ o_t76)) (mvT hZ (hw _ o_t77)) (mvT hZ (hw _ o_t78)) (mvT hZ (hw _ o_t79)) (mvT hZ (hw _ o_t80)) (hw _ o_t44) (hw _ o_t81) (by decide) (b := al) (as := [(.ref c_2)]) (rm11_2 l Z a0 hw [] al c_2 q_a k_a ad0 ad1 hh n0 Z1 g_al g_q_a jE_al (E_c2.ext O1.2) jF_m jF_e jF_z jV_a jO_a ne_al_q_a) e484 jE_al o_pd9 rfl (pc := 64) (Ls := #[.val (.ref r0), .val (.ref r1), .val (.ref r2), .val (.ref al), .val (.int 1)]) (rest := []) (W := 0) (by rw [hml]; rfl) (Nat.le_of_eq rfl) (by decide) (by decide) (hb hby o_d6_64) (by decide) (by decide)
   have N485 := Fr.app N484 N485q
   refine o_go st485 ?_
   refine o_gi (XS.pop X485.here hx rfl (hb hby o_d6_69) rfl rfl) ?_
   show o_Gs p e below _ T485 m 70 #[.val (.ref r0), .val (.ref r1), .val (.ref r2), .val (.ref al), .val (.int 1)] []
   refine o_gi (XS.iinc X485.here hx rfl (hb hby o_d6_70) rfl (l' := #[.val (.ref r0), .val (.ref r1), .val (.ref r2), .val (.ref al), .val (.int ((1 : Int32) + (1 : Int32)))]) rfl) ?_
   show o_Gs p e below _ T485 m 73 #[.val (.ref r0), .val (.ref r1), .val (.ref r2), .val (.ref al), .val (.int ((1 : Int32) + (1 : Int32)))] []
   rw [show ((1 : Int32) + (1 : Int32)) = (2 : Int32) from by decide]
   refine o_gi (XS.goto X485.here hx rfl (pc0 := 73) (pc' := 36) rfl (hb hby o_d6_73) (by decide) (by decide)) ?_
   have ff486 : Fld Z T485.heap r0 "com/example/foothold/foothold/SourceFile" "lineStarts" "[I" .null := (jF_l.keep K485 (ninS ne_r0_al (ninS ne_r0_q_a nin0)))
   have ff487 : Fld Z T485.heap r2 "java/lang/String" "value" "[B" (.ref t2) := (jF_v.keep K485 (ninS ne_r2_al (ninS ne_r2_q_a nin0)))
   have ff488 : Fld Z T485.heap r2 "java/lang/String" "coder" "B" (.int 0) := (jF_c.keep K485 (ninS ne_r2_al (ninS ne_r2_q_a nin0)))
   have ff489 : Arv Z T485.heap t2 k2 .byte q_N q_vs (.int 0) := (jV_t.keep K485 (ninS ne_t2_al (ninS ne_t2_q_a nin0)))
   have oo490 : Old Z n0 T485.heap := (O1.keep K485 (allS g_al (allS g_q_a all0)))
   exact o_p36_2_3 hP hB X485 rfl N485 ⟨(Nat.le_trans Z1 K485.1), oo490, (KK.trans K485 (allS (P := fun x => x ∈ ([r0] : List Addr) ∨ h0.size ≤ x) (Or.inr sz_al) (allS (P := fun x => x ∈ ([r0] : List Addr) ∨ h0.size ≤ x) (Or.inr sz_q_a) all0))), g_al, g_q_a, sz_al, sz_q_a, ne_r0_al, ne_r0_q_a, ne_r2_al, ne_r2_q_a, ne_t2_al, ne_t2_q_a, ne_al_q_a, (jE_r0.keep K485), ff486, (jE_r2.keep K485), ff487, ff488, ff489, G485_0, G485_1, G485_2, G485_3, G485_4, G485_5⟩ B0 B1 ⟨E_c2, F_c2⟩ (o_r1 (o_ltn hl4 rfl hc481) hc483 hls)
  ·refine o_gi (XS.icmpYes X482.here hx rfl (pc0 := 53) (pc' := 70) rfl (hb hby o_d6_53) rfl (feq hc483).2 (by decide) (by decide)) ?_
   show o_Gs p e below _ T482 m 70 #[.val (.ref r0), .val (.ref r1), .val (.ref r2), .val (.ref al), .val (.int 1)] []
   refine o_gi (XS.iinc X482.here hx rfl (hb hby o_d6_70) rfl (l' := #[.val (.ref r0), .val (.ref r1), .val (.ref r2), .val (.ref al), .val (.int ((1 : Int32) + (1 : Int32)))]) rfl) ?_
   show o_Gs p e below _ T482 m 73 #[.val (.ref r0), .val (.ref r1), .val (.ref r2), .val (.ref al), .val (.int ((1 : Int32) + (1 : Int32)))] []
   rw [show ((1 : Int32) + (1 : Int32)) = (2 : Int32) from by decide]
   refine o_gi (XS.goto X482.here hx rfl (pc0 := 73) (pc' := 36) rfl (hb hby o_d6_73) (by decide) (by decide)) ?_
   exact o_p36_2_2 hP hB X482 e482 N0 ⟨Z1, O1, KK, g_al, g_q_a, sz_al, sz_q_a, ne_r0_al, ne_r0_q_a, ne_r2_al, ne_r2_q_a, ne_t2_al, ne_t2_q_a, ne_al_q_a, jE_r0, jF_l, jE_r2, jF_v, jF_c, jV_t, jE_al, jF_m, jF_e, jF_z, jV_a, jO_a⟩ B0 B1 (o_r0 (o_ltn hl4 rfl hc481) hc483 hls)
 ·refine o_gi (XS.icmpYes X480.here hx rfl (pc0 := 42) (pc' := 76) rfl (hb hby o_d6_42) rfl (flt hc481).2.1 (by decide) (by decide)) ?_
  exact o_t76_2 hP hB X480 e480 N0 ⟨Z1, O1, KK, g_al, g_q_a, sz_al, sz_q_a, ne_r0_al, ne_r0_q_a, ne_r2_al, ne_r2_q_a, ne_t2_al, ne_t2_q_a, ne_al_q_a, jE_r0, jF_l, jE_r2, jF_v, jF_c, jV_t, jE_al, jF_m, jF_e, jF_z, jV_a, jO_a⟩ B0 B1 _ (One.val rfl) (o_rE (o_gen hl4 rfl hc481) hls)
set_option maxRecDepth 65536 in
set_option maxHeartbeats 40000000 in
theorem o_p36_0_1 {l : Launch} {Z : State} {a0 : Array Value} {r0 : Addr} {r1 : Addr} {r2 : Addr} {cl_e : Cell} {cl_c : Cell} {fm : Value} {t2 : Addr} {k2 : ClassId} {q_N : Int32} {q_vs : List Value} {cs : List Int32} {c_0 : Addr} {c_1 : Addr} {c_2 : Addr} {c_3 : Addr} {c_4 : Addr} {s_e : Addr} {x_hi : Int32} {s_c : Addr} {z_cs : Int32} {h0 : Heap} {n0 : Nat} {p : Program} {s : State} {m : MethodId} {meth : Method} {c : Code} {e : Env} {below : List Frame} (hP : o_P6 Z a0 r0 r1 r2 cl_e cl_c fm t2 k2 q_N q_vs cs c_0 c_1 c_2 c_3 c_4 s_e x_hi s_c z_cs h0 n0) (hB : o_X6 Z p s m meth c) {T0 : State} {L0 : List Loc} {hh : Heap} (X0 : Stand p l e o_R6 s m #[(.ref r0), (.ref r1), (.ref r2)] below meth c T0 L0 2 13) (e0 : T0.heap = hh) (N0 : Fr n0 L0) {al q_a : Addr} {k_a : ClassId} {ad0 : Addr} {w0 : Int32} (hJ : o_J6 Z h0 n0 r0 r2 t2 k2 q_N q_vs hh al q_a k_a (1 : Int32) [(.ref ad0), .null, .null, .null, .null, .null, .null, .null, .null, .null]) (B0 : o_A6 Z ad0 w0) (hls : o_ls cs = [w0] ++ o_rest 0 (cs.drop 0)) : o_Goes p e below (o_End s o_R6 (o_Q6 Z r0 cs h0 n0)) (T0.setTop (mkF m 36 #[.val (.ref r0), .val (.ref r1), .val (.ref r2), .val (.ref al), .val (.int 0)] [])) := by
 obtain ⟨hw, Z0, g_r0, O0, A_e, z_e, A_c, z_c, h_hi, t_c0, E_c0, F_c0, t_c1, E_c1, F_c1, t_c2, E_c2, F_c2, t_c3, E_c3, F_c3, t_c4, E_c4, F_c4, S_fm, rf, z_CS, hcd, hbd, hl4, hl4', ne_r0_r2, ne_r0_t2, S_s_e, S_x_hi, S_s_c, S_z_cs⟩ := id hP
 obtain ⟨hx, hby, hml, hown, hret, hlk, hZ, hnm⟩ := id hB
 obtain ⟨Z1, O1, KK, g_al, g_q_a, sz_al, sz_q_a, ne_r0_al, ne_r0_q_a, ne_r2_al, ne_r2_q_a, ne_t2_al, ne_t2_q_a, ne_al_q_a, jE_r0, jF_l, jE_r2, jF_v, jF_c, jV_t, jE_al, jF_m, jF_e, jF_z, jV_a, jO_a⟩ := hJ
 refine o_gi (XS.iload X0.here hx rfl (hb hby o_d6_36) rfl) ?_
 refine o_gi (XS.aloadN X0.here hx rfl (hb hby o_d6_38) rfl rfl) ?_
 show o_Gs p e below _ T0 m 39 #[.val (.ref r0), .val (.ref r1), .val (.ref r2), .val (.ref al), .val (.int 0)] [(.ref r2), (.int 0)]
 obtain ⟨T491, X491, e491, st491⟩ := o_callLen X0 hx hZ hown (hw _ o_t108) (hw _ o_t109) (hw _ o_t111) (hw _ o_t110) (hw _ o_t10) (o_hwl hw) jE_r2 jF_v jF_c jV_t hcd hbd hl4' (S_z_cs.ext O1.2) z_CS (nn := (Int32.ofNat cs.length)) rfl e0 (pc := 39) (Ls := #[.val (.ref r0), .val (.ref r1), .val (.ref r2), .val (.ref al), .val (.int 0)]) (rest := [(.int 0)]) (W := 1) (by rw [hml]; rfl) (Nat.le_of_eq rfl) (by decide) (by decide) (hb hby o_d6_39) (by decide) (by decide)
 refine o_go st491 ?_
 show o_Gs p e below _ T491 m 42 #[.val (.ref r0), .val (.ref r1), .val (.ref r2), .val (.ref al), .val (.int 0)] [(.int (Int32.ofNat cs.length)), (.int 0)]
 by_cases hc492 : (0 : Int32) < (Int32.ofNat cs.length)
 ·refine o_gi (XS.icmpNo X491.here hx rfl (hb hby o_d6_42) rfl (tlt hc492).2.1) ?_
  refine o_gi (XS.aloadN X491.here hx rfl (hb hby o_d6_45) rfl rfl) ?_
  refine o_gi (XS.iload X491.here hx rfl (hb hby o_d6_46) rfl) ?_
  show o_Gs p e below _ T491 m 48 #[.val (.ref r0), .val (.ref r1), .val (.ref r2), .val (.ref al), .val (.int 0)] [(.int 0), (.ref r2)]
  obtain ⟨T493, X493, e493, st493⟩ := o_callCh X491 hx hZ hown (hw _ o_t178) (hw _ o_t179) (hw _ o_t181) (hw _ o_t180) (hw _ o_t10) (o_hwc hw) jE_r2 jF_v jF_c jV_t hcd hbd hl4' (S_z_cs.ext O1.2) z_CS (S_fm.ext O1.2) rf (i := 0) (u := (cs.getD 0 0)) (o_ltn hl4 rfl hc492) rfl rfl e491 (pc := 48) (Ls := #[.val (.ref r0), .val (.ref r1), .val (.ref r2), .val (.ref al), .val (.int 0)]) (rest := []) (W := 0) (by rw [hml]; rfl) (Nat.le_of_eq rfl) (by decide) (by decide) (hb hby o_d6_48) (by decide) (by decide)
  refine o_go st493 ?_
  refine o_gi (XS.bipush X493.here hx rfl (hb hby o_d6_51)) ?_
  show o_Gs p e below _ T493 m 53 #[.val (.ref r0), .val (.ref r1), .val (.ref r2), .val (.ref al), .val (.int 0)] [(.int 10), (.int (cs.getD 0 0))]
  by_cases hc494 : (cs.getD 0 0) = (10 : Int32)
  ·refine o_gi (XS.icmpNo X493.here hx rfl (hb hby o_d6_53) rfl (teq hc494).2) ?_
   refine o_gi (XS.aloadN X493.here hx rfl (hb hby o_d6_56) rfl rfl) ?_
   refine o_gi (XS.iload X493.here hx rfl (hb hby o_d6_57) rfl) ?_
   refine o_gi (XS.iconst X493.here hx rfl (hb hby o_d6_59)) ?_
   show o_Gs p e below _ T493 m 60 #[.val (.ref r0), .val (.ref r1), .val (.ref r2), .val (.ref al), .val (.int 0)] [(.int 1), (.int 0), (.ref al)]
   refine o_gi (XS.iadd X493.here hx rfl (hb hby o_d6_60) rfl) ?_
   show o_Gs p e below _ T493 m 61 #[.val (.ref r0), .val (.ref r1), .val (.ref r2), .val (.ref al), .val (.int 0)] [(.int ((0 : Int32) + (1 : Int32))), (.ref al)]
   rw [show ((0 : Int32) + (1 : Int32)) = (1 : Int32) from by decide]
   show o_Gs p e below _ T493 m 61 #[.val (.ref r0), .val (.ref r1), .val (.ref r2), .val (.ref al), .val (.int 0)] [(.int 1), (.ref al)]
   obtain ⟨_, T495, L495, X495, ⟨rfl, N495q, e495⟩, st495⟩ := o_callS X493 hx hZ hown (hw _ o_t66) (hw _ o_t67) (hw _ o_t68) (hw _ o_t69) (by decide) (as := [(.int 1)]) (rm10_1 l Z a0 hw [] c_1 cl_c x_hi s_c hh n0 Z1 O1 A_c z_c h_hi t_c1 S_x_hi S_s_c) e493 o_pd8 rfl (pc := 61) (Ls := #[.val (.ref r0), .val (.ref r1), .val (.ref r2), .val (.ref al), .val (.int 0)]) (rest := [(.ref al)]) (W := 1) (by rw [hml]; rfl) (Nat.le_of_eq rfl) (by decide) (by decide) (hb hby o_d6_61) (by decide) (by decide)
   have N495 := Fr.app N0 N495q
   refine o_go st495 ?_
   show o_Gs p e below _ T495 m 64 #[.val (.ref r0), .val (.ref r1), .val (.ref r2), .val (.ref al), .val (.int 0)] [(.ref c_1), (.ref al)]
   obtain ⟨_, T496, L496, X496, ⟨rfl, N496q, K496, G496_0, G496_1, G496_2, G496_3, G496_4, G496_5⟩, st496⟩ := o_callF X495 hx hZ hown (mvT hZ (hw _ o_t73)) (mvT hZ (hw _ o_t74)) (mvT hZ (hw _ o_t75)) (mvT hZ (hw _ o_t76)) (mvT hZ (hw _ o_t77)) (mvT hZ (hw _ o_t78)) (mvT hZ (hw _ o_t79)) (mvT hZ (hw _ o_t80)) (hw _ o_t44) (hw _ o_t81) (by decide) (b := al) (as := [(.ref c_1)]) (rm11_1 l Z a0 hw [] al c_1 q_a k_a ad0 hh n0 Z1 g_al g_q_a jE_al (E_c1.ext O1.2) jF_m jF_e jF_z jV_a jO_a ne_al_q_a) e495 jE_al o_pd9 rfl (pc := 64) (Ls := #[.val (.ref r0), .val (.ref r1), .val (.ref r2), .val (.ref al), .val (.int 0)]) (rest := []) (W := 0) (by rw [hml]; rfl) (Nat.le_of_eq rfl) (by decide) (by decide) (hb hby o_d6_64) (by decide) (by decide)
   have N496 := Fr.app N495 N496q
   refine o_go st496 ?_
   refine o_gi (XS.pop X496.here hx rfl (hb hby o_d6_69) rfl rfl) ?_
   show o_Gs p e below _ T496 m 70 #[.val (.ref r0), .val (.ref r1), .val (.ref r2), .val (.ref al), .val (.int 0)] []
   refine o_gi (XS.iinc X496.here hx rfl (hb hby o_d6_70) rfl (l' := #[.val (.ref r0), .val (.ref r1), .val (.ref r2), .val (.ref al), .val (.int ((0 : Int32) + (1 : Int32)))]) rfl) ?_
   show o_Gs p e below _ T496 m 73 #[.val (.ref r0), .val (.ref r1), .val (.ref r2), .val (.ref al), .val (.int ((0 : Int32) + (1 : Int32)))] []
   rw [show ((0 : Int32) + (1 : Int32)) = (1 : Int32) from by decide]
   refine o_gi (XS.goto X496.here hx rfl (pc0 := 73) (pc' := 36) rfl (hb hby o_d6_73) (by decide) (by decide)) ?_
   have ff497 : Fld Z T496.heap r0 "com/example/foothold/foothold/SourceFile" "lineStarts" "[I" .null := (jF_l.keep K496 (ninS ne_r0_al (ninS ne_r0_q_a nin0)))
   have ff498 : Fld Z T496.heap r2 "java/lang/String" "value" "[B" (.ref t2) := (jF_v.keep K496 (ninS ne_r2_al (ninS ne_r2_q_a nin0)))
   have ff499 : Fld Z T496.heap r2 "java/lang/String" "coder" "B" (.int 0) := (jF_c.keep K496 (ninS ne_r2_al (ninS ne_r2_q_a nin0)))
   have ff500 : Arv Z T496.heap t2 k2 .byte q_N q_vs (.int 0) := (jV_t.keep K496 (ninS ne_t2_al (ninS ne_t2_q_a nin0)))
   have oo501 : Old Z n0 T496.heap := (O1.keep K496 (allS g_al (allS g_q_a all0)))
   exact o_p36_1_2 hP hB X496 rfl N496 ⟨(Nat.le_trans Z1 K496.1), oo501, (KK.trans K496 (allS (P := fun x => x ∈ ([r0] : List Addr) ∨ h0.size ≤ x) (Or.inr sz_al) (allS (P := fun x => x ∈ ([r0] : List Addr) ∨ h0.size ≤ x) (Or.inr sz_q_a) all0))), g_al, g_q_a, sz_al, sz_q_a, ne_r0_al, ne_r0_q_a, ne_r2_al, ne_r2_q_a, ne_t2_al, ne_t2_q_a, ne_al_q_a, (jE_r0.keep K496), ff497, (jE_r2.keep K496), ff498, ff499, ff500, G496_0, G496_1, G496_2, G496_3, G496_4, G496_5⟩ B0 ⟨E_c1, F_c1⟩ (o_r1 (o_ltn hl4 rfl hc492) hc494 hls)
  ·refine o_gi (XS.icmpYes X493.here hx rfl (pc0 := 53) (pc' := 70) rfl (hb hby o_d6_53) rfl (feq hc494).2 (by decide) (by decide)) ?_
   show o_Gs p e below _ T493 m 70 #[.val (.ref r0), .val (.ref r1), .val (.ref r2), .val (.ref al), .val (.int 0)] []
   refine o_gi (XS.iinc X493.here hx rfl (hb hby o_d6_70) rfl (l' := #[.val (.ref r0), .val (.ref r1), .val (.ref r2), .val (.ref al), .val (.int ((0 : Int32) + (1 : Int32)))]) rfl) ?_
   show o_Gs p e below _ T493 m 73 #[.val (.ref r0), .val (.ref r1), .val (.ref r2), .val (.ref al), .val (.int ((0 : Int32) + (1 : Int32)))] []
   rw [show ((0 : Int32) + (1 : Int32)) = (1 : Int32) from by decide]
   refine o_gi (XS.goto X493.here hx rfl (pc0 := 73) (pc' := 36) rfl (hb hby o_d6_73) (by decide) (by decide)) ?_
   exact o_p36_1_1 hP hB X493 e493 N0 ⟨Z1, O1, KK, g_al, g_q_a, sz_al, sz_q_a, ne_r0_al, ne_r0_q_a, ne_r2_al, ne_r2_q_a, ne_t2_al, ne_t2_q_a, ne_al_q_a, jE_r0, jF_l, jE_r2, jF_v, jF_c, jV_t, jE_al, jF_m, jF_e, jF_z, jV_a, jO_a⟩ B0 (o_r0 (o_ltn hl4 rfl hc492) hc494 hls)
 ·refine o_gi (XS.icmpYes X491.here hx rfl (pc0 := 42) (pc' := 76) rfl (hb hby o_d6_42) rfl (flt hc492).2.1 (by decide) (by decide)) ?_
  exact o_t76_1 hP hB X491 e491 N0 ⟨Z1, O1, KK, g_al, g_q_a, sz_al, sz_q_a, ne_r0_al, ne_r0_q_a, ne_r2_al, ne_r2_q_a, ne_t2_al, ne_t2_q_a, ne_al_q_a, jE_r0, jF_l, jE_r2, jF_v, jF_c, jV_t, jE_al, jF_m, jF_e, jF_z, jV_a, jO_a⟩ B0 _ (One.val rfl) (o_rE (o_gen hl4 rfl hc492) hls)
theorem o_d6_0 : decode prog_92_method_1_code 0 = .ok (.aload_n 0, 1) := by decide +kernel
theorem o_d6_1 : decode prog_92_method_1_code 1 = .ok (.invokespecial 1, 3) := by decide +kernel
theorem o_t37 : (Jvm.Cond.methodLink "com/example/foothold/foothold/SourceFile" (1 : Nat) ({ cls := "java/lang/Object", name := "<init>", desc := "()V" } : Jvm.MethodName)) ∈ tables_1 := List.mem_of_getElem? (i := 37) rfl
theorem o_d6_4 : decode prog_92_method_1_code 4 = .ok (.aload_n 0, 1) := by decide +kernel
theorem o_d6_5 : decode prog_92_method_1_code 5 = .ok (.aload_n 1, 1) := by decide +kernel
theorem o_d6_6 : decode prog_92_method_1_code 6 = .ok (.putfield 7, 3) := by decide +kernel
theorem o_t38 : (Jvm.Cond.fieldLink "com/example/foothold/foothold/SourceFile" (7 : Nat) "com/example/foothold/foothold/SourceFile" "name" "Ljava/lang/String;") ∈ tables_1 := List.mem_of_getElem? (i := 38) rfl
theorem o_t39 : (Jvm.Cond.laysFinal "com/example/foothold/foothold/SourceFile" "com/example/foothold/foothold/SourceFile" "name" "Ljava/lang/String;") ∈ tables_1 := List.mem_of_getElem? (i := 39) rfl
theorem o_d6_9 : decode prog_92_method_1_code 9 = .ok (.aload_n 0, 1) := by decide +kernel
theorem o_d6_10 : decode prog_92_method_1_code 10 = .ok (.aload_n 2, 1) := by decide +kernel
theorem o_d6_11 : decode prog_92_method_1_code 11 = .ok (.putfield 13, 3) := by decide +kernel
theorem o_t40 : (Jvm.Cond.fieldLink "com/example/foothold/foothold/SourceFile" (13 : Nat) "com/example/foothold/foothold/SourceFile" "text" "Ljava/lang/String;") ∈ tables_1 := List.mem_of_getElem? (i := 40) rfl
theorem o_t41 : (Jvm.Cond.laysFinal "com/example/foothold/foothold/SourceFile" "com/example/foothold/foothold/SourceFile" "text" "Ljava/lang/String;") ∈ tables_1 := List.mem_of_getElem? (i := 41) rfl
theorem o_d6_14 : decode prog_92_method_1_code 14 = .ok (.new 16, 3) := by decide +kernel
theorem o_t42 : (Jvm.Cond.classLink "com/example/foothold/foothold/SourceFile" (16 : Nat) "java/util/ArrayList") ∈ tables_1 := List.mem_of_getElem? (i := 42) rfl
theorem o_d6_17 : decode prog_92_method_1_code 17 = .ok (.dup, 1) := by decide +kernel
theorem o_d6_18 : decode prog_92_method_1_code 18 = .ok (.invokespecial 18, 3) := by decide +kernel
theorem o_t45 : (Jvm.Cond.methodLink "com/example/foothold/foothold/SourceFile" (18 : Nat) ({ cls := "java/util/ArrayList", name := "<init>", desc := "()V" } : Jvm.MethodName)) ∈ tables_1 := List.mem_of_getElem? (i := 45) rfl
theorem o_t46 : (Jvm.Cond.instanceMethod ({ cls := "java/util/ArrayList", name := "<init>", desc := "()V" } : Jvm.MethodName)) ∈ tables_1 := List.mem_of_getElem? (i := 46) rfl
theorem o_t47 : (Jvm.Cond.code ({ cls := "java/util/ArrayList", name := "<init>", desc := "()V" } : Jvm.MethodName) jdk_38_method_2_code (1 : Nat) (Option.none : Option Jvm.ClassFile.FieldType)) ∈ tables_1 := List.mem_of_getElem? (i := 47) rfl
theorem o_d6_21 : decode prog_92_method_1_code 21 = .ok (.astore_n 3, 1) := by decide +kernel
theorem o_d6_22 : decode prog_92_method_1_code 22 = .ok (.aload_n 3, 1) := by decide +kernel
theorem o_d6_23 : decode prog_92_method_1_code 23 = .ok (.iconst 0, 1) := by decide +kernel
theorem o_d6_24 : decode prog_92_method_1_code 24 = .ok (.invokestatic 19, 3) := by decide +kernel
theorem o_d6_27 : decode prog_92_method_1_code 27 = .ok (.invokeinterface 25 2, 5) := by decide +kernel
theorem o_d6_32 : decode prog_92_method_1_code 32 = .ok (.pop, 1) := by decide +kernel
theorem o_d6_33 : decode prog_92_method_1_code 33 = .ok (.iconst 0, 1) := by decide +kernel
theorem o_d6_34 : decode prog_92_method_1_code 34 = .ok (.istore 4, 2) := by decide +kernel
theorem o_pn6 : plainName "com/example/foothold/foothold/SourceFile" = true := by first | (simp [plainName, overriddenIn]; done) | decide +kernel
theorem o_ef6 (m : MethodId) (z0 : Addr) (z1 : Addr) (z2 : Addr) : entryFrame m #[(.ref z0), (.ref z1), (.ref z2)] 5 = mkF m 0 #[.val (.ref z0), .val (.ref z1), .val (.ref z2), .unset, .unset] [] := by first | (simp [entryFrame, mkF, argsToLocals, Value.category]; done) | rfl
set_option maxRecDepth 65536 in
set_option maxHeartbeats 40000000 in
theorem rm6 (l : Launch) (Z : State) (a0 : Array Value) (hw : ∀ d ∈ tables_1, d.before a0 Z = true) (ws : List Jvm.Cond) (r0 : Addr) (r1 : Addr) (r2 : Addr) (cl_e : Cell) (cl_c : Cell) (fm : Value) (t2 : Addr) (k2 : ClassId) (q_N : Int32) (q_vs : List Value) (cs : List Int32) (c_0 : Addr) (c_1 : Addr) (c_2 : Addr) (c_3 : Addr) (c_4 : Addr) (s_e : Addr) (x_hi : Int32) (s_c : Addr) (z_cs : Int32) (h0 : Heap) (n0 : Nat) (Z0 : n0 ≤ h0.size) (g_r0 : n0 ≤ r0) (O0 : Old Z n0 h0) (A_e : Arr Z Z.heap s_e cl_e (.object "java/lang/Object")) (z_e : cl_e.slots.size = (0 : Int32).toNatClampNeg) (A_c : Arr Z Z.heap s_c cl_c (.object "java/lang/Integer")) (z_c : cl_c.slots.size = (256 : Int32).toNatClampNeg) (h_hi : x_hi = (127 : Int32)) (t_c0 : cl_c.slots[(128 : Int32).toNatClampNeg]? = some (.ref c_0)) (E_c0 : Exa Z Z.heap c_0 "java/lang/Integer") (F_c0 : Fld Z Z.heap c_0 "java/lang/Integer" "value" "I" (.int 0)) (t_c1 : cl_c.slots[(129 : Int32).toNatClampNeg]? = some (.ref c_1)) (E_c1 : Exa Z Z.heap c_1 "java/lang/Integer") (F_c1 : Fld Z Z.heap c_1 "java/lang/Integer" "value" "I" (.int 1)) (t_c2 : cl_c.slots[(130 : Int32).toNatClampNeg]? = some (.ref c_2)) (E_c2 : Exa Z Z.heap c_2 "java/lang/Integer") (F_c2 : Fld Z Z.heap c_2 "java/lang/Integer" "value" "I" (.int 2)) (t_c3 : cl_c.slots[(131 : Int32).toNatClampNeg]? = some (.ref c_3)) (E_c3 : Exa Z Z.heap c_3 "java/lang/Integer") (F_c3 : Fld Z Z.heap c_3 "java/lang/Integer" "value" "I" (.int 3)) (t_c4 : cl_c.slots[(132 : Int32).toNatClampNeg]? = some (.ref c_4)) (E_c4 : Exa Z Z.heap c_4 "java/lang/Integer") (F_c4 : Fld Z Z.heap c_4 "java/lang/Integer" "value" "I" (.int 4)) (S_fm : Sta Z Z.heap "jdk/internal/util/Preconditions" "SIOOBE_FORMATTER" "Ljava/util/function/BiFunction;" fm) (rf : fm.isRef = true) (z_CS : ¬ z_cs = 0) (E_r0 : Exa Z h0 r0 "com/example/foothold/foothold/SourceFile") (F_n : Fld Z h0 r0 "com/example/foothold/foothold/SourceFile" "name" "Ljava/lang/String;" .null) (F_x : Fld Z h0 r0 "com/example/foothold/foothold/SourceFile" "text" "Ljava/lang/String;" .null) (F_l : Fld Z h0 r0 "com/example/foothold/foothold/SourceFile" "lineStarts" "[I" .null) (E_r2 : Exa Z h0 r2 "java/lang/String") (F_v : Fld Z h0 r2 "java/lang/String" "value" "[B" (.ref t2)) (F_c : Fld Z h0 r2 "java/lang/String" "coder" "B" (.int 0)) (V_t : Arv Z h0 t2 k2 .byte q_N q_vs (.int 0)) (hcd : StrChars.Road.CodA cs 0 q_N q_vs) (hbd : ∀ c ∈ cs, ¬ c < 0 ∧ ¬ (65535 : Int32) < c) (hl4 : cs.length ≤ 4) (hl4' : cs.length ≤ 4000) (ne_r0_r2 : r0 ≠ r2) (ne_r0_t2 : r0 ≠ t2) (S_s_e : Sta Z Z.heap "java/util/ArrayList" "DEFAULTCAPACITY_EMPTY_ELEMENTDATA" "[Ljava/lang/Object;" (.ref s_e)) (S_x_hi : Sta Z Z.heap "java/lang/Integer$IntegerCache" "high" "I" (.int x_hi)) (S_s_c : Sta Z Z.heap "java/lang/Integer$IntegerCache" "cache" "[Ljava/lang/Integer;" (.ref s_c)) (S_z_cs : Sta Z Z.heap "java/lang/String" "COMPACT_STRINGS" "Z" (.int z_cs)) : o_Met l Z (⟨"com/example/foothold/foothold/SourceFile", "<init>", "(Ljava/lang/String;Ljava/lang/String;)V"⟩ : MethodName) prog_92_method_1_code 5 none ws o_R6 #[(.ref r0), (.ref r1), (.ref r2)] h0 (o_Q6 Z r0 cs h0 n0) := by
 refine o_met (plainFor_of_name o_pn6) ?_
 intro p e s m below meth c s₁ hx hby hml hown hnm hret hlk hZ e0 X0
 have N0 := Fr.nil n0
 have hml : c.maxLocals = 5 := hml
 have hown : s.vm.findClass "com/example/foothold/foothold/SourceFile" = some m.cls := hown
 have hret : meth.sig.returnType = none := hret
 have hby : c.code = prog_92_method_1_code := hby
 have hnm : meth.name = "<init>" := hnm
 rw [o_ef6]
 refine o_gi (XS.aloadN X0.here hx rfl (hb hby o_d6_0) rfl rfl) ?_
 show o_Gs p e below _ s₁ m 1 #[.val (.ref r0), .val (.ref r1), .val (.ref r2), .unset, .unset] [(.ref r0)]
 obtain ⟨T502, X502, e502, st502⟩ := initO X0 hx hZ hown (hw _ o_t37) (hw _ o_t29) (hw _ o_t30) e0 (g := (mkF m 1 #[.val (.ref r0), .val (.ref r1), .val (.ref r2), .unset, .unset] [(.ref r0)])) rfl (by rw [hml]; rfl) rfl (hb hby o_d6_1) (by decide) (W := 0) (by show 2 * 0 + _ ≤ _; exact Nat.le_of_eq rfl) (by decide)
 refine o_go st502 ?_
 refine o_gi (XS.aloadN X502.here hx rfl (hb hby o_d6_4) rfl rfl) ?_
 refine o_gi (XS.aloadN X502.here hx rfl (hb hby o_d6_5) rfl rfl) ?_
 show o_Gs p e below _ T502 m 6 #[.val (.ref r0), .val (.ref r1), .val (.ref r2), .unset, .unset] [(.ref r1), (.ref r0)]
 obtain ⟨T503, h503, X503, e503, W503, st503⟩ := putF X502 hx hZ hown (host := "") (Or.inl (hw _ o_t38)) Via.refl e502 F_n E_r0 (Or.inr ⟨(hw _ o_t39), rfl, hnm⟩) (hw _ o_t6) (ty := (.object "java/lang/String")) (by decide) rfl rfl (g := (mkF m 6 #[.val (.ref r0), .val (.ref r1), .val (.ref r2), .unset, .unset] [(.ref r1), (.ref r0)])) rfl rfl (hb hby o_d6_6)
 have N503 := Fr.snoc X503 N0 g_r0
 have Fw503 := F_n.same W503
 refine o_go st503 ?_
 refine o_gi (XS.aloadN X503.here hx rfl (hb hby o_d6_9) rfl rfl) ?_
 refine o_gi (XS.aloadN X503.here hx rfl (hb hby o_d6_10) rfl rfl) ?_
 show o_Gs p e below _ T503 m 11 #[.val (.ref r0), .val (.ref r1), .val (.ref r2), .unset, .unset] [(.ref r2), (.ref r0)]
 have ff505 : Fld Z h503 r0 "com/example/foothold/foothold/SourceFile" "text" "Ljava/lang/String;" .null := (F_x.other W503 (Or.inr (slot_ne (Or.inr (hw _ o_t41)) (Or.inr (hw _ o_t39)) (by decide) (t := (.object "java/lang/String")) (t' := (.object "java/lang/String")) (by decide) (by decide))))
 obtain ⟨T504, h504, X504, e504, W504, st504⟩ := putF X503 hx hZ hown (host := "") (Or.inl (hw _ o_t40)) Via.refl e503 ff505 (E_r0.wr W503) (Or.inr ⟨(hw _ o_t41), rfl, hnm⟩) (hw _ o_t6) (ty := (.object "java/lang/String")) (by decide) rfl rfl (g := (mkF m 11 #[.val (.ref r0), .val (.ref r1), .val (.ref r2), .unset, .unset] [(.ref r2), (.ref r0)])) rfl rfl (hb hby o_d6_11)
 have N504 := Fr.snoc X504 N503 g_r0
 have Fw504 := ff505.same W504
 refine o_go st504 ?_
 show o_Gs p e below _ T504 m 14 #[.val (.ref r0), .val (.ref r1), .val (.ref r2), .unset, .unset] []
 obtain ⟨T506, h506, X506, e506, E506, A506, D506, -, st506⟩ := newO X504 hx hZ hown (hw _ o_t42) (hw _ o_t43) (hw _ o_t44) e504 (g := (mkF m 14 #[.val (.ref r0), .val (.ref r1), .val (.ref r2), .unset, .unset] [])) rfl (hb hby o_d6_14) (by decide) (by decide)
 obtain ⟨b506, q506⟩ : ∃ z, z = h504.size := ⟨_, rfl⟩
 rw [← q506] at A506 D506 st506
 have lt_b506 : h504.size ≤ b506 := Nat.le_of_eq q506.symm
 have ne_r0_b506 : r0 ≠ b506 := Nat.ne_of_lt (Nat.lt_of_lt_of_le ((E_r0.wr W503).wr W504).lt lt_b506)
 have ne_r2_b506 : r2 ≠ b506 := Nat.ne_of_lt (Nat.lt_of_lt_of_le ((E_r2.wr W503).wr W504).lt lt_b506)
 have ne_t2_b506 : t2 ≠ b506 := Nat.ne_of_lt (Nat.lt_of_lt_of_le ((V_t.other W503 (Ne.symm ne_r0_t2)).other W504 (Ne.symm ne_r0_t2)).lt lt_b506)
 have g_b506 : n0 ≤ b506 := Nat.le_trans (Nat.le_trans (Nat.le_trans Z0 (Keep.of_wr W503).1) (Keep.of_wr W504).1) lt_b506
 have sz_b506 : h0.size ≤ b506 := Nat.le_trans (((Keep.refl h0 ([r0] : List Addr)).wr W503 (Or.inl (List.mem_of_getElem? (i := 0) rfl))).wr W504 (Or.inl (List.mem_of_getElem? (i := 0) rfl))).1 lt_b506
 have F506_modCount : Fld Z h506 b506 "java/util/AbstractList" "modCount" "I" (.int 0) := D506 (Or.inl (hw _ o_t62)) (ty := .int) (by decide)
 have F506_elementData : Fld Z h506 b506 "java/util/ArrayList" "elementData" "[Ljava/lang/Object;" .null := D506 (Or.inl (hw _ o_t65)) (ty := (.array (.object "java/lang/Object"))) (by decide)
 have F506_size : Fld Z h506 b506 "java/util/ArrayList" "size" "I" (.int 0) := D506 (Or.inl (hw _ o_t85)) (ty := .int) (by decide)
 refine o_go st506 ?_
 refine o_gi (XS.dup X506.here hx rfl (hb hby o_d6_17) rfl rfl) ?_
 show o_Gs p e below _ T506 m 18 #[.val (.ref r0), .val (.ref r1), .val (.ref r2), .unset, .unset] [(.ref b506), (.ref b506)]
 obtain ⟨_, T507, L507, X507, ⟨rfl, N507q, K507, G507_0, G507_1, G507_2, G507_3⟩, st507⟩ := o_callI X506 hx hZ rfl hown (hw _ o_t45) (hw _ o_t46) (hw _ o_t44) (hw _ o_t47) (by decide) (b := b506) (as := []) (rm7 l Z a0 hw [] b506 s_e h506 n0 (Nat.le_trans (Nat.le_trans (Nat.le_trans Z0 (Keep.of_wr W503).1) (Keep.of_wr W504).1) E506.1) g_b506 (((O0.wr W503 g_r0).wr W504 g_r0).ext E506) A506 F506_modCount F506_elementData F506_size S_s_e) e506 o_pd0 rfl (pc := 18) (Ls := #[.val (.ref r0), .val (.ref r1), .val (.ref r2), .unset, .unset]) (rest := [(.ref b506)]) (W := 1) (by rw [hml]; rfl) (Nat.le_of_eq rfl) (by decide) (by decide) (hb hby o_d6_18) (by decide) (by decide)
 have N507 := Fr.app N504 N507q
 refine o_go st507 ?_
 refine o_gi (XS.astoreN X507.here hx rfl (hb hby o_d6_21) rfl rfl (l' := #[.val (.ref r0), .val (.ref r1), .val (.ref r2), .val (.ref b506), .unset]) rfl) ?_
 refine o_gi (XS.aloadN X507.here hx rfl (hb hby o_d6_22) rfl rfl) ?_
 refine o_gi (XS.iconst X507.here hx rfl (hb hby o_d6_23)) ?_
 show o_Gs p e below _ T507 m 24 #[.val (.ref r0), .val (.ref r1), .val (.ref r2), .val (.ref b506), .unset] [(.int 0), (.ref b506)]
 obtain ⟨_, T508, L508, X508, ⟨rfl, N508q, e508⟩, st508⟩ := o_callS X507 hx hZ hown (hw _ o_t66) (hw _ o_t67) (hw _ o_t68) (hw _ o_t69) (by decide) (as := [(.int 0)]) (rm10_0 l Z a0 hw [] c_0 cl_c x_hi s_c T507.heap n0 (Nat.le_trans (Nat.le_trans (Nat.le_trans (Nat.le_trans Z0 (Keep.of_wr W503).1) (Keep.of_wr W504).1) E506.1) K507.1) ((((O0.wr W503 g_r0).wr W504 g_r0).ext E506).keep K507 (allS g_b506 all0)) A_c z_c h_hi t_c0 S_x_hi S_s_c) rfl o_pd8 rfl (pc := 24) (Ls := #[.val (.ref r0), .val (.ref r1), .val (.ref r2), .val (.ref b506), .unset]) (rest := [(.ref b506)]) (W := 1) (by rw [hml]; rfl) (Nat.le_of_eq rfl) (by decide) (by decide) (hb hby o_d6_24) (by decide) (by decide)
 have N508 := Fr.app N507 N508q
 refine o_go st508 ?_
 show o_Gs p e below _ T508 m 27 #[.val (.ref r0), .val (.ref r1), .val (.ref r2), .val (.ref b506), .unset] [(.ref c_0), (.ref b506)]
 have oo510 : Old Z n0 T507.heap := ((((O0.wr W503 g_r0).wr W504 g_r0).ext E506).keep K507 (allS g_b506 all0))
 obtain ⟨_, T509, L509, X509, ⟨b509, kb509, rfl, N509q, K509, lt_b509, G509_0, G509_1, G509_2, G509_3, G509_4, G509_5⟩, st509⟩ := o_callF X508 hx hZ hown (mvT hZ (hw _ o_t73)) (mvT hZ (hw _ o_t74)) (mvT hZ (hw _ o_t75)) (mvT hZ (hw _ o_t76)) (mvT hZ (hw _ o_t77)) (mvT hZ (hw _ o_t78)) (mvT hZ (hw _ o_t79)) (mvT hZ (hw _ o_t80)) (hw _ o_t44) (hw _ o_t81) (by decide) (b := b506) (as := [(.ref c_0)]) (rm11_0 l Z a0 hw [] b506 c_0 cl_e s_e T507.heap n0 (Nat.le_trans (Nat.le_trans (Nat.le_trans (Nat.le_trans Z0 (Keep.of_wr W503).1) (Keep.of_wr W504).1) E506.1) K507.1) g_b506 ((((O0.wr W503 g_r0).wr W504 g_r0).ext E506).keep K507 (allS g_b506 all0)) A_e z_e G507_0 (E_c0.ext oo510.2) G507_1 G507_2 G507_3 S_s_e) e508 G507_0 o_pd9 rfl (pc := 27) (Ls := #[.val (.ref r0), .val (.ref r1), .val (.ref r2), .val (.ref b506), .unset]) (rest := []) (W := 0) (by rw [hml]; rfl) (Nat.le_of_eq rfl) (by decide) (by decide) (hb hby o_d6_27) (by decide) (by decide)
 have N509 := Fr.app N508 N509q
 have ne_r0_b509 : r0 ≠ b509 := Nat.ne_of_lt (Nat.lt_of_lt_of_le ((((E_r0.wr W503).wr W504).ext E506).keep K507).lt lt_b509)
 have ne_r2_b509 : r2 ≠ b509 := Nat.ne_of_lt (Nat.lt_of_lt_of_le ((((E_r2.wr W503).wr W504).ext E506).keep K507).lt lt_b509)
 have ne_t2_b509 : t2 ≠ b509 := Nat.ne_of_lt (Nat.lt_of_lt_of_le ((((V_t.other W503 (Ne.symm ne_r0_t2)).other W504 (Ne.symm ne_r0_t2)).ext E506).keep K507 (fun z => ne_t2_b506 (List.mem_singleton.mp z))).lt lt_b509)
 have ne_b506_b509 : b506 ≠ b509 := Nat.ne_of_lt (Nat.lt_of_lt_of_le G507_0.lt lt_b509)
 have g_b509 : n0 ≤ b509 := Nat.le_trans (Nat.le_trans (Nat.le_trans (Nat.le_trans (Nat.le_trans Z0 (Keep.of_wr W503).1) (Keep.of_wr W504).1) E506.1) K507.1) lt_b509
 have sz_b509 : h0.size ≤ b509 := Nat.le_trans (((((Keep.refl h0 ([r0] : List Addr)).wr W503 (Or.inl (List.mem_of_getElem? (i := 0) rfl))).wr W504 (Or.inl (List.mem_of_getElem? (i := 0) rfl))).ext E506).trans K507 (fun x hx => by cases List.mem_singleton.mp hx; exact Or.inr sz_b506)).1 lt_b509
 refine o_go st509 ?_
 refine o_gi (XS.pop X509.here hx rfl (hb hby o_d6_32) rfl rfl) ?_
 refine o_gi (XS.iconst X509.here hx rfl (hb hby o_d6_33)) ?_
 refine o_gi (XS.istore X509.here hx rfl (hb hby o_d6_34) rfl (l' := #[.val (.ref r0), .val (.ref r1), .val (.ref r2), .val (.ref b506), .val (.int 0)]) rfl) ?_
 have ff511 : Exa Z T509.heap r0 "com/example/foothold/foothold/SourceFile" := (((((E_r0.wr W503).wr W504).ext E506).keep K507).keep K509)
 have ff512 : Fld Z T509.heap r0 "com/example/foothold/foothold/SourceFile" "lineStarts" "[I" .null := (((((F_l.other W503 (Or.inr (slot_ne (Or.inr (hw _ o_t129)) (Or.inr (hw _ o_t39)) (by decide) (t := (.array .int)) (t' := (.object "java/lang/String")) (by decide) (by decide)))).other W504 (Or.inr (slot_ne (Or.inr (hw _ o_t129)) (Or.inr (hw _ o_t41)) (by decide) (t := (.array .int)) (t' := (.object "java/lang/String")) (by decide) (by decide)))).ext E506).keep K507 (fun z => ne_r0_b506 (List.mem_singleton.mp z))).keep K509 (fun z => ne_r0_b506 (List.mem_singleton.mp z)))
 have ff513 : Exa Z T509.heap r2 "java/lang/String" := (((((E_r2.wr W503).wr W504).ext E506).keep K507).keep K509)
 have ff514 : Fld Z T509.heap r2 "java/lang/String" "value" "[B" (.ref t2) := (((((F_v.other W503 (Or.inl (Ne.symm ne_r0_r2))).other W504 (Or.inl (Ne.symm ne_r0_r2))).ext E506).keep K507 (fun z => ne_r2_b506 (List.mem_singleton.mp z))).keep K509 (fun z => ne_r2_b506 (List.mem_singleton.mp z)))
 have ff515 : Fld Z T509.heap r2 "java/lang/String" "coder" "B" (.int 0) := (((((F_c.other W503 (Or.inl (Ne.symm ne_r0_r2))).other W504 (Or.inl (Ne.symm ne_r0_r2))).ext E506).keep K507 (fun z => ne_r2_b506 (List.mem_singleton.mp z))).keep K509 (fun z => ne_r2_b506 (List.mem_singleton.mp z)))
 have ff516 : Arv Z T509.heap t2 k2 .byte q_N q_vs (.int 0) := (((((V_t.other W503 (Ne.symm ne_r0_t2)).other W504 (Ne.symm ne_r0_t2)).ext E506).keep K507 (fun z => ne_t2_b506 (List.mem_singleton.mp z))).keep K509 (fun z => ne_t2_b506 (List.mem_singleton.mp z)))
 have oo517 : Old Z n0 T509.heap := (oo510.keep K509 (allS g_b506 all0))
 exact o_p36_0_1 ⟨hw, Z0, g_r0, O0, A_e, z_e, A_c, z_c, h_hi, t_c0, E_c0, F_c0, t_c1, E_c1, F_c1, t_c2, E_c2, F_c2, t_c3, E_c3, F_c3, t_c4, E_c4, F_c4, S_fm, rf, z_CS, hcd, hbd, hl4, hl4', ne_r0_r2, ne_r0_t2, S_s_e, S_x_hi, S_s_c, S_z_cs⟩ ⟨hx, hby, hml, hown, hret, hlk, hZ, hnm⟩ X509 rfl N509 ⟨(Nat.le_trans (Nat.le_trans (Nat.le_trans (Nat.le_trans (Nat.le_trans Z0 (Keep.of_wr W503).1) (Keep.of_wr W504).1) E506.1) K507.1) K509.1), oo517, ((((((Keep.refl h0 ([r0] : List Addr)).wr W503 (Or.inl (List.mem_of_getElem? (i := 0) rfl))).wr W504 (Or.inl (List.mem_of_getElem? (i := 0) rfl))).ext E506).trans K507 (fun x hx => by cases List.mem_singleton.mp hx; exact Or.inr sz_b506)).trans K509 (fun x hx => by cases List.mem_singleton.mp hx; exact Or.inr sz_b506)), g_b506, g_b509, sz_b506, sz_b509, ne_r0_b506, ne_r0_b509, ne_r2_b506, ne_r2_b509, ne_t2_b506, ne_t2_b509, ne_b506_b509, ff511, ff512, ff513, ff514, ff515, ff516, G509_0, G509_1, G509_2, G509_3, G509_4, G509_5⟩ ⟨E_c0, F_c0⟩ rfl
theorem o_d25_0 : decode prog_92_method_4_code 0 = .ok (.iconst 0, 1) := by decide +kernel
theorem o_d25_1 : decode prog_92_method_4_code 1 = .ok (.istore_n 2, 1) := by decide +kernel
theorem o_d25_2 : decode prog_92_method_4_code 2 = .ok (.aload_n 0, 1) := by decide +kernel
theorem o_d25_3 : decode prog_92_method_4_code 3 = .ok (.getfield 44, 3) := by decide +kernel
theorem o_d25_6 : decode prog_92_method_4_code 6 = .ok (.arraylength, 1) := by decide +kernel
theorem o_d25_7 : decode prog_92_method_4_code 7 = .ok (.iconst 1, 1) := by decide +kernel
theorem o_d25_8 : decode prog_92_method_4_code 8 = .ok (.isub, 1) := by decide +kernel
theorem o_d25_9 : decode prog_92_method_4_code 9 = .ok (.istore_n 3, 1) := by decide +kernel
theorem o_d25_10 : decode prog_92_method_4_code 10 = .ok (.iload_n 2, 1) := by decide +kernel
theorem o_d25_11 : decode prog_92_method_4_code 11 = .ok (.iload_n 3, 1) := by decide +kernel
theorem o_d25_12 : decode prog_92_method_4_code 12 = .ok (.if_icmp .ge 37, 3) := by decide +kernel
theorem o_d25_49 : decode prog_92_method_4_code 49 = .ok (.iload_n 2, 1) := by decide +kernel
theorem o_d25_50 : decode prog_92_method_4_code 50 = .ok (.iconst 1, 1) := by decide +kernel
theorem o_d25_51 : decode prog_92_method_4_code 51 = .ok (.iadd, 1) := by decide +kernel
theorem o_d25_52 : decode prog_92_method_4_code 52 = .ok (.ireturn, 1) := by decide +kernel
def o_Q25_1 (r0 : Addr) (x1 : Int32) (q_b : Addr) (k_b : ClassId) (w0 : Int32) (h0 : Heap) (n0 : Nat) (v : Option Value) (h : Heap) (L : List Loc) : Prop := v = some (.int 1) ∧ Fr n0 L ∧ h = h0
abbrev o_R25_1 : Room := { frames := 0, cells := 0, slots := 0, locals := 0 }
theorem o_ef25_1 (m : MethodId) (z0 : Addr) (z1 : Int32) : entryFrame m #[(.ref z0), (.int z1)] 5 = mkF m 0 #[.val (.ref z0), .val (.int z1), .unset, .unset, .unset] [] := by first | (simp [entryFrame, mkF, argsToLocals, Value.category]; done) | rfl
set_option maxRecDepth 65536 in
set_option maxHeartbeats 40000000 in
theorem rm25_1 (l : Launch) (Z : State) (a0 : Array Value) (hw : ∀ d ∈ tables_1, d.before a0 Z = true) (ws : List Jvm.Cond) (r0 : Addr) (x1 : Int32) (q_b : Addr) (k_b : ClassId) (w0 : Int32) (h0 : Heap) (n0 : Nat) (F_l : Fld Z h0 r0 "com/example/foothold/foothold/SourceFile" "lineStarts" "[I" (.ref q_b)) (V_b : Arv Z h0 q_b k_b .int 1 [(.int w0)] (.int 0)) : o_Met l Z (⟨"com/example/foothold/foothold/SourceFile", "line", "(I)I"⟩ : MethodName) prog_92_method_4_code 5 (some .int) ws o_R25_1 #[(.ref r0), (.int x1)] h0 (o_Q25_1 r0 x1 q_b k_b w0 h0 n0) := by
 refine o_met (plainFor_of_name o_pn6) ?_
 intro p e s m below meth c s₁ hx hby hml hown hnm hret hlk hZ e0 X0
 have N0 := Fr.nil n0
 have hml : c.maxLocals = 5 := hml
 have hown : s.vm.findClass "com/example/foothold/foothold/SourceFile" = some m.cls := hown
 have hret : meth.sig.returnType = (some .int) := hret
 have hby : c.code = prog_92_method_4_code := hby
 have hnm : meth.name = "line" := hnm
 rw [o_ef25_1]
 refine o_gi (XS.iconst X0.here hx rfl (hb hby o_d25_0)) ?_
 refine o_gi (XS.istoreN X0.here hx rfl (hb hby o_d25_1) rfl (l' := #[.val (.ref r0), .val (.int x1), .val (.int 0), .unset, .unset]) rfl) ?_
 refine o_gi (XS.aloadN X0.here hx rfl (hb hby o_d25_2) rfl rfl) ?_
 show o_Gs p e below _ s₁ m 3 #[.val (.ref r0), .val (.int x1), .val (.int 0), .unset, .unset] [(.ref r0)]
 obtain ⟨T518, X518, e518, st518⟩ := getF X0 hx hZ hown (host := "") (Or.inl (hw _ o_t128)) Via.refl e0 F_l (g := (mkF m 3 #[.val (.ref r0), .val (.int x1), .val (.int 0), .unset, .unset] [(.ref r0)])) rfl rfl (hb hby o_d25_3)
 refine o_go st518 ?_
 show o_Gs p e below _ T518 m 6 #[.val (.ref r0), .val (.int x1), .val (.int 0), .unset, .unset] [(.ref q_b)]
 obtain ⟨cl519, Ar519, qa519, sa519, na519, ha519, ga519⟩ := id V_b
 refine o_go (X518.arraylength hx (by rw [e518]; exact Ar519.1) (State.isArrayOf_alike hZ.alike Ar519.2.1) (g := (mkF m 6 #[.val (.ref r0), .val (.int x1), .val (.int 0), .unset, .unset] [(.ref q_b)])) rfl rfl (hb hby o_d25_6)) ?_
 rw [len_of sa519 (by decide)]
 refine o_gi (XS.iconst X518.here hx rfl (hb hby o_d25_7)) ?_
 show o_Gs p e below _ T518 m 8 #[.val (.ref r0), .val (.int x1), .val (.int 0), .unset, .unset] [(.int 1), (.int 1)]
 refine o_gi (XS.isub X518.here hx rfl (hb hby o_d25_8) rfl) ?_
 show o_Gs p e below _ T518 m 9 #[.val (.ref r0), .val (.int x1), .val (.int 0), .unset, .unset] [(.int ((1 : Int32) - (1 : Int32)))]
 rw [show ((1 : Int32) - (1 : Int32)) = (0 : Int32) from by decide]
 refine o_gi (XS.istoreN X518.here hx rfl (hb hby o_d25_9) rfl (l' := #[.val (.ref r0), .val (.int x1), .val (.int 0), .val (.int 0), .unset]) rfl) ?_
 refine o_gi (XS.iloadN X518.here hx rfl (hb hby o_d25_10) rfl) ?_
 refine o_gi (XS.iloadN X518.here hx rfl (hb hby o_d25_11) rfl) ?_
 show o_Gs p e below _ T518 m 12 #[.val (.ref r0), .val (.int x1), .val (.int 0), .val (.int 0), .unset] [(.int 0), (.int 0)]
 have hd520 : ¬ ((0 : Int32) < (0 : Int32)) := (by decide)
 refine o_gi (XS.icmpYes X518.here hx rfl (pc0 := 12) (pc' := 49) rfl (hb hby o_d25_12) rfl (flt hd520).2.1 (by decide) (by decide)) ?_
 refine o_gi (XS.iloadN X518.here hx rfl (hb hby o_d25_49) rfl) ?_
 refine o_gi (XS.iconst X518.here hx rfl (hb hby o_d25_50)) ?_
 show o_Gs p e below _ T518 m 51 #[.val (.ref r0), .val (.int x1), .val (.int 0), .val (.int 0), .unset] [(.int 1), (.int 0)]
 refine o_gi (XS.iadd X518.here hx rfl (hb hby o_d25_51) rfl) ?_
 show o_Gs p e below _ T518 m 52 #[.val (.ref r0), .val (.int x1), .val (.int 0), .val (.int 0), .unset] [(.int ((0 : Int32) + (1 : Int32)))]
 rw [show ((0 : Int32) + (1 : Int32)) = (1 : Int32) from by decide]
 show o_Gs p e below _ T518 m 52 #[.val (.ref r0), .val (.int x1), .val (.int 0), .val (.int 0), .unset] [(.int 1)]
 exact o_retI X518 hx hlk hret (hb hby o_d25_52) (by decide) (by decide) ⟨rfl, N0, e518⟩
theorem o_d25_15 : decode prog_92_method_4_code 15 = .ok (.iload_n 2, 1) := by decide +kernel
theorem o_d25_16 : decode prog_92_method_4_code 16 = .ok (.iload_n 3, 1) := by decide +kernel
theorem o_d25_17 : decode prog_92_method_4_code 17 = .ok (.iadd, 1) := by decide +kernel
theorem o_d25_18 : decode prog_92_method_4_code 18 = .ok (.iconst 1, 1) := by decide +kernel
theorem o_d25_19 : decode prog_92_method_4_code 19 = .ok (.iadd, 1) := by decide +kernel
theorem o_d25_20 : decode prog_92_method_4_code 20 = .ok (.iconst 1, 1) := by decide +kernel
theorem o_d25_21 : decode prog_92_method_4_code 21 = .ok (.iushr, 1) := by decide +kernel
theorem o_d25_22 : decode prog_92_method_4_code 22 = .ok (.istore 4, 2) := by decide +kernel
theorem o_d25_24 : decode prog_92_method_4_code 24 = .ok (.aload_n 0, 1) := by decide +kernel
theorem o_d25_25 : decode prog_92_method_4_code 25 = .ok (.getfield 44, 3) := by decide +kernel
theorem o_d25_28 : decode prog_92_method_4_code 28 = .ok (.iload 4, 2) := by decide +kernel
theorem o_d25_30 : decode prog_92_method_4_code 30 = .ok (.iaload, 1) := by decide +kernel
theorem o_d25_31 : decode prog_92_method_4_code 31 = .ok (.iload_n 1, 1) := by decide +kernel
theorem o_d25_32 : decode prog_92_method_4_code 32 = .ok (.if_icmp .gt 9, 3) := by decide +kernel
theorem o_d25_41 : decode prog_92_method_4_code 41 = .ok (.iload 4, 2) := by decide +kernel
theorem o_d25_43 : decode prog_92_method_4_code 43 = .ok (.iconst 1, 1) := by decide +kernel
theorem o_d25_44 : decode prog_92_method_4_code 44 = .ok (.isub, 1) := by decide +kernel
theorem o_d25_45 : decode prog_92_method_4_code 45 = .ok (.istore_n 3, 1) := by decide +kernel
theorem o_d25_46 : decode prog_92_method_4_code 46 = .ok (.goto (-36), 3) := by decide +kernel
theorem o_d25_35 : decode prog_92_method_4_code 35 = .ok (.iload 4, 2) := by decide +kernel
theorem o_d25_37 : decode prog_92_method_4_code 37 = .ok (.istore_n 2, 1) := by decide +kernel
theorem o_d25_38 : decode prog_92_method_4_code 38 = .ok (.goto 8, 3) := by decide +kernel
def o_f25_2 (x1 : Int32) (w1 : Int32) : Int32 := (if x1 < w1 then (1 : Int32) else (2 : Int32))
def o_Q25_2 (r0 : Addr) (x1 : Int32) (q_b : Addr) (k_b : ClassId) (w0 : Int32) (w1 : Int32) (h0 : Heap) (n0 : Nat) (v : Option Value) (h : Heap) (L : List Loc) : Prop := v = some (.int (o_f25_2 x1 w1)) ∧ Fr n0 L ∧ h = h0
abbrev o_R25_2 : Room := { frames := 0, cells := 0, slots := 0, locals := 0 }
theorem o_ef25_2 (m : MethodId) (z0 : Addr) (z1 : Int32) : entryFrame m #[(.ref z0), (.int z1)] 5 = mkF m 0 #[.val (.ref z0), .val (.int z1), .unset, .unset, .unset] [] := by first | (simp [entryFrame, mkF, argsToLocals, Value.category]; done) | rfl
set_option maxRecDepth 65536 in
set_option maxHeartbeats 40000000 in
theorem rm25_2 (l : Launch) (Z : State) (a0 : Array Value) (hw : ∀ d ∈ tables_1, d.before a0 Z = true) (ws : List Jvm.Cond) (r0 : Addr) (x1 : Int32) (q_b : Addr) (k_b : ClassId) (w0 : Int32) (w1 : Int32) (h0 : Heap) (n0 : Nat) (F_l : Fld Z h0 r0 "com/example/foothold/foothold/SourceFile" "lineStarts" "[I" (.ref q_b)) (V_b : Arv Z h0 q_b k_b .int 2 [(.int w0), (.int w1)] (.int 0)) : o_Met l Z (⟨"com/example/foothold/foothold/SourceFile", "line", "(I)I"⟩ : MethodName) prog_92_method_4_code 5 (some .int) ws o_R25_2 #[(.ref r0), (.int x1)] h0 (o_Q25_2 r0 x1 q_b k_b w0 w1 h0 n0) := by
 refine o_met (plainFor_of_name o_pn6) ?_
 intro p e s m below meth c s₁ hx hby hml hown hnm hret hlk hZ e0 X0
 have N0 := Fr.nil n0
 have hml : c.maxLocals = 5 := hml
 have hown : s.vm.findClass "com/example/foothold/foothold/SourceFile" = some m.cls := hown
 have hret : meth.sig.returnType = (some .int) := hret
 have hby : c.code = prog_92_method_4_code := hby
 have hnm : meth.name = "line" := hnm
 rw [o_ef25_2]
 refine o_gi (XS.iconst X0.here hx rfl (hb hby o_d25_0)) ?_
 refine o_gi (XS.istoreN X0.here hx rfl (hb hby o_d25_1) rfl (l' := #[.val (.ref r0), .val (.int x1), .val (.int 0), .unset, .unset]) rfl) ?_
 refine o_gi (XS.aloadN X0.here hx rfl (hb hby o_d25_2) rfl rfl) ?_
 show o_Gs p e below _ s₁ m 3 #[.val (.ref r0), .val (.int x1), .val (.int 0), .unset, .unset] [(.ref r0)]
 obtain ⟨T521, X521, e521, st521⟩ := getF X0 hx hZ hown (host := "") (Or.inl (hw _ o_t128)) Via.refl e0 F_l (g := (mkF m 3 #[.val (.ref r0), .val (.int x1), .val (.int 0), .unset, .unset] [(.ref r0)])) rfl rfl (hb hby o_d25_3)
 refine o_go st521 ?_
 show o_Gs p e below _ T521 m 6 #[.val (.ref r0), .val (.int x1), .val (.int 0), .unset, .unset] [(.ref q_b)]
 obtain ⟨cl522, Ar522, qa522, sa522, na522, ha522, ga522⟩ := id V_b
 refine o_go (X521.arraylength hx (by rw [e521]; exact Ar522.1) (State.isArrayOf_alike hZ.alike Ar522.2.1) (g := (mkF m 6 #[.val (.ref r0), .val (.int x1), .val (.int 0), .unset, .unset] [(.ref q_b)])) rfl rfl (hb hby o_d25_6)) ?_
 rw [len_of sa522 (by decide)]
 refine o_gi (XS.iconst X521.here hx rfl (hb hby o_d25_7)) ?_
 show o_Gs p e below _ T521 m 8 #[.val (.ref r0), .val (.int x1), .val (.int 0), .unset, .unset] [(.int 1), (.int 2)]
 refine o_gi (XS.isub X521.here hx rfl (hb hby o_d25_8) rfl) ?_
 show o_Gs p e below _ T521 m 9 #[.val (.ref r0), .val (.int x1), .val (.int 0), .unset, .unset] [(.int ((2 : Int32) - (1 : Int32)))]
 rw [show ((2 : Int32) - (1 : Int32)) = (1 : Int32) from by decide]
 refine o_gi (XS.istoreN X521.here hx rfl (hb hby o_d25_9) rfl (l' := #[.val (.ref r0), .val (.int x1), .val (.int 0), .val (.int 1), .unset]) rfl) ?_
 refine o_gi (XS.iloadN X521.here hx rfl (hb hby o_d25_10) rfl) ?_
 refine o_gi (XS.iloadN X521.here hx rfl (hb hby o_d25_11) rfl) ?_
 show o_Gs p e below _ T521 m 12 #[.val (.ref r0), .val (.int x1), .val (.int 0), .val (.int 1), .unset] [(.int 1), (.int 0)]
 have hd523 : (0 : Int32) < (1 : Int32) := (by decide)
 refine o_gi (XS.icmpNo X521.here hx rfl (hb hby o_d25_12) rfl (tlt hd523).2.1) ?_
 refine o_gi (XS.iloadN X521.here hx rfl (hb hby o_d25_15) rfl) ?_
 refine o_gi (XS.iloadN X521.here hx rfl (hb hby o_d25_16) rfl) ?_
 show o_Gs p e below _ T521 m 17 #[.val (.ref r0), .val (.int x1), .val (.int 0), .val (.int 1), .unset] [(.int 1), (.int 0)]
 refine o_gi (XS.iadd X521.here hx rfl (hb hby o_d25_17) rfl) ?_
 show o_Gs p e below _ T521 m 18 #[.val (.ref r0), .val (.int x1), .val (.int 0), .val (.int 1), .unset] [(.int ((0 : Int32) + (1 : Int32)))]
 rw [show ((0 : Int32) + (1 : Int32)) = (1 : Int32) from by decide]
 refine o_gi (XS.iconst X521.here hx rfl (hb hby o_d25_18)) ?_
 show o_Gs p e below _ T521 m 19 #[.val (.ref r0), .val (.int x1), .val (.int 0), .val (.int 1), .unset] [(.int 1), (.int 1)]
 refine o_gi (XS.iadd X521.here hx rfl (hb hby o_d25_19) rfl) ?_
 show o_Gs p e below _ T521 m 20 #[.val (.ref r0), .val (.int x1), .val (.int 0), .val (.int 1), .unset] [(.int ((1 : Int32) + (1 : Int32)))]
 rw [show ((1 : Int32) + (1 : Int32)) = (2 : Int32) from by decide]
 refine o_gi (XS.iconst X521.here hx rfl (hb hby o_d25_20)) ?_
 show o_Gs p e below _ T521 m 21 #[.val (.ref r0), .val (.int x1), .val (.int 0), .val (.int 1), .unset] [(.int 1), (.int 2)]
 refine o_gi (XS.iushr X521.here hx rfl (hb hby o_d25_21) rfl) ?_
 show o_Gs p e below _ T521 m 22 #[.val (.ref r0), .val (.int x1), .val (.int 0), .val (.int 1), .unset] [(.int (((2 : Int32).toUInt32 >>> ((1 : Int32) &&& 31).toUInt32).toInt32))]
 rw [show (((2 : Int32).toUInt32 >>> ((1 : Int32) &&& 31).toUInt32).toInt32) = (1 : Int32) from by decide]
 refine o_gi (XS.istore X521.here hx rfl (hb hby o_d25_22) rfl (l' := #[.val (.ref r0), .val (.int x1), .val (.int 0), .val (.int 1), .val (.int 1)]) rfl) ?_
 refine o_gi (XS.aloadN X521.here hx rfl (hb hby o_d25_24) rfl rfl) ?_
 show o_Gs p e below _ T521 m 25 #[.val (.ref r0), .val (.int x1), .val (.int 0), .val (.int 1), .val (.int 1)] [(.ref r0)]
 obtain ⟨T524, X524, e524, st524⟩ := getF X521 hx hZ hown (host := "") (Or.inl (hw _ o_t128)) Via.refl e521 F_l (g := (mkF m 25 #[.val (.ref r0), .val (.int x1), .val (.int 0), .val (.int 1), .val (.int 1)] [(.ref r0)])) rfl rfl (hb hby o_d25_25)
 refine o_go st524 ?_
 refine o_gi (XS.iload X524.here hx rfl (hb hby o_d25_28) rfl) ?_
 show o_Gs p e below _ T524 m 30 #[.val (.ref r0), .val (.int x1), .val (.int 0), .val (.int 1), .val (.int 1)] [(.int 1), (.ref q_b)]
 obtain ⟨cl525, Ar525, qa525, sa525, na525, ha525, ga525⟩ := id V_b
 refine o_go (X524.iaload hx (j := (1 : Int32)) (v := (.int w1)) (by rw [e524]; exact Ar525.1) (State.isArrayOf_alike hZ.alike Ar525.2.1) Ar525.2.2 (inb_of sa525 ⟨by decide, by decide⟩) (ha525 _ (by rw [sa525]; decide)) (g := (mkF m 30 #[.val (.ref r0), .val (.int x1), .val (.int 0), .val (.int 1), .val (.int 1)] [(.int 1), (.ref q_b)])) rfl rfl (hb hby o_d25_30)) ?_
 refine o_gi (XS.iloadN X524.here hx rfl (hb hby o_d25_31) rfl) ?_
 show o_Gs p e below _ T524 m 32 #[.val (.ref r0), .val (.int x1), .val (.int 0), .val (.int 1), .val (.int 1)] [(.int x1), (.int w1)]
 by_cases hc526 : x1 < w1
 ·refine o_gi (XS.icmpYes X524.here hx rfl (pc0 := 32) (pc' := 41) rfl (hb hby o_d25_32) rfl (tlt hc526).2.2.1 (by decide) (by decide)) ?_
  refine o_gi (XS.iload X524.here hx rfl (hb hby o_d25_41) rfl) ?_
  refine o_gi (XS.iconst X524.here hx rfl (hb hby o_d25_43)) ?_
  show o_Gs p e below _ T524 m 44 #[.val (.ref r0), .val (.int x1), .val (.int 0), .val (.int 1), .val (.int 1)] [(.int 1), (.int 1)]
  refine o_gi (XS.isub X524.here hx rfl (hb hby o_d25_44) rfl) ?_
  show o_Gs p e below _ T524 m 45 #[.val (.ref r0), .val (.int x1), .val (.int 0), .val (.int 1), .val (.int 1)] [(.int ((1 : Int32) - (1 : Int32)))]
  rw [show ((1 : Int32) - (1 : Int32)) = (0 : Int32) from by decide]
  refine o_gi (XS.istoreN X524.here hx rfl (hb hby o_d25_45) rfl (l' := #[.val (.ref r0), .val (.int x1), .val (.int 0), .val (.int 0), .val (.int 1)]) rfl) ?_
  refine o_gi (XS.goto X524.here hx rfl (pc0 := 46) (pc' := 10) rfl (hb hby o_d25_46) (by decide) (by decide)) ?_
  refine o_gi (XS.iloadN X524.here hx rfl (hb hby o_d25_10) rfl) ?_
  refine o_gi (XS.iloadN X524.here hx rfl (hb hby o_d25_11) rfl) ?_
  show o_Gs p e below _ T524 m 12 #[.val (.ref r0), .val (.int x1), .val (.int 0), .val (.int 0), .val (.int 1)] [(.int 0), (.int 0)]
  have hd527 : ¬ ((0 : Int32) < (0 : Int32)) := (by decide)
  refine o_gi (XS.icmpYes X524.here hx rfl (pc0 := 12) (pc' := 49) rfl (hb hby o_d25_12) rfl (flt hd527).2.1 (by decide) (by decide)) ?_
  refine o_gi (XS.iloadN X524.here hx rfl (hb hby o_d25_49) rfl) ?_
  refine o_gi (XS.iconst X524.here hx rfl (hb hby o_d25_50)) ?_
  show o_Gs p e below _ T524 m 51 #[.val (.ref r0), .val (.int x1), .val (.int 0), .val (.int 0), .val (.int 1)] [(.int 1), (.int 0)]
  refine o_gi (XS.iadd X524.here hx rfl (hb hby o_d25_51) rfl) ?_
  show o_Gs p e below _ T524 m 52 #[.val (.ref r0), .val (.int x1), .val (.int 0), .val (.int 0), .val (.int 1)] [(.int ((0 : Int32) + (1 : Int32)))]
  rw [show ((0 : Int32) + (1 : Int32)) = (1 : Int32) from by decide]
  show o_Gs p e below _ T524 m 52 #[.val (.ref r0), .val (.int x1), .val (.int 0), .val (.int 0), .val (.int 1)] [(.int 1)]
  exact o_retI X524 hx hlk hret (hb hby o_d25_52) (by decide) (by decide) ⟨by rw [o_f25_2, if_pos hc526], N0, e524⟩
 ·refine o_gi (XS.icmpNo X524.here hx rfl (hb hby o_d25_32) rfl (flt hc526).2.2.1) ?_
  refine o_gi (XS.iload X524.here hx rfl (hb hby o_d25_35) rfl) ?_
  refine o_gi (XS.istoreN X524.here hx rfl (hb hby o_d25_37) rfl (l' := #[.val (.ref r0), .val (.int x1), .val (.int 1), .val (.int 1), .val (.int 1)]) rfl) ?_
  refine o_gi (XS.goto X524.here hx rfl (pc0 := 38) (pc' := 46) rfl (hb hby o_d25_38) (by decide) (by decide)) ?_
  refine o_gi (XS.goto X524.here hx rfl (pc0 := 46) (pc' := 10) rfl (hb hby o_d25_46) (by decide) (by decide)) ?_
  refine o_gi (XS.iloadN X524.here hx rfl (hb hby o_d25_10) rfl) ?_
  refine o_gi (XS.iloadN X524.here hx rfl (hb hby o_d25_11) rfl) ?_
  show o_Gs p e below _ T524 m 12 #[.val (.ref r0), .val (.int x1), .val (.int 1), .val (.int 1), .val (.int 1)] [(.int 1), (.int 1)]
  have hd528 : ¬ ((1 : Int32) < (1 : Int32)) := (by decide)
  refine o_gi (XS.icmpYes X524.here hx rfl (pc0 := 12) (pc' := 49) rfl (hb hby o_d25_12) rfl (flt hd528).2.1 (by decide) (by decide)) ?_
  refine o_gi (XS.iloadN X524.here hx rfl (hb hby o_d25_49) rfl) ?_
  refine o_gi (XS.iconst X524.here hx rfl (hb hby o_d25_50)) ?_
  show o_Gs p e below _ T524 m 51 #[.val (.ref r0), .val (.int x1), .val (.int 1), .val (.int 1), .val (.int 1)] [(.int 1), (.int 1)]
  refine o_gi (XS.iadd X524.here hx rfl (hb hby o_d25_51) rfl) ?_
  show o_Gs p e below _ T524 m 52 #[.val (.ref r0), .val (.int x1), .val (.int 1), .val (.int 1), .val (.int 1)] [(.int ((1 : Int32) + (1 : Int32)))]
  rw [show ((1 : Int32) + (1 : Int32)) = (2 : Int32) from by decide]
  show o_Gs p e below _ T524 m 52 #[.val (.ref r0), .val (.int x1), .val (.int 1), .val (.int 1), .val (.int 1)] [(.int 2)]
  exact o_retI X524 hx hlk hret (hb hby o_d25_52) (by decide) (by decide) ⟨by rw [o_f25_2, if_neg hc526], N0, e524⟩
def o_f25_3 (x1 : Int32) (w1 : Int32) (w2 : Int32) : Int32 := (if x1 < w1 then (1 : Int32) else (if x1 < w2 then (2 : Int32) else (3 : Int32)))
def o_Q25_3 (r0 : Addr) (x1 : Int32) (q_b : Addr) (k_b : ClassId) (w0 : Int32) (w1 : Int32) (w2 : Int32) (h0 : Heap) (n0 : Nat) (v : Option Value) (h : Heap) (L : List Loc) : Prop := v = some (.int (o_f25_3 x1 w1 w2)) ∧ Fr n0 L ∧ h = h0
abbrev o_R25_3 : Room := { frames := 0, cells := 0, slots := 0, locals := 0 }
theorem o_ef25_3 (m : MethodId) (z0 : Addr) (z1 : Int32) : entryFrame m #[(.ref z0), (.int z1)] 5 = mkF m 0 #[.val (.ref z0), .val (.int z1), .unset, .unset, .unset] [] := by first | (simp [entryFrame, mkF, argsToLocals, Value.category]; done) | rfl
set_option maxRecDepth 65536 in
set_option maxHeartbeats 40000000 in
theorem rm25_3 (l : Launch) (Z : State) (a0 : Array Value) (hw : ∀ d ∈ tables_1, d.before a0 Z = true) (ws : List Jvm.Cond) (r0 : Addr) (x1 : Int32) (q_b : Addr) (k_b : ClassId) (w0 : Int32) (w1 : Int32) (w2 : Int32) (h0 : Heap) (n0 : Nat) (F_l : Fld Z h0 r0 "com/example/foothold/foothold/SourceFile" "lineStarts" "[I" (.ref q_b)) (V_b : Arv Z h0 q_b k_b .int 3 [(.int w0), (.int w1), (.int w2)] (.int 0)) : o_Met l Z (⟨"com/example/foothold/foothold/SourceFile", "line", "(I)I"⟩ : MethodName) prog_92_method_4_code 5 (some .int) ws o_R25_3 #[(.ref r0), (.int x1)] h0 (o_Q25_3 r0 x1 q_b k_b w0 w1 w2 h0 n0) := by
 refine o_met (plainFor_of_name o_pn6) ?_
 intro p e s m below meth c s₁ hx hby hml hown hnm hret hlk hZ e0 X0
 have N0 := Fr.nil n0
 have hml : c.maxLocals = 5 := hml
 have hown : s.vm.findClass "com/example/foothold/foothold/SourceFile" = some m.cls := hown
 have hret : meth.sig.returnType = (some .int) := hret
 have hby : c.code = prog_92_method_4_code := hby
 have hnm : meth.name = "line" := hnm
 rw [o_ef25_3]
 refine o_gi (XS.iconst X0.here hx rfl (hb hby o_d25_0)) ?_
 refine o_gi (XS.istoreN X0.here hx rfl (hb hby o_d25_1) rfl (l' := #[.val (.ref r0), .val (.int x1), .val (.int 0), .unset, .unset]) rfl) ?_
 refine o_gi (XS.aloadN X0.here hx rfl (hb hby o_d25_2) rfl rfl) ?_
 show o_Gs p e below _ s₁ m 3 #[.val (.ref r0), .val (.int x1), .val (.int 0), .unset, .unset] [(.ref r0)]
 obtain ⟨T529, X529, e529, st529⟩ := getF X0 hx hZ hown (host := "") (Or.inl (hw _ o_t128)) Via.refl e0 F_l (g := (mkF m 3 #[.val (.ref r0), .val (.int x1), .val (.int 0), .unset, .unset] [(.ref r0)])) rfl rfl (hb hby o_d25_3)
 refine o_go st529 ?_
 show o_Gs p e below _ T529 m 6 #[.val (.ref r0), .val (.int x1), .val (.int 0), .unset, .unset] [(.ref q_b)]
 obtain ⟨cl530, Ar530, qa530, sa530, na530, ha530, ga530⟩ := id V_b
 refine o_go (X529.arraylength hx (by rw [e529]; exact Ar530.1) (State.isArrayOf_alike hZ.alike Ar530.2.1) (g := (mkF m 6 #[.val (.ref r0), .val (.int x1), .val (.int 0), .unset, .unset] [(.ref q_b)])) rfl rfl (hb hby o_d25_6)) ?_
 rw [len_of sa530 (by decide)]
 refine o_gi (XS.iconst X529.here hx rfl (hb hby o_d25_7)) ?_
 show o_Gs p e below _ T529 m 8 #[.val (.ref r0), .val (.int x1), .val (.int 0), .unset, .unset] [(.int 1), (.int 3)]
 refine o_gi (XS.isub X529.here hx rfl (hb hby o_d25_8) rfl) ?_
 show o_Gs p e below _ T529 m 9 #[.val (.ref r0), .val (.int x1), .val (.int 0), .unset, .unset] [(.int ((3 : Int32) - (1 : Int32)))]
 rw [show ((3 : Int32) - (1 : Int32)) = (2 : Int32) from by decide]
 refine o_gi (XS.istoreN X529.here hx rfl (hb hby o_d25_9) rfl (l' := #[.val (.ref r0), .val (.int x1), .val (.int 0), .val (.int 2), .unset]) rfl) ?_
 refine o_gi (XS.iloadN X529.here hx rfl (hb hby o_d25_10) rfl) ?_
 refine o_gi (XS.iloadN X529.here hx rfl (hb hby o_d25_11) rfl) ?_
 show o_Gs p e below _ T529 m 12 #[.val (.ref r0), .val (.int x1), .val (.int 0), .val (.int 2), .unset] [(.int 2), (.int 0)]
 have hd531 : (0 : Int32) < (2 : Int32) := (by decide)
 refine o_gi (XS.icmpNo X529.here hx rfl (hb hby o_d25_12) rfl (tlt hd531).2.1) ?_
 refine o_gi (XS.iloadN X529.here hx rfl (hb hby o_d25_15) rfl) ?_
 refine o_gi (XS.iloadN X529.here hx rfl (hb hby o_d25_16) rfl) ?_
 show o_Gs p e below _ T529 m 17 #[.val (.ref r0), .val (.int x1), .val (.int 0), .val (.int 2), .unset] [(.int 2), (.int 0)]
 refine o_gi (XS.iadd X529.here hx rfl (hb hby o_d25_17) rfl) ?_
 show o_Gs p e below _ T529 m 18 #[.val (.ref r0), .val (.int x1), .val (.int 0), .val (.int 2), .unset] [(.int ((0 : Int32) + (2 : Int32)))]
 rw [show ((0 : Int32) + (2 : Int32)) = (2 : Int32) from by decide]
 refine o_gi (XS.iconst X529.here hx rfl (hb hby o_d25_18)) ?_
 show o_Gs p e below _ T529 m 19 #[.val (.ref r0), .val (.int x1), .val (.int 0), .val (.int 2), .unset] [(.int 1), (.int 2)]
 refine o_gi (XS.iadd X529.here hx rfl (hb hby o_d25_19) rfl) ?_
 show o_Gs p e below _ T529 m 20 #[.val (.ref r0), .val (.int x1), .val (.int 0), .val (.int 2), .unset] [(.int ((2 : Int32) + (1 : Int32)))]
 rw [show ((2 : Int32) + (1 : Int32)) = (3 : Int32) from by decide]
 refine o_gi (XS.iconst X529.here hx rfl (hb hby o_d25_20)) ?_
 show o_Gs p e below _ T529 m 21 #[.val (.ref r0), .val (.int x1), .val (.int 0), .val (.int 2), .unset] [(.int 1), (.int 3)]
 refine o_gi (XS.iushr X529.here hx rfl (hb hby o_d25_21) rfl) ?_
 show o_Gs p e below _ T529 m 22 #[.val (.ref r0), .val (.int x1), .val (.int 0), .val (.int 2), .unset] [(.int (((3 : Int32).toUInt32 >>> ((1 : Int32) &&& 31).toUInt32).toInt32))]
 rw [show (((3 : Int32).toUInt32 >>> ((1 : Int32) &&& 31).toUInt32).toInt32) = (1 : Int32) from by decide]
 refine o_gi (XS.istore X529.here hx rfl (hb hby o_d25_22) rfl (l' := #[.val (.ref r0), .val (.int x1), .val (.int 0), .val (.int 2), .val (.int 1)]) rfl) ?_
 refine o_gi (XS.aloadN X529.here hx rfl (hb hby o_d25_24) rfl rfl) ?_
 show o_Gs p e below _ T529 m 25 #[.val (.ref r0), .val (.int x1), .val (.int 0), .val (.int 2), .val (.int 1)] [(.ref r0)]
 obtain ⟨T532, X532, e532, st532⟩ := getF X529 hx hZ hown (host := "") (Or.inl (hw _ o_t128)) Via.refl e529 F_l (g := (mkF m 25 #[.val (.ref r0), .val (.int x1), .val (.int 0), .val (.int 2), .val (.int 1)] [(.ref r0)])) rfl rfl (hb hby o_d25_25)
 refine o_go st532 ?_
 refine o_gi (XS.iload X532.here hx rfl (hb hby o_d25_28) rfl) ?_
 show o_Gs p e below _ T532 m 30 #[.val (.ref r0), .val (.int x1), .val (.int 0), .val (.int 2), .val (.int 1)] [(.int 1), (.ref q_b)]
 obtain ⟨cl533, Ar533, qa533, sa533, na533, ha533, ga533⟩ := id V_b
 refine o_go (X532.iaload hx (j := (1 : Int32)) (v := (.int w1)) (by rw [e532]; exact Ar533.1) (State.isArrayOf_alike hZ.alike Ar533.2.1) Ar533.2.2 (inb_of sa533 ⟨by decide, by decide⟩) (ha533 _ (by rw [sa533]; decide)) (g := (mkF m 30 #[.val (.ref r0), .val (.int x1), .val (.int 0), .val (.int 2), .val (.int 1)] [(.int 1), (.ref q_b)])) rfl rfl (hb hby o_d25_30)) ?_
 refine o_gi (XS.iloadN X532.here hx rfl (hb hby o_d25_31) rfl) ?_
 show o_Gs p e below _ T532 m 32 #[.val (.ref r0), .val (.int x1), .val (.int 0), .val (.int 2), .val (.int 1)] [(.int x1), (.int w1)]
 by_cases hc534 : x1 < w1
 ·refine o_gi (XS.icmpYes X532.here hx rfl (pc0 := 32) (pc' := 41) rfl (hb hby o_d25_32) rfl (tlt hc534).2.2.1 (by decide) (by decide)) ?_
  refine o_gi (XS.iload X532.here hx rfl (hb hby o_d25_41) rfl) ?_
  refine o_gi (XS.iconst X532.here hx rfl (hb hby o_d25_43)) ?_
  show o_Gs p e below _ T532 m 44 #[.val (.ref r0), .val (.int x1), .val (.int 0), .val (.int 2), .val (.int 1)] [(.int 1), (.int 1)]
  refine o_gi (XS.isub X532.here hx rfl (hb hby o_d25_44) rfl) ?_
  show o_Gs p e below _ T532 m 45 #[.val (.ref r0), .val (.int x1), .val (.int 0), .val (.int 2), .val (.int 1)] [(.int ((1 : Int32) - (1 : Int32)))]
  rw [show ((1 : Int32) - (1 : Int32)) = (0 : Int32) from by decide]
  refine o_gi (XS.istoreN X532.here hx rfl (hb hby o_d25_45) rfl (l' := #[.val (.ref r0), .val (.int x1), .val (.int 0), .val (.int 0), .val (.int 1)]) rfl) ?_
  refine o_gi (XS.goto X532.here hx rfl (pc0 := 46) (pc' := 10) rfl (hb hby o_d25_46) (by decide) (by decide)) ?_
  refine o_gi (XS.iloadN X532.here hx rfl (hb hby o_d25_10) rfl) ?_
  refine o_gi (XS.iloadN X532.here hx rfl (hb hby o_d25_11) rfl) ?_
  show o_Gs p e below _ T532 m 12 #[.val (.ref r0), .val (.int x1), .val (.int 0), .val (.int 0), .val (.int 1)] [(.int 0), (.int 0)]
  have hd535 : ¬ ((0 : Int32) < (0 : Int32)) := (by decide)
  refine o_gi (XS.icmpYes X532.here hx rfl (pc0 := 12) (pc' := 49) rfl (hb hby o_d25_12) rfl (flt hd535).2.1 (by decide) (by decide)) ?_
  refine o_gi (XS.iloadN X532.here hx rfl (hb hby o_d25_49) rfl) ?_
  refine o_gi (XS.iconst X532.here hx rfl (hb hby o_d25_50)) ?_
  show o_Gs p e below _ T532 m 51 #[.val (.ref r0), .val (.int x1), .val (.int 0), .val (.int 0), .val (.int 1)] [(.int 1), (.int 0)]
  refine o_gi (XS.iadd X532.here hx rfl (hb hby o_d25_51) rfl) ?_
  show o_Gs p e below _ T532 m 52 #[.val (.ref r0), .val (.int x1), .val (.int 0), .val (.int 0), .val (.int 1)] [(.int ((0 : Int32) + (1 : Int32)))]
  rw [show ((0 : Int32) + (1 : Int32)) = (1 : Int32) from by decide]
  show o_Gs p e below _ T532 m 52 #[.val (.ref r0), .val (.int x1), .val (.int 0), .val (.int 0), .val (.int 1)] [(.int 1)]
  exact o_retI X532 hx hlk hret (hb hby o_d25_52) (by decide) (by decide) ⟨by rw [o_f25_3, if_pos hc534], N0, e532⟩
 ·refine o_gi (XS.icmpNo X532.here hx rfl (hb hby o_d25_32) rfl (flt hc534).2.2.1) ?_
  refine o_gi (XS.iload X532.here hx rfl (hb hby o_d25_35) rfl) ?_
  refine o_gi (XS.istoreN X532.here hx rfl (hb hby o_d25_37) rfl (l' := #[.val (.ref r0), .val (.int x1), .val (.int 1), .val (.int 2), .val (.int 1)]) rfl) ?_
  refine o_gi (XS.goto X532.here hx rfl (pc0 := 38) (pc' := 46) rfl (hb hby o_d25_38) (by decide) (by decide)) ?_
  refine o_gi (XS.goto X532.here hx rfl (pc0 := 46) (pc' := 10) rfl (hb hby o_d25_46) (by decide) (by decide)) ?_
  refine o_gi (XS.iloadN X532.here hx rfl (hb hby o_d25_10) rfl) ?_
  refine o_gi (XS.iloadN X532.here hx rfl (hb hby o_d25_11) rfl) ?_
  show o_Gs p e below _ T532 m 12 #[.val (.ref r0), .val (.int x1), .val (.int 1), .val (.int 2), .val (.int 1)] [(.int 2), (.int 1)]
  have hd536 : (1 : Int32) < (2 : Int32) := (by decide)
  refine o_gi (XS.icmpNo X532.here hx rfl (hb hby o_d25_12) rfl (tlt hd536).2.1) ?_
  refine o_gi (XS.iloadN X532.here hx rfl (hb hby o_d25_15) rfl) ?_
  refine o_gi (XS.iloadN X532.here hx rfl (hb hby o_d25_16) rfl) ?_
  show o_Gs p e below _ T532 m 17 #[.val (.ref r0), .val (.int x1), .val (.int 1), .val (.int 2), .val (.int 1)] [(.int 2), (.int 1)]
  refine o_gi (XS.iadd X532.here hx rfl (hb hby o_d25_17) rfl) ?_
  show o_Gs p e below _ T532 m 18 #[.val (.ref r0), .val (.int x1), .val (.int 1), .val (.int 2), .val (.int 1)] [(.int ((1 : Int32) + (2 : Int32)))]
  rw [show ((1 : Int32) + (2 : Int32)) = (3 : Int32) from by decide]
  refine o_gi (XS.iconst X532.here hx rfl (hb hby o_d25_18)) ?_
  show o_Gs p e below _ T532 m 19 #[.val (.ref r0), .val (.int x1), .val (.int 1), .val (.int 2), .val (.int 1)] [(.int 1), (.int 3)]
  refine o_gi (XS.iadd X532.here hx rfl (hb hby o_d25_19) rfl) ?_
  show o_Gs p e below _ T532 m 20 #[.val (.ref r0), .val (.int x1), .val (.int 1), .val (.int 2), .val (.int 1)] [(.int ((3 : Int32) + (1 : Int32)))]
  rw [show ((3 : Int32) + (1 : Int32)) = (4 : Int32) from by decide]
  refine o_gi (XS.iconst X532.here hx rfl (hb hby o_d25_20)) ?_
  show o_Gs p e below _ T532 m 21 #[.val (.ref r0), .val (.int x1), .val (.int 1), .val (.int 2), .val (.int 1)] [(.int 1), (.int 4)]
  refine o_gi (XS.iushr X532.here hx rfl (hb hby o_d25_21) rfl) ?_
  show o_Gs p e below _ T532 m 22 #[.val (.ref r0), .val (.int x1), .val (.int 1), .val (.int 2), .val (.int 1)] [(.int (((4 : Int32).toUInt32 >>> ((1 : Int32) &&& 31).toUInt32).toInt32))]
  rw [show (((4 : Int32).toUInt32 >>> ((1 : Int32) &&& 31).toUInt32).toInt32) = (2 : Int32) from by decide]
  refine o_gi (XS.istore X532.here hx rfl (hb hby o_d25_22) rfl (l' := #[.val (.ref r0), .val (.int x1), .val (.int 1), .val (.int 2), .val (.int 2)]) rfl) ?_
  refine o_gi (XS.aloadN X532.here hx rfl (hb hby o_d25_24) rfl rfl) ?_
  show o_Gs p e below _ T532 m 25 #[.val (.ref r0), .val (.int x1), .val (.int 1), .val (.int 2), .val (.int 2)] [(.ref r0)]
  obtain ⟨T537, X537, e537, st537⟩ := getF X532 hx hZ hown (host := "") (Or.inl (hw _ o_t128)) Via.refl e532 F_l (g := (mkF m 25 #[.val (.ref r0), .val (.int x1), .val (.int 1), .val (.int 2), .val (.int 2)] [(.ref r0)])) rfl rfl (hb hby o_d25_25)
  refine o_go st537 ?_
  refine o_gi (XS.iload X537.here hx rfl (hb hby o_d25_28) rfl) ?_
  show o_Gs p e below _ T537 m 30 #[.val (.ref r0), .val (.int x1), .val (.int 1), .val (.int 2), .val (.int 2)] [(.int 2), (.ref q_b)]
  obtain ⟨cl538, Ar538, qa538, sa538, na538, ha538, ga538⟩ := id V_b
  refine o_go (X537.iaload hx (j := (2 : Int32)) (v := (.int w2)) (by rw [e537]; exact Ar538.1) (State.isArrayOf_alike hZ.alike Ar538.2.1) Ar538.2.2 (inb_of sa538 ⟨by decide, by decide⟩) (ha538 _ (by rw [sa538]; decide)) (g := (mkF m 30 #[.val (.ref r0), .val (.int x1), .val (.int 1), .val (.int 2), .val (.int 2)] [(.int 2), (.ref q_b)])) rfl rfl (hb hby o_d25_30)) ?_
  refine o_gi (XS.iloadN X537.here hx rfl (hb hby o_d25_31) rfl) ?_
  show o_Gs p e below _ T537 m 32 #[.val (.ref r0), .val (.int x1), .val (.int 1), .val (.int 2), .val (.int 2)] [(.int x1), (.int w2)]
  by_cases hc539 : x1 < w2
  ·refine o_gi (XS.icmpYes X537.here hx rfl (pc0 := 32) (pc' := 41) rfl (hb hby o_d25_32) rfl (tlt hc539).2.2.1 (by decide) (by decide)) ?_
   refine o_gi (XS.iload X537.here hx rfl (hb hby o_d25_41) rfl) ?_
   refine o_gi (XS.iconst X537.here hx rfl (hb hby o_d25_43)) ?_
   show o_Gs p e below _ T537 m 44 #[.val (.ref r0), .val (.int x1), .val (.int 1), .val (.int 2), .val (.int 2)] [(.int 1), (.int 2)]
   refine o_gi (XS.isub X537.here hx rfl (hb hby o_d25_44) rfl) ?_
   show o_Gs p e below _ T537 m 45 #[.val (.ref r0), .val (.int x1), .val (.int 1), .val (.int 2), .val (.int 2)] [(.int ((2 : Int32) - (1 : Int32)))]
   rw [show ((2 : Int32) - (1 : Int32)) = (1 : Int32) from by decide]
   refine o_gi (XS.istoreN X537.here hx rfl (hb hby o_d25_45) rfl (l' := #[.val (.ref r0), .val (.int x1), .val (.int 1), .val (.int 1), .val (.int 2)]) rfl) ?_
   refine o_gi (XS.goto X537.here hx rfl (pc0 := 46) (pc' := 10) rfl (hb hby o_d25_46) (by decide) (by decide)) ?_
   refine o_gi (XS.iloadN X537.here hx rfl (hb hby o_d25_10) rfl) ?_
   refine o_gi (XS.iloadN X537.here hx rfl (hb hby o_d25_11) rfl) ?_
   show o_Gs p e below _ T537 m 12 #[.val (.ref r0), .val (.int x1), .val (.int 1), .val (.int 1), .val (.int 2)] [(.int 1), (.int 1)]
   have hd540 : ¬ ((1 : Int32) < (1 : Int32)) := (by decide)
   refine o_gi (XS.icmpYes X537.here hx rfl (pc0 := 12) (pc' := 49) rfl (hb hby o_d25_12) rfl (flt hd540).2.1 (by decide) (by decide)) ?_
   refine o_gi (XS.iloadN X537.here hx rfl (hb hby o_d25_49) rfl) ?_
   refine o_gi (XS.iconst X537.here hx rfl (hb hby o_d25_50)) ?_
   show o_Gs p e below _ T537 m 51 #[.val (.ref r0), .val (.int x1), .val (.int 1), .val (.int 1), .val (.int 2)] [(.int 1), (.int 1)]
   refine o_gi (XS.iadd X537.here hx rfl (hb hby o_d25_51) rfl) ?_
   show o_Gs p e below _ T537 m 52 #[.val (.ref r0), .val (.int x1), .val (.int 1), .val (.int 1), .val (.int 2)] [(.int ((1 : Int32) + (1 : Int32)))]
   rw [show ((1 : Int32) + (1 : Int32)) = (2 : Int32) from by decide]
   show o_Gs p e below _ T537 m 52 #[.val (.ref r0), .val (.int x1), .val (.int 1), .val (.int 1), .val (.int 2)] [(.int 2)]
   exact o_retI X537 hx hlk hret (hb hby o_d25_52) (by decide) (by decide) ⟨by rw [o_f25_3, if_neg hc534, if_pos hc539], N0, e537⟩
  ·refine o_gi (XS.icmpNo X537.here hx rfl (hb hby o_d25_32) rfl (flt hc539).2.2.1) ?_
   refine o_gi (XS.iload X537.here hx rfl (hb hby o_d25_35) rfl) ?_
   refine o_gi (XS.istoreN X537.here hx rfl (hb hby o_d25_37) rfl (l' := #[.val (.ref r0), .val (.int x1), .val (.int 2), .val (.int 2), .val (.int 2)]) rfl) ?_
   refine o_gi (XS.goto X537.here hx rfl (pc0 := 38) (pc' := 46) rfl (hb hby o_d25_38) (by decide) (by decide)) ?_
   refine o_gi (XS.goto X537.here hx rfl (pc0 := 46) (pc' := 10) rfl (hb hby o_d25_46) (by decide) (by decide)) ?_
   refine o_gi (XS.iloadN X537.here hx rfl (hb hby o_d25_10) rfl) ?_
   refine o_gi (XS.iloadN X537.here hx rfl (hb hby o_d25_11) rfl) ?_
   show o_Gs p e below _ T537 m 12 #[.val (.ref r0), .val (.int x1), .val (.int 2), .val (.int 2), .val (.int 2)] [(.int 2), (.int 2)]
   have hd541 : ¬ ((2 : Int32) < (2 : Int32)) := (by decide)
   refine o_gi (XS.icmpYes X537.here hx rfl (pc0 := 12) (pc' := 49) rfl (hb hby o_d25_12) rfl (flt hd541).2.1 (by decide) (by decide)) ?_
   refine o_gi (XS.iloadN X537.here hx rfl (hb hby o_d25_49) rfl) ?_
   refine o_gi (XS.iconst X537.here hx rfl (hb hby o_d25_50)) ?_
   show o_Gs p e below _ T537 m 51 #[.val (.ref r0), .val (.int x1), .val (.int 2), .val (.int 2), .val (.int 2)] [(.int 1), (.int 2)]
   refine o_gi (XS.iadd X537.here hx rfl (hb hby o_d25_51) rfl) ?_
   show o_Gs p e below _ T537 m 52 #[.val (.ref r0), .val (.int x1), .val (.int 2), .val (.int 2), .val (.int 2)] [(.int ((2 : Int32) + (1 : Int32)))]
   rw [show ((2 : Int32) + (1 : Int32)) = (3 : Int32) from by decide]
   show o_Gs p e below _ T537 m 52 #[.val (.ref r0), .val (.int x1), .val (.int 2), .val (.int 2), .val (.int 2)] [(.int 3)]
   exact o_retI X537 hx hlk hret (hb hby o_d25_52) (by decide) (by decide) ⟨by rw [o_f25_3, if_neg hc534, if_neg hc539], N0, e537⟩
def o_f25_4 (x1 : Int32) (w1 : Int32) (w2 : Int32) (w3 : Int32) : Int32 := (if x1 < w2 then (if x1 < w1 then (1 : Int32) else (2 : Int32)) else (if x1 < w3 then (3 : Int32) else (4 : Int32)))
def o_Q25_4 (r0 : Addr) (x1 : Int32) (q_b : Addr) (k_b : ClassId) (w0 : Int32) (w1 : Int32) (w2 : Int32) (w3 : Int32) (h0 : Heap) (n0 : Nat) (v : Option Value) (h : Heap) (L : List Loc) : Prop := v = some (.int (o_f25_4 x1 w1 w2 w3)) ∧ Fr n0 L ∧ h = h0
abbrev o_R25_4 : Room := { frames := 0, cells := 0, slots := 0, locals := 0 }
theorem o_ef25_4 (m : MethodId) (z0 : Addr) (z1 : Int32) : entryFrame m #[(.ref z0), (.int z1)] 5 = mkF m 0 #[.val (.ref z0), .val (.int z1), .unset, .unset, .unset] [] := by first | (simp [entryFrame, mkF, argsToLocals, Value.category]; done) | rfl
set_option maxRecDepth 65536 in
set_option maxHeartbeats 40000000 in
theorem rm25_4 (l : Launch) (Z : State) (a0 : Array Value) (hw : ∀ d ∈ tables_1, d.before a0 Z = true) (ws : List Jvm.Cond) (r0 : Addr) (x1 : Int32) (q_b : Addr) (k_b : ClassId) (w0 : Int32) (w1 : Int32) (w2 : Int32) (w3 : Int32) (h0 : Heap) (n0 : Nat) (F_l : Fld Z h0 r0 "com/example/foothold/foothold/SourceFile" "lineStarts" "[I" (.ref q_b)) (V_b : Arv Z h0 q_b k_b .int 4 [(.int w0), (.int w1), (.int w2), (.int w3)] (.int 0)) : o_Met l Z (⟨"com/example/foothold/foothold/SourceFile", "line", "(I)I"⟩ : MethodName) prog_92_method_4_code 5 (some .int) ws o_R25_4 #[(.ref r0), (.int x1)] h0 (o_Q25_4 r0 x1 q_b k_b w0 w1 w2 w3 h0 n0) := by
 refine o_met (plainFor_of_name o_pn6) ?_
 intro p e s m below meth c s₁ hx hby hml hown hnm hret hlk hZ e0 X0
 have N0 := Fr.nil n0
 have hml : c.maxLocals = 5 := hml
 have hown : s.vm.findClass "com/example/foothold/foothold/SourceFile" = some m.cls := hown
 have hret : meth.sig.returnType = (some .int) := hret
 have hby : c.code = prog_92_method_4_code := hby
 have hnm : meth.name = "line" := hnm
 rw [o_ef25_4]
 refine o_gi (XS.iconst X0.here hx rfl (hb hby o_d25_0)) ?_
 refine o_gi (XS.istoreN X0.here hx rfl (hb hby o_d25_1) rfl (l' := #[.val (.ref r0), .val (.int x1), .val (.int 0), .unset, .unset]) rfl) ?_
 refine o_gi (XS.aloadN X0.here hx rfl (hb hby o_d25_2) rfl rfl) ?_
 show o_Gs p e below _ s₁ m 3 #[.val (.ref r0), .val (.int x1), .val (.int 0), .unset, .unset] [(.ref r0)]
 obtain ⟨T542, X542, e542, st542⟩ := getF X0 hx hZ hown (host := "") (Or.inl (hw _ o_t128)) Via.refl e0 F_l (g := (mkF m 3 #[.val (.ref r0), .val (.int x1), .val (.int 0), .unset, .unset] [(.ref r0)])) rfl rfl (hb hby o_d25_3)
 refine o_go st542 ?_
 show o_Gs p e below _ T542 m 6 #[.val (.ref r0), .val (.int x1), .val (.int 0), .unset, .unset] [(.ref q_b)]
 obtain ⟨cl543, Ar543, qa543, sa543, na543, ha543, ga543⟩ := id V_b
 refine o_go (X542.arraylength hx (by rw [e542]; exact Ar543.1) (State.isArrayOf_alike hZ.alike Ar543.2.1) (g := (mkF m 6 #[.val (.ref r0), .val (.int x1), .val (.int 0), .unset, .unset] [(.ref q_b)])) rfl rfl (hb hby o_d25_6)) ?_
 rw [len_of sa543 (by decide)]
 refine o_gi (XS.iconst X542.here hx rfl (hb hby o_d25_7)) ?_
 show o_Gs p e below _ T542 m 8 #[.val (.ref r0), .val (.int x1), .val (.int 0), .unset, .unset] [(.int 1), (.int 4)]
 refine o_gi (XS.isub X542.here hx rfl (hb hby o_d25_8) rfl) ?_
 show o_Gs p e below _ T542 m 9 #[.val (.ref r0), .val (.int x1), .val (.int 0), .unset, .unset] [(.int ((4 : Int32) - (1 : Int32)))]
 rw [show ((4 : Int32) - (1 : Int32)) = (3 : Int32) from by decide]
 refine o_gi (XS.istoreN X542.here hx rfl (hb hby o_d25_9) rfl (l' := #[.val (.ref r0), .val (.int x1), .val (.int 0), .val (.int 3), .unset]) rfl) ?_
 refine o_gi (XS.iloadN X542.here hx rfl (hb hby o_d25_10) rfl) ?_
 refine o_gi (XS.iloadN X542.here hx rfl (hb hby o_d25_11) rfl) ?_
 show o_Gs p e below _ T542 m 12 #[.val (.ref r0), .val (.int x1), .val (.int 0), .val (.int 3), .unset] [(.int 3), (.int 0)]
 have hd544 : (0 : Int32) < (3 : Int32) := (by decide)
 refine o_gi (XS.icmpNo X542.here hx rfl (hb hby o_d25_12) rfl (tlt hd544).2.1) ?_
 refine o_gi (XS.iloadN X542.here hx rfl (hb hby o_d25_15) rfl) ?_
 refine o_gi (XS.iloadN X542.here hx rfl (hb hby o_d25_16) rfl) ?_
 show o_Gs p e below _ T542 m 17 #[.val (.ref r0), .val (.int x1), .val (.int 0), .val (.int 3), .unset] [(.int 3), (.int 0)]
 refine o_gi (XS.iadd X542.here hx rfl (hb hby o_d25_17) rfl) ?_
 show o_Gs p e below _ T542 m 18 #[.val (.ref r0), .val (.int x1), .val (.int 0), .val (.int 3), .unset] [(.int ((0 : Int32) + (3 : Int32)))]
 rw [show ((0 : Int32) + (3 : Int32)) = (3 : Int32) from by decide]
 refine o_gi (XS.iconst X542.here hx rfl (hb hby o_d25_18)) ?_
 show o_Gs p e below _ T542 m 19 #[.val (.ref r0), .val (.int x1), .val (.int 0), .val (.int 3), .unset] [(.int 1), (.int 3)]
 refine o_gi (XS.iadd X542.here hx rfl (hb hby o_d25_19) rfl) ?_
 show o_Gs p e below _ T542 m 20 #[.val (.ref r0), .val (.int x1), .val (.int 0), .val (.int 3), .unset] [(.int ((3 : Int32) + (1 : Int32)))]
 rw [show ((3 : Int32) + (1 : Int32)) = (4 : Int32) from by decide]
 refine o_gi (XS.iconst X542.here hx rfl (hb hby o_d25_20)) ?_
 show o_Gs p e below _ T542 m 21 #[.val (.ref r0), .val (.int x1), .val (.int 0), .val (.int 3), .unset] [(.int 1), (.int 4)]
 refine o_gi (XS.iushr X542.here hx rfl (hb hby o_d25_21) rfl) ?_
 show o_Gs p e below _ T542 m 22 #[.val (.ref r0), .val (.int x1), .val (.int 0), .val (.int 3), .unset] [(.int (((4 : Int32).toUInt32 >>> ((1 : Int32) &&& 31).toUInt32).toInt32))]
 rw [show (((4 : Int32).toUInt32 >>> ((1 : Int32) &&& 31).toUInt32).toInt32) = (2 : Int32) from by decide]
 refine o_gi (XS.istore X542.here hx rfl (hb hby o_d25_22) rfl (l' := #[.val (.ref r0), .val (.int x1), .val (.int 0), .val (.int 3), .val (.int 2)]) rfl) ?_
 refine o_gi (XS.aloadN X542.here hx rfl (hb hby o_d25_24) rfl rfl) ?_
 show o_Gs p e below _ T542 m 25 #[.val (.ref r0), .val (.int x1), .val (.int 0), .val (.int 3), .val (.int 2)] [(.ref r0)]
 obtain ⟨T545, X545, e545, st545⟩ := getF X542 hx hZ hown (host := "") (Or.inl (hw _ o_t128)) Via.refl e542 F_l (g := (mkF m 25 #[.val (.ref r0), .val (.int x1), .val (.int 0), .val (.int 3), .val (.int 2)] [(.ref r0)])) rfl rfl (hb hby o_d25_25)
 refine o_go st545 ?_
 refine o_gi (XS.iload X545.here hx rfl (hb hby o_d25_28) rfl) ?_
 show o_Gs p e below _ T545 m 30 #[.val (.ref r0), .val (.int x1), .val (.int 0), .val (.int 3), .val (.int 2)] [(.int 2), (.ref q_b)]
 obtain ⟨cl546, Ar546, qa546, sa546, na546, ha546, ga546⟩ := id V_b
 refine o_go (X545.iaload hx (j := (2 : Int32)) (v := (.int w2)) (by rw [e545]; exact Ar546.1) (State.isArrayOf_alike hZ.alike Ar546.2.1) Ar546.2.2 (inb_of sa546 ⟨by decide, by decide⟩) (ha546 _ (by rw [sa546]; decide)) (g := (mkF m 30 #[.val (.ref r0), .val (.int x1), .val (.int 0), .val (.int 3), .val (.int 2)] [(.int 2), (.ref q_b)])) rfl rfl (hb hby o_d25_30)) ?_
 refine o_gi (XS.iloadN X545.here hx rfl (hb hby o_d25_31) rfl) ?_
 show o_Gs p e below _ T545 m 32 #[.val (.ref r0), .val (.int x1), .val (.int 0), .val (.int 3), .val (.int 2)] [(.int x1), (.int w2)]
 by_cases hc547 : x1 < w2
 ·refine o_gi (XS.icmpYes X545.here hx rfl (pc0 := 32) (pc' := 41) rfl (hb hby o_d25_32) rfl (tlt hc547).2.2.1 (by decide) (by decide)) ?_
  refine o_gi (XS.iload X545.here hx rfl (hb hby o_d25_41) rfl) ?_
  refine o_gi (XS.iconst X545.here hx rfl (hb hby o_d25_43)) ?_
  show o_Gs p e below _ T545 m 44 #[.val (.ref r0), .val (.int x1), .val (.int 0), .val (.int 3), .val (.int 2)] [(.int 1), (.int 2)]
  refine o_gi (XS.isub X545.here hx rfl (hb hby o_d25_44) rfl) ?_
  show o_Gs p e below _ T545 m 45 #[.val (.ref r0), .val (.int x1), .val (.int 0), .val (.int 3), .val (.int 2)] [(.int ((2 : Int32) - (1 : Int32)))]
  rw [show ((2 : Int32) - (1 : Int32)) = (1 : Int32) from by decide]
  refine o_gi (XS.istoreN X545.here hx rfl (hb hby o_d25_45) rfl (l' := #[.val (.ref r0), .val (.int x1), .val (.int 0), .val (.int 1), .val (.int 2)]) rfl) ?_
  refine o_gi (XS.goto X545.here hx rfl (pc0 := 46) (pc' := 10) rfl (hb hby o_d25_46) (by decide) (by decide)) ?_
  refine o_gi (XS.iloadN X545.here hx rfl (hb hby o_d25_10) rfl) ?_
  refine o_gi (XS.iloadN X545.here hx rfl (hb hby o_d25_11) rfl) ?_
  show o_Gs p e below _ T545 m 12 #[.val (.ref r0), .val (.int x1), .val (.int 0), .val (.int 1), .val (.int 2)] [(.int 1), (.int 0)]
  have hd548 : (0 : Int32) < (1 : Int32) := (by decide)
  refine o_gi (XS.icmpNo X545.here hx rfl (hb hby o_d25_12) rfl (tlt hd548).2.1) ?_
  refine o_gi (XS.iloadN X545.here hx rfl (hb hby o_d25_15) rfl) ?_
  refine o_gi (XS.iloadN X545.here hx rfl (hb hby o_d25_16) rfl) ?_
  show o_Gs p e below _ T545 m 17 #[.val (.ref r0), .val (.int x1), .val (.int 0), .val (.int 1), .val (.int 2)] [(.int 1), (.int 0)]
  refine o_gi (XS.iadd X545.here hx rfl (hb hby o_d25_17) rfl) ?_
  show o_Gs p e below _ T545 m 18 #[.val (.ref r0), .val (.int x1), .val (.int 0), .val (.int 1), .val (.int 2)] [(.int ((0 : Int32) + (1 : Int32)))]
  rw [show ((0 : Int32) + (1 : Int32)) = (1 : Int32) from by decide]
  refine o_gi (XS.iconst X545.here hx rfl (hb hby o_d25_18)) ?_
  show o_Gs p e below _ T545 m 19 #[.val (.ref r0), .val (.int x1), .val (.int 0), .val (.int 1), .val (.int 2)] [(.int 1), (.int 1)]
  refine o_gi (XS.iadd X545.here hx rfl (hb hby o_d25_19) rfl) ?_
  show o_Gs p e below _ T545 m 20 #[.val (.ref r0), .val (.int x1), .val (.int 0), .val (.int 1), .val (.int 2)] [(.int ((1 : Int32) + (1 : Int32)))]
  rw [show ((1 : Int32) + (1 : Int32)) = (2 : Int32) from by decide]
  refine o_gi (XS.iconst X545.here hx rfl (hb hby o_d25_20)) ?_
  show o_Gs p e below _ T545 m 21 #[.val (.ref r0), .val (.int x1), .val (.int 0), .val (.int 1), .val (.int 2)] [(.int 1), (.int 2)]
  refine o_gi (XS.iushr X545.here hx rfl (hb hby o_d25_21) rfl) ?_
  show o_Gs p e below _ T545 m 22 #[.val (.ref r0), .val (.int x1), .val (.int 0), .val (.int 1), .val (.int 2)] [(.int (((2 : Int32).toUInt32 >>> ((1 : Int32) &&& 31).toUInt32).toInt32))]
  rw [show (((2 : Int32).toUInt32 >>> ((1 : Int32) &&& 31).toUInt32).toInt32) = (1 : Int32) from by decide]
  refine o_gi (XS.istore X545.here hx rfl (hb hby o_d25_22) rfl (l' := #[.val (.ref r0), .val (.int x1), .val (.int 0), .val (.int 1), .val (.int 1)]) rfl) ?_
  refine o_gi (XS.aloadN X545.here hx rfl (hb hby o_d25_24) rfl rfl) ?_
  show o_Gs p e below _ T545 m 25 #[.val (.ref r0), .val (.int x1), .val (.int 0), .val (.int 1), .val (.int 1)] [(.ref r0)]
  obtain ⟨T549, X549, e549, st549⟩ := getF X545 hx hZ hown (host := "") (Or.inl (hw _ o_t128)) Via.refl e545 F_l (g := (mkF m 25 #[.val (.ref r0), .val (.int x1), .val (.int 0), .val (.int 1), .val (.int 1)] [(.ref r0)])) rfl rfl (hb hby o_d25_25)
  refine o_go st549 ?_
  refine o_gi (XS.iload X549.here hx rfl (hb hby o_d25_28) rfl) ?_
  show o_Gs p e below _ T549 m 30 #[.val (.ref r0), .val (.int x1), .val (.int 0), .val (.int 1), .val (.int 1)] [(.int 1), (.ref q_b)]
  obtain ⟨cl550, Ar550, qa550, sa550, na550, ha550, ga550⟩ := id V_b
  refine o_go (X549.iaload hx (j := (1 : Int32)) (v := (.int w1)) (by rw [e549]; exact Ar550.1) (State.isArrayOf_alike hZ.alike Ar550.2.1) Ar550.2.2 (inb_of sa550 ⟨by decide, by decide⟩) (ha550 _ (by rw [sa550]; decide)) (g := (mkF m 30 #[.val (.ref r0), .val (.int x1), .val (.int 0), .val (.int 1), .val (.int 1)] [(.int 1), (.ref q_b)])) rfl rfl (hb hby o_d25_30)) ?_
  refine o_gi (XS.iloadN X549.here hx rfl (hb hby o_d25_31) rfl) ?_
  show o_Gs p e below _ T549 m 32 #[.val (.ref r0), .val (.int x1), .val (.int 0), .val (.int 1), .val (.int 1)] [(.int x1), (.int w1)]
  by_cases hc551 : x1 < w1
  ·refine o_gi (XS.icmpYes X549.here hx rfl (pc0 := 32) (pc' := 41) rfl (hb hby o_d25_32) rfl (tlt hc551).2.2.1 (by decide) (by decide)) ?_
   refine o_gi (XS.iload X549.here hx rfl (hb hby o_d25_41) rfl) ?_
   refine o_gi (XS.iconst X549.here hx rfl (hb hby o_d25_43)) ?_
   show o_Gs p e below _ T549 m 44 #[.val (.ref r0), .val (.int x1), .val (.int 0), .val (.int 1), .val (.int 1)] [(.int 1), (.int 1)]
   refine o_gi (XS.isub X549.here hx rfl (hb hby o_d25_44) rfl) ?_
   show o_Gs p e below _ T549 m 45 #[.val (.ref r0), .val (.int x1), .val (.int 0), .val (.int 1), .val (.int 1)] [(.int ((1 : Int32) - (1 : Int32)))]
   rw [show ((1 : Int32) - (1 : Int32)) = (0 : Int32) from by decide]
   refine o_gi (XS.istoreN X549.here hx rfl (hb hby o_d25_45) rfl (l' := #[.val (.ref r0), .val (.int x1), .val (.int 0), .val (.int 0), .val (.int 1)]) rfl) ?_
   refine o_gi (XS.goto X549.here hx rfl (pc0 := 46) (pc' := 10) rfl (hb hby o_d25_46) (by decide) (by decide)) ?_
   refine o_gi (XS.iloadN X549.here hx rfl (hb hby o_d25_10) rfl) ?_
   refine o_gi (XS.iloadN X549.here hx rfl (hb hby o_d25_11) rfl) ?_
   show o_Gs p e below _ T549 m 12 #[.val (.ref r0), .val (.int x1), .val (.int 0), .val (.int 0), .val (.int 1)] [(.int 0), (.int 0)]
   have hd552 : ¬ ((0 : Int32) < (0 : Int32)) := (by decide)
   refine o_gi (XS.icmpYes X549.here hx rfl (pc0 := 12) (pc' := 49) rfl (hb hby o_d25_12) rfl (flt hd552).2.1 (by decide) (by decide)) ?_
   refine o_gi (XS.iloadN X549.here hx rfl (hb hby o_d25_49) rfl) ?_
   refine o_gi (XS.iconst X549.here hx rfl (hb hby o_d25_50)) ?_
   show o_Gs p e below _ T549 m 51 #[.val (.ref r0), .val (.int x1), .val (.int 0), .val (.int 0), .val (.int 1)] [(.int 1), (.int 0)]
   refine o_gi (XS.iadd X549.here hx rfl (hb hby o_d25_51) rfl) ?_
   show o_Gs p e below _ T549 m 52 #[.val (.ref r0), .val (.int x1), .val (.int 0), .val (.int 0), .val (.int 1)] [(.int ((0 : Int32) + (1 : Int32)))]
   rw [show ((0 : Int32) + (1 : Int32)) = (1 : Int32) from by decide]
   show o_Gs p e below _ T549 m 52 #[.val (.ref r0), .val (.int x1), .val (.int 0), .val (.int 0), .val (.int 1)] [(.int 1)]
   exact o_retI X549 hx hlk hret (hb hby o_d25_52) (by decide) (by decide) ⟨by rw [o_f25_4, if_pos hc547, if_pos hc551], N0, e549⟩
  ·refine o_gi (XS.icmpNo X549.here hx rfl (hb hby o_d25_32) rfl (flt hc551).2.2.1) ?_
   refine o_gi (XS.iload X549.here hx rfl (hb hby o_d25_35) rfl) ?_
   refine o_gi (XS.istoreN X549.here hx rfl (hb hby o_d25_37) rfl (l' := #[.val (.ref r0), .val (.int x1), .val (.int 1), .val (.int 1), .val (.int 1)]) rfl) ?_
   refine o_gi (XS.goto X549.here hx rfl (pc0 := 38) (pc' := 46) rfl (hb hby o_d25_38) (by decide) (by decide)) ?_
   refine o_gi (XS.goto X549.here hx rfl (pc0 := 46) (pc' := 10) rfl (hb hby o_d25_46) (by decide) (by decide)) ?_
   refine o_gi (XS.iloadN X549.here hx rfl (hb hby o_d25_10) rfl) ?_
   refine o_gi (XS.iloadN X549.here hx rfl (hb hby o_d25_11) rfl) ?_
   show o_Gs p e below _ T549 m 12 #[.val (.ref r0), .val (.int x1), .val (.int 1), .val (.int 1), .val (.int 1)] [(.int 1), (.int 1)]
   have hd553 : ¬ ((1 : Int32) < (1 : Int32)) := (by decide)
   refine o_gi (XS.icmpYes X549.here hx rfl (pc0 := 12) (pc' := 49) rfl (hb hby o_d25_12) rfl (flt hd553).2.1 (by decide) (by decide)) ?_
   refine o_gi (XS.iloadN X549.here hx rfl (hb hby o_d25_49) rfl) ?_
   refine o_gi (XS.iconst X549.here hx rfl (hb hby o_d25_50)) ?_
   show o_Gs p e below _ T549 m 51 #[.val (.ref r0), .val (.int x1), .val (.int 1), .val (.int 1), .val (.int 1)] [(.int 1), (.int 1)]
   refine o_gi (XS.iadd X549.here hx rfl (hb hby o_d25_51) rfl) ?_
   show o_Gs p e below _ T549 m 52 #[.val (.ref r0), .val (.int x1), .val (.int 1), .val (.int 1), .val (.int 1)] [(.int ((1 : Int32) + (1 : Int32)))]
   rw [show ((1 : Int32) + (1 : Int32)) = (2 : Int32) from by decide]
   show o_Gs p e below _ T549 m 52 #[.val (.ref r0), .val (.int x1), .val (.int 1), .val (.int 1), .val (.int 1)] [(.int 2)]
   exact o_retI X549 hx hlk hret (hb hby o_d25_52) (by decide) (by decide) ⟨by rw [o_f25_4, if_pos hc547, if_neg hc551], N0, e549⟩
 ·refine o_gi (XS.icmpNo X545.here hx rfl (hb hby o_d25_32) rfl (flt hc547).2.2.1) ?_
  refine o_gi (XS.iload X545.here hx rfl (hb hby o_d25_35) rfl) ?_
  refine o_gi (XS.istoreN X545.here hx rfl (hb hby o_d25_37) rfl (l' := #[.val (.ref r0), .val (.int x1), .val (.int 2), .val (.int 3), .val (.int 2)]) rfl) ?_
  refine o_gi (XS.goto X545.here hx rfl (pc0 := 38) (pc' := 46) rfl (hb hby o_d25_38) (by decide) (by decide)) ?_
  refine o_gi (XS.goto X545.here hx rfl (pc0 := 46) (pc' := 10) rfl (hb hby o_d25_46) (by decide) (by decide)) ?_
  refine o_gi (XS.iloadN X545.here hx rfl (hb hby o_d25_10) rfl) ?_
  refine o_gi (XS.iloadN X545.here hx rfl (hb hby o_d25_11) rfl) ?_
  show o_Gs p e below _ T545 m 12 #[.val (.ref r0), .val (.int x1), .val (.int 2), .val (.int 3), .val (.int 2)] [(.int 3), (.int 2)]
  have hd554 : (2 : Int32) < (3 : Int32) := (by decide)
  refine o_gi (XS.icmpNo X545.here hx rfl (hb hby o_d25_12) rfl (tlt hd554).2.1) ?_
  refine o_gi (XS.iloadN X545.here hx rfl (hb hby o_d25_15) rfl) ?_
  refine o_gi (XS.iloadN X545.here hx rfl (hb hby o_d25_16) rfl) ?_
  show o_Gs p e below _ T545 m 17 #[.val (.ref r0), .val (.int x1), .val (.int 2), .val (.int 3), .val (.int 2)] [(.int 3), (.int 2)]
  refine o_gi (XS.iadd X545.here hx rfl (hb hby o_d25_17) rfl) ?_
  show o_Gs p e below _ T545 m 18 #[.val (.ref r0), .val (.int x1), .val (.int 2), .val (.int 3), .val (.int 2)] [(.int ((2 : Int32) + (3 : Int32)))]
  rw [show ((2 : Int32) + (3 : Int32)) = (5 : Int32) from by decide]
  refine o_gi (XS.iconst X545.here hx rfl (hb hby o_d25_18)) ?_
  show o_Gs p e below _ T545 m 19 #[.val (.ref r0), .val (.int x1), .val (.int 2), .val (.int 3), .val (.int 2)] [(.int 1), (.int 5)]
  refine o_gi (XS.iadd X545.here hx rfl (hb hby o_d25_19) rfl) ?_
  show o_Gs p e below _ T545 m 20 #[.val (.ref r0), .val (.int x1), .val (.int 2), .val (.int 3), .val (.int 2)] [(.int ((5 : Int32) + (1 : Int32)))]
  rw [show ((5 : Int32) + (1 : Int32)) = (6 : Int32) from by decide]
  refine o_gi (XS.iconst X545.here hx rfl (hb hby o_d25_20)) ?_
  show o_Gs p e below _ T545 m 21 #[.val (.ref r0), .val (.int x1), .val (.int 2), .val (.int 3), .val (.int 2)] [(.int 1), (.int 6)]
  refine o_gi (XS.iushr X545.here hx rfl (hb hby o_d25_21) rfl) ?_
  show o_Gs p e below _ T545 m 22 #[.val (.ref r0), .val (.int x1), .val (.int 2), .val (.int 3), .val (.int 2)] [(.int (((6 : Int32).toUInt32 >>> ((1 : Int32) &&& 31).toUInt32).toInt32))]
  rw [show (((6 : Int32).toUInt32 >>> ((1 : Int32) &&& 31).toUInt32).toInt32) = (3 : Int32) from by decide]
  refine o_gi (XS.istore X545.here hx rfl (hb hby o_d25_22) rfl (l' := #[.val (.ref r0), .val (.int x1), .val (.int 2), .val (.int 3), .val (.int 3)]) rfl) ?_
  refine o_gi (XS.aloadN X545.here hx rfl (hb hby o_d25_24) rfl rfl) ?_
  show o_Gs p e below _ T545 m 25 #[.val (.ref r0), .val (.int x1), .val (.int 2), .val (.int 3), .val (.int 3)] [(.ref r0)]
  obtain ⟨T555, X555, e555, st555⟩ := getF X545 hx hZ hown (host := "") (Or.inl (hw _ o_t128)) Via.refl e545 F_l (g := (mkF m 25 #[.val (.ref r0), .val (.int x1), .val (.int 2), .val (.int 3), .val (.int 3)] [(.ref r0)])) rfl rfl (hb hby o_d25_25)
  refine o_go st555 ?_
  refine o_gi (XS.iload X555.here hx rfl (hb hby o_d25_28) rfl) ?_
  show o_Gs p e below _ T555 m 30 #[.val (.ref r0), .val (.int x1), .val (.int 2), .val (.int 3), .val (.int 3)] [(.int 3), (.ref q_b)]
  obtain ⟨cl556, Ar556, qa556, sa556, na556, ha556, ga556⟩ := id V_b
  refine o_go (X555.iaload hx (j := (3 : Int32)) (v := (.int w3)) (by rw [e555]; exact Ar556.1) (State.isArrayOf_alike hZ.alike Ar556.2.1) Ar556.2.2 (inb_of sa556 ⟨by decide, by decide⟩) (ha556 _ (by rw [sa556]; decide)) (g := (mkF m 30 #[.val (.ref r0), .val (.int x1), .val (.int 2), .val (.int 3), .val (.int 3)] [(.int 3), (.ref q_b)])) rfl rfl (hb hby o_d25_30)) ?_
  refine o_gi (XS.iloadN X555.here hx rfl (hb hby o_d25_31) rfl) ?_
  show o_Gs p e below _ T555 m 32 #[.val (.ref r0), .val (.int x1), .val (.int 2), .val (.int 3), .val (.int 3)] [(.int x1), (.int w3)]
  by_cases hc557 : x1 < w3
  ·refine o_gi (XS.icmpYes X555.here hx rfl (pc0 := 32) (pc' := 41) rfl (hb hby o_d25_32) rfl (tlt hc557).2.2.1 (by decide) (by decide)) ?_
   refine o_gi (XS.iload X555.here hx rfl (hb hby o_d25_41) rfl) ?_
   refine o_gi (XS.iconst X555.here hx rfl (hb hby o_d25_43)) ?_
   show o_Gs p e below _ T555 m 44 #[.val (.ref r0), .val (.int x1), .val (.int 2), .val (.int 3), .val (.int 3)] [(.int 1), (.int 3)]
   refine o_gi (XS.isub X555.here hx rfl (hb hby o_d25_44) rfl) ?_
   show o_Gs p e below _ T555 m 45 #[.val (.ref r0), .val (.int x1), .val (.int 2), .val (.int 3), .val (.int 3)] [(.int ((3 : Int32) - (1 : Int32)))]
   rw [show ((3 : Int32) - (1 : Int32)) = (2 : Int32) from by decide]
   refine o_gi (XS.istoreN X555.here hx rfl (hb hby o_d25_45) rfl (l' := #[.val (.ref r0), .val (.int x1), .val (.int 2), .val (.int 2), .val (.int 3)]) rfl) ?_
   refine o_gi (XS.goto X555.here hx rfl (pc0 := 46) (pc' := 10) rfl (hb hby o_d25_46) (by decide) (by decide)) ?_
   refine o_gi (XS.iloadN X555.here hx rfl (hb hby o_d25_10) rfl) ?_
   refine o_gi (XS.iloadN X555.here hx rfl (hb hby o_d25_11) rfl) ?_
   show o_Gs p e below _ T555 m 12 #[.val (.ref r0), .val (.int x1), .val (.int 2), .val (.int 2), .val (.int 3)] [(.int 2), (.int 2)]
   have hd558 : ¬ ((2 : Int32) < (2 : Int32)) := (by decide)
   refine o_gi (XS.icmpYes X555.here hx rfl (pc0 := 12) (pc' := 49) rfl (hb hby o_d25_12) rfl (flt hd558).2.1 (by decide) (by decide)) ?_
   refine o_gi (XS.iloadN X555.here hx rfl (hb hby o_d25_49) rfl) ?_
   refine o_gi (XS.iconst X555.here hx rfl (hb hby o_d25_50)) ?_
   show o_Gs p e below _ T555 m 51 #[.val (.ref r0), .val (.int x1), .val (.int 2), .val (.int 2), .val (.int 3)] [(.int 1), (.int 2)]
   refine o_gi (XS.iadd X555.here hx rfl (hb hby o_d25_51) rfl) ?_
   show o_Gs p e below _ T555 m 52 #[.val (.ref r0), .val (.int x1), .val (.int 2), .val (.int 2), .val (.int 3)] [(.int ((2 : Int32) + (1 : Int32)))]
   rw [show ((2 : Int32) + (1 : Int32)) = (3 : Int32) from by decide]
   show o_Gs p e below _ T555 m 52 #[.val (.ref r0), .val (.int x1), .val (.int 2), .val (.int 2), .val (.int 3)] [(.int 3)]
   exact o_retI X555 hx hlk hret (hb hby o_d25_52) (by decide) (by decide) ⟨by rw [o_f25_4, if_neg hc547, if_pos hc557], N0, e555⟩
  ·refine o_gi (XS.icmpNo X555.here hx rfl (hb hby o_d25_32) rfl (flt hc557).2.2.1) ?_
   refine o_gi (XS.iload X555.here hx rfl (hb hby o_d25_35) rfl) ?_
   refine o_gi (XS.istoreN X555.here hx rfl (hb hby o_d25_37) rfl (l' := #[.val (.ref r0), .val (.int x1), .val (.int 3), .val (.int 3), .val (.int 3)]) rfl) ?_
   refine o_gi (XS.goto X555.here hx rfl (pc0 := 38) (pc' := 46) rfl (hb hby o_d25_38) (by decide) (by decide)) ?_
   refine o_gi (XS.goto X555.here hx rfl (pc0 := 46) (pc' := 10) rfl (hb hby o_d25_46) (by decide) (by decide)) ?_
   refine o_gi (XS.iloadN X555.here hx rfl (hb hby o_d25_10) rfl) ?_
   refine o_gi (XS.iloadN X555.here hx rfl (hb hby o_d25_11) rfl) ?_
   show o_Gs p e below _ T555 m 12 #[.val (.ref r0), .val (.int x1), .val (.int 3), .val (.int 3), .val (.int 3)] [(.int 3), (.int 3)]
   have hd559 : ¬ ((3 : Int32) < (3 : Int32)) := (by decide)
   refine o_gi (XS.icmpYes X555.here hx rfl (pc0 := 12) (pc' := 49) rfl (hb hby o_d25_12) rfl (flt hd559).2.1 (by decide) (by decide)) ?_
   refine o_gi (XS.iloadN X555.here hx rfl (hb hby o_d25_49) rfl) ?_
   refine o_gi (XS.iconst X555.here hx rfl (hb hby o_d25_50)) ?_
   show o_Gs p e below _ T555 m 51 #[.val (.ref r0), .val (.int x1), .val (.int 3), .val (.int 3), .val (.int 3)] [(.int 1), (.int 3)]
   refine o_gi (XS.iadd X555.here hx rfl (hb hby o_d25_51) rfl) ?_
   show o_Gs p e below _ T555 m 52 #[.val (.ref r0), .val (.int x1), .val (.int 3), .val (.int 3), .val (.int 3)] [(.int ((3 : Int32) + (1 : Int32)))]
   rw [show ((3 : Int32) + (1 : Int32)) = (4 : Int32) from by decide]
   show o_Gs p e below _ T555 m 52 #[.val (.ref r0), .val (.int x1), .val (.int 3), .val (.int 3), .val (.int 3)] [(.int 4)]
   exact o_retI X555 hx hlk hret (hb hby o_d25_52) (by decide) (by decide) ⟨by rw [o_f25_4, if_neg hc547, if_neg hc557], N0, e555⟩
def o_f25_5 (x1 : Int32) (w1 : Int32) (w2 : Int32) (w3 : Int32) (w4 : Int32) : Int32 := (if x1 < w2 then (if x1 < w1 then (1 : Int32) else (2 : Int32)) else (if x1 < w3 then (3 : Int32) else (if x1 < w4 then (4 : Int32) else (5 : Int32))))
def o_Q25_5 (r0 : Addr) (x1 : Int32) (q_b : Addr) (k_b : ClassId) (w0 : Int32) (w1 : Int32) (w2 : Int32) (w3 : Int32) (w4 : Int32) (h0 : Heap) (n0 : Nat) (v : Option Value) (h : Heap) (L : List Loc) : Prop := v = some (.int (o_f25_5 x1 w1 w2 w3 w4)) ∧ Fr n0 L ∧ h = h0
abbrev o_R25_5 : Room := { frames := 0, cells := 0, slots := 0, locals := 0 }
theorem o_ef25_5 (m : MethodId) (z0 : Addr) (z1 : Int32) : entryFrame m #[(.ref z0), (.int z1)] 5 = mkF m 0 #[.val (.ref z0), .val (.int z1), .unset, .unset, .unset] [] := by first | (simp [entryFrame, mkF, argsToLocals, Value.category]; done) | rfl
set_option maxRecDepth 65536 in
set_option maxHeartbeats 40000000 in
theorem rm25_5 (l : Launch) (Z : State) (a0 : Array Value) (hw : ∀ d ∈ tables_1, d.before a0 Z = true) (ws : List Jvm.Cond) (r0 : Addr) (x1 : Int32) (q_b : Addr) (k_b : ClassId) (w0 : Int32) (w1 : Int32) (w2 : Int32) (w3 : Int32) (w4 : Int32) (h0 : Heap) (n0 : Nat) (F_l : Fld Z h0 r0 "com/example/foothold/foothold/SourceFile" "lineStarts" "[I" (.ref q_b)) (V_b : Arv Z h0 q_b k_b .int 5 [(.int w0), (.int w1), (.int w2), (.int w3), (.int w4)] (.int 0)) : o_Met l Z (⟨"com/example/foothold/foothold/SourceFile", "line", "(I)I"⟩ : MethodName) prog_92_method_4_code 5 (some .int) ws o_R25_5 #[(.ref r0), (.int x1)] h0 (o_Q25_5 r0 x1 q_b k_b w0 w1 w2 w3 w4 h0 n0) := by
 refine o_met (plainFor_of_name o_pn6) ?_
 intro p e s m below meth c s₁ hx hby hml hown hnm hret hlk hZ e0 X0
 have N0 := Fr.nil n0
 have hml : c.maxLocals = 5 := hml
 have hown : s.vm.findClass "com/example/foothold/foothold/SourceFile" = some m.cls := hown
 have hret : meth.sig.returnType = (some .int) := hret
 have hby : c.code = prog_92_method_4_code := hby
 have hnm : meth.name = "line" := hnm
 rw [o_ef25_5]
 refine o_gi (XS.iconst X0.here hx rfl (hb hby o_d25_0)) ?_
 refine o_gi (XS.istoreN X0.here hx rfl (hb hby o_d25_1) rfl (l' := #[.val (.ref r0), .val (.int x1), .val (.int 0), .unset, .unset]) rfl) ?_
 refine o_gi (XS.aloadN X0.here hx rfl (hb hby o_d25_2) rfl rfl) ?_
 show o_Gs p e below _ s₁ m 3 #[.val (.ref r0), .val (.int x1), .val (.int 0), .unset, .unset] [(.ref r0)]
 obtain ⟨T560, X560, e560, st560⟩ := getF X0 hx hZ hown (host := "") (Or.inl (hw _ o_t128)) Via.refl e0 F_l (g := (mkF m 3 #[.val (.ref r0), .val (.int x1), .val (.int 0), .unset, .unset] [(.ref r0)])) rfl rfl (hb hby o_d25_3)
 refine o_go st560 ?_
 show o_Gs p e below _ T560 m 6 #[.val (.ref r0), .val (.int x1), .val (.int 0), .unset, .unset] [(.ref q_b)]
 obtain ⟨cl561, Ar561, qa561, sa561, na561, ha561, ga561⟩ := id V_b
 refine o_go (X560.arraylength hx (by rw [e560]; exact Ar561.1) (State.isArrayOf_alike hZ.alike Ar561.2.1) (g := (mkF m 6 #[.val (.ref r0), .val (.int x1), .val (.int 0), .unset, .unset] [(.ref q_b)])) rfl rfl (hb hby o_d25_6)) ?_
 rw [len_of sa561 (by decide)]
 refine o_gi (XS.iconst X560.here hx rfl (hb hby o_d25_7)) ?_
 show o_Gs p e below _ T560 m 8 #[.val (.ref r0), .val (.int x1), .val (.int 0), .unset, .unset] [(.int 1), (.int 5)]
 refine o_gi (XS.isub X560.here hx rfl (hb hby o_d25_8) rfl) ?_
 show o_Gs p e below _ T560 m 9 #[.val (.ref r0), .val (.int x1), .val (.int 0), .unset, .unset] [(.int ((5 : Int32) - (1 : Int32)))]
 rw [show ((5 : Int32) - (1 : Int32)) = (4 : Int32) from by decide]
 refine o_gi (XS.istoreN X560.here hx rfl (hb hby o_d25_9) rfl (l' := #[.val (.ref r0), .val (.int x1), .val (.int 0), .val (.int 4), .unset]) rfl) ?_
 refine o_gi (XS.iloadN X560.here hx rfl (hb hby o_d25_10) rfl) ?_
 refine o_gi (XS.iloadN X560.here hx rfl (hb hby o_d25_11) rfl) ?_
 show o_Gs p e below _ T560 m 12 #[.val (.ref r0), .val (.int x1), .val (.int 0), .val (.int 4), .unset] [(.int 4), (.int 0)]
 have hd562 : (0 : Int32) < (4 : Int32) := (by decide)
 refine o_gi (XS.icmpNo X560.here hx rfl (hb hby o_d25_12) rfl (tlt hd562).2.1) ?_
 refine o_gi (XS.iloadN X560.here hx rfl (hb hby o_d25_15) rfl) ?_
 refine o_gi (XS.iloadN X560.here hx rfl (hb hby o_d25_16) rfl) ?_
 show o_Gs p e below _ T560 m 17 #[.val (.ref r0), .val (.int x1), .val (.int 0), .val (.int 4), .unset] [(.int 4), (.int 0)]
 refine o_gi (XS.iadd X560.here hx rfl (hb hby o_d25_17) rfl) ?_
 show o_Gs p e below _ T560 m 18 #[.val (.ref r0), .val (.int x1), .val (.int 0), .val (.int 4), .unset] [(.int ((0 : Int32) + (4 : Int32)))]
 rw [show ((0 : Int32) + (4 : Int32)) = (4 : Int32) from by decide]
 refine o_gi (XS.iconst X560.here hx rfl (hb hby o_d25_18)) ?_
 show o_Gs p e below _ T560 m 19 #[.val (.ref r0), .val (.int x1), .val (.int 0), .val (.int 4), .unset] [(.int 1), (.int 4)]
 refine o_gi (XS.iadd X560.here hx rfl (hb hby o_d25_19) rfl) ?_
 show o_Gs p e below _ T560 m 20 #[.val (.ref r0), .val (.int x1), .val (.int 0), .val (.int 4), .unset] [(.int ((4 : Int32) + (1 : Int32)))]
 rw [show ((4 : Int32) + (1 : Int32)) = (5 : Int32) from by decide]
 refine o_gi (XS.iconst X560.here hx rfl (hb hby o_d25_20)) ?_
 show o_Gs p e below _ T560 m 21 #[.val (.ref r0), .val (.int x1), .val (.int 0), .val (.int 4), .unset] [(.int 1), (.int 5)]
 refine o_gi (XS.iushr X560.here hx rfl (hb hby o_d25_21) rfl) ?_
 show o_Gs p e below _ T560 m 22 #[.val (.ref r0), .val (.int x1), .val (.int 0), .val (.int 4), .unset] [(.int (((5 : Int32).toUInt32 >>> ((1 : Int32) &&& 31).toUInt32).toInt32))]
 rw [show (((5 : Int32).toUInt32 >>> ((1 : Int32) &&& 31).toUInt32).toInt32) = (2 : Int32) from by decide]
 refine o_gi (XS.istore X560.here hx rfl (hb hby o_d25_22) rfl (l' := #[.val (.ref r0), .val (.int x1), .val (.int 0), .val (.int 4), .val (.int 2)]) rfl) ?_
 refine o_gi (XS.aloadN X560.here hx rfl (hb hby o_d25_24) rfl rfl) ?_
 show o_Gs p e below _ T560 m 25 #[.val (.ref r0), .val (.int x1), .val (.int 0), .val (.int 4), .val (.int 2)] [(.ref r0)]
 obtain ⟨T563, X563, e563, st563⟩ := getF X560 hx hZ hown (host := "") (Or.inl (hw _ o_t128)) Via.refl e560 F_l (g := (mkF m 25 #[.val (.ref r0), .val (.int x1), .val (.int 0), .val (.int 4), .val (.int 2)] [(.ref r0)])) rfl rfl (hb hby o_d25_25)
 refine o_go st563 ?_
 refine o_gi (XS.iload X563.here hx rfl (hb hby o_d25_28) rfl) ?_
 show o_Gs p e below _ T563 m 30 #[.val (.ref r0), .val (.int x1), .val (.int 0), .val (.int 4), .val (.int 2)] [(.int 2), (.ref q_b)]
 obtain ⟨cl564, Ar564, qa564, sa564, na564, ha564, ga564⟩ := id V_b
 refine o_go (X563.iaload hx (j := (2 : Int32)) (v := (.int w2)) (by rw [e563]; exact Ar564.1) (State.isArrayOf_alike hZ.alike Ar564.2.1) Ar564.2.2 (inb_of sa564 ⟨by decide, by decide⟩) (ha564 _ (by rw [sa564]; decide)) (g := (mkF m 30 #[.val (.ref r0), .val (.int x1), .val (.int 0), .val (.int 4), .val (.int 2)] [(.int 2), (.ref q_b)])) rfl rfl (hb hby o_d25_30)) ?_
 refine o_gi (XS.iloadN X563.here hx rfl (hb hby o_d25_31) rfl) ?_
 show o_Gs p e below _ T563 m 32 #[.val (.ref r0), .val (.int x1), .val (.int 0), .val (.int 4), .val (.int 2)] [(.int x1), (.int w2)]
 by_cases hc565 : x1 < w2
 ·refine o_gi (XS.icmpYes X563.here hx rfl (pc0 := 32) (pc' := 41) rfl (hb hby o_d25_32) rfl (tlt hc565).2.2.1 (by decide) (by decide)) ?_
  refine o_gi (XS.iload X563.here hx rfl (hb hby o_d25_41) rfl) ?_
  refine o_gi (XS.iconst X563.here hx rfl (hb hby o_d25_43)) ?_
  show o_Gs p e below _ T563 m 44 #[.val (.ref r0), .val (.int x1), .val (.int 0), .val (.int 4), .val (.int 2)] [(.int 1), (.int 2)]
  refine o_gi (XS.isub X563.here hx rfl (hb hby o_d25_44) rfl) ?_
  show o_Gs p e below _ T563 m 45 #[.val (.ref r0), .val (.int x1), .val (.int 0), .val (.int 4), .val (.int 2)] [(.int ((2 : Int32) - (1 : Int32)))]
  rw [show ((2 : Int32) - (1 : Int32)) = (1 : Int32) from by decide]
  refine o_gi (XS.istoreN X563.here hx rfl (hb hby o_d25_45) rfl (l' := #[.val (.ref r0), .val (.int x1), .val (.int 0), .val (.int 1), .val (.int 2)]) rfl) ?_
  refine o_gi (XS.goto X563.here hx rfl (pc0 := 46) (pc' := 10) rfl (hb hby o_d25_46) (by decide) (by decide)) ?_
  refine o_gi (XS.iloadN X563.here hx rfl (hb hby o_d25_10) rfl) ?_
  refine o_gi (XS.iloadN X563.here hx rfl (hb hby o_d25_11) rfl) ?_
  show o_Gs p e below _ T563 m 12 #[.val (.ref r0), .val (.int x1), .val (.int 0), .val (.int 1), .val (.int 2)] [(.int 1), (.int 0)]
  have hd566 : (0 : Int32) < (1 : Int32) := (by decide)
  refine o_gi (XS.icmpNo X563.here hx rfl (hb hby o_d25_12) rfl (tlt hd566).2.1) ?_
  refine o_gi (XS.iloadN X563.here hx rfl (hb hby o_d25_15) rfl) ?_
  refine o_gi (XS.iloadN X563.here hx rfl (hb hby o_d25_16) rfl) ?_
  show o_Gs p e below _ T563 m 17 #[.val (.ref r0), .val (.int x1), .val (.int 0), .val (.int 1), .val (.int 2)] [(.int 1), (.int 0)]
  refine o_gi (XS.iadd X563.here hx rfl (hb hby o_d25_17) rfl) ?_
  show o_Gs p e below _ T563 m 18 #[.val (.ref r0), .val (.int x1), .val (.int 0), .val (.int 1), .val (.int 2)] [(.int ((0 : Int32) + (1 : Int32)))]
  rw [show ((0 : Int32) + (1 : Int32)) = (1 : Int32) from by decide]
  refine o_gi (XS.iconst X563.here hx rfl (hb hby o_d25_18)) ?_
  show o_Gs p e below _ T563 m 19 #[.val (.ref r0), .val (.int x1), .val (.int 0), .val (.int 1), .val (.int 2)] [(.int 1), (.int 1)]
  refine o_gi (XS.iadd X563.here hx rfl (hb hby o_d25_19) rfl) ?_
  show o_Gs p e below _ T563 m 20 #[.val (.ref r0), .val (.int x1), .val (.int 0), .val (.int 1), .val (.int 2)] [(.int ((1 : Int32) + (1 : Int32)))]
  rw [show ((1 : Int32) + (1 : Int32)) = (2 : Int32) from by decide]
  refine o_gi (XS.iconst X563.here hx rfl (hb hby o_d25_20)) ?_
  show o_Gs p e below _ T563 m 21 #[.val (.ref r0), .val (.int x1), .val (.int 0), .val (.int 1), .val (.int 2)] [(.int 1), (.int 2)]
  refine o_gi (XS.iushr X563.here hx rfl (hb hby o_d25_21) rfl) ?_
  show o_Gs p e below _ T563 m 22 #[.val (.ref r0), .val (.int x1), .val (.int 0), .val (.int 1), .val (.int 2)] [(.int (((2 : Int32).toUInt32 >>> ((1 : Int32) &&& 31).toUInt32).toInt32))]
  rw [show (((2 : Int32).toUInt32 >>> ((1 : Int32) &&& 31).toUInt32).toInt32) = (1 : Int32) from by decide]
  refine o_gi (XS.istore X563.here hx rfl (hb hby o_d25_22) rfl (l' := #[.val (.ref r0), .val (.int x1), .val (.int 0), .val (.int 1), .val (.int 1)]) rfl) ?_
  refine o_gi (XS.aloadN X563.here hx rfl (hb hby o_d25_24) rfl rfl) ?_
  show o_Gs p e below _ T563 m 25 #[.val (.ref r0), .val (.int x1), .val (.int 0), .val (.int 1), .val (.int 1)] [(.ref r0)]
  obtain ⟨T567, X567, e567, st567⟩ := getF X563 hx hZ hown (host := "") (Or.inl (hw _ o_t128)) Via.refl e563 F_l (g := (mkF m 25 #[.val (.ref r0), .val (.int x1), .val (.int 0), .val (.int 1), .val (.int 1)] [(.ref r0)])) rfl rfl (hb hby o_d25_25)
  refine o_go st567 ?_
  refine o_gi (XS.iload X567.here hx rfl (hb hby o_d25_28) rfl) ?_
  show o_Gs p e below _ T567 m 30 #[.val (.ref r0), .val (.int x1), .val (.int 0), .val (.int 1), .val (.int 1)] [(.int 1), (.ref q_b)]
  obtain ⟨cl568, Ar568, qa568, sa568, na568, ha568, ga568⟩ := id V_b
  refine o_go (X567.iaload hx (j := (1 : Int32)) (v := (.int w1)) (by rw [e567]; exact Ar568.1) (State.isArrayOf_alike hZ.alike Ar568.2.1) Ar568.2.2 (inb_of sa568 ⟨by decide, by decide⟩) (ha568 _ (by rw [sa568]; decide)) (g := (mkF m 30 #[.val (.ref r0), .val (.int x1), .val (.int 0), .val (.int 1), .val (.int 1)] [(.int 1), (.ref q_b)])) rfl rfl (hb hby o_d25_30)) ?_
  refine o_gi (XS.iloadN X567.here hx rfl (hb hby o_d25_31) rfl) ?_
  show o_Gs p e below _ T567 m 32 #[.val (.ref r0), .val (.int x1), .val (.int 0), .val (.int 1), .val (.int 1)] [(.int x1), (.int w1)]
  by_cases hc569 : x1 < w1
  ·refine o_gi (XS.icmpYes X567.here hx rfl (pc0 := 32) (pc' := 41) rfl (hb hby o_d25_32) rfl (tlt hc569).2.2.1 (by decide) (by decide)) ?_
   refine o_gi (XS.iload X567.here hx rfl (hb hby o_d25_41) rfl) ?_
   refine o_gi (XS.iconst X567.here hx rfl (hb hby o_d25_43)) ?_
   show o_Gs p e below _ T567 m 44 #[.val (.ref r0), .val (.int x1), .val (.int 0), .val (.int 1), .val (.int 1)] [(.int 1), (.int 1)]
   refine o_gi (XS.isub X567.here hx rfl (hb hby o_d25_44) rfl) ?_
   show o_Gs p e below _ T567 m 45 #[.val (.ref r0), .val (.int x1), .val (.int 0), .val (.int 1), .val (.int 1)] [(.int ((1 : Int32) - (1 : Int32)))]
   rw [show ((1 : Int32) - (1 : Int32)) = (0 : Int32) from by decide]
   refine o_gi (XS.istoreN X567.here hx rfl (hb hby o_d25_45) rfl (l' := #[.val (.ref r0), .val (.int x1), .val (.int 0), .val (.int 0), .val (.int 1)]) rfl) ?_
   refine o_gi (XS.goto X567.here hx rfl (pc0 := 46) (pc' := 10) rfl (hb hby o_d25_46) (by decide) (by decide)) ?_
   refine o_gi (XS.iloadN X567.here hx rfl (hb hby o_d25_10) rfl) ?_
   refine o_gi (XS.iloadN X567.here hx rfl (hb hby o_d25_11) rfl) ?_
   show o_Gs p e below _ T567 m 12 #[.val (.ref r0), .val (.int x1), .val (.int 0), .val (.int 0), .val (.int 1)] [(.int 0), (.int 0)]
   have hd570 : ¬ ((0 : Int32) < (0 : Int32)) := (by decide)
   refine o_gi (XS.icmpYes X567.here hx rfl (pc0 := 12) (pc' := 49) rfl (hb hby o_d25_12) rfl (flt hd570).2.1 (by decide) (by decide)) ?_
   refine o_gi (XS.iloadN X567.here hx rfl (hb hby o_d25_49) rfl) ?_
   refine o_gi (XS.iconst X567.here hx rfl (hb hby o_d25_50)) ?_
   show o_Gs p e below _ T567 m 51 #[.val (.ref r0), .val (.int x1), .val (.int 0), .val (.int 0), .val (.int 1)] [(.int 1), (.int 0)]
   refine o_gi (XS.iadd X567.here hx rfl (hb hby o_d25_51) rfl) ?_
   show o_Gs p e below _ T567 m 52 #[.val (.ref r0), .val (.int x1), .val (.int 0), .val (.int 0), .val (.int 1)] [(.int ((0 : Int32) + (1 : Int32)))]
   rw [show ((0 : Int32) + (1 : Int32)) = (1 : Int32) from by decide]
   show o_Gs p e below _ T567 m 52 #[.val (.ref r0), .val (.int x1), .val (.int 0), .val (.int 0), .val (.int 1)] [(.int 1)]
   exact o_retI X567 hx hlk hret (hb hby o_d25_52) (by decide) (by decide) ⟨by rw [o_f25_5, if_pos hc565, if_pos hc569], N0, e567⟩
  ·refine o_gi (XS.icmpNo X567.here hx rfl (hb hby o_d25_32) rfl (flt hc569).2.2.1) ?_
   refine o_gi (XS.iload X567.here hx rfl (hb hby o_d25_35) rfl) ?_
   refine o_gi (XS.istoreN X567.here hx rfl (hb hby o_d25_37) rfl (l' := #[.val (.ref r0), .val (.int x1), .val (.int 1), .val (.int 1), .val (.int 1)]) rfl) ?_
   refine o_gi (XS.goto X567.here hx rfl (pc0 := 38) (pc' := 46) rfl (hb hby o_d25_38) (by decide) (by decide)) ?_
   refine o_gi (XS.goto X567.here hx rfl (pc0 := 46) (pc' := 10) rfl (hb hby o_d25_46) (by decide) (by decide)) ?_
   refine o_gi (XS.iloadN X567.here hx rfl (hb hby o_d25_10) rfl) ?_
   refine o_gi (XS.iloadN X567.here hx rfl (hb hby o_d25_11) rfl) ?_
   show o_Gs p e below _ T567 m 12 #[.val (.ref r0), .val (.int x1), .val (.int 1), .val (.int 1), .val (.int 1)] [(.int 1), (.int 1)]
   have hd571 : ¬ ((1 : Int32) < (1 : Int32)) := (by decide)
   refine o_gi (XS.icmpYes X567.here hx rfl (pc0 := 12) (pc' := 49) rfl (hb hby o_d25_12) rfl (flt hd571).2.1 (by decide) (by decide)) ?_
   refine o_gi (XS.iloadN X567.here hx rfl (hb hby o_d25_49) rfl) ?_
   refine o_gi (XS.iconst X567.here hx rfl (hb hby o_d25_50)) ?_
   show o_Gs p e below _ T567 m 51 #[.val (.ref r0), .val (.int x1), .val (.int 1), .val (.int 1), .val (.int 1)] [(.int 1), (.int 1)]
   refine o_gi (XS.iadd X567.here hx rfl (hb hby o_d25_51) rfl) ?_
   show o_Gs p e below _ T567 m 52 #[.val (.ref r0), .val (.int x1), .val (.int 1), .val (.int 1), .val (.int 1)] [(.int ((1 : Int32) + (1 : Int32)))]
   rw [show ((1 : Int32) + (1 : Int32)) = (2 : Int32) from by decide]
   show o_Gs p e below _ T567 m 52 #[.val (.ref r0), .val (.int x1), .val (.int 1), .val (.int 1), .val (.int 1)] [(.int 2)]
   exact o_retI X567 hx hlk hret (hb hby o_d25_52) (by decide) (by decide) ⟨by rw [o_f25_5, if_pos hc565, if_neg hc569], N0, e567⟩
 ·refine o_gi (XS.icmpNo X563.here hx rfl (hb hby o_d25_32) rfl (flt hc565).2.2.1) ?_
  refine o_gi (XS.iload X563.here hx rfl (hb hby o_d25_35) rfl) ?_
  refine o_gi (XS.istoreN X563.here hx rfl (hb hby o_d25_37) rfl (l' := #[.val (.ref r0), .val (.int x1), .val (.int 2), .val (.int 4), .val (.int 2)]) rfl) ?_
  refine o_gi (XS.goto X563.here hx rfl (pc0 := 38) (pc' := 46) rfl (hb hby o_d25_38) (by decide) (by decide)) ?_
  refine o_gi (XS.goto X563.here hx rfl (pc0 := 46) (pc' := 10) rfl (hb hby o_d25_46) (by decide) (by decide)) ?_
  refine o_gi (XS.iloadN X563.here hx rfl (hb hby o_d25_10) rfl) ?_
  refine o_gi (XS.iloadN X563.here hx rfl (hb hby o_d25_11) rfl) ?_
  show o_Gs p e below _ T563 m 12 #[.val (.ref r0), .val (.int x1), .val (.int 2), .val (.int 4), .val (.int 2)] [(.int 4), (.int 2)]
  have hd572 : (2 : Int32) < (4 : Int32) := (by decide)
  refine o_gi (XS.icmpNo X563.here hx rfl (hb hby o_d25_12) rfl (tlt hd572).2.1) ?_
  refine o_gi (XS.iloadN X563.here hx rfl (hb hby o_d25_15) rfl) ?_
  refine o_gi (XS.iloadN X563.here hx rfl (hb hby o_d25_16) rfl) ?_
  show o_Gs p e below _ T563 m 17 #[.val (.ref r0), .val (.int x1), .val (.int 2), .val (.int 4), .val (.int 2)] [(.int 4), (.int 2)]
  refine o_gi (XS.iadd X563.here hx rfl (hb hby o_d25_17) rfl) ?_
  show o_Gs p e below _ T563 m 18 #[.val (.ref r0), .val (.int x1), .val (.int 2), .val (.int 4), .val (.int 2)] [(.int ((2 : Int32) + (4 : Int32)))]
  rw [show ((2 : Int32) + (4 : Int32)) = (6 : Int32) from by decide]
  refine o_gi (XS.iconst X563.here hx rfl (hb hby o_d25_18)) ?_
  show o_Gs p e below _ T563 m 19 #[.val (.ref r0), .val (.int x1), .val (.int 2), .val (.int 4), .val (.int 2)] [(.int 1), (.int 6)]
  refine o_gi (XS.iadd X563.here hx rfl (hb hby o_d25_19) rfl) ?_
  show o_Gs p e below _ T563 m 20 #[.val (.ref r0), .val (.int x1), .val (.int 2), .val (.int 4), .val (.int 2)] [(.int ((6 : Int32) + (1 : Int32)))]
  rw [show ((6 : Int32) + (1 : Int32)) = (7 : Int32) from by decide]
  refine o_gi (XS.iconst X563.here hx rfl (hb hby o_d25_20)) ?_
  show o_Gs p e below _ T563 m 21 #[.val (.ref r0), .val (.int x1), .val (.int 2), .val (.int 4), .val (.int 2)] [(.int 1), (.int 7)]
  refine o_gi (XS.iushr X563.here hx rfl (hb hby o_d25_21) rfl) ?_
  show o_Gs p e below _ T563 m 22 #[.val (.ref r0), .val (.int x1), .val (.int 2), .val (.int 4), .val (.int 2)] [(.int (((7 : Int32).toUInt32 >>> ((1 : Int32) &&& 31).toUInt32).toInt32))]
  rw [show (((7 : Int32).toUInt32 >>> ((1 : Int32) &&& 31).toUInt32).toInt32) = (3 : Int32) from by decide]
  refine o_gi (XS.istore X563.here hx rfl (hb hby o_d25_22) rfl (l' := #[.val (.ref r0), .val (.int x1), .val (.int 2), .val (.int 4), .val (.int 3)]) rfl) ?_
  refine o_gi (XS.aloadN X563.here hx rfl (hb hby o_d25_24) rfl rfl) ?_
  show o_Gs p e below _ T563 m 25 #[.val (.ref r0), .val (.int x1), .val (.int 2), .val (.int 4), .val (.int 3)] [(.ref r0)]
  obtain ⟨T573, X573, e573, st573⟩ := getF X563 hx hZ hown (host := "") (Or.inl (hw _ o_t128)) Via.refl e563 F_l (g := (mkF m 25 #[.val (.ref r0), .val (.int x1), .val (.int 2), .val (.int 4), .val (.int 3)] [(.ref r0)])) rfl rfl (hb hby o_d25_25)
  refine o_go st573 ?_
  refine o_gi (XS.iload X573.here hx rfl (hb hby o_d25_28) rfl) ?_
  show o_Gs p e below _ T573 m 30 #[.val (.ref r0), .val (.int x1), .val (.int 2), .val (.int 4), .val (.int 3)] [(.int 3), (.ref q_b)]
  obtain ⟨cl574, Ar574, qa574, sa574, na574, ha574, ga574⟩ := id V_b
  refine o_go (X573.iaload hx (j := (3 : Int32)) (v := (.int w3)) (by rw [e573]; exact Ar574.1) (State.isArrayOf_alike hZ.alike Ar574.2.1) Ar574.2.2 (inb_of sa574 ⟨by decide, by decide⟩) (ha574 _ (by rw [sa574]; decide)) (g := (mkF m 30 #[.val (.ref r0), .val (.int x1), .val (.int 2), .val (.int 4), .val (.int 3)] [(.int 3), (.ref q_b)])) rfl rfl (hb hby o_d25_30)) ?_
  refine o_gi (XS.iloadN X573.here hx rfl (hb hby o_d25_31) rfl) ?_
  show o_Gs p e below _ T573 m 32 #[.val (.ref r0), .val (.int x1), .val (.int 2), .val (.int 4), .val (.int 3)] [(.int x1), (.int w3)]
  by_cases hc575 : x1 < w3
  ·refine o_gi (XS.icmpYes X573.here hx rfl (pc0 := 32) (pc' := 41) rfl (hb hby o_d25_32) rfl (tlt hc575).2.2.1 (by decide) (by decide)) ?_
   refine o_gi (XS.iload X573.here hx rfl (hb hby o_d25_41) rfl) ?_
   refine o_gi (XS.iconst X573.here hx rfl (hb hby o_d25_43)) ?_
   show o_Gs p e below _ T573 m 44 #[.val (.ref r0), .val (.int x1), .val (.int 2), .val (.int 4), .val (.int 3)] [(.int 1), (.int 3)]
   refine o_gi (XS.isub X573.here hx rfl (hb hby o_d25_44) rfl) ?_
   show o_Gs p e below _ T573 m 45 #[.val (.ref r0), .val (.int x1), .val (.int 2), .val (.int 4), .val (.int 3)] [(.int ((3 : Int32) - (1 : Int32)))]
   rw [show ((3 : Int32) - (1 : Int32)) = (2 : Int32) from by decide]
   refine o_gi (XS.istoreN X573.here hx rfl (hb hby o_d25_45) rfl (l' := #[.val (.ref r0), .val (.int x1), .val (.int 2), .val (.int 2), .val (.int 3)]) rfl) ?_
   refine o_gi (XS.goto X573.here hx rfl (pc0 := 46) (pc' := 10) rfl (hb hby o_d25_46) (by decide) (by decide)) ?_
   refine o_gi (XS.iloadN X573.here hx rfl (hb hby o_d25_10) rfl) ?_
   refine o_gi (XS.iloadN X573.here hx rfl (hb hby o_d25_11) rfl) ?_
   show o_Gs p e below _ T573 m 12 #[.val (.ref r0), .val (.int x1), .val (.int 2), .val (.int 2), .val (.int 3)] [(.int 2), (.int 2)]
   have hd576 : ¬ ((2 : Int32) < (2 : Int32)) := (by decide)
   refine o_gi (XS.icmpYes X573.here hx rfl (pc0 := 12) (pc' := 49) rfl (hb hby o_d25_12) rfl (flt hd576).2.1 (by decide) (by decide)) ?_
   refine o_gi (XS.iloadN X573.here hx rfl (hb hby o_d25_49) rfl) ?_
   refine o_gi (XS.iconst X573.here hx rfl (hb hby o_d25_50)) ?_
   show o_Gs p e below _ T573 m 51 #[.val (.ref r0), .val (.int x1), .val (.int 2), .val (.int 2), .val (.int 3)] [(.int 1), (.int 2)]
   refine o_gi (XS.iadd X573.here hx rfl (hb hby o_d25_51) rfl) ?_
   show o_Gs p e below _ T573 m 52 #[.val (.ref r0), .val (.int x1), .val (.int 2), .val (.int 2), .val (.int 3)] [(.int ((2 : Int32) + (1 : Int32)))]
   rw [show ((2 : Int32) + (1 : Int32)) = (3 : Int32) from by decide]
   show o_Gs p e below _ T573 m 52 #[.val (.ref r0), .val (.int x1), .val (.int 2), .val (.int 2), .val (.int 3)] [(.int 3)]
   exact o_retI X573 hx hlk hret (hb hby o_d25_52) (by decide) (by decide) ⟨by rw [o_f25_5, if_neg hc565, if_pos hc575], N0, e573⟩
  ·refine o_gi (XS.icmpNo X573.here hx rfl (hb hby o_d25_32) rfl (flt hc575).2.2.1) ?_
   refine o_gi (XS.iload X573.here hx rfl (hb hby o_d25_35) rfl) ?_
   refine o_gi (XS.istoreN X573.here hx rfl (hb hby o_d25_37) rfl (l' := #[.val (.ref r0), .val (.int x1), .val (.int 3), .val (.int 4), .val (.int 3)]) rfl) ?_
   refine o_gi (XS.goto X573.here hx rfl (pc0 := 38) (pc' := 46) rfl (hb hby o_d25_38) (by decide) (by decide)) ?_
   refine o_gi (XS.goto X573.here hx rfl (pc0 := 46) (pc' := 10) rfl (hb hby o_d25_46) (by decide) (by decide)) ?_
   refine o_gi (XS.iloadN X573.here hx rfl (hb hby o_d25_10) rfl) ?_
   refine o_gi (XS.iloadN X573.here hx rfl (hb hby o_d25_11) rfl) ?_
   show o_Gs p e below _ T573 m 12 #[.val (.ref r0), .val (.int x1), .val (.int 3), .val (.int 4), .val (.int 3)] [(.int 4), (.int 3)]
   have hd577 : (3 : Int32) < (4 : Int32) := (by decide)
   refine o_gi (XS.icmpNo X573.here hx rfl (hb hby o_d25_12) rfl (tlt hd577).2.1) ?_
   refine o_gi (XS.iloadN X573.here hx rfl (hb hby o_d25_15) rfl) ?_
   refine o_gi (XS.iloadN X573.here hx rfl (hb hby o_d25_16) rfl) ?_
   show o_Gs p e below _ T573 m 17 #[.val (.ref r0), .val (.int x1), .val (.int 3), .val (.int 4), .val (.int 3)] [(.int 4), (.int 3)]
   refine o_gi (XS.iadd X573.here hx rfl (hb hby o_d25_17) rfl) ?_
   show o_Gs p e below _ T573 m 18 #[.val (.ref r0), .val (.int x1), .val (.int 3), .val (.int 4), .val (.int 3)] [(.int ((3 : Int32) + (4 : Int32)))]
   rw [show ((3 : Int32) + (4 : Int32)) = (7 : Int32) from by decide]
   refine o_gi (XS.iconst X573.here hx rfl (hb hby o_d25_18)) ?_
   show o_Gs p e below _ T573 m 19 #[.val (.ref r0), .val (.int x1), .val (.int 3), .val (.int 4), .val (.int 3)] [(.int 1), (.int 7)]
   refine o_gi (XS.iadd X573.here hx rfl (hb hby o_d25_19) rfl) ?_
   show o_Gs p e below _ T573 m 20 #[.val (.ref r0), .val (.int x1), .val (.int 3), .val (.int 4), .val (.int 3)] [(.int ((7 : Int32) + (1 : Int32)))]
   rw [show ((7 : Int32) + (1 : Int32)) = (8 : Int32) from by decide]
   refine o_gi (XS.iconst X573.here hx rfl (hb hby o_d25_20)) ?_
   show o_Gs p e below _ T573 m 21 #[.val (.ref r0), .val (.int x1), .val (.int 3), .val (.int 4), .val (.int 3)] [(.int 1), (.int 8)]
   refine o_gi (XS.iushr X573.here hx rfl (hb hby o_d25_21) rfl) ?_
   show o_Gs p e below _ T573 m 22 #[.val (.ref r0), .val (.int x1), .val (.int 3), .val (.int 4), .val (.int 3)] [(.int (((8 : Int32).toUInt32 >>> ((1 : Int32) &&& 31).toUInt32).toInt32))]
   rw [show (((8 : Int32).toUInt32 >>> ((1 : Int32) &&& 31).toUInt32).toInt32) = (4 : Int32) from by decide]
   refine o_gi (XS.istore X573.here hx rfl (hb hby o_d25_22) rfl (l' := #[.val (.ref r0), .val (.int x1), .val (.int 3), .val (.int 4), .val (.int 4)]) rfl) ?_
   refine o_gi (XS.aloadN X573.here hx rfl (hb hby o_d25_24) rfl rfl) ?_
   show o_Gs p e below _ T573 m 25 #[.val (.ref r0), .val (.int x1), .val (.int 3), .val (.int 4), .val (.int 4)] [(.ref r0)]
   obtain ⟨T578, X578, e578, st578⟩ := getF X573 hx hZ hown (host := "") (Or.inl (hw _ o_t128)) Via.refl e573 F_l (g := (mkF m 25 #[.val (.ref r0), .val (.int x1), .val (.int 3), .val (.int 4), .val (.int 4)] [(.ref r0)])) rfl rfl (hb hby o_d25_25)
   refine o_go st578 ?_
   refine o_gi (XS.iload X578.here hx rfl (hb hby o_d25_28) rfl) ?_
   show o_Gs p e below _ T578 m 30 #[.val (.ref r0), .val (.int x1), .val (.int 3), .val (.int 4), .val (.int 4)] [(.int 4), (.ref q_b)]
   obtain ⟨cl579, Ar579, qa579, sa579, na579, ha579, ga579⟩ := id V_b
   refine o_go (X578.iaload hx (j := (4 : Int32)) (v := (.int w4)) (by rw [e578]; exact Ar579.1) (State.isArrayOf_alike hZ.alike Ar579.2.1) Ar579.2.2 (inb_of sa579 ⟨by decide, by decide⟩) (ha579 _ (by rw [sa579]; decide)) (g := (mkF m 30 #[.val (.ref r0), .val (.int x1), .val (.int 3), .val (.int 4), .val (.int 4)] [(.int 4), (.ref q_b)])) rfl rfl (hb hby o_d25_30)) ?_
   refine o_gi (XS.iloadN X578.here hx rfl (hb hby o_d25_31) rfl) ?_
   show o_Gs p e below _ T578 m 32 #[.val (.ref r0), .val (.int x1), .val (.int 3), .val (.int 4), .val (.int 4)] [(.int x1), (.int w4)]
   by_cases hc580 : x1 < w4
   ·refine o_gi (XS.icmpYes X578.here hx rfl (pc0 := 32) (pc' := 41) rfl (hb hby o_d25_32) rfl (tlt hc580).2.2.1 (by decide) (by decide)) ?_
    refine o_gi (XS.iload X578.here hx rfl (hb hby o_d25_41) rfl) ?_
    refine o_gi (XS.iconst X578.here hx rfl (hb hby o_d25_43)) ?_
    show o_Gs p e below _ T578 m 44 #[.val (.ref r0), .val (.int x1), .val (.int 3), .val (.int 4), .val (.int 4)] [(.int 1), (.int 4)]
    refine o_gi (XS.isub X578.here hx rfl (hb hby o_d25_44) rfl) ?_
    show o_Gs p e below _ T578 m 45 #[.val (.ref r0), .val (.int x1), .val (.int 3), .val (.int 4), .val (.int 4)] [(.int ((4 : Int32) - (1 : Int32)))]
    rw [show ((4 : Int32) - (1 : Int32)) = (3 : Int32) from by decide]
    refine o_gi (XS.istoreN X578.here hx rfl (hb hby o_d25_45) rfl (l' := #[.val (.ref r0), .val (.int x1), .val (.int 3), .val (.int 3), .val (.int 4)]) rfl) ?_
    refine o_gi (XS.goto X578.here hx rfl (pc0 := 46) (pc' := 10) rfl (hb hby o_d25_46) (by decide) (by decide)) ?_
    refine o_gi (XS.iloadN X578.here hx rfl (hb hby o_d25_10) rfl) ?_
    refine o_gi (XS.iloadN X578.here hx rfl (hb hby o_d25_11) rfl) ?_
    show o_Gs p e below _ T578 m 12 #[.val (.ref r0), .val (.int x1), .val (.int 3), .val (.int 3), .val (.int 4)] [(.int 3), (.int 3)]
    have hd581 : ¬ ((3 : Int32) < (3 : Int32)) := (by decide)
    refine o_gi (XS.icmpYes X578.here hx rfl (pc0 := 12) (pc' := 49) rfl (hb hby o_d25_12) rfl (flt hd581).2.1 (by decide) (by decide)) ?_
    refine o_gi (XS.iloadN X578.here hx rfl (hb hby o_d25_49) rfl) ?_
    refine o_gi (XS.iconst X578.here hx rfl (hb hby o_d25_50)) ?_
    show o_Gs p e below _ T578 m 51 #[.val (.ref r0), .val (.int x1), .val (.int 3), .val (.int 3), .val (.int 4)] [(.int 1), (.int 3)]
    refine o_gi (XS.iadd X578.here hx rfl (hb hby o_d25_51) rfl) ?_
    show o_Gs p e below _ T578 m 52 #[.val (.ref r0), .val (.int x1), .val (.int 3), .val (.int 3), .val (.int 4)] [(.int ((3 : Int32) + (1 : Int32)))]
    rw [show ((3 : Int32) + (1 : Int32)) = (4 : Int32) from by decide]
    show o_Gs p e below _ T578 m 52 #[.val (.ref r0), .val (.int x1), .val (.int 3), .val (.int 3), .val (.int 4)] [(.int 4)]
    exact o_retI X578 hx hlk hret (hb hby o_d25_52) (by decide) (by decide) ⟨by rw [o_f25_5, if_neg hc565, if_neg hc575, if_pos hc580], N0, e578⟩
   ·refine o_gi (XS.icmpNo X578.here hx rfl (hb hby o_d25_32) rfl (flt hc580).2.2.1) ?_
    refine o_gi (XS.iload X578.here hx rfl (hb hby o_d25_35) rfl) ?_
    refine o_gi (XS.istoreN X578.here hx rfl (hb hby o_d25_37) rfl (l' := #[.val (.ref r0), .val (.int x1), .val (.int 4), .val (.int 4), .val (.int 4)]) rfl) ?_
    refine o_gi (XS.goto X578.here hx rfl (pc0 := 38) (pc' := 46) rfl (hb hby o_d25_38) (by decide) (by decide)) ?_
    refine o_gi (XS.goto X578.here hx rfl (pc0 := 46) (pc' := 10) rfl (hb hby o_d25_46) (by decide) (by decide)) ?_
    refine o_gi (XS.iloadN X578.here hx rfl (hb hby o_d25_10) rfl) ?_
    refine o_gi (XS.iloadN X578.here hx rfl (hb hby o_d25_11) rfl) ?_
    show o_Gs p e below _ T578 m 12 #[.val (.ref r0), .val (.int x1), .val (.int 4), .val (.int 4), .val (.int 4)] [(.int 4), (.int 4)]
    have hd582 : ¬ ((4 : Int32) < (4 : Int32)) := (by decide)
    refine o_gi (XS.icmpYes X578.here hx rfl (pc0 := 12) (pc' := 49) rfl (hb hby o_d25_12) rfl (flt hd582).2.1 (by decide) (by decide)) ?_
    refine o_gi (XS.iloadN X578.here hx rfl (hb hby o_d25_49) rfl) ?_
    refine o_gi (XS.iconst X578.here hx rfl (hb hby o_d25_50)) ?_
    show o_Gs p e below _ T578 m 51 #[.val (.ref r0), .val (.int x1), .val (.int 4), .val (.int 4), .val (.int 4)] [(.int 1), (.int 4)]
    refine o_gi (XS.iadd X578.here hx rfl (hb hby o_d25_51) rfl) ?_
    show o_Gs p e below _ T578 m 52 #[.val (.ref r0), .val (.int x1), .val (.int 4), .val (.int 4), .val (.int 4)] [(.int ((4 : Int32) + (1 : Int32)))]
    rw [show ((4 : Int32) + (1 : Int32)) = (5 : Int32) from by decide]
    show o_Gs p e below _ T578 m 52 #[.val (.ref r0), .val (.int x1), .val (.int 4), .val (.int 4), .val (.int 4)] [(.int 5)]
    exact o_retI X578 hx hlk hret (hb hby o_d25_52) (by decide) (by decide) ⟨by rw [o_f25_5, if_neg hc565, if_neg hc575, if_neg hc580], N0, e578⟩
def o_line : List Int32 → Int32 → Int32
 | [w0], x => (1 : Int32)
 | [w0, w1], x => (o_f25_2 x w1)
 | [w0, w1, w2], x => (o_f25_3 x w1 w2)
 | [w0, w1, w2, w3], x => (o_f25_4 x w1 w2 w3)
 | [w0, w1, w2, w3, w4], x => (o_f25_5 x w1 w2 w3 w4)
 | _, _ => 0
def o_Q25 (r0 : Addr) (x1 : Int32) (ls : List Int32) (h0 : Heap) (n0 : Nat) (v : Option Value) (h : Heap) (L : List Loc) : Prop := v = some (.int (o_line ls x1)) ∧ Fr n0 L ∧ h = h0
abbrev o_R25 : Room := o_R25_1
theorem rm25 (l : Launch) (Z : State) (a0 : Array Value) (hw : ∀ d ∈ tables_1, d.before a0 Z = true) (ws : List Jvm.Cond) (r0 : Addr) (x1 : Int32) (q_b : Addr) (k_b : ClassId) (ls : List Int32) (h0 : Heap) (n0 : Nat) (F_l : Fld Z h0 r0 "com/example/foothold/foothold/SourceFile" "lineStarts" "[I" (.ref q_b)) (V_b : Arv Z h0 q_b k_b .int (Int32.ofNat ls.length) (ls.map Value.int) (.int 0)) (hll : 1 ≤ ls.length ∧ ls.length ≤ 5) : o_Met l Z (⟨"com/example/foothold/foothold/SourceFile", "line", "(I)I"⟩ : MethodName) prog_92_method_4_code 5 (some .int) ws o_R25 #[.ref r0, .int x1] h0 (o_Q25 r0 x1 ls h0 n0) := by
 match ls, hll, V_b with
 | [w0], _, V => exact rm25_1 l Z a0 hw ws r0 x1 q_b k_b w0 h0 n0 F_l V
 | [w0, w1], _, V => exact rm25_2 l Z a0 hw ws r0 x1 q_b k_b w0 w1 h0 n0 F_l V
 | [w0, w1, w2], _, V => exact rm25_3 l Z a0 hw ws r0 x1 q_b k_b w0 w1 w2 h0 n0 F_l V
 | [w0, w1, w2, w3], _, V => exact rm25_4 l Z a0 hw ws r0 x1 q_b k_b w0 w1 w2 w3 h0 n0 F_l V
 | [w0, w1, w2, w3, w4], _, V => exact rm25_5 l Z a0 hw ws r0 x1 q_b k_b w0 w1 w2 w3 w4 h0 n0 F_l V
 | [], h, _ => exact absurd h.1 (by decide)
 | _ :: _ :: _ :: _ :: _ :: _ :: t, h, _ => exact absurd h.2 (by simp only [List.length_cons]; omega)
theorem o_d24_0 : decode method_3_code 0 = .ok (.iload_n 0, 1) := by decide +kernel
theorem o_d24_1 : decode method_3_code 1 = .ok (.iload_n 1, 1) := by decide +kernel
theorem o_d24_2 : decode method_3_code 2 = .ok (.if_icmp .ge 18, 3) := by decide +kernel
theorem o_d24_5 : decode method_3_code 5 = .ok (.iload_n 0, 1) := by decide +kernel
theorem o_d24_6 : decode method_3_code 6 = .ok (.iload_n 2, 1) := by decide +kernel
theorem o_d24_7 : decode method_3_code 7 = .ok (.if_icmp .ge 13, 3) := by decide +kernel
theorem o_d24_10 : decode method_3_code 10 = .ok (.iload_n 3, 1) := by decide +kernel
theorem o_d24_11 : decode method_3_code 11 = .ok (.bipush 10, 2) := by decide +kernel
theorem o_d24_13 : decode method_3_code 13 = .ok (.if_icmp .ne 7, 3) := by decide +kernel
theorem o_d24_16 : decode method_3_code 16 = .ok (.iconst 1, 1) := by decide +kernel
theorem o_d24_17 : decode method_3_code 17 = .ok (.goto 4, 3) := by decide +kernel
theorem o_d24_20 : decode method_3_code 20 = .ok (.iconst 0, 1) := by decide +kernel
theorem o_pn7 : plainName "com/example/foothold/foothold/SourceFileLinePinLaw" = true := by first | (simp [plainName, overriddenIn]; done) | decide +kernel
theorem o_d24_21 : decode method_3_code 21 = .ok (.ireturn, 1) := by decide +kernel
def o_j24_1 (x0 : Int32) (x1 : Int32) (x2 : Int32) (x3 : Int32) : Int32 := (if x0 < x1 then (if x0 < x2 then (if x3 = (10 : Int32) then (1 : Int32) else (0 : Int32)) else (0 : Int32)) else (0 : Int32))
def o_f24 (x0 : Int32) (x1 : Int32) (x2 : Int32) (x3 : Int32) : Int32 := (o_j24_1 x0 x1 x2 x3)
def o_Q24 (x0 : Int32) (x1 : Int32) (x2 : Int32) (x3 : Int32) (h0 : Heap) (n0 : Nat) (v : Option Value) (h : Heap) (L : List Loc) : Prop := v = some (.int (o_f24 x0 x1 x2 x3)) ∧ Fr n0 L ∧ h = h0
abbrev o_R24 : Room := { frames := 0, cells := 0, slots := 0, locals := 0 }
theorem o_ef24 (m : MethodId) (z0 : Int32) (z1 : Int32) (z2 : Int32) (z3 : Int32) : entryFrame m #[(.int z0), (.int z1), (.int z2), (.int z3)] 4 = mkF m 0 #[.val (.int z0), .val (.int z1), .val (.int z2), .val (.int z3)] [] := by first | (simp [entryFrame, mkF, argsToLocals, Value.category]; done) | rfl
set_option maxRecDepth 65536 in
set_option maxHeartbeats 40000000 in
theorem rm24 (l : Launch) (Z : State) (a0 : Array Value) (hw : ∀ d ∈ tables_1, d.before a0 Z = true) (ws : List Jvm.Cond) (x0 : Int32) (x1 : Int32) (x2 : Int32) (x3 : Int32) (h0 : Heap) (n0 : Nat) : o_Met l Z (⟨"com/example/foothold/foothold/SourceFileLinePinLaw", "nl", "(IIIC)I"⟩ : MethodName) method_3_code 4 (some .int) ws o_R24 #[(.int x0), (.int x1), (.int x2), (.int x3)] h0 (o_Q24 x0 x1 x2 x3 h0 n0) := by
 refine o_met (plainFor_of_name o_pn7) ?_
 intro p e s m below meth c s₁ hx hby hml hown hnm hret hlk hZ e0 X0
 have N0 := Fr.nil n0
 have hml : c.maxLocals = 4 := hml
 have hown : s.vm.findClass "com/example/foothold/foothold/SourceFileLinePinLaw" = some m.cls := hown
 have hret : meth.sig.returnType = (some .int) := hret
 have hby : c.code = method_3_code := hby
 have hnm : meth.name = "nl" := hnm
 rw [o_ef24]
 refine o_gi (XS.iloadN X0.here hx rfl (hb hby o_d24_0) rfl) ?_
 refine o_gi (XS.iloadN X0.here hx rfl (hb hby o_d24_1) rfl) ?_
 show o_Gs p e below _ s₁ m 2 #[.val (.int x0), .val (.int x1), .val (.int x2), .val (.int x3)] [(.int x1), (.int x0)]
 suffices HH586 : o_Goes p e below (o_End s o_R24 (o_Q24 x0 x1 x2 x3 h0 n0)) (s₁.setTop (mkF m 21 #[.val (.int x0), .val (.int x1), .val (.int x2), .val (.int x3)] [(.int (o_j24_1 x0 x1 x2 x3))])) by
  by_cases hc583 : x0 < x1
  ·refine o_gi (XS.icmpNo X0.here hx rfl (hb hby o_d24_2) rfl (tlt hc583).2.1) ?_
   refine o_gi (XS.iloadN X0.here hx rfl (hb hby o_d24_5) rfl) ?_
   refine o_gi (XS.iloadN X0.here hx rfl (hb hby o_d24_6) rfl) ?_
   show o_Gs p e below _ s₁ m 7 #[.val (.int x0), .val (.int x1), .val (.int x2), .val (.int x3)] [(.int x2), (.int x0)]
   by_cases hc584 : x0 < x2
   ·refine o_gi (XS.icmpNo X0.here hx rfl (hb hby o_d24_7) rfl (tlt hc584).2.1) ?_
    refine o_gi (XS.iloadN X0.here hx rfl (hb hby o_d24_10) rfl) ?_
    refine o_gi (XS.bipush X0.here hx rfl (hb hby o_d24_11)) ?_
    show o_Gs p e below _ s₁ m 13 #[.val (.int x0), .val (.int x1), .val (.int x2), .val (.int x3)] [(.int 10), (.int x3)]
    by_cases hc585 : x3 = (10 : Int32)
    ·refine o_gi (XS.icmpNo X0.here hx rfl (hb hby o_d24_13) rfl (teq hc585).2) ?_
     refine o_gi (XS.iconst X0.here hx rfl (hb hby o_d24_16)) ?_
     refine o_gi (XS.goto X0.here hx rfl (pc0 := 17) (pc' := 21) rfl (hb hby o_d24_17) (by decide) (by decide)) ?_
     rw [show (o_j24_1 x0 x1 x2 x3) = (1 : Int32) from by rw [o_j24_1, if_pos hc583, if_pos hc584, if_pos hc585]] at HH586
     exact HH586
    ·refine o_gi (XS.icmpYes X0.here hx rfl (pc0 := 13) (pc' := 20) rfl (hb hby o_d24_13) rfl (feq hc585).2 (by decide) (by decide)) ?_
     refine o_gi (XS.iconst X0.here hx rfl (hb hby o_d24_20)) ?_
     rw [show (o_j24_1 x0 x1 x2 x3) = (0 : Int32) from by rw [o_j24_1, if_pos hc583, if_pos hc584, if_neg hc585]] at HH586
     exact HH586
   ·refine o_gi (XS.icmpYes X0.here hx rfl (pc0 := 7) (pc' := 20) rfl (hb hby o_d24_7) rfl (flt hc584).2.1 (by decide) (by decide)) ?_
    refine o_gi (XS.iconst X0.here hx rfl (hb hby o_d24_20)) ?_
    rw [show (o_j24_1 x0 x1 x2 x3) = (0 : Int32) from by rw [o_j24_1, if_pos hc583, if_neg hc584]] at HH586
    exact HH586
  ·refine o_gi (XS.icmpYes X0.here hx rfl (pc0 := 2) (pc' := 20) rfl (hb hby o_d24_2) rfl (flt hc583).2.1 (by decide) (by decide)) ?_
   refine o_gi (XS.iconst X0.here hx rfl (hb hby o_d24_20)) ?_
   rw [show (o_j24_1 x0 x1 x2 x3) = (0 : Int32) from by rw [o_j24_1, if_neg hc583]] at HH586
   exact HH586
 show o_Gs p e below _ s₁ m 21 #[.val (.int x0), .val (.int x1), .val (.int x2), .val (.int x3)] [(.int (o_j24_1 x0 x1 x2 x3))]
 exact o_retI X0 hx hlk hret (hb hby o_d24_21) (by decide) (by decide) ⟨by rw [o_f24], N0, e0⟩
theorem o_d1_0 : decode method_2_code 0 = .ok (.iload_n 0, 1) := by decide +kernel
theorem o_d1_1 : decode method_2_code 1 = .ok (.bipush 8, 2) := by decide +kernel
theorem o_d1_3 : decode method_2_code 3 = .ok (.iushr, 1) := by decide +kernel
theorem o_d1_4 : decode method_2_code 4 = .ok (.iconst 1, 1) := by decide +kernel
theorem o_d1_5 : decode method_2_code 5 = .ok (.iand, 1) := by decide +kernel
theorem o_d1_6 : decode method_2_code 6 = .ok (.ifCond .eq 8, 3) := by decide +kernel
theorem o_d1_14 : decode method_2_code 14 = .ok (.iload_n 0, 1) := by decide +kernel
theorem o_d1_15 : decode method_2_code 15 = .ok (.sipush 255, 3) := by decide +kernel
theorem o_d1_18 : decode method_2_code 18 = .ok (.iand, 1) := by decide +kernel
theorem o_d1_19 : decode method_2_code 19 = .ok (.i2c, 1) := by decide +kernel
theorem o_d1_9 : decode method_2_code 9 = .ok (.bipush 10, 2) := by decide +kernel
theorem o_d1_11 : decode method_2_code 11 = .ok (.goto 9, 3) := by decide +kernel
theorem o_d1_20 : decode method_2_code 20 = .ok (.ireturn, 1) := by decide +kernel
def o_j1_1 (x0 : Int32) : Int32 := (if (((x0.toUInt32 >>> ((8 : Int32) &&& 31).toUInt32).toInt32) &&& (1 : Int32)) = (0 : Int32) then ((x0 &&& (255 : Int32)).toUInt32.toUInt16.toUInt32.toInt32) else (10 : Int32))
def o_f1 (x0 : Int32) : Int32 := ((o_j1_1 x0).toUInt32.toUInt16.toUInt32.toInt32)
def o_Q1 (x0 : Int32) (h0 : Heap) (n0 : Nat) (v : Option Value) (h : Heap) (L : List Loc) : Prop := v = some (.int (o_f1 x0)) ∧ Fr n0 L ∧ h = h0
abbrev o_R1 : Room := { frames := 0, cells := 0, slots := 0, locals := 0 }
theorem o_ef1 (m : MethodId) (z0 : Int32) : entryFrame m #[(.int z0)] 1 = mkF m 0 #[.val (.int z0)] [] := by first | (simp [entryFrame, mkF, argsToLocals, Value.category]; done) | rfl
set_option maxRecDepth 65536 in
set_option maxHeartbeats 40000000 in
theorem rm1 (l : Launch) (Z : State) (a0 : Array Value) (hw : ∀ d ∈ tables_1, d.before a0 Z = true) (ws : List Jvm.Cond) (x0 : Int32) (h0 : Heap) (n0 : Nat) : o_Met l Z (⟨"com/example/foothold/foothold/SourceFileLinePinLaw", "ch", "(I)C"⟩ : MethodName) method_2_code 1 (some .char) ws o_R1 #[(.int x0)] h0 (o_Q1 x0 h0 n0) := by
 refine o_met (plainFor_of_name o_pn7) ?_
 intro p e s m below meth c s₁ hx hby hml hown hnm hret hlk hZ e0 X0
 have N0 := Fr.nil n0
 have hml : c.maxLocals = 1 := hml
 have hown : s.vm.findClass "com/example/foothold/foothold/SourceFileLinePinLaw" = some m.cls := hown
 have hret : meth.sig.returnType = (some .char) := hret
 have hby : c.code = method_2_code := hby
 have hnm : meth.name = "ch" := hnm
 rw [o_ef1]
 refine o_gi (XS.iloadN X0.here hx rfl (hb hby o_d1_0) rfl) ?_
 refine o_gi (XS.bipush X0.here hx rfl (hb hby o_d1_1)) ?_
 show o_Gs p e below _ s₁ m 3 #[.val (.int x0)] [(.int 8), (.int x0)]
 refine o_gi (XS.iushr X0.here hx rfl (hb hby o_d1_3) rfl) ?_
 refine o_gi (XS.iconst X0.here hx rfl (hb hby o_d1_4)) ?_
 show o_Gs p e below _ s₁ m 5 #[.val (.int x0)] [(.int 1), (.int ((x0.toUInt32 >>> ((8 : Int32) &&& 31).toUInt32).toInt32))]
 refine o_gi (XS.iand X0.here hx rfl (hb hby o_d1_5) rfl) ?_
 show o_Gs p e below _ s₁ m 6 #[.val (.int x0)] [(.int (((x0.toUInt32 >>> ((8 : Int32) &&& 31).toUInt32).toInt32) &&& (1 : Int32)))]
 suffices HH588 : o_Goes p e below (o_End s o_R1 (o_Q1 x0 h0 n0)) (s₁.setTop (mkF m 20 #[.val (.int x0)] [(.int (o_j1_1 x0))])) by
  by_cases hc587 : (((x0.toUInt32 >>> ((8 : Int32) &&& 31).toUInt32).toInt32) &&& (1 : Int32)) = (0 : Int32)
  ·refine o_gi (XS.ifYes X0.here hx rfl (pc0 := 6) (pc' := 14) rfl (hb hby o_d1_6) rfl ((if0 _ _).trans (teq hc587).1) (by decide) (by decide)) ?_
   refine o_gi (XS.iloadN X0.here hx rfl (hb hby o_d1_14) rfl) ?_
   refine o_gi (XS.sipush X0.here hx rfl (hb hby o_d1_15)) ?_
   show o_Gs p e below _ s₁ m 18 #[.val (.int x0)] [(.int 255), (.int x0)]
   refine o_gi (XS.iand X0.here hx rfl (hb hby o_d1_18) rfl) ?_
   show o_Gs p e below _ s₁ m 19 #[.val (.int x0)] [(.int (x0 &&& (255 : Int32)))]
   refine o_gi (XS.i2c X0.here hx rfl (hb hby o_d1_19) rfl) ?_
   rw [show (o_j1_1 x0) = ((x0 &&& (255 : Int32)).toUInt32.toUInt16.toUInt32.toInt32) from by rw [o_j1_1, if_pos hc587]] at HH588
   exact HH588
  ·refine o_gi (XS.ifNo X0.here hx rfl (hb hby o_d1_6) rfl ((if0 _ _).trans (feq hc587).1)) ?_
   refine o_gi (XS.bipush X0.here hx rfl (hb hby o_d1_9)) ?_
   refine o_gi (XS.goto X0.here hx rfl (pc0 := 11) (pc' := 20) rfl (hb hby o_d1_11) (by decide) (by decide)) ?_
   rw [show (o_j1_1 x0) = (10 : Int32) from by rw [o_j1_1, if_neg hc587]] at HH588
   exact HH588
 show o_Gs p e below _ s₁ m 20 #[.val (.int x0)] [(.int (o_j1_1 x0))]
 exact o_retN X0 hx hlk hret (by simp) (z' := ((o_j1_1 x0).toUInt32.toUInt16.toUInt32.toInt32)) rfl (hb hby o_d1_20) (by decide) (by decide) ⟨by rw [o_f1], N0, e0⟩
theorem o_t31 : (Jvm.Cond.stringLink "java/lang/String" (7 : Nat) "") ∈ tables_1 := List.mem_of_getElem? (i := 31) rfl
abbrev o_EL : List (String × Nat) := [("java/lang/String", 7)]
theorem o_hEL {Z : State} {a0 : Array Value} (hw : ∀ d ∈ tables_1, d.before a0 Z = true) : EW Z a0 o_EL := EW.cons (hw _ o_t31) (by decide) EW.nil
theorem o_wS {Z : State} {a0 : Array Value} (hw : ∀ d ∈ tables_1, d.before a0 Z = true) : ∀ d ∈ Bundle.stringAtoms, d.before a0 Z = true := fun d hd => hw d ((by decide +kernel : ∀ d ∈ Bundle.stringAtoms, d ∈ tables_1) d hd)
theorem o_d4_0 : decode jdk_42_method_149_code 0 = .ok (.aload_n 0, 1) := by decide +kernel
theorem o_d4_1 : decode jdk_42_method_149_code 1 = .ok (.invokespecial 1, 3) := by decide +kernel
theorem o_t28 : (Jvm.Cond.methodLink "java/lang/String" (1 : Nat) ({ cls := "java/lang/Object", name := "<init>", desc := "()V" } : Jvm.MethodName)) ∈ tables_1 := List.mem_of_getElem? (i := 28) rfl
theorem o_d4_4 : decode jdk_42_method_149_code 4 = .ok (.iload_n 3, 1) := by decide +kernel
theorem o_d4_5 : decode jdk_42_method_149_code 5 = .ok (.ifCond .ne 22, 3) := by decide +kernel
theorem o_d4_8 : decode jdk_42_method_149_code 8 = .ok (.aload_n 0, 1) := by decide +kernel
theorem o_d4_9 : decode jdk_42_method_149_code 9 = .ok (.ldc 7, 2) := by decide +kernel
theorem o_d4_11 : decode jdk_42_method_149_code 11 = .ok (.getfield 9, 3) := by decide +kernel
theorem o_t32 : (Jvm.Cond.fieldLink "java/lang/String" (9 : Nat) "java/lang/String" "value" "[B") ∈ tables_1 := List.mem_of_getElem? (i := 32) rfl
theorem o_d4_14 : decode jdk_42_method_149_code 14 = .ok (.putfield 9, 3) := by decide +kernel
theorem o_t12 : (Jvm.Cond.laysFinal "java/lang/String" "java/lang/String" "value" "[B") ∈ tables_1 := List.mem_of_getElem? (i := 12) rfl
theorem o_d4_17 : decode jdk_42_method_149_code 17 = .ok (.aload_n 0, 1) := by decide +kernel
theorem o_d4_18 : decode jdk_42_method_149_code 18 = .ok (.ldc 7, 2) := by decide +kernel
theorem o_d4_20 : decode jdk_42_method_149_code 20 = .ok (.getfield 15, 3) := by decide +kernel
theorem o_t33 : (Jvm.Cond.fieldLink "java/lang/String" (15 : Nat) "java/lang/String" "coder" "B") ∈ tables_1 := List.mem_of_getElem? (i := 33) rfl
theorem o_d4_23 : decode jdk_42_method_149_code 23 = .ok (.putfield 15, 3) := by decide +kernel
theorem o_t13 : (Jvm.Cond.laysFinal "java/lang/String" "java/lang/String" "coder" "B") ∈ tables_1 := List.mem_of_getElem? (i := 13) rfl
theorem o_pn8 : plainName "java/lang/String" = true := by first | (simp [plainName, overriddenIn]; done) | decide +kernel
theorem o_d4_26 : decode jdk_42_method_149_code 26 = .ok (.return_, 1) := by decide +kernel
def o_Q4_0 (Z : State) (r0 : Addr) (r1 : Addr) (h0 : Heap) (n0 : Nat) (v : Option Value) (h : Heap) (L : List Loc) : Prop := ∃ b : Addr, ∃ kb : ClassId, v = none ∧ Fr n0 L ∧ Keep h0 h [r0] ∧ Exa Z h r0 "java/lang/String" ∧ Fld Z h r0 "java/lang/String" "coder" "B" (.int 0) ∧ Fld Z h r0 "java/lang/String" "value" "[B" (.ref b) ∧ Arv Z h b kb .byte (0 : Int32) [] (.int 0)
abbrev o_R4_0 : Room := { frames := 1, cells := 4, slots := 8, locals := 12 }
theorem o_ef4_0 (m : MethodId) (z0 : Addr) (z1 : Addr) : entryFrame m #[(.ref z0), (.ref z1), (.int 0), (.int 0), .null] 6 = mkF m 0 #[.val (.ref z0), .val (.ref z1), .val (.int 0), .val (.int 0), .val .null, .unset] [] := by first | (simp [entryFrame, mkF, argsToLocals, Value.category]; done) | rfl
set_option maxRecDepth 65536 in
set_option maxHeartbeats 40000000 in
theorem rm4_0 (l : Launch) (Z : State) (a0 : Array Value) (hw : ∀ d ∈ tables_1, d.before a0 Z = true) (ws : List Jvm.Cond) (r0 : Addr) (r1 : Addr) (h0 : Heap) (n0 : Nat) (Z0 : n0 ≤ h0.size) (g_r0 : n0 ≤ r0) (E_r0 : Exa Z h0 r0 "java/lang/String") (F_v : Fld Z h0 r0 "java/lang/String" "value" "[B" .null) (F_c : Fld Z h0 r0 "java/lang/String" "coder" "B" (.int 0)) : o_MetW l Z o_EL (⟨"java/lang/String", "<init>", "([CIILjava/lang/Void;)V"⟩ : MethodName) jdk_42_method_149_code 6 none ws o_R4_0 #[(.ref r0), (.ref r1), (.int 0), (.int 0), .null] h0 (o_Q4_0 Z r0 r1 h0 n0) := by
 refine o_metW (plainFor_of_name o_pn8) ?_
 intro p e s m below meth c s₁ hx hby hml hown hnm hret hlk hZ e0 hS C0 X0
 have N0 := Fr.nil n0
 have hml : c.maxLocals = 6 := hml
 have hown : (s.setVm s.vm).vm.findClass "java/lang/String" = some m.cls := hown
 have hret : meth.sig.returnType = none := hret
 have hby : c.code = jdk_42_method_149_code := hby
 have hnm : meth.name = "<init>" := hnm
 rw [o_ef4_0]
 have Y0 : Safe Z o_EL s.vm h0 r0 := o_safeNull (show Z.vm.Alike s.vm from hZ.alike) E_r0 F_v
 refine o_gi (XS.aloadN X0.here hx rfl (hb hby o_d4_0) rfl rfl) ?_
 show o_Gs p e below _ s₁ m 1 #[.val (.ref r0), .val (.ref r1), .val (.int 0), .val (.int 0), .val .null, .unset] [(.ref r0)]
 obtain ⟨T589, X589, e589, st589⟩ := initO X0 hx hZ hown (hw _ o_t28) (hw _ o_t29) (hw _ o_t30) e0 (g := (mkF m 1 #[.val (.ref r0), .val (.ref r1), .val (.int 0), .val (.int 0), .val .null, .unset] [(.ref r0)])) rfl (by rw [hml]; rfl) rfl (hb hby o_d4_1) (by decide) (W := 0) (by show 2 * 0 + _ ≤ _; exact Nat.le_of_eq rfl) (by decide)
 refine o_go st589 ?_
 refine o_gi (XS.iloadN X589.here hx rfl (hb hby o_d4_4) rfl) ?_
 show o_Gs p e below _ T589 m 5 #[.val (.ref r0), .val (.ref r1), .val (.int 0), .val (.int 0), .val .null, .unset] [(.int 0)]
 have hd590 : (0 : Int32) = (0 : Int32) := (by decide)
 refine o_gi (XS.ifNo X589.here hx rfl (hb hby o_d4_5) rfl ((if0 _ _).trans (teq hd590).2)) ?_
 refine o_gi (XS.aloadN X589.here hx rfl (hb hby o_d4_8) rfl rfl) ?_
 show o_Gs p e below _ T589 m 9 #[.val (.ref r0), .val (.ref r1), .val (.int 0), .val (.int 0), .val .null, .unset] [(.ref r0)]
 obtain ⟨a591, T591, h591, kk591, b591, k591, X591, e591, E591, hS591, hk591, hZ, hown, Ea591, Fc591, Fv591, Ab591, -, -, CS591, -, hne591, st591⟩ := ldcCH X589 hx hZ hown (hw _ o_t31) (o_wS hw) e589 hS (Nat.zero_le _) (o_hEL hw) (List.mem_of_getElem? (i := 0) rfl) C0.1 (vs := []) (z := (0 : Int32)) ⟨by decide, rfl⟩ (by decide) rfl (g := (mkF m 9 #[.val (.ref r0), .val (.ref r1), .val (.int 0), .val (.int 0), .val .null, .unset] [(.ref r0)])) rfl (hb hby o_d4_9) (n := 0) (by decide) (by decide) (by decide) (by decide)
 refine o_go st591 ?_
 have ne_r0_a591 := (hne591 r0 (CHr.safe CS591 E_r0.lt Y0)).1
 have ne_r0_b591 := (hne591 r0 (CHr.safe CS591 E_r0.lt Y0)).2
 have CC591 := C0.trans CS591
 show o_Gs p e below _ T591 m 11 #[.val (.ref r0), .val (.ref r1), .val (.int 0), .val (.int 0), .val .null, .unset] [(.ref a591), (.ref r0)]
 obtain ⟨T592, X592, e592, st592⟩ := getF X591 hx hZ hown (host := "") (Or.inl (hw _ o_t32)) Via.refl e591 Fv591 (g := (mkF m 11 #[.val (.ref r0), .val (.ref r1), .val (.int 0), .val (.int 0), .val .null, .unset] [(.ref a591), (.ref r0)])) rfl rfl (hb hby o_d4_11)
 refine o_go st592 ?_
 show o_Gs p e below _ T592 m 14 #[.val (.ref r0), .val (.ref r1), .val (.int 0), .val (.int 0), .val .null, .unset] [(.ref b591), (.ref r0)]
 obtain ⟨T593, h593, X593, e593, W593, st593⟩ := putF X592 hx hZ hown (host := "") (Or.inl (hw _ o_t32)) Via.refl e592 (F_v.ext E591) (E_r0.ext E591) (Or.inr ⟨(hw _ o_t12), rfl, hnm⟩) (hw _ o_t10) (ty := (.array .byte)) (by decide) rfl rfl (g := (mkF m 14 #[.val (.ref r0), .val (.ref r1), .val (.int 0), .val (.int 0), .val .null, .unset] [(.ref b591), (.ref r0)])) rfl rfl (hb hby o_d4_14)
 have N593 := Fr.snoc X593 N0 g_r0
 have Fw593 := (F_v.ext E591).same W593
 refine o_go st593 ?_
 have CC593 := CC591.trans (CHr.wr W593 (CHr.safe CS591 E_r0.lt Y0) CC591.1)
 refine o_gi (XS.aloadN X593.here hx rfl (hb hby o_d4_17) rfl rfl) ?_
 show o_Gs p e below _ T593 m 18 #[.val (.ref r0), .val (.ref r1), .val (.int 0), .val (.int 0), .val .null, .unset] [(.ref r0)]
 obtain ⟨a594, T594, h594, kk594, b594, k594, X594, e594, E594, hS594, hk594, hZ, hown, Ea594, Fc594, Fv594, Ab594, -, -, CS594, -, hne594, st594⟩ := ldcCH X593 hx hZ hown (hw _ o_t31) (o_wS hw) e593 hS591 (Nat.le_trans hk591 (Keep.of_wr W593).1) (o_hEL hw) (List.mem_of_getElem? (i := 0) rfl) CC593.1 (vs := []) (z := (0 : Int32)) ⟨by decide, rfl⟩ (by decide) rfl (g := (mkF m 18 #[.val (.ref r0), .val (.ref r1), .val (.int 0), .val (.int 0), .val .null, .unset] [(.ref r0)])) rfl (hb hby o_d4_18) (n := 0) (by decide) (by decide) (by decide) (by decide)
 refine o_go st594 ?_
 have ne_r0_a594 := (hne594 r0 (CHr.safe CS594 ((E_r0.ext E591).wr W593).lt (Safe.wr W593 (CHr.safe CS591 E_r0.lt Y0) CC591.1 (CHr.safe CS591 E_r0.lt Y0)))).1
 have ne_r0_b594 := (hne594 r0 (CHr.safe CS594 ((E_r0.ext E591).wr W593).lt (Safe.wr W593 (CHr.safe CS591 E_r0.lt Y0) CC591.1 (CHr.safe CS591 E_r0.lt Y0)))).2
 have CC594 := CC593.trans CS594
 show o_Gs p e below _ T594 m 20 #[.val (.ref r0), .val (.ref r1), .val (.int 0), .val (.int 0), .val .null, .unset] [(.ref a594), (.ref r0)]
 obtain ⟨T595, X595, e595, st595⟩ := getF X594 hx hZ hown (host := "") (Or.inl (hw _ o_t33)) Via.refl e594 Fc594 (g := (mkF m 20 #[.val (.ref r0), .val (.ref r1), .val (.int 0), .val (.int 0), .val .null, .unset] [(.ref a594), (.ref r0)])) rfl rfl (hb hby o_d4_20)
 refine o_go st595 ?_
 show o_Gs p e below _ T595 m 23 #[.val (.ref r0), .val (.ref r1), .val (.int 0), .val (.int 0), .val .null, .unset] [(.int 0), (.ref r0)]
 have ff597 : Fld Z h594 r0 "java/lang/String" "coder" "B" (.int 0) := (((F_c.ext E591).other W593 (Or.inr (slot_ne (Or.inr (hw _ o_t13)) (Or.inr (hw _ o_t12)) (by decide) (t := .byte) (t' := (.array .byte)) (by decide) (by decide)))).ext E594)
 have ff598 : Exa Z h594 r0 "java/lang/String" := (((E_r0.ext E591).wr W593).ext E594)
 obtain ⟨T596, h596, X596, e596, W596, st596⟩ := putFN X595 hx hZ hown (hw _ o_t33) Via.refl e595 ff597 ff598 (Or.inr ⟨(hw _ o_t13), rfl, hnm⟩) (hw _ o_t10) (ty := .byte) (v' := .int ((0 : Int32).toInt8.toInt32)) (by decide) rfl (fits_nar_byte _) (g := (mkF m 23 #[.val (.ref r0), .val (.ref r1), .val (.int 0), .val (.int 0), .val .null, .unset] [(.int 0), (.ref r0)])) rfl rfl (hb hby o_d4_23)
 have N596 := Fr.snoc X596 N593 g_r0
 have Fw596 := ff597.same W596
 refine o_go st596 ?_
 have CC596 := CC594.trans (CHr.wr W596 (CHr.safe CS594 ((E_r0.ext E591).wr W593).lt (Safe.wr W593 (CHr.safe CS591 E_r0.lt Y0) CC591.1 (CHr.safe CS591 E_r0.lt Y0))) CC594.1)
 show o_Gs p e below _ T596 m 26 #[.val (.ref r0), .val (.ref r1), .val (.int 0), .val (.int 0), .val .null, .unset] []
 have ff599 : Fld Z h596 r0 "java/lang/String" "value" "[B" (.ref b591) := ((Fw593.ext E594).other W596 (Or.inr (slot_ne (Or.inr (hw _ o_t12)) (Or.inr (hw _ o_t13)) (by decide) (t := (.array .byte)) (t' := .byte) (by decide) (by decide))))
 have ff600 : Arv Z h596 b591 k591 .byte (0 : Int32) [] (.int 0) := (((Ab591.other W593 (Ne.symm ne_r0_b591)).ext E594).other W596 (Ne.symm ne_r0_b591))
 exact o_ret0W hS594 (Nat.le_trans hk594 (Keep.of_wr W596).1) hZ (o_hEL hw) CC596 e596 X596 hx hlk hret (hb hby o_d4_26) (by decide) (by decide) (by show o_Q4_0 Z r0 r1 h0 n0 _ T596.heap _; rw [e596]; exact ⟨_, _, rfl, N596, (((((Keep.refl h0 ([r0] : List Addr)).ext E591).wr W593 (Or.inl (List.mem_of_getElem? (i := 0) rfl))).ext E594).wr W596 (Or.inl (List.mem_of_getElem? (i := 0) rfl))), (ff598.wr W596), Fw596, ff599, ff600⟩)
theorem o_d3_0 : decode jdk_42_method_3_code 0 = .ok (.aload_n 0, 1) := by decide +kernel
theorem o_d3_1 : decode jdk_42_method_3_code 1 = .ok (.aload_n 1, 1) := by decide +kernel
theorem o_d3_2 : decode jdk_42_method_3_code 2 = .ok (.iconst 0, 1) := by decide +kernel
theorem o_d3_3 : decode jdk_42_method_3_code 3 = .ok (.aload_n 1, 1) := by decide +kernel
theorem o_d3_4 : decode jdk_42_method_3_code 4 = .ok (.arraylength, 1) := by decide +kernel
theorem o_d3_5 : decode jdk_42_method_3_code 5 = .ok (.aconst_null, 1) := by decide +kernel
theorem o_d3_6 : decode jdk_42_method_3_code 6 = .ok (.invokespecial 27, 3) := by decide +kernel
theorem o_t24 : (Jvm.Cond.methodLink "java/lang/String" (27 : Nat) ({ cls := "java/lang/String", name := "<init>", desc := "([CIILjava/lang/Void;)V" } : Jvm.MethodName)) ∈ tables_1 := List.mem_of_getElem? (i := 24) rfl
theorem o_pd10 : parseMethodDescriptor "([CIILjava/lang/Void;)V" = some ⟨[(.array .char), .int, .int, (.object "java/lang/Void")], none⟩ := by decide +kernel
theorem o_t25 : (Jvm.Cond.instanceMethod ({ cls := "java/lang/String", name := "<init>", desc := "([CIILjava/lang/Void;)V" } : Jvm.MethodName)) ∈ tables_1 := List.mem_of_getElem? (i := 25) rfl
theorem o_t9 : (Jvm.Cond.initialized "java/lang/String") ∈ tables_1 := List.mem_of_getElem? (i := 9) rfl
theorem o_t27 : (Jvm.Cond.code ({ cls := "java/lang/String", name := "<init>", desc := "([CIILjava/lang/Void;)V" } : Jvm.MethodName) jdk_42_method_149_code (6 : Nat) (Option.none : Option Jvm.ClassFile.FieldType)) ∈ tables_1 := List.mem_of_getElem? (i := 27) rfl
theorem o_d3_9 : decode jdk_42_method_3_code 9 = .ok (.return_, 1) := by decide +kernel
def o_Q3_0 (Z : State) (r0 : Addr) (r1 : Addr) (k_1 : ClassId) (h0 : Heap) (n0 : Nat) (v : Option Value) (h : Heap) (L : List Loc) : Prop := ∃ b : Addr, ∃ kb : ClassId, v = none ∧ Fr n0 L ∧ Keep h0 h [r0] ∧ Exa Z h r0 "java/lang/String" ∧ Fld Z h r0 "java/lang/String" "coder" "B" (.int 0) ∧ Fld Z h r0 "java/lang/String" "value" "[B" (.ref b) ∧ Arv Z h b kb .byte (0 : Int32) [] (.int 0)
abbrev o_R3_0 : Room := { frames := 2, cells := 4, slots := 8, locals := 29 }
theorem o_ef3_0 (m : MethodId) (z0 : Addr) (z1 : Addr) : entryFrame m #[(.ref z0), (.ref z1)] 2 = mkF m 0 #[.val (.ref z0), .val (.ref z1)] [] := by first | (simp [entryFrame, mkF, argsToLocals, Value.category]; done) | rfl
set_option maxRecDepth 65536 in
set_option maxHeartbeats 40000000 in
theorem rm3_0 (l : Launch) (Z : State) (a0 : Array Value) (hw : ∀ d ∈ tables_1, d.before a0 Z = true) (ws : List Jvm.Cond) (r0 : Addr) (r1 : Addr) (k_1 : ClassId) (h0 : Heap) (n0 : Nat) (Z0 : n0 ≤ h0.size) (g_r0 : n0 ≤ r0) (E_r0 : Exa Z h0 r0 "java/lang/String") (F_v : Fld Z h0 r0 "java/lang/String" "value" "[B" .null) (F_c : Fld Z h0 r0 "java/lang/String" "coder" "B" (.int 0)) (V_1 : Arv Z h0 r1 k_1 .char (0 : Int32) [] (.int 0)) : o_MetW l Z o_EL (⟨"java/lang/String", "<init>", "([C)V"⟩ : MethodName) jdk_42_method_3_code 2 none ws o_R3_0 #[(.ref r0), (.ref r1)] h0 (o_Q3_0 Z r0 r1 k_1 h0 n0) := by
 refine o_metW (plainFor_of_name o_pn8) ?_
 intro p e s m below meth c s₁ hx hby hml hown hnm hret hlk hZ e0 hS C0 X0
 have N0 := Fr.nil n0
 have hml : c.maxLocals = 2 := hml
 have hown : (s.setVm s.vm).vm.findClass "java/lang/String" = some m.cls := hown
 have hret : meth.sig.returnType = none := hret
 have hby : c.code = jdk_42_method_3_code := hby
 have hnm : meth.name = "<init>" := hnm
 rw [o_ef3_0]
 refine o_gi (XS.aloadN X0.here hx rfl (hb hby o_d3_0) rfl rfl) ?_
 refine o_gi (XS.aloadN X0.here hx rfl (hb hby o_d3_1) rfl rfl) ?_
 refine o_gi (XS.iconst X0.here hx rfl (hb hby o_d3_2)) ?_
 refine o_gi (XS.aloadN X0.here hx rfl (hb hby o_d3_3) rfl rfl) ?_
 show o_Gs p e below _ s₁ m 4 #[.val (.ref r0), .val (.ref r1)] [(.ref r1), (.int 0), (.ref r1), (.ref r0)]
 obtain ⟨cl601, Ar601, qa601, sa601, na601, ha601, ga601⟩ := id V_1
 refine o_go (X0.arraylength hx (by rw [e0]; exact Ar601.1) (State.isArrayOf_alike hZ.alike Ar601.2.1) (g := (mkF m 4 #[.val (.ref r0), .val (.ref r1)] [(.ref r1), (.int 0), (.ref r1), (.ref r0)])) rfl rfl (hb hby o_d3_4)) ?_
 rw [len_of sa601 (by decide)]
 refine o_gi (XS.aconstNull X0.here hx rfl (hb hby o_d3_5)) ?_
 show o_Gs p e below _ s₁ m 6 #[.val (.ref r0), .val (.ref r1)] [.null, (.int 0), (.int 0), (.ref r1), (.ref r0)]
 obtain ⟨_, T602, L602, X602, ⟨b602, kb602, rfl, N602q, K602, G602_0, G602_1, G602_2, G602_3⟩, hS602, hZ, hown, CS602, st602⟩ := o_callIW hS (Nat.zero_le _) (o_hEL hw) C0.1 X0 hx hZ rfl hown (hw _ o_t24) (hw _ o_t25) (hw _ o_t9) (hw _ o_t27) (by decide) (b := r0) (as := [(.ref r1), (.int 0), (.int 0), .null]) (rm4_0 l Z a0 hw [] r0 r1 h0 n0 Z0 g_r0 E_r0 F_v F_c) e0 o_pd10 rfl (pc := 6) (Ls := #[.val (.ref r0), .val (.ref r1)]) (rest := []) (W := 0) (by rw [hml]; rfl) (Nat.le_of_eq rfl) (by decide) (by decide) (hb hby o_d3_6) (by decide) (by decide)
 have N602 := Fr.app N0 N602q
 refine o_go st602 ?_
 have CC602 := C0.trans CS602
 show o_Gs p e below _ T602 m 9 #[.val (.ref r0), .val (.ref r1)] []
 exact o_ret0W hS602 (Nat.le_refl _) hZ (o_hEL hw) CC602 rfl X602 hx hlk hret (hb hby o_d3_9) (by decide) (by decide) (⟨_, _, rfl, N602, ((Keep.refl h0 ([r0] : List Addr)).trans K602 (fun x hx => by cases List.mem_singleton.mp hx; exact Or.inl (List.mem_of_getElem? (i := 0) rfl))), G602_0, G602_1, G602_2, G602_3⟩)
theorem o_up {c : Int32} (h : ¬ c < 0 ∧ ¬ (255 : Int32) < c) : ¬ c < 0 ∧ ¬ (65535 : Int32) < c := ⟨h.1, fun q => h.2 (by rw [Int32.lt_iff_toInt_lt] at q ⊢; rw [show (65535 : Int32).toInt = 65535 from rfl] at q; rw [show (255 : Int32).toInt = 255 from rfl]; omega)⟩
def o_cs (x0 x1 x2 x3 x4 : Int32) : List Int32 := if x0 = (0 : Int32) then ([] : List Int32) else if x0 = (1 : Int32) then ([(nar .char x1)] : List Int32) else if x0 = (2 : Int32) then ([(nar .char x1), (nar .char x2)] : List Int32) else if x0 = (3 : Int32) then ([(nar .char x1), (nar .char x2), (nar .char x3)] : List Int32) else ([(nar .char x1), (nar .char x2), (nar .char x3), (nar .char x4)] : List Int32)
theorem o_d2_0 : decode method_4_code 0 = .ok (.iload_n 0, 1) := by decide +kernel
theorem o_d2_1 : decode method_4_code 1 = .ok (.ifCond .ne 14, 3) := by decide +kernel
theorem o_d2_4 : decode method_4_code 4 = .ok (.new 7, 3) := by decide +kernel
theorem o_t19 : (Jvm.Cond.classLink "com/example/foothold/foothold/SourceFileLinePinLaw" (7 : Nat) "java/lang/String") ∈ tables_1 := List.mem_of_getElem? (i := 19) rfl
theorem o_d2_7 : decode method_4_code 7 = .ok (.dup, 1) := by decide +kernel
theorem o_d2_8 : decode method_4_code 8 = .ok (.iconst 0, 1) := by decide +kernel
theorem o_d2_9 : decode method_4_code 9 = .ok (.newarray .char, 2) := by decide +kernel
theorem o_t20 : (Jvm.Cond.arrayClass Jvm.ClassFile.FieldType.char) ∈ tables_1 := List.mem_of_getElem? (i := 20) rfl
theorem o_d2_11 : decode method_4_code 11 = .ok (.invokespecial 9, 3) := by decide +kernel
theorem o_t21 : (Jvm.Cond.methodLink "com/example/foothold/foothold/SourceFileLinePinLaw" (9 : Nat) ({ cls := "java/lang/String", name := "<init>", desc := "([C)V" } : Jvm.MethodName)) ∈ tables_1 := List.mem_of_getElem? (i := 21) rfl
theorem o_pd11 : parseMethodDescriptor "([C)V" = some ⟨[(.array .char)], none⟩ := by decide +kernel
theorem o_t22 : (Jvm.Cond.instanceMethod ({ cls := "java/lang/String", name := "<init>", desc := "([C)V" } : Jvm.MethodName)) ∈ tables_1 := List.mem_of_getElem? (i := 22) rfl
theorem o_t23 : (Jvm.Cond.code ({ cls := "java/lang/String", name := "<init>", desc := "([C)V" } : Jvm.MethodName) jdk_42_method_3_code (2 : Nat) (Option.none : Option Jvm.ClassFile.FieldType)) ∈ tables_1 := List.mem_of_getElem? (i := 23) rfl
theorem o_d2_14 : decode method_4_code 14 = .ok (.areturn, 1) := by decide +kernel
def o_Q2_0 (Z : State) (x1 : Int32) (x2 : Int32) (x3 : Int32) (x4 : Int32) (z_cs : Int32) (h0 : Heap) (n0 : Nat) (v : Option Value) (h : Heap) (L : List Loc) : Prop := ∃ b : Addr, v = some (.ref b) ∧ Fr n0 L ∧ Keep h0 h [] ∧ h0.size ≤ b ∧ o_Str Z h b ([] : List Int32)
abbrev o_R2_0 : Room := { frames := 5, cells := 6, slots := 12, locals := 100 }
theorem o_ef2_0 (m : MethodId) (z1 : Int32) (z2 : Int32) (z3 : Int32) (z4 : Int32) : entryFrame m #[(.int 0), (.int z1), (.int z2), (.int z3), (.int z4)] 5 = mkF m 0 #[.val (.int 0), .val (.int z1), .val (.int z2), .val (.int z3), .val (.int z4)] [] := by first | (simp [entryFrame, mkF, argsToLocals, Value.category]; done) | rfl
set_option maxRecDepth 65536 in
set_option maxHeartbeats 40000000 in
theorem rm2_0 (l : Launch) (Z : State) (a0 : Array Value) (hw : ∀ d ∈ tables_1, d.before a0 Z = true) (ws : List Jvm.Cond) (x1 : Int32) (x2 : Int32) (x3 : Int32) (x4 : Int32) (z_cs : Int32) (h0 : Heap) (n0 : Nat) (Z0 : n0 ≤ h0.size) (O0 : Old Z n0 h0) (S_CS : Sta Z Z.heap "java/lang/String" "COMPACT_STRINGS" "Z" (.int z_cs)) (z_CS : ¬ z_cs = 0) (hp : ∀ z ∈ ([] : List Int32), ¬ z < 0 ∧ ¬ (255 : Int32) < z) : o_MetW l Z o_EL (⟨"com/example/foothold/foothold/SourceFileLinePinLaw", "text", "(ICCCC)Ljava/lang/String;"⟩ : MethodName) method_4_code 5 (some (.object "java/lang/String")) ws o_R2_0 #[(.int 0), (.int x1), (.int x2), (.int x3), (.int x4)] h0 (o_Q2_0 Z x1 x2 x3 x4 z_cs h0 n0) := by
 refine o_metW (plainFor_of_name o_pn7) ?_
 intro p e s m below meth c s₁ hx hby hml hown hnm hret hlk hZ e0 hS C0 X0
 have N0 := Fr.nil n0
 have hml : c.maxLocals = 5 := hml
 have hown : (s.setVm s.vm).vm.findClass "com/example/foothold/foothold/SourceFileLinePinLaw" = some m.cls := hown
 have hret : meth.sig.returnType = (some (.object "java/lang/String")) := hret
 have hby : c.code = method_4_code := hby
 have hnm : meth.name = "text" := hnm
 rw [o_ef2_0]
 refine o_gi (XS.iloadN X0.here hx rfl (hb hby o_d2_0) rfl) ?_
 show o_Gs p e below _ s₁ m 1 #[.val (.int 0), .val (.int x1), .val (.int x2), .val (.int x3), .val (.int x4)] [(.int 0)]
 have hd603 : (0 : Int32) = (0 : Int32) := (by decide)
 refine o_gi (XS.ifNo X0.here hx rfl (hb hby o_d2_1) rfl ((if0 _ _).trans (teq hd603).2)) ?_
 show o_Gs p e below _ s₁ m 4 #[.val (.int 0), .val (.int x1), .val (.int x2), .val (.int x3), .val (.int x4)] []
 obtain ⟨T604, h604, X604, e604, E604, A604, D604, -, st604⟩ := newO X0 hx hZ hown (hw _ o_t19) (hw _ o_t10) (hw _ o_t9) e0 (g := (mkF m 4 #[.val (.int 0), .val (.int x1), .val (.int x2), .val (.int x3), .val (.int x4)] [])) rfl (hb hby o_d2_4) (by decide) (by decide)
 obtain ⟨b604, q604⟩ : ∃ z, z = h0.size := ⟨_, rfl⟩
 rw [← q604] at A604 D604 st604
 have lt_b604 : h0.size ≤ b604 := Nat.le_of_eq q604.symm
 have g_b604 : n0 ≤ b604 := Nat.le_trans Z0 lt_b604
 have sz_b604 : h0.size ≤ b604 := Nat.le_trans (Keep.refl h0 ([] : List Addr)).1 lt_b604
 have F604_value : Fld Z h604 b604 "java/lang/String" "value" "[B" .null := D604 (Or.inr (hw _ o_t12)) (ty := (.array .byte)) (by decide)
 have F604_coder : Fld Z h604 b604 "java/lang/String" "coder" "B" (.int 0) := D604 (Or.inr (hw _ o_t13)) (ty := .byte) (by decide)
 refine o_go st604 ?_
 have CC604 := C0.trans (CHr.ext E604 C0.1)
 refine o_gi (XS.dup X604.here hx rfl (hb hby o_d2_7) rfl rfl) ?_
 refine o_gi (XS.iconst X604.here hx rfl (hb hby o_d2_8)) ?_
 show o_Gs p e below _ T604 m 9 #[.val (.int 0), .val (.int x1), .val (.int x2), .val (.int x3), .val (.int x4)] [(.int 0), (.ref b604), (.ref b604)]
 obtain ⟨T605, h605, k605, X605, e605, E605, A605, st605⟩ := newP X604 hx hZ (aty := .char) (hw _ o_t20) e604 (g := (mkF m 9 #[.val (.int 0), .val (.int x1), .val (.int x2), .val (.int x3), .val (.int x4)] [(.int 0), (.ref b604), (.ref b604)])) rfl (hb hby o_d2_9) rfl (by decide) (cap := 0) (by decide) (by decide) (by decide) (by decide)
 obtain ⟨b605, q605⟩ : ∃ z, z = h604.size := ⟨_, rfl⟩
 rw [← q605] at A605 st605
 have lt_b605 : h604.size ≤ b605 := Nat.le_of_eq q605.symm
 have ne_b604_b605 : b604 ≠ b605 := Nat.ne_of_lt (Nat.lt_of_lt_of_le A604.lt lt_b605)
 have g_b605 : n0 ≤ b605 := Nat.le_trans (Nat.le_trans Z0 E604.1) lt_b605
 have sz_b605 : h0.size ≤ b605 := Nat.le_trans ((Keep.refl h0 ([] : List Addr)).ext E604).1 lt_b605
 have V605 : Arv Z h605 b605 k605 .char (0 : Int32) [] (.int 0) := Arv.new A605 (by decide)
 refine o_go st605 ?_
 have CC605 := CC604.trans (CHr.ext E605 CC604.1)
 show o_Gs p e below _ T605 m 11 #[.val (.int 0), .val (.int x1), .val (.int x2), .val (.int x3), .val (.int x4)] [(.ref b605), (.ref b604), (.ref b604)]
 obtain ⟨_, T606, L606, X606, ⟨b606, kb606, rfl, N606q, K606, G606_0, G606_1, G606_2, G606_3⟩, hS606, hZ, hown, CS606, st606⟩ := o_callIW hS (Nat.le_trans (Nat.le_trans (Nat.zero_le _) E604.1) E605.1) (o_hEL hw) CC605.1 X605 hx hZ rfl hown (hw _ o_t21) (hw _ o_t22) (hw _ o_t9) (hw _ o_t23) (by decide) (b := b604) (as := [(.ref b605)]) (rm3_0 l Z a0 hw [] b604 b605 k605 h605 n0 (Nat.le_trans (Nat.le_trans Z0 E604.1) E605.1) g_b604 (A604.ext E605) (F604_value.ext E605) (F604_coder.ext E605) V605) e605 o_pd11 rfl (pc := 11) (Ls := #[.val (.int 0), .val (.int x1), .val (.int x2), .val (.int x3), .val (.int x4)]) (rest := [(.ref b604)]) (W := 1) (by rw [hml]; rfl) (Nat.le_of_eq rfl) (by decide) (by decide) (hb hby o_d2_11) (by decide) (by decide)
 have N606 := Fr.app N0 N606q
 refine o_go st606 ?_
 have CC606 := CC605.trans CS606
 show o_Gs p e below _ T606 m 14 #[.val (.int 0), .val (.int x1), .val (.int x2), .val (.int x3), .val (.int x4)] [(.ref b604)]
 exact o_retRW hS606 (Nat.le_refl _) hZ (o_hEL hw) CC606 rfl X606 hx hlk hret rfl rfl (hb hby o_d2_14) (by decide) (by decide) (⟨_, rfl, N606, ((((Keep.refl h0 ([] : List Addr)).ext E604).ext E605).trans K606 (fun x hx => by cases List.mem_singleton.mp hx; exact Or.inr sz_b604)), sz_b604, ⟨b606, _, _, _, G606_0, G606_2, G606_1, G606_3, (Or.inl ⟨rfl, rfl, rfl, fun _ h => nomatch h⟩), (fun _ h => nomatch h), (Nat.zero_le _)⟩⟩)
theorem o_d2_15 : decode method_4_code 15 = .ok (.iload_n 0, 1) := by decide +kernel
theorem o_d2_16 : decode method_4_code 16 = .ok (.iconst 1, 1) := by decide +kernel
theorem o_d2_17 : decode method_4_code 17 = .ok (.if_icmp .ne 18, 3) := by decide +kernel
theorem o_d2_20 : decode method_4_code 20 = .ok (.new 7, 3) := by decide +kernel
theorem o_d2_23 : decode method_4_code 23 = .ok (.dup, 1) := by decide +kernel
theorem o_d2_24 : decode method_4_code 24 = .ok (.iconst 1, 1) := by decide +kernel
theorem o_d2_25 : decode method_4_code 25 = .ok (.newarray .char, 2) := by decide +kernel
theorem o_d2_27 : decode method_4_code 27 = .ok (.dup, 1) := by decide +kernel
theorem o_d2_28 : decode method_4_code 28 = .ok (.iconst 0, 1) := by decide +kernel
theorem o_d2_29 : decode method_4_code 29 = .ok (.iload_n 1, 1) := by decide +kernel
theorem o_d2_30 : decode method_4_code 30 = .ok (.castore, 1) := by decide +kernel
theorem o_d2_31 : decode method_4_code 31 = .ok (.invokespecial 9, 3) := by decide +kernel
theorem o_d2_34 : decode method_4_code 34 = .ok (.areturn, 1) := by decide +kernel
def o_Q2_1 (Z : State) (x1 : Int32) (x2 : Int32) (x3 : Int32) (x4 : Int32) (z_cs : Int32) (h0 : Heap) (n0 : Nat) (v : Option Value) (h : Heap) (L : List Loc) : Prop := ∃ b : Addr, v = some (.ref b) ∧ Fr n0 L ∧ Keep h0 h [] ∧ h0.size ≤ b ∧ o_Str Z h b ([(nar .char x1)] : List Int32)
abbrev o_R2_1 : Room := { frames := 5, cells := 6, slots := 12, locals := 100 }
theorem o_ef2_1 (m : MethodId) (z1 : Int32) (z2 : Int32) (z3 : Int32) (z4 : Int32) : entryFrame m #[(.int 1), (.int z1), (.int z2), (.int z3), (.int z4)] 5 = mkF m 0 #[.val (.int 1), .val (.int z1), .val (.int z2), .val (.int z3), .val (.int z4)] [] := by first | (simp [entryFrame, mkF, argsToLocals, Value.category]; done) | rfl
set_option maxRecDepth 65536 in
set_option maxHeartbeats 40000000 in
theorem rm2_1 (l : Launch) (Z : State) (a0 : Array Value) (hw : ∀ d ∈ tables_1, d.before a0 Z = true) (ws : List Jvm.Cond) (x1 : Int32) (x2 : Int32) (x3 : Int32) (x4 : Int32) (z_cs : Int32) (h0 : Heap) (n0 : Nat) (Z0 : n0 ≤ h0.size) (O0 : Old Z n0 h0) (S_CS : Sta Z Z.heap "java/lang/String" "COMPACT_STRINGS" "Z" (.int z_cs)) (z_CS : ¬ z_cs = 0) (hp : ∀ z ∈ ([(nar .char x1)] : List Int32), ¬ z < 0 ∧ ¬ (255 : Int32) < z) : o_MetW l Z o_EL (⟨"com/example/foothold/foothold/SourceFileLinePinLaw", "text", "(ICCCC)Ljava/lang/String;"⟩ : MethodName) method_4_code 5 (some (.object "java/lang/String")) ws o_R2_1 #[(.int 1), (.int x1), (.int x2), (.int x3), (.int x4)] h0 (o_Q2_1 Z x1 x2 x3 x4 z_cs h0 n0) := by
 refine o_metW (plainFor_of_name o_pn7) ?_
 intro p e s m below meth c s₁ hx hby hml hown hnm hret hlk hZ e0 hS C0 X0
 have N0 := Fr.nil n0
 have hml : c.maxLocals = 5 := hml
 have hown : (s.setVm s.vm).vm.findClass "com/example/foothold/foothold/SourceFileLinePinLaw" = some m.cls := hown
 have hret : meth.sig.returnType = (some (.object "java/lang/String")) := hret
 have hby : c.code = method_4_code := hby
 have hnm : meth.name = "text" := hnm
 rw [o_ef2_1]
 have hws : ∀ d ∈ StrChars.Road.words, d.before a0 Z = true := fun d hd => hw d ((by decide +kernel : ∀ d ∈ StrChars.Road.words, d ∈ tables_1) d hd)
 refine o_gi (XS.iloadN X0.here hx rfl (hb hby o_d2_0) rfl) ?_
 show o_Gs p e below _ s₁ m 1 #[.val (.int 1), .val (.int x1), .val (.int x2), .val (.int x3), .val (.int x4)] [(.int 1)]
 have hd607 : ¬ ((1 : Int32) = (0 : Int32)) := (by decide)
 refine o_gi (XS.ifYes X0.here hx rfl (pc0 := 1) (pc' := 15) rfl (hb hby o_d2_1) rfl ((if0 _ _).trans (feq hd607).2) (by decide) (by decide)) ?_
 refine o_gi (XS.iloadN X0.here hx rfl (hb hby o_d2_15) rfl) ?_
 refine o_gi (XS.iconst X0.here hx rfl (hb hby o_d2_16)) ?_
 show o_Gs p e below _ s₁ m 17 #[.val (.int 1), .val (.int x1), .val (.int x2), .val (.int x3), .val (.int x4)] [(.int 1), (.int 1)]
 have hd608 : (1 : Int32) = (1 : Int32) := (by decide)
 refine o_gi (XS.icmpNo X0.here hx rfl (hb hby o_d2_17) rfl (teq hd608).2) ?_
 show o_Gs p e below _ s₁ m 20 #[.val (.int 1), .val (.int x1), .val (.int x2), .val (.int x3), .val (.int x4)] []
 obtain ⟨T609, h609, X609, e609, E609, A609, D609, -, st609⟩ := newO X0 hx hZ hown (hw _ o_t19) (hw _ o_t10) (hw _ o_t9) e0 (g := (mkF m 20 #[.val (.int 1), .val (.int x1), .val (.int x2), .val (.int x3), .val (.int x4)] [])) rfl (hb hby o_d2_20) (by decide) (by decide)
 obtain ⟨b609, q609⟩ : ∃ z, z = h0.size := ⟨_, rfl⟩
 rw [← q609] at A609 D609 st609
 have lt_b609 : h0.size ≤ b609 := Nat.le_of_eq q609.symm
 have g_b609 : n0 ≤ b609 := Nat.le_trans Z0 lt_b609
 have sz_b609 : h0.size ≤ b609 := Nat.le_trans (Keep.refl h0 ([] : List Addr)).1 lt_b609
 have F609_value : Fld Z h609 b609 "java/lang/String" "value" "[B" .null := D609 (Or.inr (hw _ o_t12)) (ty := (.array .byte)) (by decide)
 have F609_coder : Fld Z h609 b609 "java/lang/String" "coder" "B" (.int 0) := D609 (Or.inr (hw _ o_t13)) (ty := .byte) (by decide)
 refine o_go st609 ?_
 have CC609 := C0.trans (CHr.ext E609 C0.1)
 refine o_gi (XS.dup X609.here hx rfl (hb hby o_d2_23) rfl rfl) ?_
 refine o_gi (XS.iconst X609.here hx rfl (hb hby o_d2_24)) ?_
 show o_Gs p e below _ T609 m 25 #[.val (.int 1), .val (.int x1), .val (.int x2), .val (.int x3), .val (.int x4)] [(.int 1), (.ref b609), (.ref b609)]
 obtain ⟨T610, h610, k610, X610, e610, E610, A610, st610⟩ := newP X609 hx hZ (aty := .char) (hw _ o_t20) e609 (g := (mkF m 25 #[.val (.int 1), .val (.int x1), .val (.int x2), .val (.int x3), .val (.int x4)] [(.int 1), (.ref b609), (.ref b609)])) rfl (hb hby o_d2_25) rfl (by decide) (cap := 1) (by decide) (by decide) (by decide) (by decide)
 obtain ⟨b610, q610⟩ : ∃ z, z = h609.size := ⟨_, rfl⟩
 rw [← q610] at A610 st610
 have lt_b610 : h609.size ≤ b610 := Nat.le_of_eq q610.symm
 have ne_b609_b610 : b609 ≠ b610 := Nat.ne_of_lt (Nat.lt_of_lt_of_le A609.lt lt_b610)
 have g_b610 : n0 ≤ b610 := Nat.le_trans (Nat.le_trans Z0 E609.1) lt_b610
 have sz_b610 : h0.size ≤ b610 := Nat.le_trans ((Keep.refl h0 ([] : List Addr)).ext E609).1 lt_b610
 have V610 : Arv Z h610 b610 k610 .char (1 : Int32) [(.int 0)] (.int 0) := (Arv.new A610 (by decide)).pad (pad_rep [] (.int 0) 1)
 refine o_go st610 ?_
 have CC610 := CC609.trans (CHr.ext E610 CC609.1)
 refine o_gi (XS.dup X610.here hx rfl (hb hby o_d2_27) rfl rfl) ?_
 refine o_gi (XS.iconst X610.here hx rfl (hb hby o_d2_28)) ?_
 refine o_gi (XS.iloadN X610.here hx rfl (hb hby o_d2_29) rfl) ?_
 show o_Gs p e below _ T610 m 30 #[.val (.int 1), .val (.int x1), .val (.int x2), .val (.int x3), .val (.int x4)] [(.int x1), (.int 0), (.ref b610), (.ref b610), (.ref b609), (.ref b609)]
 obtain ⟨cl611, Ar611, qa611, sa611, na611, ha611, ga611⟩ := id V610
 obtain ⟨T611, h611, X611, e611, W611, st611⟩ := stC X610 hx hZ e610 Ar611 (j := (0 : Int32)) (inb_of sa611 ⟨by decide, by decide⟩) (g := (mkF m 30 #[.val (.int 1), .val (.int x1), .val (.int x2), .val (.int x3), .val (.int x4)] [(.int x1), (.int 0), (.ref b610), (.ref b610), (.ref b609), (.ref b609)])) rfl rfl (hb hby o_d2_30)
 have V611 : Arv Z h611 b610 k610 .char (1 : Int32) [(.int (nar .char x1))] (.int 0) := Arv.set Ar611 qa611 sa611 na611 ha611 ga611 (fits_nar_char _) W611 0 rfl (Nat.le_of_ble_eq_true rfl)
 have N611 := Fr.snoc X611 N0 g_b610
 refine o_go st611 ?_
 have CC611 := CC610.trans (CHr.wr W611 (o_safeArv (show Z.vm.Alike s.vm from hZ.alike) V610 (by decide)) CC610.1)
 show o_Gs p e below _ T611 m 31 #[.val (.int 1), .val (.int x1), .val (.int x2), .val (.int x3), .val (.int x4)] [(.ref b610), (.ref b609), (.ref b609)]
 have ff613 : Fld Z h611 b609 "java/lang/String" "value" "[B" .null := ((F609_value.ext E610).other W611 (Or.inl ne_b609_b610))
 have ff614 : Fld Z h611 b609 "java/lang/String" "coder" "B" (.int 0) := ((F609_coder.ext E610).other W611 (Or.inl ne_b609_b610))
 have oo615 : Old Z n0 h611 := (((O0.ext E609).ext E610).wr W611 g_b610)
 obtain ⟨T612, L612, X612, ⟨-, N612q, K612, G612_0, G612_1, t612, k612, -, lt_t612, -, G612_2, G612_3⟩, st612⟩ := o_newStr X611 hx hZ hown (hw _ o_t21) (hw _ o_t22) (hw _ o_t23) (hw _ o_t10) hws (cs := ([(nar .char x1)] : List Int32)) (n := 1) g_b609 (Nat.le_trans (Nat.le_trans (Nat.le_trans Z0 E609.1) E610.1) (Keep.of_wr W611).1) ((A609.ext E610).wr W611) ff613 ff614 V611 (S_CS.ext oo615.2) z_CS rfl rfl (by decide) (by decide) hp e611 (pc := 31) (Ls := #[.val (.int 1), .val (.int x1), .val (.int x2), .val (.int x3), .val (.int x4)]) (rest := [(.ref b609)]) (W := 1) (by rw [hml]; rfl) (Nat.le_of_eq rfl) (by decide) (by decide) (hb hby o_d2_31) (by decide) (by decide)
 have ne_b609_t612 : b609 ≠ t612 := Nat.ne_of_lt (Nat.lt_of_lt_of_le ((A609.ext E610).wr W611).lt lt_t612)
 have ne_b610_t612 : b610 ≠ t612 := Nat.ne_of_lt (Nat.lt_of_lt_of_le V611.lt lt_t612)
 have g_t612 : n0 ≤ t612 := Nat.le_trans (Nat.le_trans (Nat.le_trans (Nat.le_trans Z0 E609.1) E610.1) (Keep.of_wr W611).1) lt_t612
 have sz_t612 : h0.size ≤ t612 := Nat.le_trans ((((Keep.refl h0 ([] : List Addr)).ext E609).ext E610).wr W611 (Or.inr sz_b610)).1 lt_t612
 have N612 := Fr.app N611 N612q
 refine o_go st612 ?_
 have CC612 := CC611.trans (CHr.keep K612 (allS (o_safeNull (show Z.vm.Alike s.vm from hZ.alike) ((A609.ext E610).wr W611) ((F609_value.ext E610).other W611 (Or.inl ne_b609_b610))) all0) CC611.1)
 show o_Gs p e below _ T612 m 34 #[.val (.int 1), .val (.int x1), .val (.int x2), .val (.int x3), .val (.int x4)] [(.ref b609)]
 exact o_retRW hS (Nat.le_trans (Nat.le_trans (Nat.le_trans (Nat.le_trans (Nat.zero_le _) E609.1) E610.1) (Keep.of_wr W611).1) K612.1) hZ (o_hEL hw) CC612 rfl X612 hx hlk hret rfl rfl (hb hby o_d2_34) (by decide) (by decide) (⟨_, rfl, N612, (((((Keep.refl h0 ([] : List Addr)).ext E609).ext E610).wr W611 (Or.inr sz_b610)).trans K612 (fun x hx => by cases List.mem_singleton.mp hx; exact Or.inr sz_b609)), sz_b609, ⟨t612, _, _, _, G612_0, G612_2, G612_1, G612_3, (StrChars.Road.codOf rfl (fun c hc => (hp c hc).2)), (fun c hc => o_up (hp c hc)), (Nat.le_of_ble_eq_true rfl)⟩⟩)
theorem o_d2_35 : decode method_4_code 35 = .ok (.iload_n 0, 1) := by decide +kernel
theorem o_d2_36 : decode method_4_code 36 = .ok (.iconst 2, 1) := by decide +kernel
theorem o_d2_37 : decode method_4_code 37 = .ok (.if_icmp .ne 22, 3) := by decide +kernel
theorem o_d2_40 : decode method_4_code 40 = .ok (.new 7, 3) := by decide +kernel
theorem o_d2_43 : decode method_4_code 43 = .ok (.dup, 1) := by decide +kernel
theorem o_d2_44 : decode method_4_code 44 = .ok (.iconst 2, 1) := by decide +kernel
theorem o_d2_45 : decode method_4_code 45 = .ok (.newarray .char, 2) := by decide +kernel
theorem o_d2_47 : decode method_4_code 47 = .ok (.dup, 1) := by decide +kernel
theorem o_d2_48 : decode method_4_code 48 = .ok (.iconst 0, 1) := by decide +kernel
theorem o_d2_49 : decode method_4_code 49 = .ok (.iload_n 1, 1) := by decide +kernel
theorem o_d2_50 : decode method_4_code 50 = .ok (.castore, 1) := by decide +kernel
theorem o_d2_51 : decode method_4_code 51 = .ok (.dup, 1) := by decide +kernel
theorem o_d2_52 : decode method_4_code 52 = .ok (.iconst 1, 1) := by decide +kernel
theorem o_d2_53 : decode method_4_code 53 = .ok (.iload_n 2, 1) := by decide +kernel
theorem o_d2_54 : decode method_4_code 54 = .ok (.castore, 1) := by decide +kernel
theorem o_d2_55 : decode method_4_code 55 = .ok (.invokespecial 9, 3) := by decide +kernel
theorem o_d2_58 : decode method_4_code 58 = .ok (.areturn, 1) := by decide +kernel
def o_Q2_2 (Z : State) (x1 : Int32) (x2 : Int32) (x3 : Int32) (x4 : Int32) (z_cs : Int32) (h0 : Heap) (n0 : Nat) (v : Option Value) (h : Heap) (L : List Loc) : Prop := ∃ b : Addr, v = some (.ref b) ∧ Fr n0 L ∧ Keep h0 h [] ∧ h0.size ≤ b ∧ o_Str Z h b ([(nar .char x1), (nar .char x2)] : List Int32)
abbrev o_R2_2 : Room := { frames := 5, cells := 6, slots := 12, locals := 100 }
theorem o_ef2_2 (m : MethodId) (z1 : Int32) (z2 : Int32) (z3 : Int32) (z4 : Int32) : entryFrame m #[(.int 2), (.int z1), (.int z2), (.int z3), (.int z4)] 5 = mkF m 0 #[.val (.int 2), .val (.int z1), .val (.int z2), .val (.int z3), .val (.int z4)] [] := by first | (simp [entryFrame, mkF, argsToLocals, Value.category]; done) | rfl
set_option maxRecDepth 65536 in
set_option maxHeartbeats 40000000 in
theorem rm2_2 (l : Launch) (Z : State) (a0 : Array Value) (hw : ∀ d ∈ tables_1, d.before a0 Z = true) (ws : List Jvm.Cond) (x1 : Int32) (x2 : Int32) (x3 : Int32) (x4 : Int32) (z_cs : Int32) (h0 : Heap) (n0 : Nat) (Z0 : n0 ≤ h0.size) (O0 : Old Z n0 h0) (S_CS : Sta Z Z.heap "java/lang/String" "COMPACT_STRINGS" "Z" (.int z_cs)) (z_CS : ¬ z_cs = 0) (hp : ∀ z ∈ ([(nar .char x1), (nar .char x2)] : List Int32), ¬ z < 0 ∧ ¬ (255 : Int32) < z) : o_MetW l Z o_EL (⟨"com/example/foothold/foothold/SourceFileLinePinLaw", "text", "(ICCCC)Ljava/lang/String;"⟩ : MethodName) method_4_code 5 (some (.object "java/lang/String")) ws o_R2_2 #[(.int 2), (.int x1), (.int x2), (.int x3), (.int x4)] h0 (o_Q2_2 Z x1 x2 x3 x4 z_cs h0 n0) := by
 refine o_metW (plainFor_of_name o_pn7) ?_
 intro p e s m below meth c s₁ hx hby hml hown hnm hret hlk hZ e0 hS C0 X0
 have N0 := Fr.nil n0
 have hml : c.maxLocals = 5 := hml
 have hown : (s.setVm s.vm).vm.findClass "com/example/foothold/foothold/SourceFileLinePinLaw" = some m.cls := hown
 have hret : meth.sig.returnType = (some (.object "java/lang/String")) := hret
 have hby : c.code = method_4_code := hby
 have hnm : meth.name = "text" := hnm
 rw [o_ef2_2]
 have hws : ∀ d ∈ StrChars.Road.words, d.before a0 Z = true := fun d hd => hw d ((by decide +kernel : ∀ d ∈ StrChars.Road.words, d ∈ tables_1) d hd)
 refine o_gi (XS.iloadN X0.here hx rfl (hb hby o_d2_0) rfl) ?_
 show o_Gs p e below _ s₁ m 1 #[.val (.int 2), .val (.int x1), .val (.int x2), .val (.int x3), .val (.int x4)] [(.int 2)]
 have hd616 : ¬ ((2 : Int32) = (0 : Int32)) := (by decide)
 refine o_gi (XS.ifYes X0.here hx rfl (pc0 := 1) (pc' := 15) rfl (hb hby o_d2_1) rfl ((if0 _ _).trans (feq hd616).2) (by decide) (by decide)) ?_
 refine o_gi (XS.iloadN X0.here hx rfl (hb hby o_d2_15) rfl) ?_
 refine o_gi (XS.iconst X0.here hx rfl (hb hby o_d2_16)) ?_
 show o_Gs p e below _ s₁ m 17 #[.val (.int 2), .val (.int x1), .val (.int x2), .val (.int x3), .val (.int x4)] [(.int 1), (.int 2)]
 have hd617 : ¬ ((2 : Int32) = (1 : Int32)) := (by decide)
 refine o_gi (XS.icmpYes X0.here hx rfl (pc0 := 17) (pc' := 35) rfl (hb hby o_d2_17) rfl (feq hd617).2 (by decide) (by decide)) ?_
 refine o_gi (XS.iloadN X0.here hx rfl (hb hby o_d2_35) rfl) ?_
 refine o_gi (XS.iconst X0.here hx rfl (hb hby o_d2_36)) ?_
 show o_Gs p e below _ s₁ m 37 #[.val (.int 2), .val (.int x1), .val (.int x2), .val (.int x3), .val (.int x4)] [(.int 2), (.int 2)]
 have hd618 : (2 : Int32) = (2 : Int32) := (by decide)
 refine o_gi (XS.icmpNo X0.here hx rfl (hb hby o_d2_37) rfl (teq hd618).2) ?_
 show o_Gs p e below _ s₁ m 40 #[.val (.int 2), .val (.int x1), .val (.int x2), .val (.int x3), .val (.int x4)] []
 obtain ⟨T619, h619, X619, e619, E619, A619, D619, -, st619⟩ := newO X0 hx hZ hown (hw _ o_t19) (hw _ o_t10) (hw _ o_t9) e0 (g := (mkF m 40 #[.val (.int 2), .val (.int x1), .val (.int x2), .val (.int x3), .val (.int x4)] [])) rfl (hb hby o_d2_40) (by decide) (by decide)
 obtain ⟨b619, q619⟩ : ∃ z, z = h0.size := ⟨_, rfl⟩
 rw [← q619] at A619 D619 st619
 have lt_b619 : h0.size ≤ b619 := Nat.le_of_eq q619.symm
 have g_b619 : n0 ≤ b619 := Nat.le_trans Z0 lt_b619
 have sz_b619 : h0.size ≤ b619 := Nat.le_trans (Keep.refl h0 ([] : List Addr)).1 lt_b619
 have F619_value : Fld Z h619 b619 "java/lang/String" "value" "[B" .null := D619 (Or.inr (hw _ o_t12)) (ty := (.array .byte)) (by decide)
 have F619_coder : Fld Z h619 b619 "java/lang/String" "coder" "B" (.int 0) := D619 (Or.inr (hw _ o_t13)) (ty := .byte) (by decide)
 refine o_go st619 ?_
 have CC619 := C0.trans (CHr.ext E619 C0.1)
 refine o_gi (XS.dup X619.here hx rfl (hb hby o_d2_43) rfl rfl) ?_
 refine o_gi (XS.iconst X619.here hx rfl (hb hby o_d2_44)) ?_
 show o_Gs p e below _ T619 m 45 #[.val (.int 2), .val (.int x1), .val (.int x2), .val (.int x3), .val (.int x4)] [(.int 2), (.ref b619), (.ref b619)]
 obtain ⟨T620, h620, k620, X620, e620, E620, A620, st620⟩ := newP X619 hx hZ (aty := .char) (hw _ o_t20) e619 (g := (mkF m 45 #[.val (.int 2), .val (.int x1), .val (.int x2), .val (.int x3), .val (.int x4)] [(.int 2), (.ref b619), (.ref b619)])) rfl (hb hby o_d2_45) rfl (by decide) (cap := 2) (by decide) (by decide) (by decide) (by decide)
 obtain ⟨b620, q620⟩ : ∃ z, z = h619.size := ⟨_, rfl⟩
 rw [← q620] at A620 st620
 have lt_b620 : h619.size ≤ b620 := Nat.le_of_eq q620.symm
 have ne_b619_b620 : b619 ≠ b620 := Nat.ne_of_lt (Nat.lt_of_lt_of_le A619.lt lt_b620)
 have g_b620 : n0 ≤ b620 := Nat.le_trans (Nat.le_trans Z0 E619.1) lt_b620
 have sz_b620 : h0.size ≤ b620 := Nat.le_trans ((Keep.refl h0 ([] : List Addr)).ext E619).1 lt_b620
 have V620 : Arv Z h620 b620 k620 .char (2 : Int32) [(.int 0), (.int 0)] (.int 0) := (Arv.new A620 (by decide)).pad (pad_rep [] (.int 0) 2)
 refine o_go st620 ?_
 have CC620 := CC619.trans (CHr.ext E620 CC619.1)
 refine o_gi (XS.dup X620.here hx rfl (hb hby o_d2_47) rfl rfl) ?_
 refine o_gi (XS.iconst X620.here hx rfl (hb hby o_d2_48)) ?_
 refine o_gi (XS.iloadN X620.here hx rfl (hb hby o_d2_49) rfl) ?_
 show o_Gs p e below _ T620 m 50 #[.val (.int 2), .val (.int x1), .val (.int x2), .val (.int x3), .val (.int x4)] [(.int x1), (.int 0), (.ref b620), (.ref b620), (.ref b619), (.ref b619)]
 obtain ⟨cl621, Ar621, qa621, sa621, na621, ha621, ga621⟩ := id V620
 obtain ⟨T621, h621, X621, e621, W621, st621⟩ := stC X620 hx hZ e620 Ar621 (j := (0 : Int32)) (inb_of sa621 ⟨by decide, by decide⟩) (g := (mkF m 50 #[.val (.int 2), .val (.int x1), .val (.int x2), .val (.int x3), .val (.int x4)] [(.int x1), (.int 0), (.ref b620), (.ref b620), (.ref b619), (.ref b619)])) rfl rfl (hb hby o_d2_50)
 have V621 : Arv Z h621 b620 k620 .char (2 : Int32) [(.int (nar .char x1)), (.int 0)] (.int 0) := Arv.set Ar621 qa621 sa621 na621 ha621 ga621 (fits_nar_char _) W621 0 rfl (Nat.le_of_ble_eq_true rfl)
 have N621 := Fr.snoc X621 N0 g_b620
 refine o_go st621 ?_
 have CC621 := CC620.trans (CHr.wr W621 (o_safeArv (show Z.vm.Alike s.vm from hZ.alike) V620 (by decide)) CC620.1)
 refine o_gi (XS.dup X621.here hx rfl (hb hby o_d2_51) rfl rfl) ?_
 refine o_gi (XS.iconst X621.here hx rfl (hb hby o_d2_52)) ?_
 refine o_gi (XS.iloadN X621.here hx rfl (hb hby o_d2_53) rfl) ?_
 show o_Gs p e below _ T621 m 54 #[.val (.int 2), .val (.int x1), .val (.int x2), .val (.int x3), .val (.int x4)] [(.int x2), (.int 1), (.ref b620), (.ref b620), (.ref b619), (.ref b619)]
 obtain ⟨cl622, Ar622, qa622, sa622, na622, ha622, ga622⟩ := id V621
 obtain ⟨T622, h622, X622, e622, W622, st622⟩ := stC X621 hx hZ e621 Ar622 (j := (1 : Int32)) (inb_of sa622 ⟨by decide, by decide⟩) (g := (mkF m 54 #[.val (.int 2), .val (.int x1), .val (.int x2), .val (.int x3), .val (.int x4)] [(.int x2), (.int 1), (.ref b620), (.ref b620), (.ref b619), (.ref b619)])) rfl rfl (hb hby o_d2_54)
 have V622 : Arv Z h622 b620 k620 .char (2 : Int32) [(.int (nar .char x1)), (.int (nar .char x2))] (.int 0) := Arv.set Ar622 qa622 sa622 na622 ha622 ga622 (fits_nar_char _) W622 1 rfl (Nat.le_of_ble_eq_true rfl)
 have N622 := Fr.snoc X622 N621 g_b620
 refine o_go st622 ?_
 have CC622 := CC621.trans (CHr.wr W622 (o_safeArv (show Z.vm.Alike s.vm from hZ.alike) V621 (by decide)) CC621.1)
 show o_Gs p e below _ T622 m 55 #[.val (.int 2), .val (.int x1), .val (.int x2), .val (.int x3), .val (.int x4)] [(.ref b620), (.ref b619), (.ref b619)]
 have ff624 : Exa Z h622 b619 "java/lang/String" := (((A619.ext E620).wr W621).wr W622)
 have ff625 : Fld Z h622 b619 "java/lang/String" "value" "[B" .null := (((F619_value.ext E620).other W621 (Or.inl ne_b619_b620)).other W622 (Or.inl ne_b619_b620))
 have ff626 : Fld Z h622 b619 "java/lang/String" "coder" "B" (.int 0) := (((F619_coder.ext E620).other W621 (Or.inl ne_b619_b620)).other W622 (Or.inl ne_b619_b620))
 have oo627 : Old Z n0 h622 := ((((O0.ext E619).ext E620).wr W621 g_b620).wr W622 g_b620)
 obtain ⟨T623, L623, X623, ⟨-, N623q, K623, G623_0, G623_1, t623, k623, -, lt_t623, -, G623_2, G623_3⟩, st623⟩ := o_newStr X622 hx hZ hown (hw _ o_t21) (hw _ o_t22) (hw _ o_t23) (hw _ o_t10) hws (cs := ([(nar .char x1), (nar .char x2)] : List Int32)) (n := 2) g_b619 (Nat.le_trans (Nat.le_trans (Nat.le_trans (Nat.le_trans Z0 E619.1) E620.1) (Keep.of_wr W621).1) (Keep.of_wr W622).1) ff624 ff625 ff626 V622 (S_CS.ext oo627.2) z_CS rfl rfl (by decide) (by decide) hp e622 (pc := 55) (Ls := #[.val (.int 2), .val (.int x1), .val (.int x2), .val (.int x3), .val (.int x4)]) (rest := [(.ref b619)]) (W := 1) (by rw [hml]; rfl) (Nat.le_of_eq rfl) (by decide) (by decide) (hb hby o_d2_55) (by decide) (by decide)
 have ne_b619_t623 : b619 ≠ t623 := Nat.ne_of_lt (Nat.lt_of_lt_of_le ff624.lt lt_t623)
 have ne_b620_t623 : b620 ≠ t623 := Nat.ne_of_lt (Nat.lt_of_lt_of_le V622.lt lt_t623)
 have g_t623 : n0 ≤ t623 := Nat.le_trans (Nat.le_trans (Nat.le_trans (Nat.le_trans (Nat.le_trans Z0 E619.1) E620.1) (Keep.of_wr W621).1) (Keep.of_wr W622).1) lt_t623
 have sz_t623 : h0.size ≤ t623 := Nat.le_trans (((((Keep.refl h0 ([] : List Addr)).ext E619).ext E620).wr W621 (Or.inr sz_b620)).wr W622 (Or.inr sz_b620)).1 lt_t623
 have N623 := Fr.app N622 N623q
 refine o_go st623 ?_
 have CC623 := CC622.trans (CHr.keep K623 (allS (o_safeNull (show Z.vm.Alike s.vm from hZ.alike) (((A619.ext E620).wr W621).wr W622) (((F619_value.ext E620).other W621 (Or.inl ne_b619_b620)).other W622 (Or.inl ne_b619_b620))) all0) CC622.1)
 show o_Gs p e below _ T623 m 58 #[.val (.int 2), .val (.int x1), .val (.int x2), .val (.int x3), .val (.int x4)] [(.ref b619)]
 exact o_retRW hS (Nat.le_trans (Nat.le_trans (Nat.le_trans (Nat.le_trans (Nat.le_trans (Nat.zero_le _) E619.1) E620.1) (Keep.of_wr W621).1) (Keep.of_wr W622).1) K623.1) hZ (o_hEL hw) CC623 rfl X623 hx hlk hret rfl rfl (hb hby o_d2_58) (by decide) (by decide) (⟨_, rfl, N623, ((((((Keep.refl h0 ([] : List Addr)).ext E619).ext E620).wr W621 (Or.inr sz_b620)).wr W622 (Or.inr sz_b620)).trans K623 (fun x hx => by cases List.mem_singleton.mp hx; exact Or.inr sz_b619)), sz_b619, ⟨t623, _, _, _, G623_0, G623_2, G623_1, G623_3, (StrChars.Road.codOf rfl (fun c hc => (hp c hc).2)), (fun c hc => o_up (hp c hc)), (Nat.le_of_ble_eq_true rfl)⟩⟩)
theorem o_d2_59 : decode method_4_code 59 = .ok (.iload_n 0, 1) := by decide +kernel
theorem o_d2_60 : decode method_4_code 60 = .ok (.iconst 3, 1) := by decide +kernel
theorem o_d2_61 : decode method_4_code 61 = .ok (.if_icmp .ne 26, 3) := by decide +kernel
theorem o_d2_64 : decode method_4_code 64 = .ok (.new 7, 3) := by decide +kernel
theorem o_d2_67 : decode method_4_code 67 = .ok (.dup, 1) := by decide +kernel
theorem o_d2_68 : decode method_4_code 68 = .ok (.iconst 3, 1) := by decide +kernel
theorem o_d2_69 : decode method_4_code 69 = .ok (.newarray .char, 2) := by decide +kernel
theorem o_d2_71 : decode method_4_code 71 = .ok (.dup, 1) := by decide +kernel
theorem o_d2_72 : decode method_4_code 72 = .ok (.iconst 0, 1) := by decide +kernel
theorem o_d2_73 : decode method_4_code 73 = .ok (.iload_n 1, 1) := by decide +kernel
theorem o_d2_74 : decode method_4_code 74 = .ok (.castore, 1) := by decide +kernel
theorem o_d2_75 : decode method_4_code 75 = .ok (.dup, 1) := by decide +kernel
theorem o_d2_76 : decode method_4_code 76 = .ok (.iconst 1, 1) := by decide +kernel
theorem o_d2_77 : decode method_4_code 77 = .ok (.iload_n 2, 1) := by decide +kernel
theorem o_d2_78 : decode method_4_code 78 = .ok (.castore, 1) := by decide +kernel
theorem o_d2_79 : decode method_4_code 79 = .ok (.dup, 1) := by decide +kernel
theorem o_d2_80 : decode method_4_code 80 = .ok (.iconst 2, 1) := by decide +kernel
theorem o_d2_81 : decode method_4_code 81 = .ok (.iload_n 3, 1) := by decide +kernel
theorem o_d2_82 : decode method_4_code 82 = .ok (.castore, 1) := by decide +kernel
theorem o_d2_83 : decode method_4_code 83 = .ok (.invokespecial 9, 3) := by decide +kernel
theorem o_d2_86 : decode method_4_code 86 = .ok (.areturn, 1) := by decide +kernel
def o_Q2_3 (Z : State) (x1 : Int32) (x2 : Int32) (x3 : Int32) (x4 : Int32) (z_cs : Int32) (h0 : Heap) (n0 : Nat) (v : Option Value) (h : Heap) (L : List Loc) : Prop := ∃ b : Addr, v = some (.ref b) ∧ Fr n0 L ∧ Keep h0 h [] ∧ h0.size ≤ b ∧ o_Str Z h b ([(nar .char x1), (nar .char x2), (nar .char x3)] : List Int32)
abbrev o_R2_3 : Room := { frames := 5, cells := 6, slots := 12, locals := 100 }
theorem o_ef2_3 (m : MethodId) (z1 : Int32) (z2 : Int32) (z3 : Int32) (z4 : Int32) : entryFrame m #[(.int 3), (.int z1), (.int z2), (.int z3), (.int z4)] 5 = mkF m 0 #[.val (.int 3), .val (.int z1), .val (.int z2), .val (.int z3), .val (.int z4)] [] := by first | (simp [entryFrame, mkF, argsToLocals, Value.category]; done) | rfl
set_option maxRecDepth 65536 in
set_option maxHeartbeats 40000000 in
theorem rm2_3 (l : Launch) (Z : State) (a0 : Array Value) (hw : ∀ d ∈ tables_1, d.before a0 Z = true) (ws : List Jvm.Cond) (x1 : Int32) (x2 : Int32) (x3 : Int32) (x4 : Int32) (z_cs : Int32) (h0 : Heap) (n0 : Nat) (Z0 : n0 ≤ h0.size) (O0 : Old Z n0 h0) (S_CS : Sta Z Z.heap "java/lang/String" "COMPACT_STRINGS" "Z" (.int z_cs)) (z_CS : ¬ z_cs = 0) (hp : ∀ z ∈ ([(nar .char x1), (nar .char x2), (nar .char x3)] : List Int32), ¬ z < 0 ∧ ¬ (255 : Int32) < z) : o_MetW l Z o_EL (⟨"com/example/foothold/foothold/SourceFileLinePinLaw", "text", "(ICCCC)Ljava/lang/String;"⟩ : MethodName) method_4_code 5 (some (.object "java/lang/String")) ws o_R2_3 #[(.int 3), (.int x1), (.int x2), (.int x3), (.int x4)] h0 (o_Q2_3 Z x1 x2 x3 x4 z_cs h0 n0) := by
 refine o_metW (plainFor_of_name o_pn7) ?_
 intro p e s m below meth c s₁ hx hby hml hown hnm hret hlk hZ e0 hS C0 X0
 have N0 := Fr.nil n0
 have hml : c.maxLocals = 5 := hml
 have hown : (s.setVm s.vm).vm.findClass "com/example/foothold/foothold/SourceFileLinePinLaw" = some m.cls := hown
 have hret : meth.sig.returnType = (some (.object "java/lang/String")) := hret
 have hby : c.code = method_4_code := hby
 have hnm : meth.name = "text" := hnm
 rw [o_ef2_3]
 have hws : ∀ d ∈ StrChars.Road.words, d.before a0 Z = true := fun d hd => hw d ((by decide +kernel : ∀ d ∈ StrChars.Road.words, d ∈ tables_1) d hd)
 refine o_gi (XS.iloadN X0.here hx rfl (hb hby o_d2_0) rfl) ?_
 show o_Gs p e below _ s₁ m 1 #[.val (.int 3), .val (.int x1), .val (.int x2), .val (.int x3), .val (.int x4)] [(.int 3)]
 have hd628 : ¬ ((3 : Int32) = (0 : Int32)) := (by decide)
 refine o_gi (XS.ifYes X0.here hx rfl (pc0 := 1) (pc' := 15) rfl (hb hby o_d2_1) rfl ((if0 _ _).trans (feq hd628).2) (by decide) (by decide)) ?_
 refine o_gi (XS.iloadN X0.here hx rfl (hb hby o_d2_15) rfl) ?_
 refine o_gi (XS.iconst X0.here hx rfl (hb hby o_d2_16)) ?_
 show o_Gs p e below _ s₁ m 17 #[.val (.int 3), .val (.int x1), .val (.int x2), .val (.int x3), .val (.int x4)] [(.int 1), (.int 3)]
 have hd629 : ¬ ((3 : Int32) = (1 : Int32)) := (by decide)
 refine o_gi (XS.icmpYes X0.here hx rfl (pc0 := 17) (pc' := 35) rfl (hb hby o_d2_17) rfl (feq hd629).2 (by decide) (by decide)) ?_
 refine o_gi (XS.iloadN X0.here hx rfl (hb hby o_d2_35) rfl) ?_
 refine o_gi (XS.iconst X0.here hx rfl (hb hby o_d2_36)) ?_
 show o_Gs p e below _ s₁ m 37 #[.val (.int 3), .val (.int x1), .val (.int x2), .val (.int x3), .val (.int x4)] [(.int 2), (.int 3)]
 have hd630 : ¬ ((3 : Int32) = (2 : Int32)) := (by decide)
 refine o_gi (XS.icmpYes X0.here hx rfl (pc0 := 37) (pc' := 59) rfl (hb hby o_d2_37) rfl (feq hd630).2 (by decide) (by decide)) ?_
 refine o_gi (XS.iloadN X0.here hx rfl (hb hby o_d2_59) rfl) ?_
 refine o_gi (XS.iconst X0.here hx rfl (hb hby o_d2_60)) ?_
 show o_Gs p e below _ s₁ m 61 #[.val (.int 3), .val (.int x1), .val (.int x2), .val (.int x3), .val (.int x4)] [(.int 3), (.int 3)]
 have hd631 : (3 : Int32) = (3 : Int32) := (by decide)
 refine o_gi (XS.icmpNo X0.here hx rfl (hb hby o_d2_61) rfl (teq hd631).2) ?_
 show o_Gs p e below _ s₁ m 64 #[.val (.int 3), .val (.int x1), .val (.int x2), .val (.int x3), .val (.int x4)] []
 obtain ⟨T632, h632, X632, e632, E632, A632, D632, -, st632⟩ := newO X0 hx hZ hown (hw _ o_t19) (hw _ o_t10) (hw _ o_t9) e0 (g := (mkF m 64 #[.val (.int 3), .val (.int x1), .val (.int x2), .val (.int x3), .val (.int x4)] [])) rfl (hb hby o_d2_64) (by decide) (by decide)
 obtain ⟨b632, q632⟩ : ∃ z, z = h0.size := ⟨_, rfl⟩
 rw [← q632] at A632 D632 st632
 have lt_b632 : h0.size ≤ b632 := Nat.le_of_eq q632.symm
 have g_b632 : n0 ≤ b632 := Nat.le_trans Z0 lt_b632
 have sz_b632 : h0.size ≤ b632 := Nat.le_trans (Keep.refl h0 ([] : List Addr)).1 lt_b632
 have F632_value : Fld Z h632 b632 "java/lang/String" "value" "[B" .null := D632 (Or.inr (hw _ o_t12)) (ty := (.array .byte)) (by decide)
 have F632_coder : Fld Z h632 b632 "java/lang/String" "coder" "B" (.int 0) := D632 (Or.inr (hw _ o_t13)) (ty := .byte) (by decide)
 refine o_go st632 ?_
 have CC632 := C0.trans (CHr.ext E632 C0.1)
 refine o_gi (XS.dup X632.here hx rfl (hb hby o_d2_67) rfl rfl) ?_
 refine o_gi (XS.iconst X632.here hx rfl (hb hby o_d2_68)) ?_
 show o_Gs p e below _ T632 m 69 #[.val (.int 3), .val (.int x1), .val (.int x2), .val (.int x3), .val (.int x4)] [(.int 3), (.ref b632), (.ref b632)]
 obtain ⟨T633, h633, k633, X633, e633, E633, A633, st633⟩ := newP X632 hx hZ (aty := .char) (hw _ o_t20) e632 (g := (mkF m 69 #[.val (.int 3), .val (.int x1), .val (.int x2), .val (.int x3), .val (.int x4)] [(.int 3), (.ref b632), (.ref b632)])) rfl (hb hby o_d2_69) rfl (by decide) (cap := 3) (by decide) (by decide) (by decide) (by decide)
 obtain ⟨b633, q633⟩ : ∃ z, z = h632.size := ⟨_, rfl⟩
 rw [← q633] at A633 st633
 have lt_b633 : h632.size ≤ b633 := Nat.le_of_eq q633.symm
 have ne_b632_b633 : b632 ≠ b633 := Nat.ne_of_lt (Nat.lt_of_lt_of_le A632.lt lt_b633)
 have g_b633 : n0 ≤ b633 := Nat.le_trans (Nat.le_trans Z0 E632.1) lt_b633
 have sz_b633 : h0.size ≤ b633 := Nat.le_trans ((Keep.refl h0 ([] : List Addr)).ext E632).1 lt_b633
 have V633 : Arv Z h633 b633 k633 .char (3 : Int32) [(.int 0), (.int 0), (.int 0)] (.int 0) := (Arv.new A633 (by decide)).pad (pad_rep [] (.int 0) 3)
 refine o_go st633 ?_
 have CC633 := CC632.trans (CHr.ext E633 CC632.1)
 refine o_gi (XS.dup X633.here hx rfl (hb hby o_d2_71) rfl rfl) ?_
 refine o_gi (XS.iconst X633.here hx rfl (hb hby o_d2_72)) ?_
 refine o_gi (XS.iloadN X633.here hx rfl (hb hby o_d2_73) rfl) ?_
 show o_Gs p e below _ T633 m 74 #[.val (.int 3), .val (.int x1), .val (.int x2), .val (.int x3), .val (.int x4)] [(.int x1), (.int 0), (.ref b633), (.ref b633), (.ref b632), (.ref b632)]
 obtain ⟨cl634, Ar634, qa634, sa634, na634, ha634, ga634⟩ := id V633
 obtain ⟨T634, h634, X634, e634, W634, st634⟩ := stC X633 hx hZ e633 Ar634 (j := (0 : Int32)) (inb_of sa634 ⟨by decide, by decide⟩) (g := (mkF m 74 #[.val (.int 3), .val (.int x1), .val (.int x2), .val (.int x3), .val (.int x4)] [(.int x1), (.int 0), (.ref b633), (.ref b633), (.ref b632), (.ref b632)])) rfl rfl (hb hby o_d2_74)
 have V634 : Arv Z h634 b633 k633 .char (3 : Int32) [(.int (nar .char x1)), (.int 0), (.int 0)] (.int 0) := Arv.set Ar634 qa634 sa634 na634 ha634 ga634 (fits_nar_char _) W634 0 rfl (Nat.le_of_ble_eq_true rfl)
 have N634 := Fr.snoc X634 N0 g_b633
 refine o_go st634 ?_
 have CC634 := CC633.trans (CHr.wr W634 (o_safeArv (show Z.vm.Alike s.vm from hZ.alike) V633 (by decide)) CC633.1)
 refine o_gi (XS.dup X634.here hx rfl (hb hby o_d2_75) rfl rfl) ?_
 refine o_gi (XS.iconst X634.here hx rfl (hb hby o_d2_76)) ?_
 refine o_gi (XS.iloadN X634.here hx rfl (hb hby o_d2_77) rfl) ?_
 show o_Gs p e below _ T634 m 78 #[.val (.int 3), .val (.int x1), .val (.int x2), .val (.int x3), .val (.int x4)] [(.int x2), (.int 1), (.ref b633), (.ref b633), (.ref b632), (.ref b632)]
 obtain ⟨cl635, Ar635, qa635, sa635, na635, ha635, ga635⟩ := id V634
 obtain ⟨T635, h635, X635, e635, W635, st635⟩ := stC X634 hx hZ e634 Ar635 (j := (1 : Int32)) (inb_of sa635 ⟨by decide, by decide⟩) (g := (mkF m 78 #[.val (.int 3), .val (.int x1), .val (.int x2), .val (.int x3), .val (.int x4)] [(.int x2), (.int 1), (.ref b633), (.ref b633), (.ref b632), (.ref b632)])) rfl rfl (hb hby o_d2_78)
 have V635 : Arv Z h635 b633 k633 .char (3 : Int32) [(.int (nar .char x1)), (.int (nar .char x2)), (.int 0)] (.int 0) := Arv.set Ar635 qa635 sa635 na635 ha635 ga635 (fits_nar_char _) W635 1 rfl (Nat.le_of_ble_eq_true rfl)
 have N635 := Fr.snoc X635 N634 g_b633
 refine o_go st635 ?_
 have CC635 := CC634.trans (CHr.wr W635 (o_safeArv (show Z.vm.Alike s.vm from hZ.alike) V634 (by decide)) CC634.1)
 refine o_gi (XS.dup X635.here hx rfl (hb hby o_d2_79) rfl rfl) ?_
 refine o_gi (XS.iconst X635.here hx rfl (hb hby o_d2_80)) ?_
 refine o_gi (XS.iloadN X635.here hx rfl (hb hby o_d2_81) rfl) ?_
 show o_Gs p e below _ T635 m 82 #[.val (.int 3), .val (.int x1), .val (.int x2), .val (.int x3), .val (.int x4)] [(.int x3), (.int 2), (.ref b633), (.ref b633), (.ref b632), (.ref b632)]
 obtain ⟨cl636, Ar636, qa636, sa636, na636, ha636, ga636⟩ := id V635
 obtain ⟨T636, h636, X636, e636, W636, st636⟩ := stC X635 hx hZ e635 Ar636 (j := (2 : Int32)) (inb_of sa636 ⟨by decide, by decide⟩) (g := (mkF m 82 #[.val (.int 3), .val (.int x1), .val (.int x2), .val (.int x3), .val (.int x4)] [(.int x3), (.int 2), (.ref b633), (.ref b633), (.ref b632), (.ref b632)])) rfl rfl (hb hby o_d2_82)
 have V636 : Arv Z h636 b633 k633 .char (3 : Int32) [(.int (nar .char x1)), (.int (nar .char x2)), (.int (nar .char x3))] (.int 0) := Arv.set Ar636 qa636 sa636 na636 ha636 ga636 (fits_nar_char _) W636 2 rfl (Nat.le_of_ble_eq_true rfl)
 have N636 := Fr.snoc X636 N635 g_b633
 refine o_go st636 ?_
 have CC636 := CC635.trans (CHr.wr W636 (o_safeArv (show Z.vm.Alike s.vm from hZ.alike) V635 (by decide)) CC635.1)
 show o_Gs p e below _ T636 m 83 #[.val (.int 3), .val (.int x1), .val (.int x2), .val (.int x3), .val (.int x4)] [(.ref b633), (.ref b632), (.ref b632)]
 have ff638 : Exa Z h636 b632 "java/lang/String" := ((((A632.ext E633).wr W634).wr W635).wr W636)
 have ff639 : Fld Z h636 b632 "java/lang/String" "value" "[B" .null := ((((F632_value.ext E633).other W634 (Or.inl ne_b632_b633)).other W635 (Or.inl ne_b632_b633)).other W636 (Or.inl ne_b632_b633))
 have ff640 : Fld Z h636 b632 "java/lang/String" "coder" "B" (.int 0) := ((((F632_coder.ext E633).other W634 (Or.inl ne_b632_b633)).other W635 (Or.inl ne_b632_b633)).other W636 (Or.inl ne_b632_b633))
 have oo641 : Old Z n0 h636 := (((((O0.ext E632).ext E633).wr W634 g_b633).wr W635 g_b633).wr W636 g_b633)
 obtain ⟨T637, L637, X637, ⟨-, N637q, K637, G637_0, G637_1, t637, k637, -, lt_t637, -, G637_2, G637_3⟩, st637⟩ := o_newStr X636 hx hZ hown (hw _ o_t21) (hw _ o_t22) (hw _ o_t23) (hw _ o_t10) hws (cs := ([(nar .char x1), (nar .char x2), (nar .char x3)] : List Int32)) (n := 3) g_b632 (Nat.le_trans (Nat.le_trans (Nat.le_trans (Nat.le_trans (Nat.le_trans Z0 E632.1) E633.1) (Keep.of_wr W634).1) (Keep.of_wr W635).1) (Keep.of_wr W636).1) ff638 ff639 ff640 V636 (S_CS.ext oo641.2) z_CS rfl rfl (by decide) (by decide) hp e636 (pc := 83) (Ls := #[.val (.int 3), .val (.int x1), .val (.int x2), .val (.int x3), .val (.int x4)]) (rest := [(.ref b632)]) (W := 1) (by rw [hml]; rfl) (Nat.le_of_eq rfl) (by decide) (by decide) (hb hby o_d2_83) (by decide) (by decide)
 have ne_b632_t637 : b632 ≠ t637 := Nat.ne_of_lt (Nat.lt_of_lt_of_le ff638.lt lt_t637)
 have ne_b633_t637 : b633 ≠ t637 := Nat.ne_of_lt (Nat.lt_of_lt_of_le V636.lt lt_t637)
 have g_t637 : n0 ≤ t637 := Nat.le_trans (Nat.le_trans (Nat.le_trans (Nat.le_trans (Nat.le_trans (Nat.le_trans Z0 E632.1) E633.1) (Keep.of_wr W634).1) (Keep.of_wr W635).1) (Keep.of_wr W636).1) lt_t637
 have sz_t637 : h0.size ≤ t637 := Nat.le_trans ((((((Keep.refl h0 ([] : List Addr)).ext E632).ext E633).wr W634 (Or.inr sz_b633)).wr W635 (Or.inr sz_b633)).wr W636 (Or.inr sz_b633)).1 lt_t637
 have N637 := Fr.app N636 N637q
 refine o_go st637 ?_
 have CC637 := CC636.trans (CHr.keep K637 (allS (o_safeNull (show Z.vm.Alike s.vm from hZ.alike) ((((A632.ext E633).wr W634).wr W635).wr W636) ((((F632_value.ext E633).other W634 (Or.inl ne_b632_b633)).other W635 (Or.inl ne_b632_b633)).other W636 (Or.inl ne_b632_b633))) all0) CC636.1)
 show o_Gs p e below _ T637 m 86 #[.val (.int 3), .val (.int x1), .val (.int x2), .val (.int x3), .val (.int x4)] [(.ref b632)]
 exact o_retRW hS (Nat.le_trans (Nat.le_trans (Nat.le_trans (Nat.le_trans (Nat.le_trans (Nat.le_trans (Nat.zero_le _) E632.1) E633.1) (Keep.of_wr W634).1) (Keep.of_wr W635).1) (Keep.of_wr W636).1) K637.1) hZ (o_hEL hw) CC637 rfl X637 hx hlk hret rfl rfl (hb hby o_d2_86) (by decide) (by decide) (⟨_, rfl, N637, (((((((Keep.refl h0 ([] : List Addr)).ext E632).ext E633).wr W634 (Or.inr sz_b633)).wr W635 (Or.inr sz_b633)).wr W636 (Or.inr sz_b633)).trans K637 (fun x hx => by cases List.mem_singleton.mp hx; exact Or.inr sz_b632)), sz_b632, ⟨t637, _, _, _, G637_0, G637_2, G637_1, G637_3, (StrChars.Road.codOf rfl (fun c hc => (hp c hc).2)), (fun c hc => o_up (hp c hc)), (Nat.le_of_ble_eq_true rfl)⟩⟩)
theorem o_d2_87 : decode method_4_code 87 = .ok (.new 7, 3) := by decide +kernel
theorem o_d2_90 : decode method_4_code 90 = .ok (.dup, 1) := by decide +kernel
theorem o_d2_91 : decode method_4_code 91 = .ok (.iconst 4, 1) := by decide +kernel
theorem o_d2_92 : decode method_4_code 92 = .ok (.newarray .char, 2) := by decide +kernel
theorem o_d2_94 : decode method_4_code 94 = .ok (.dup, 1) := by decide +kernel
theorem o_d2_95 : decode method_4_code 95 = .ok (.iconst 0, 1) := by decide +kernel
theorem o_d2_96 : decode method_4_code 96 = .ok (.iload_n 1, 1) := by decide +kernel
theorem o_d2_97 : decode method_4_code 97 = .ok (.castore, 1) := by decide +kernel
theorem o_d2_98 : decode method_4_code 98 = .ok (.dup, 1) := by decide +kernel
theorem o_d2_99 : decode method_4_code 99 = .ok (.iconst 1, 1) := by decide +kernel
theorem o_d2_100 : decode method_4_code 100 = .ok (.iload_n 2, 1) := by decide +kernel
theorem o_d2_101 : decode method_4_code 101 = .ok (.castore, 1) := by decide +kernel
theorem o_d2_102 : decode method_4_code 102 = .ok (.dup, 1) := by decide +kernel
theorem o_d2_103 : decode method_4_code 103 = .ok (.iconst 2, 1) := by decide +kernel
theorem o_d2_104 : decode method_4_code 104 = .ok (.iload_n 3, 1) := by decide +kernel
theorem o_d2_105 : decode method_4_code 105 = .ok (.castore, 1) := by decide +kernel
theorem o_d2_106 : decode method_4_code 106 = .ok (.dup, 1) := by decide +kernel
theorem o_d2_107 : decode method_4_code 107 = .ok (.iconst 3, 1) := by decide +kernel
theorem o_d2_108 : decode method_4_code 108 = .ok (.iload 4, 2) := by decide +kernel
theorem o_d2_110 : decode method_4_code 110 = .ok (.castore, 1) := by decide +kernel
theorem o_d2_111 : decode method_4_code 111 = .ok (.invokespecial 9, 3) := by decide +kernel
theorem o_d2_114 : decode method_4_code 114 = .ok (.areturn, 1) := by decide +kernel
def o_Q2_4 (Z : State) (x1 : Int32) (x2 : Int32) (x3 : Int32) (x4 : Int32) (z_cs : Int32) (h0 : Heap) (n0 : Nat) (v : Option Value) (h : Heap) (L : List Loc) : Prop := ∃ b : Addr, v = some (.ref b) ∧ Fr n0 L ∧ Keep h0 h [] ∧ h0.size ≤ b ∧ o_Str Z h b ([(nar .char x1), (nar .char x2), (nar .char x3), (nar .char x4)] : List Int32)
abbrev o_R2_4 : Room := { frames := 5, cells := 6, slots := 12, locals := 100 }
theorem o_ef2_4 (m : MethodId) (z1 : Int32) (z2 : Int32) (z3 : Int32) (z4 : Int32) : entryFrame m #[(.int 4), (.int z1), (.int z2), (.int z3), (.int z4)] 5 = mkF m 0 #[.val (.int 4), .val (.int z1), .val (.int z2), .val (.int z3), .val (.int z4)] [] := by first | (simp [entryFrame, mkF, argsToLocals, Value.category]; done) | rfl
set_option maxRecDepth 65536 in
set_option maxHeartbeats 40000000 in
theorem rm2_4 (l : Launch) (Z : State) (a0 : Array Value) (hw : ∀ d ∈ tables_1, d.before a0 Z = true) (ws : List Jvm.Cond) (x1 : Int32) (x2 : Int32) (x3 : Int32) (x4 : Int32) (z_cs : Int32) (h0 : Heap) (n0 : Nat) (Z0 : n0 ≤ h0.size) (O0 : Old Z n0 h0) (S_CS : Sta Z Z.heap "java/lang/String" "COMPACT_STRINGS" "Z" (.int z_cs)) (z_CS : ¬ z_cs = 0) (hp : ∀ z ∈ ([(nar .char x1), (nar .char x2), (nar .char x3), (nar .char x4)] : List Int32), ¬ z < 0 ∧ ¬ (255 : Int32) < z) : o_MetW l Z o_EL (⟨"com/example/foothold/foothold/SourceFileLinePinLaw", "text", "(ICCCC)Ljava/lang/String;"⟩ : MethodName) method_4_code 5 (some (.object "java/lang/String")) ws o_R2_4 #[(.int 4), (.int x1), (.int x2), (.int x3), (.int x4)] h0 (o_Q2_4 Z x1 x2 x3 x4 z_cs h0 n0) := by
 refine o_metW (plainFor_of_name o_pn7) ?_
 intro p e s m below meth c s₁ hx hby hml hown hnm hret hlk hZ e0 hS C0 X0
 have N0 := Fr.nil n0
 have hml : c.maxLocals = 5 := hml
 have hown : (s.setVm s.vm).vm.findClass "com/example/foothold/foothold/SourceFileLinePinLaw" = some m.cls := hown
 have hret : meth.sig.returnType = (some (.object "java/lang/String")) := hret
 have hby : c.code = method_4_code := hby
 have hnm : meth.name = "text" := hnm
 rw [o_ef2_4]
 have hws : ∀ d ∈ StrChars.Road.words, d.before a0 Z = true := fun d hd => hw d ((by decide +kernel : ∀ d ∈ StrChars.Road.words, d ∈ tables_1) d hd)
 refine o_gi (XS.iloadN X0.here hx rfl (hb hby o_d2_0) rfl) ?_
 show o_Gs p e below _ s₁ m 1 #[.val (.int 4), .val (.int x1), .val (.int x2), .val (.int x3), .val (.int x4)] [(.int 4)]
 have hd642 : ¬ ((4 : Int32) = (0 : Int32)) := (by decide)
 refine o_gi (XS.ifYes X0.here hx rfl (pc0 := 1) (pc' := 15) rfl (hb hby o_d2_1) rfl ((if0 _ _).trans (feq hd642).2) (by decide) (by decide)) ?_
 refine o_gi (XS.iloadN X0.here hx rfl (hb hby o_d2_15) rfl) ?_
 refine o_gi (XS.iconst X0.here hx rfl (hb hby o_d2_16)) ?_
 show o_Gs p e below _ s₁ m 17 #[.val (.int 4), .val (.int x1), .val (.int x2), .val (.int x3), .val (.int x4)] [(.int 1), (.int 4)]
 have hd643 : ¬ ((4 : Int32) = (1 : Int32)) := (by decide)
 refine o_gi (XS.icmpYes X0.here hx rfl (pc0 := 17) (pc' := 35) rfl (hb hby o_d2_17) rfl (feq hd643).2 (by decide) (by decide)) ?_
 refine o_gi (XS.iloadN X0.here hx rfl (hb hby o_d2_35) rfl) ?_
 refine o_gi (XS.iconst X0.here hx rfl (hb hby o_d2_36)) ?_
 show o_Gs p e below _ s₁ m 37 #[.val (.int 4), .val (.int x1), .val (.int x2), .val (.int x3), .val (.int x4)] [(.int 2), (.int 4)]
 have hd644 : ¬ ((4 : Int32) = (2 : Int32)) := (by decide)
 refine o_gi (XS.icmpYes X0.here hx rfl (pc0 := 37) (pc' := 59) rfl (hb hby o_d2_37) rfl (feq hd644).2 (by decide) (by decide)) ?_
 refine o_gi (XS.iloadN X0.here hx rfl (hb hby o_d2_59) rfl) ?_
 refine o_gi (XS.iconst X0.here hx rfl (hb hby o_d2_60)) ?_
 show o_Gs p e below _ s₁ m 61 #[.val (.int 4), .val (.int x1), .val (.int x2), .val (.int x3), .val (.int x4)] [(.int 3), (.int 4)]
 have hd645 : ¬ ((4 : Int32) = (3 : Int32)) := (by decide)
 refine o_gi (XS.icmpYes X0.here hx rfl (pc0 := 61) (pc' := 87) rfl (hb hby o_d2_61) rfl (feq hd645).2 (by decide) (by decide)) ?_
 show o_Gs p e below _ s₁ m 87 #[.val (.int 4), .val (.int x1), .val (.int x2), .val (.int x3), .val (.int x4)] []
 obtain ⟨T646, h646, X646, e646, E646, A646, D646, -, st646⟩ := newO X0 hx hZ hown (hw _ o_t19) (hw _ o_t10) (hw _ o_t9) e0 (g := (mkF m 87 #[.val (.int 4), .val (.int x1), .val (.int x2), .val (.int x3), .val (.int x4)] [])) rfl (hb hby o_d2_87) (by decide) (by decide)
 obtain ⟨b646, q646⟩ : ∃ z, z = h0.size := ⟨_, rfl⟩
 rw [← q646] at A646 D646 st646
 have lt_b646 : h0.size ≤ b646 := Nat.le_of_eq q646.symm
 have g_b646 : n0 ≤ b646 := Nat.le_trans Z0 lt_b646
 have sz_b646 : h0.size ≤ b646 := Nat.le_trans (Keep.refl h0 ([] : List Addr)).1 lt_b646
 have F646_value : Fld Z h646 b646 "java/lang/String" "value" "[B" .null := D646 (Or.inr (hw _ o_t12)) (ty := (.array .byte)) (by decide)
 have F646_coder : Fld Z h646 b646 "java/lang/String" "coder" "B" (.int 0) := D646 (Or.inr (hw _ o_t13)) (ty := .byte) (by decide)
 refine o_go st646 ?_
 have CC646 := C0.trans (CHr.ext E646 C0.1)
 refine o_gi (XS.dup X646.here hx rfl (hb hby o_d2_90) rfl rfl) ?_
 refine o_gi (XS.iconst X646.here hx rfl (hb hby o_d2_91)) ?_
 show o_Gs p e below _ T646 m 92 #[.val (.int 4), .val (.int x1), .val (.int x2), .val (.int x3), .val (.int x4)] [(.int 4), (.ref b646), (.ref b646)]
 obtain ⟨T647, h647, k647, X647, e647, E647, A647, st647⟩ := newP X646 hx hZ (aty := .char) (hw _ o_t20) e646 (g := (mkF m 92 #[.val (.int 4), .val (.int x1), .val (.int x2), .val (.int x3), .val (.int x4)] [(.int 4), (.ref b646), (.ref b646)])) rfl (hb hby o_d2_92) rfl (by decide) (cap := 4) (by decide) (by decide) (by decide) (by decide)
 obtain ⟨b647, q647⟩ : ∃ z, z = h646.size := ⟨_, rfl⟩
 rw [← q647] at A647 st647
 have lt_b647 : h646.size ≤ b647 := Nat.le_of_eq q647.symm
 have ne_b646_b647 : b646 ≠ b647 := Nat.ne_of_lt (Nat.lt_of_lt_of_le A646.lt lt_b647)
 have g_b647 : n0 ≤ b647 := Nat.le_trans (Nat.le_trans Z0 E646.1) lt_b647
 have sz_b647 : h0.size ≤ b647 := Nat.le_trans ((Keep.refl h0 ([] : List Addr)).ext E646).1 lt_b647
 have V647 : Arv Z h647 b647 k647 .char (4 : Int32) [(.int 0), (.int 0), (.int 0), (.int 0)] (.int 0) := (Arv.new A647 (by decide)).pad (pad_rep [] (.int 0) 4)
 refine o_go st647 ?_
 have CC647 := CC646.trans (CHr.ext E647 CC646.1)
 refine o_gi (XS.dup X647.here hx rfl (hb hby o_d2_94) rfl rfl) ?_
 refine o_gi (XS.iconst X647.here hx rfl (hb hby o_d2_95)) ?_
 refine o_gi (XS.iloadN X647.here hx rfl (hb hby o_d2_96) rfl) ?_
 show o_Gs p e below _ T647 m 97 #[.val (.int 4), .val (.int x1), .val (.int x2), .val (.int x3), .val (.int x4)] [(.int x1), (.int 0), (.ref b647), (.ref b647), (.ref b646), (.ref b646)]
 obtain ⟨cl648, Ar648, qa648, sa648, na648, ha648, ga648⟩ := id V647
 obtain ⟨T648, h648, X648, e648, W648, st648⟩ := stC X647 hx hZ e647 Ar648 (j := (0 : Int32)) (inb_of sa648 ⟨by decide, by decide⟩) (g := (mkF m 97 #[.val (.int 4), .val (.int x1), .val (.int x2), .val (.int x3), .val (.int x4)] [(.int x1), (.int 0), (.ref b647), (.ref b647), (.ref b646), (.ref b646)])) rfl rfl (hb hby o_d2_97)
 have V648 : Arv Z h648 b647 k647 .char (4 : Int32) [(.int (nar .char x1)), (.int 0), (.int 0), (.int 0)] (.int 0) := Arv.set Ar648 qa648 sa648 na648 ha648 ga648 (fits_nar_char _) W648 0 rfl (Nat.le_of_ble_eq_true rfl)
 have N648 := Fr.snoc X648 N0 g_b647
 refine o_go st648 ?_
 have CC648 := CC647.trans (CHr.wr W648 (o_safeArv (show Z.vm.Alike s.vm from hZ.alike) V647 (by decide)) CC647.1)
 refine o_gi (XS.dup X648.here hx rfl (hb hby o_d2_98) rfl rfl) ?_
 refine o_gi (XS.iconst X648.here hx rfl (hb hby o_d2_99)) ?_
 refine o_gi (XS.iloadN X648.here hx rfl (hb hby o_d2_100) rfl) ?_
 show o_Gs p e below _ T648 m 101 #[.val (.int 4), .val (.int x1), .val (.int x2), .val (.int x3), .val (.int x4)] [(.int x2), (.int 1), (.ref b647), (.ref b647), (.ref b646), (.ref b646)]
 obtain ⟨cl649, Ar649, qa649, sa649, na649, ha649, ga649⟩ := id V648
 obtain ⟨T649, h649, X649, e649, W649, st649⟩ := stC X648 hx hZ e648 Ar649 (j := (1 : Int32)) (inb_of sa649 ⟨by decide, by decide⟩) (g := (mkF m 101 #[.val (.int 4), .val (.int x1), .val (.int x2), .val (.int x3), .val (.int x4)] [(.int x2), (.int 1), (.ref b647), (.ref b647), (.ref b646), (.ref b646)])) rfl rfl (hb hby o_d2_101)
 have V649 : Arv Z h649 b647 k647 .char (4 : Int32) [(.int (nar .char x1)), (.int (nar .char x2)), (.int 0), (.int 0)] (.int 0) := Arv.set Ar649 qa649 sa649 na649 ha649 ga649 (fits_nar_char _) W649 1 rfl (Nat.le_of_ble_eq_true rfl)
 have N649 := Fr.snoc X649 N648 g_b647
 refine o_go st649 ?_
 have CC649 := CC648.trans (CHr.wr W649 (o_safeArv (show Z.vm.Alike s.vm from hZ.alike) V648 (by decide)) CC648.1)
 refine o_gi (XS.dup X649.here hx rfl (hb hby o_d2_102) rfl rfl) ?_
 refine o_gi (XS.iconst X649.here hx rfl (hb hby o_d2_103)) ?_
 refine o_gi (XS.iloadN X649.here hx rfl (hb hby o_d2_104) rfl) ?_
 show o_Gs p e below _ T649 m 105 #[.val (.int 4), .val (.int x1), .val (.int x2), .val (.int x3), .val (.int x4)] [(.int x3), (.int 2), (.ref b647), (.ref b647), (.ref b646), (.ref b646)]
 obtain ⟨cl650, Ar650, qa650, sa650, na650, ha650, ga650⟩ := id V649
 obtain ⟨T650, h650, X650, e650, W650, st650⟩ := stC X649 hx hZ e649 Ar650 (j := (2 : Int32)) (inb_of sa650 ⟨by decide, by decide⟩) (g := (mkF m 105 #[.val (.int 4), .val (.int x1), .val (.int x2), .val (.int x3), .val (.int x4)] [(.int x3), (.int 2), (.ref b647), (.ref b647), (.ref b646), (.ref b646)])) rfl rfl (hb hby o_d2_105)
 have V650 : Arv Z h650 b647 k647 .char (4 : Int32) [(.int (nar .char x1)), (.int (nar .char x2)), (.int (nar .char x3)), (.int 0)] (.int 0) := Arv.set Ar650 qa650 sa650 na650 ha650 ga650 (fits_nar_char _) W650 2 rfl (Nat.le_of_ble_eq_true rfl)
 have N650 := Fr.snoc X650 N649 g_b647
 refine o_go st650 ?_
 have CC650 := CC649.trans (CHr.wr W650 (o_safeArv (show Z.vm.Alike s.vm from hZ.alike) V649 (by decide)) CC649.1)
 refine o_gi (XS.dup X650.here hx rfl (hb hby o_d2_106) rfl rfl) ?_
 refine o_gi (XS.iconst X650.here hx rfl (hb hby o_d2_107)) ?_
 refine o_gi (XS.iload X650.here hx rfl (hb hby o_d2_108) rfl) ?_
 show o_Gs p e below _ T650 m 110 #[.val (.int 4), .val (.int x1), .val (.int x2), .val (.int x3), .val (.int x4)] [(.int x4), (.int 3), (.ref b647), (.ref b647), (.ref b646), (.ref b646)]
 obtain ⟨cl651, Ar651, qa651, sa651, na651, ha651, ga651⟩ := id V650
 obtain ⟨T651, h651, X651, e651, W651, st651⟩ := stC X650 hx hZ e650 Ar651 (j := (3 : Int32)) (inb_of sa651 ⟨by decide, by decide⟩) (g := (mkF m 110 #[.val (.int 4), .val (.int x1), .val (.int x2), .val (.int x3), .val (.int x4)] [(.int x4), (.int 3), (.ref b647), (.ref b647), (.ref b646), (.ref b646)])) rfl rfl (hb hby o_d2_110)
 have V651 : Arv Z h651 b647 k647 .char (4 : Int32) [(.int (nar .char x1)), (.int (nar .char x2)), (.int (nar .char x3)), (.int (nar .char x4))] (.int 0) := Arv.set Ar651 qa651 sa651 na651 ha651 ga651 (fits_nar_char _) W651 3 rfl (Nat.le_of_ble_eq_true rfl)
 have N651 := Fr.snoc X651 N650 g_b647
 refine o_go st651 ?_
 have CC651 := CC650.trans (CHr.wr W651 (o_safeArv (show Z.vm.Alike s.vm from hZ.alike) V650 (by decide)) CC650.1)
 show o_Gs p e below _ T651 m 111 #[.val (.int 4), .val (.int x1), .val (.int x2), .val (.int x3), .val (.int x4)] [(.ref b647), (.ref b646), (.ref b646)]
 have ff653 : Exa Z h651 b646 "java/lang/String" := (((((A646.ext E647).wr W648).wr W649).wr W650).wr W651)
 have ff654 : Fld Z h651 b646 "java/lang/String" "value" "[B" .null := (((((F646_value.ext E647).other W648 (Or.inl ne_b646_b647)).other W649 (Or.inl ne_b646_b647)).other W650 (Or.inl ne_b646_b647)).other W651 (Or.inl ne_b646_b647))
 have ff655 : Fld Z h651 b646 "java/lang/String" "coder" "B" (.int 0) := (((((F646_coder.ext E647).other W648 (Or.inl ne_b646_b647)).other W649 (Or.inl ne_b646_b647)).other W650 (Or.inl ne_b646_b647)).other W651 (Or.inl ne_b646_b647))
 have oo656 : Old Z n0 h651 := ((((((O0.ext E646).ext E647).wr W648 g_b647).wr W649 g_b647).wr W650 g_b647).wr W651 g_b647)
 obtain ⟨T652, L652, X652, ⟨-, N652q, K652, G652_0, G652_1, t652, k652, -, lt_t652, -, G652_2, G652_3⟩, st652⟩ := o_newStr X651 hx hZ hown (hw _ o_t21) (hw _ o_t22) (hw _ o_t23) (hw _ o_t10) hws (cs := ([(nar .char x1), (nar .char x2), (nar .char x3), (nar .char x4)] : List Int32)) (n := 4) g_b646 (Nat.le_trans (Nat.le_trans (Nat.le_trans (Nat.le_trans (Nat.le_trans (Nat.le_trans Z0 E646.1) E647.1) (Keep.of_wr W648).1) (Keep.of_wr W649).1) (Keep.of_wr W650).1) (Keep.of_wr W651).1) ff653 ff654 ff655 V651 (S_CS.ext oo656.2) z_CS rfl rfl (by decide) (by decide) hp e651 (pc := 111) (Ls := #[.val (.int 4), .val (.int x1), .val (.int x2), .val (.int x3), .val (.int x4)]) (rest := [(.ref b646)]) (W := 1) (by rw [hml]; rfl) (Nat.le_of_eq rfl) (by decide) (by decide) (hb hby o_d2_111) (by decide) (by decide)
 have ne_b646_t652 : b646 ≠ t652 := Nat.ne_of_lt (Nat.lt_of_lt_of_le ff653.lt lt_t652)
 have ne_b647_t652 : b647 ≠ t652 := Nat.ne_of_lt (Nat.lt_of_lt_of_le V651.lt lt_t652)
 have g_t652 : n0 ≤ t652 := Nat.le_trans (Nat.le_trans (Nat.le_trans (Nat.le_trans (Nat.le_trans (Nat.le_trans (Nat.le_trans Z0 E646.1) E647.1) (Keep.of_wr W648).1) (Keep.of_wr W649).1) (Keep.of_wr W650).1) (Keep.of_wr W651).1) lt_t652
 have sz_t652 : h0.size ≤ t652 := Nat.le_trans (((((((Keep.refl h0 ([] : List Addr)).ext E646).ext E647).wr W648 (Or.inr sz_b647)).wr W649 (Or.inr sz_b647)).wr W650 (Or.inr sz_b647)).wr W651 (Or.inr sz_b647)).1 lt_t652
 have N652 := Fr.app N651 N652q
 refine o_go st652 ?_
 have CC652 := CC651.trans (CHr.keep K652 (allS (o_safeNull (show Z.vm.Alike s.vm from hZ.alike) (((((A646.ext E647).wr W648).wr W649).wr W650).wr W651) (((((F646_value.ext E647).other W648 (Or.inl ne_b646_b647)).other W649 (Or.inl ne_b646_b647)).other W650 (Or.inl ne_b646_b647)).other W651 (Or.inl ne_b646_b647))) all0) CC651.1)
 show o_Gs p e below _ T652 m 114 #[.val (.int 4), .val (.int x1), .val (.int x2), .val (.int x3), .val (.int x4)] [(.ref b646)]
 exact o_retRW hS (Nat.le_trans (Nat.le_trans (Nat.le_trans (Nat.le_trans (Nat.le_trans (Nat.le_trans (Nat.le_trans (Nat.zero_le _) E646.1) E647.1) (Keep.of_wr W648).1) (Keep.of_wr W649).1) (Keep.of_wr W650).1) (Keep.of_wr W651).1) K652.1) hZ (o_hEL hw) CC652 rfl X652 hx hlk hret rfl rfl (hb hby o_d2_114) (by decide) (by decide) (⟨_, rfl, N652, ((((((((Keep.refl h0 ([] : List Addr)).ext E646).ext E647).wr W648 (Or.inr sz_b647)).wr W649 (Or.inr sz_b647)).wr W650 (Or.inr sz_b647)).wr W651 (Or.inr sz_b647)).trans K652 (fun x hx => by cases List.mem_singleton.mp hx; exact Or.inr sz_b646)), sz_b646, ⟨t652, _, _, _, G652_0, G652_2, G652_1, G652_3, (StrChars.Road.codOf rfl (fun c hc => (hp c hc).2)), (fun c hc => o_up (hp c hc)), (Nat.le_of_ble_eq_true rfl)⟩⟩)
def o_Q2 (Z : State) (x0 x1 x2 x3 x4 : Int32) (h0 : Heap) (n0 : Nat) (v : Option Value) (h : Heap) (L : List Loc) : Prop := ∃ b : Addr, v = some (.ref b) ∧ Fr n0 L ∧ Keep h0 h [] ∧ h0.size ≤ b ∧ o_Str Z h b (o_cs x0 x1 x2 x3 x4)
abbrev o_R2 : Room := o_R2_0
theorem rm2 (l : Launch) (Z : State) (a0 : Array Value) (hw : ∀ d ∈ tables_1, d.before a0 Z = true) (ws : List Jvm.Cond) (x0 : Int32) (x1 : Int32) (x2 : Int32) (x3 : Int32) (x4 : Int32) (z_cs : Int32) (h0 : Heap) (n0 : Nat) (Z0 : n0 ≤ h0.size) (O0 : Old Z n0 h0) (S_CS : Sta Z Z.heap "java/lang/String" "COMPACT_STRINGS" "Z" (.int z_cs)) (z_CS : ¬ z_cs = 0) (hp : ∀ z ∈ o_cs x0 x1 x2 x3 x4, ¬ z < 0 ∧ ¬ (255 : Int32) < z) (hx0 : x0 = (0 : Int32) ∨ x0 = (1 : Int32) ∨ x0 = (2 : Int32) ∨ x0 = (3 : Int32) ∨ x0 = (4 : Int32)) : o_MetW l Z o_EL (⟨"com/example/foothold/foothold/SourceFileLinePinLaw", "text", "(ICCCC)Ljava/lang/String;"⟩ : MethodName) method_4_code 5 (some (.object "java/lang/String")) ws o_R2 #[.int x0, .int x1, .int x2, .int x3, .int x4] h0 (o_Q2 Z x0 x1 x2 x3 x4 h0 n0) := by
 rcases hx0 with rfl | rfl | rfl | rfl | rfl
 ·exact rm2_0 l Z a0 hw ws x1 x2 x3 x4 z_cs h0 n0 Z0 O0 S_CS z_CS hp
 ·exact rm2_1 l Z a0 hw ws x1 x2 x3 x4 z_cs h0 n0 Z0 O0 S_CS z_CS hp
 ·exact rm2_2 l Z a0 hw ws x1 x2 x3 x4 z_cs h0 n0 Z0 O0 S_CS z_CS hp
 ·exact rm2_3 l Z a0 hw ws x1 x2 x3 x4 z_cs h0 n0 Z0 O0 S_CS z_CS hp
 ·exact rm2_4 l Z a0 hw ws x1 x2 x3 x4 z_cs h0 n0 Z0 O0 S_CS z_CS hp
theorem o_f1v (x : Int32) : ∃ k : Fin 256, o_f1 x = Int32.ofNat k.val := by
 have t : ∀ k : Fin 256, (((Int32.ofNat k.val).toUInt32.toUInt16.toUInt32.toInt32).toUInt32.toUInt16.toUInt32.toInt32) = Int32.ofNat k.val := by decide +kernel
 unfold o_f1 o_j1_1
 split
 ·have h : (x &&& 255).toInt = x.toInt % 2 ^ 8 := Jvm.Kit.i32_mask x 255 (k := 8) (by decide) (by decide)
  have e : Int32.ofNat (x &&& 255).toInt.toNat = (x &&& 255) := by
   rw [← Int32.toInt_inj, Int32.toInt_ofNat_of_lt (by omega)]; omega
  refine ⟨⟨(x &&& 255).toInt.toNat, by omega⟩, ?_⟩
  have q := t ⟨(x &&& 255).toInt.toNat, by omega⟩
  simp only [e] at q ⊢
  exact q
 ·exact ⟨⟨10, by decide⟩, by decide⟩
theorem o_nar (x : Int32) : (nar .char (o_f1 x)) = o_f1 x := by
 obtain ⟨k, hk⟩ := o_f1v x
 rw [hk]
 exact (by decide +kernel : ∀ k : Fin 256, nar .char (Int32.ofNat k.val) = Int32.ofNat k.val) k
theorem o_chb (x : Int32) : ¬ (nar .char (o_f1 x)) < 0 ∧ ¬ (255 : Int32) < (nar .char (o_f1 x)) := by
 rw [o_nar]
 obtain ⟨k, hk⟩ := o_f1v x
 rw [hk]
 exact (by decide +kernel : ∀ k : Fin 256, ¬ Int32.ofNat k.val < 0 ∧ ¬ (255 : Int32) < Int32.ofNat k.val) k
theorem o_nl1 {i n k x c : Int32} (h : i < n) (hk : k.toInt = i.toInt + 1) (hc : c = (10 : Int32)) : o_f24 i n x c = if x < k then 0 else 1 := by
 unfold o_f24 o_j24_1
 rw [if_pos h]
 by_cases q : i < x
 ·rw [if_pos q, if_pos hc, if_neg]
  rw [Int32.lt_iff_toInt_lt] at q ⊢
  omega
 ·rw [if_neg q, if_pos]
  rw [Int32.lt_iff_toInt_lt] at q ⊢
  omega
theorem o_nl0 {i n x c : Int32} (hc : ¬ c = (10 : Int32)) : o_f24 i n x c = 0 := by
 unfold o_f24 o_j24_1
 rw [if_neg hc]
 split <;> first | rfl | (split <;> rfl)
theorem o_nl2 {i n x c : Int32} (h : ¬ i < n) : o_f24 i n x c = 0 := by
 unfold o_f24 o_j24_1
 rw [if_neg h]
theorem o_pos (x : Int32) : (x < (1 : Int32) ∧ x < (2 : Int32) ∧ x < (3 : Int32) ∧ x < (4 : Int32)) ∨ (¬ x < (1 : Int32) ∧ x < (2 : Int32) ∧ x < (3 : Int32) ∧ x < (4 : Int32)) ∨ (¬ x < (1 : Int32) ∧ ¬ x < (2 : Int32) ∧ x < (3 : Int32) ∧ x < (4 : Int32)) ∨ (¬ x < (1 : Int32) ∧ ¬ x < (2 : Int32) ∧ ¬ x < (3 : Int32) ∧ x < (4 : Int32)) ∨ (¬ x < (1 : Int32) ∧ ¬ x < (2 : Int32) ∧ ¬ x < (3 : Int32) ∧ ¬ x < (4 : Int32)) := by
 simp only [Int32.lt_iff_toInt_lt]
 rw [show (1 : Int32).toInt = 1 from rfl, show (2 : Int32).toInt = 2 from rfl, show (3 : Int32).toInt = 3 from rfl, show (4 : Int32).toInt = 4 from rfl]
 omega
theorem o_len (x : Int32) : ((x &&& (2147483647 : Int32)) % (5 : Int32)) = 0 ∨ ((x &&& (2147483647 : Int32)) % (5 : Int32)) = 1 ∨ ((x &&& (2147483647 : Int32)) % (5 : Int32)) = 2 ∨ ((x &&& (2147483647 : Int32)) % (5 : Int32)) = 3 ∨ ((x &&& (2147483647 : Int32)) % (5 : Int32)) = 4 := by
 have e : (x &&& 2147483647).toInt = x.toInt % 2 ^ 31 := Jvm.Kit.i32_mask x 2147483647 (k := 31) (by decide) (by decide)
 have q : ((x &&& (2147483647 : Int32)) % (5 : Int32)).toInt = (x &&& 2147483647).toInt.tmod 5 := Int32.toInt_mod _ _
 rw [Int.tmod_eq_emod_of_nonneg (by omega)] at q
 simp only [← Int32.toInt_inj]
 rw [q, show (0 : Int32).toInt = 0 from rfl, show (1 : Int32).toInt = 1 from rfl, show (2 : Int32).toInt = 2 from rfl, show (3 : Int32).toInt = 3 from rfl, show (4 : Int32).toInt = 4 from rfl]
 omega
theorem o_csl (x0 x1 x2 x3 x4 : Int32) : (o_cs x0 x1 x2 x3 x4).length ≤ 4 := by
 unfold o_cs
 split
 ·decide
 ·split
  ·exact Nat.le_of_ble_eq_true rfl
  ·split
   ·exact Nat.le_of_ble_eq_true rfl
   ·split <;> exact Nat.le_of_ble_eq_true rfl
theorem o_restl : ∀ (cs : List Int32) (i : Nat), (o_rest i cs).length ≤ cs.length
 | [], _ => Nat.le_refl _
 | c :: t, i => by
  have q := o_restl t (i + 1)
  unfold o_rest
  split <;> simp only [List.length_cons] <;> omega
theorem o_lsl (x0 x1 x2 x3 x4 : Int32) : 1 ≤ (o_ls (o_cs x0 x1 x2 x3 x4)).length ∧ (o_ls (o_cs x0 x1 x2 x3 x4)).length ≤ 5 := by
 have q := o_restl (o_cs x0 x1 x2 x3 x4) 0
 have r := o_csl x0 x1 x2 x3 x4
 unfold o_ls
 simp only [List.length_cons]
 omega
theorem o_csb (n x1 x2 x3 x4 : Int32) : ∀ z ∈ o_cs n (o_f1 x1) (o_f1 x2) (o_f1 x3) (o_f1 x4), ¬ z < 0 ∧ ¬ (255 : Int32) < z := by
 have a1 := o_chb x1
 have a2 := o_chb x2
 have a3 := o_chb x3
 have a4 := o_chb x4
 unfold o_cs
 intro z hz
 split at hz
 ·exact absurd hz List.not_mem_nil
 ·split at hz
  ·simp only [List.mem_cons, List.not_mem_nil, or_false] at hz; subst hz; exact a1
  ·split at hz
   ·simp only [List.mem_cons, List.not_mem_nil, or_false] at hz; rcases hz with rfl | rfl <;> assumption
   ·split at hz
    ·simp only [List.mem_cons, List.not_mem_nil, or_false] at hz; rcases hz with rfl | rfl | rfl <;> assumption
    ·simp only [List.mem_cons, List.not_mem_nil, or_false] at hz; rcases hz with rfl | rfl | rfl | rfl <;> assumption
theorem o_t0 : (Jvm.Cond.constant "com/example/foothold/foothold/SourceFileLinePinLaw" (12 : Nat) (2147483647 : Int32)) ∈ tables_1 := List.mem_of_getElem? (i := 0) rfl
theorem o_t1 : (Jvm.Cond.methodLink "com/example/foothold/foothold/SourceFileLinePinLaw" (13 : Nat) ({ cls := "com/example/foothold/foothold/SourceFileLinePinLaw", name := "ch", desc := "(I)C" } : Jvm.MethodName)) ∈ tables_1 := List.mem_of_getElem? (i := 1) rfl
theorem o_pd12 : parseMethodDescriptor "(I)C" = some ⟨[.int], some .char⟩ := by decide +kernel
theorem o_t2 : (Jvm.Cond.static ({ cls := "com/example/foothold/foothold/SourceFileLinePinLaw", name := "ch", desc := "(I)C" } : Jvm.MethodName)) ∈ tables_1 := List.mem_of_getElem? (i := 2) rfl
theorem o_t3 : (Jvm.Cond.initialized "com/example/foothold/foothold/SourceFileLinePinLaw") ∈ tables_1 := List.mem_of_getElem? (i := 3) rfl
theorem o_t4 : (Jvm.Cond.code ({ cls := "com/example/foothold/foothold/SourceFileLinePinLaw", name := "ch", desc := "(I)C" } : Jvm.MethodName) method_2_code (1 : Nat) (Option.some Jvm.ClassFile.FieldType.char)) ∈ tables_1 := List.mem_of_getElem? (i := 4) rfl
theorem o_t5 : (Jvm.Cond.classLink "com/example/foothold/foothold/SourceFileLinePinLaw" (19 : Nat) "com/example/foothold/foothold/SourceFile") ∈ tables_1 := List.mem_of_getElem? (i := 5) rfl
theorem o_t7 : (Jvm.Cond.initialized "com/example/foothold/foothold/SourceFile") ∈ tables_1 := List.mem_of_getElem? (i := 7) rfl
theorem o_t8 : (Jvm.Cond.stringLink "com/example/foothold/foothold/SourceFileLinePinLaw" (21 : Nat) "f") ∈ tables_1 := List.mem_of_getElem? (i := 8) rfl
theorem o_t16 : (Jvm.Cond.methodLink "com/example/foothold/foothold/SourceFileLinePinLaw" (23 : Nat) ({ cls := "com/example/foothold/foothold/SourceFileLinePinLaw", name := "text", desc := "(ICCCC)Ljava/lang/String;" } : Jvm.MethodName)) ∈ tables_1 := List.mem_of_getElem? (i := 16) rfl
theorem o_pd13 : parseMethodDescriptor "(ICCCC)Ljava/lang/String;" = some ⟨[.int, .char, .char, .char, .char], some (.object "java/lang/String")⟩ := by decide +kernel
theorem o_t17 : (Jvm.Cond.static ({ cls := "com/example/foothold/foothold/SourceFileLinePinLaw", name := "text", desc := "(ICCCC)Ljava/lang/String;" } : Jvm.MethodName)) ∈ tables_1 := List.mem_of_getElem? (i := 17) rfl
theorem o_t18 : (Jvm.Cond.code ({ cls := "com/example/foothold/foothold/SourceFileLinePinLaw", name := "text", desc := "(ICCCC)Ljava/lang/String;" } : Jvm.MethodName) method_4_code (5 : Nat) (Option.some (Jvm.ClassFile.FieldType.object "java/lang/String"))) ∈ tables_1 := List.mem_of_getElem? (i := 18) rfl
theorem o_t34 : (Jvm.Cond.methodLink "com/example/foothold/foothold/SourceFileLinePinLaw" (27 : Nat) ({ cls := "com/example/foothold/foothold/SourceFile", name := "<init>", desc := "(Ljava/lang/String;Ljava/lang/String;)V" } : Jvm.MethodName)) ∈ tables_1 := List.mem_of_getElem? (i := 34) rfl
theorem o_pd14 : parseMethodDescriptor "(Ljava/lang/String;Ljava/lang/String;)V" = some ⟨[(.object "java/lang/String"), (.object "java/lang/String")], none⟩ := by decide +kernel
theorem o_t35 : (Jvm.Cond.instanceMethod ({ cls := "com/example/foothold/foothold/SourceFile", name := "<init>", desc := "(Ljava/lang/String;Ljava/lang/String;)V" } : Jvm.MethodName)) ∈ tables_1 := List.mem_of_getElem? (i := 35) rfl
theorem o_t36 : (Jvm.Cond.code ({ cls := "com/example/foothold/foothold/SourceFile", name := "<init>", desc := "(Ljava/lang/String;Ljava/lang/String;)V" } : Jvm.MethodName) prog_92_method_1_code (5 : Nat) (Option.none : Option Jvm.ClassFile.FieldType)) ∈ tables_1 := List.mem_of_getElem? (i := 36) rfl
theorem o_t160 : (Jvm.Cond.methodLink "com/example/foothold/foothold/SourceFileLinePinLaw" (30 : Nat) ({ cls := "com/example/foothold/foothold/SourceFileLinePinLaw", name := "nl", desc := "(IIIC)I" } : Jvm.MethodName)) ∈ tables_1 := List.mem_of_getElem? (i := 160) rfl
theorem o_pd15 : parseMethodDescriptor "(IIIC)I" = some ⟨[.int, .int, .int, .char], some .int⟩ := by decide +kernel
theorem o_t161 : (Jvm.Cond.static ({ cls := "com/example/foothold/foothold/SourceFileLinePinLaw", name := "nl", desc := "(IIIC)I" } : Jvm.MethodName)) ∈ tables_1 := List.mem_of_getElem? (i := 161) rfl
theorem o_t162 : (Jvm.Cond.code ({ cls := "com/example/foothold/foothold/SourceFileLinePinLaw", name := "nl", desc := "(IIIC)I" } : Jvm.MethodName) method_3_code (4 : Nat) (Option.some Jvm.ClassFile.FieldType.int)) ∈ tables_1 := List.mem_of_getElem? (i := 162) rfl
theorem o_t163 : (Jvm.Cond.methodLink "com/example/foothold/foothold/SourceFileLinePinLaw" (34 : Nat) ({ cls := "com/example/foothold/foothold/SourceFile", name := "line", desc := "(I)I" } : Jvm.MethodName)) ∈ tables_1 := List.mem_of_getElem? (i := 163) rfl
theorem o_pd16 : parseMethodDescriptor "(I)I" = some ⟨[.int], some .int⟩ := by decide +kernel
theorem o_t164 : (Jvm.Cond.declares ({ cls := "com/example/foothold/foothold/SourceFile", name := "line", desc := "(I)I" } : Jvm.MethodName)) ∈ tables_1 := List.mem_of_getElem? (i := 164) rfl
theorem o_t166 : (Jvm.Cond.selects "com/example/foothold/foothold/SourceFile" ({ cls := "com/example/foothold/foothold/SourceFile", name := "line", desc := "(I)I" } : Jvm.MethodName) ({ cls := "com/example/foothold/foothold/SourceFile", name := "line", desc := "(I)I" } : Jvm.MethodName)) ∈ tables_1 := List.mem_of_getElem? (i := 166) rfl
theorem o_t165 : (Jvm.Cond.instanceMethod ({ cls := "com/example/foothold/foothold/SourceFile", name := "line", desc := "(I)I" } : Jvm.MethodName)) ∈ tables_1 := List.mem_of_getElem? (i := 165) rfl
theorem o_t167 : (Jvm.Cond.code ({ cls := "com/example/foothold/foothold/SourceFile", name := "line", desc := "(I)I" } : Jvm.MethodName) prog_92_method_4_code (5 : Nat) (Option.some Jvm.ClassFile.FieldType.int)) ∈ tables_1 := List.mem_of_getElem? (i := 167) rfl
def o_f0 (x0 : Int32) (x1 : Int32) (x2 : Int32) (x3 : Int32) (x4 : Int32) (x5 : Int32) : Int32 := (if (o_line (o_ls (o_cs ((x0 &&& (2147483647 : Int32)) % (5 : Int32)) (o_f1 x1) (o_f1 x2) (o_f1 x3) (o_f1 x4))) x5) = (((((1 : Int32) + (o_f24 (0 : Int32) ((x0 &&& (2147483647 : Int32)) % (5 : Int32)) x5 (o_f1 x1))) + (o_f24 (1 : Int32) ((x0 &&& (2147483647 : Int32)) % (5 : Int32)) x5 (o_f1 x2))) + (o_f24 (2 : Int32) ((x0 &&& (2147483647 : Int32)) % (5 : Int32)) x5 (o_f1 x3))) + (o_f24 (3 : Int32) ((x0 &&& (2147483647 : Int32)) % (5 : Int32)) x5 (o_f1 x4))) then (1 : Int32) else (0 : Int32))
def o_Q0 (x0 : Int32) (x1 : Int32) (x2 : Int32) (x3 : Int32) (x4 : Int32) (x5 : Int32) (c_0 : Addr) (c_1 : Addr) (c_2 : Addr) (c_3 : Addr) (c_4 : Addr) (s_e : Addr) (x_hi : Int32) (s_c : Addr) (z_cs : Int32) (h0 : Heap) (n0 : Nat) (v : Option Value) (h : Heap) (L : List Loc) : Prop := v = some (.int (o_f0 x0 x1 x2 x3 x4 x5)) ∧ Fr n0 L ∧ True
theorem o_ef0 (m : MethodId) (z0 : Int32) (z1 : Int32) (z2 : Int32) (z3 : Int32) (z4 : Int32) (z5 : Int32) : entryFrame m #[(.int z0), (.int z1), (.int z2), (.int z3), (.int z4), (.int z5)] maxLocals = mkF m 0 #[.val (.int z0), .val (.int z1), .val (.int z2), .val (.int z3), .val (.int z4), .val (.int z5), .unset, .unset, .unset, .unset, .unset, .unset, .unset] [] := by first | (simp [entryFrame, mkF, argsToLocals, Value.category, maxLocals]; done) | rfl
set_option maxRecDepth 65536 in
set_option maxHeartbeats 40000000 in
theorem rm0 (l : Launch) (Z : State) (a0 : Array Value) (hw : ∀ d ∈ tables_1, d.before a0 Z = true) (ws : List Jvm.Cond) (x0 : Int32) (x1 : Int32) (x2 : Int32) (x3 : Int32) (x4 : Int32) (x5 : Int32) (cl_e : Cell) (cl_c : Cell) (fm : Value) (c_0 : Addr) (c_1 : Addr) (c_2 : Addr) (c_3 : Addr) (c_4 : Addr) (s_e : Addr) (x_hi : Int32) (s_c : Addr) (z_cs : Int32) (h0 : Heap) (n0 : Nat) (Z0 : n0 ≤ h0.size) (O0 : Old Z n0 h0) (A_e : Arr Z Z.heap s_e cl_e (.object "java/lang/Object")) (z_e : cl_e.slots.size = (0 : Int32).toNatClampNeg) (A_c : Arr Z Z.heap s_c cl_c (.object "java/lang/Integer")) (z_c : cl_c.slots.size = (256 : Int32).toNatClampNeg) (h_hi : x_hi = (127 : Int32)) (t_c0 : cl_c.slots[(128 : Int32).toNatClampNeg]? = some (.ref c_0)) (E_c0 : Exa Z Z.heap c_0 "java/lang/Integer") (F_c0 : Fld Z Z.heap c_0 "java/lang/Integer" "value" "I" (.int 0)) (t_c1 : cl_c.slots[(129 : Int32).toNatClampNeg]? = some (.ref c_1)) (E_c1 : Exa Z Z.heap c_1 "java/lang/Integer") (F_c1 : Fld Z Z.heap c_1 "java/lang/Integer" "value" "I" (.int 1)) (t_c2 : cl_c.slots[(130 : Int32).toNatClampNeg]? = some (.ref c_2)) (E_c2 : Exa Z Z.heap c_2 "java/lang/Integer") (F_c2 : Fld Z Z.heap c_2 "java/lang/Integer" "value" "I" (.int 2)) (t_c3 : cl_c.slots[(131 : Int32).toNatClampNeg]? = some (.ref c_3)) (E_c3 : Exa Z Z.heap c_3 "java/lang/Integer") (F_c3 : Fld Z Z.heap c_3 "java/lang/Integer" "value" "I" (.int 3)) (t_c4 : cl_c.slots[(132 : Int32).toNatClampNeg]? = some (.ref c_4)) (E_c4 : Exa Z Z.heap c_4 "java/lang/Integer") (F_c4 : Fld Z Z.heap c_4 "java/lang/Integer" "value" "I" (.int 4)) (S_fm : Sta Z Z.heap "jdk/internal/util/Preconditions" "SIOOBE_FORMATTER" "Ljava/util/function/BiFunction;" fm) (rf : fm.isRef = true) (z_CS : ¬ z_cs = 0) (S_s_e : Sta Z Z.heap "java/util/ArrayList" "DEFAULTCAPACITY_EMPTY_ELEMENTDATA" "[Ljava/lang/Object;" (.ref s_e)) (S_x_hi : Sta Z Z.heap "java/lang/Integer$IntegerCache" "high" "I" (.int x_hi)) (S_s_c : Sta Z Z.heap "java/lang/Integer$IntegerCache" "cache" "[Ljava/lang/Integer;" (.ref s_c)) (S_z_cs : Sta Z Z.heap "java/lang/String" "COMPACT_STRINGS" "Z" (.int z_cs)) : o_MetW l Z o_EL x code maxLocals ret ws room_1 #[(.int x0), (.int x1), (.int x2), (.int x3), (.int x4), (.int x5)] h0 (o_Q0 x0 x1 x2 x3 x4 x5 c_0 c_1 c_2 c_3 c_4 s_e x_hi s_c z_cs h0 n0) := by
 refine o_metW (plainFor_of_name o_pn7) ?_
 intro p e s m below meth c s₁ hx hby hml hown hnm hret hlk hZ e0 hS C0 X0
 have N0 := Fr.nil n0
 have hml : c.maxLocals = 13 := hml
 have hown : (s.setVm s.vm).vm.findClass "com/example/foothold/foothold/SourceFileLinePinLaw" = some m.cls := hown
 have hret : meth.sig.returnType = (some .boolean) := hret
 have hby : c.code = code := hby
 have hnm : meth.name = "law" := hnm
 rw [o_ef0]
 refine o_gi (XS.iloadN X0.here hx rfl (hb hby at_0) rfl) ?_
 show o_Gs p e below _ s₁ m 1 #[.val (.int x0), .val (.int x1), .val (.int x2), .val (.int x3), .val (.int x4), .val (.int x5), .unset, .unset, .unset, .unset, .unset, .unset, .unset] [(.int x0)]
 refine o_go (X0.ldcInt hx hown (mvT hZ (hw _ o_t0)) (g := (mkF m 1 #[.val (.int x0), .val (.int x1), .val (.int x2), .val (.int x3), .val (.int x4), .val (.int x5), .unset, .unset, .unset, .unset, .unset, .unset, .unset] [(.int x0)])) rfl (hb hby at_1)) ?_
 show o_Gs p e below _ s₁ m 3 #[.val (.int x0), .val (.int x1), .val (.int x2), .val (.int x3), .val (.int x4), .val (.int x5), .unset, .unset, .unset, .unset, .unset, .unset, .unset] [(.int 2147483647), (.int x0)]
 refine o_gi (XS.iand X0.here hx rfl (hb hby at_3) rfl) ?_
 refine o_gi (XS.iconst X0.here hx rfl (hb hby at_4)) ?_
 show o_Gs p e below _ s₁ m 5 #[.val (.int x0), .val (.int x1), .val (.int x2), .val (.int x3), .val (.int x4), .val (.int x5), .unset, .unset, .unset, .unset, .unset, .unset, .unset] [(.int 5), (.int (x0 &&& (2147483647 : Int32)))]
 refine o_gi (iremM X0 hx rfl (hb hby at_5) rfl (by decide)) ?_
 refine o_gi (XS.istore X0.here hx rfl (hb hby at_6) rfl (l' := #[.val (.int x0), .val (.int x1), .val (.int x2), .val (.int x3), .val (.int x4), .val (.int x5), .val (.int ((x0 &&& (2147483647 : Int32)) % (5 : Int32))), .unset, .unset, .unset, .unset, .unset, .unset]) rfl) ?_
 refine o_gi (XS.iloadN X0.here hx rfl (hb hby at_8) rfl) ?_
 show o_Gs p e below _ s₁ m 9 #[.val (.int x0), .val (.int x1), .val (.int x2), .val (.int x3), .val (.int x4), .val (.int x5), .val (.int ((x0 &&& (2147483647 : Int32)) % (5 : Int32))), .unset, .unset, .unset, .unset, .unset, .unset] [(.int x1)]
 obtain ⟨_, T657, L657, X657, ⟨rfl, N657q, e657⟩, st657⟩ := o_callS X0 hx hZ hown (hw _ o_t1) (hw _ o_t2) (hw _ o_t3) (hw _ o_t4) (by decide) (as := [(.int x1)]) (rm1 l Z a0 hw [] x1 h0 n0) e0 o_pd12 rfl (pc := 9) (Ls := #[.val (.int x0), .val (.int x1), .val (.int x2), .val (.int x3), .val (.int x4), .val (.int x5), .val (.int ((x0 &&& (2147483647 : Int32)) % (5 : Int32))), .unset, .unset, .unset, .unset, .unset, .unset]) (rest := []) (W := 0) (by rw [hml]; rfl) (Nat.le_of_eq rfl) (by decide) (by decide) (hb hby at_9) (by decide) (by decide)
 have N657 := Fr.app N0 N657q
 refine o_go st657 ?_
 refine o_gi (XS.istore X657.here hx rfl (hb hby at_12) rfl (l' := #[.val (.int x0), .val (.int x1), .val (.int x2), .val (.int x3), .val (.int x4), .val (.int x5), .val (.int ((x0 &&& (2147483647 : Int32)) % (5 : Int32))), .val (.int (o_f1 x1)), .unset, .unset, .unset, .unset, .unset]) rfl) ?_
 refine o_gi (XS.iloadN X657.here hx rfl (hb hby at_14) rfl) ?_
 show o_Gs p e below _ T657 m 15 #[.val (.int x0), .val (.int x1), .val (.int x2), .val (.int x3), .val (.int x4), .val (.int x5), .val (.int ((x0 &&& (2147483647 : Int32)) % (5 : Int32))), .val (.int (o_f1 x1)), .unset, .unset, .unset, .unset, .unset] [(.int x2)]
 obtain ⟨_, T658, L658, X658, ⟨rfl, N658q, e658⟩, st658⟩ := o_callS X657 hx hZ hown (hw _ o_t1) (hw _ o_t2) (hw _ o_t3) (hw _ o_t4) (by decide) (as := [(.int x2)]) (rm1 l Z a0 hw [] x2 h0 n0) e657 o_pd12 rfl (pc := 15) (Ls := #[.val (.int x0), .val (.int x1), .val (.int x2), .val (.int x3), .val (.int x4), .val (.int x5), .val (.int ((x0 &&& (2147483647 : Int32)) % (5 : Int32))), .val (.int (o_f1 x1)), .unset, .unset, .unset, .unset, .unset]) (rest := []) (W := 0) (by rw [hml]; rfl) (Nat.le_of_eq rfl) (by decide) (by decide) (hb hby at_15) (by decide) (by decide)
 have N658 := Fr.app N657 N658q
 refine o_go st658 ?_
 refine o_gi (XS.istore X658.here hx rfl (hb hby at_18) rfl (l' := #[.val (.int x0), .val (.int x1), .val (.int x2), .val (.int x3), .val (.int x4), .val (.int x5), .val (.int ((x0 &&& (2147483647 : Int32)) % (5 : Int32))), .val (.int (o_f1 x1)), .val (.int (o_f1 x2)), .unset, .unset, .unset, .unset]) rfl) ?_
 refine o_gi (XS.iloadN X658.here hx rfl (hb hby at_20) rfl) ?_
 show o_Gs p e below _ T658 m 21 #[.val (.int x0), .val (.int x1), .val (.int x2), .val (.int x3), .val (.int x4), .val (.int x5), .val (.int ((x0 &&& (2147483647 : Int32)) % (5 : Int32))), .val (.int (o_f1 x1)), .val (.int (o_f1 x2)), .unset, .unset, .unset, .unset] [(.int x3)]
 obtain ⟨_, T659, L659, X659, ⟨rfl, N659q, e659⟩, st659⟩ := o_callS X658 hx hZ hown (hw _ o_t1) (hw _ o_t2) (hw _ o_t3) (hw _ o_t4) (by decide) (as := [(.int x3)]) (rm1 l Z a0 hw [] x3 h0 n0) e658 o_pd12 rfl (pc := 21) (Ls := #[.val (.int x0), .val (.int x1), .val (.int x2), .val (.int x3), .val (.int x4), .val (.int x5), .val (.int ((x0 &&& (2147483647 : Int32)) % (5 : Int32))), .val (.int (o_f1 x1)), .val (.int (o_f1 x2)), .unset, .unset, .unset, .unset]) (rest := []) (W := 0) (by rw [hml]; rfl) (Nat.le_of_eq rfl) (by decide) (by decide) (hb hby at_21) (by decide) (by decide)
 have N659 := Fr.app N658 N659q
 refine o_go st659 ?_
 refine o_gi (XS.istore X659.here hx rfl (hb hby at_24) rfl (l' := #[.val (.int x0), .val (.int x1), .val (.int x2), .val (.int x3), .val (.int x4), .val (.int x5), .val (.int ((x0 &&& (2147483647 : Int32)) % (5 : Int32))), .val (.int (o_f1 x1)), .val (.int (o_f1 x2)), .val (.int (o_f1 x3)), .unset, .unset, .unset]) rfl) ?_
 refine o_gi (XS.iload X659.here hx rfl (hb hby at_26) rfl) ?_
 show o_Gs p e below _ T659 m 28 #[.val (.int x0), .val (.int x1), .val (.int x2), .val (.int x3), .val (.int x4), .val (.int x5), .val (.int ((x0 &&& (2147483647 : Int32)) % (5 : Int32))), .val (.int (o_f1 x1)), .val (.int (o_f1 x2)), .val (.int (o_f1 x3)), .unset, .unset, .unset] [(.int x4)]
 obtain ⟨_, T660, L660, X660, ⟨rfl, N660q, e660⟩, st660⟩ := o_callS X659 hx hZ hown (hw _ o_t1) (hw _ o_t2) (hw _ o_t3) (hw _ o_t4) (by decide) (as := [(.int x4)]) (rm1 l Z a0 hw [] x4 h0 n0) e659 o_pd12 rfl (pc := 28) (Ls := #[.val (.int x0), .val (.int x1), .val (.int x2), .val (.int x3), .val (.int x4), .val (.int x5), .val (.int ((x0 &&& (2147483647 : Int32)) % (5 : Int32))), .val (.int (o_f1 x1)), .val (.int (o_f1 x2)), .val (.int (o_f1 x3)), .unset, .unset, .unset]) (rest := []) (W := 0) (by rw [hml]; rfl) (Nat.le_of_eq rfl) (by decide) (by decide) (hb hby at_28) (by decide) (by decide)
 have N660 := Fr.app N659 N660q
 refine o_go st660 ?_
 refine o_gi (XS.istore X660.here hx rfl (hb hby at_31) rfl (l' := #[.val (.int x0), .val (.int x1), .val (.int x2), .val (.int x3), .val (.int x4), .val (.int x5), .val (.int ((x0 &&& (2147483647 : Int32)) % (5 : Int32))), .val (.int (o_f1 x1)), .val (.int (o_f1 x2)), .val (.int (o_f1 x3)), .val (.int (o_f1 x4)), .unset, .unset]) rfl) ?_
 show o_Gs p e below _ T660 m 33 #[.val (.int x0), .val (.int x1), .val (.int x2), .val (.int x3), .val (.int x4), .val (.int x5), .val (.int ((x0 &&& (2147483647 : Int32)) % (5 : Int32))), .val (.int (o_f1 x1)), .val (.int (o_f1 x2)), .val (.int (o_f1 x3)), .val (.int (o_f1 x4)), .unset, .unset] []
 obtain ⟨T661, h661, X661, e661, E661, A661, D661, -, st661⟩ := newO X660 hx hZ hown (hw _ o_t5) (hw _ o_t6) (hw _ o_t7) e660 (g := (mkF m 33 #[.val (.int x0), .val (.int x1), .val (.int x2), .val (.int x3), .val (.int x4), .val (.int x5), .val (.int ((x0 &&& (2147483647 : Int32)) % (5 : Int32))), .val (.int (o_f1 x1)), .val (.int (o_f1 x2)), .val (.int (o_f1 x3)), .val (.int (o_f1 x4)), .unset, .unset] [])) rfl (hb hby at_33) (by decide) (by decide)
 obtain ⟨b661, q661⟩ : ∃ z, z = h0.size := ⟨_, rfl⟩
 rw [← q661] at A661 D661 st661
 have lt_b661 : h0.size ≤ b661 := Nat.le_of_eq q661.symm
 have g_b661 : n0 ≤ b661 := Nat.le_trans Z0 lt_b661
 have F661_name : Fld Z h661 b661 "com/example/foothold/foothold/SourceFile" "name" "Ljava/lang/String;" .null := D661 (Or.inr (hw _ o_t39)) (ty := (.object "java/lang/String")) (by decide)
 have F661_text : Fld Z h661 b661 "com/example/foothold/foothold/SourceFile" "text" "Ljava/lang/String;" .null := D661 (Or.inr (hw _ o_t41)) (ty := (.object "java/lang/String")) (by decide)
 have F661_lineStarts : Fld Z h661 b661 "com/example/foothold/foothold/SourceFile" "lineStarts" "[I" .null := D661 (Or.inr (hw _ o_t129)) (ty := (.array .int)) (by decide)
 refine o_go st661 ?_
 have CC661 := C0.trans (CHr.ext E661 C0.1)
 refine o_gi (XS.dup X661.here hx rfl (hb hby at_36) rfl rfl) ?_
 show o_Gs p e below _ T661 m 37 #[.val (.int x0), .val (.int x1), .val (.int x2), .val (.int x3), .val (.int x4), .val (.int x5), .val (.int ((x0 &&& (2147483647 : Int32)) % (5 : Int32))), .val (.int (o_f1 x1)), .val (.int (o_f1 x2)), .val (.int (o_f1 x3)), .val (.int (o_f1 x4)), .unset, .unset] [(.ref b661), (.ref b661)]
 obtain ⟨a662, T662, h662, kk662, X662, e662, E662, hS662, hk662, hZ, hown, CS662, -, st662⟩ := ldcOH X661 hx hZ hown (hw _ o_t8) (o_wS hw) e661 hS (Nat.le_trans (Nat.zero_le _) E661.1) (o_hEL hw) CC661.1 (g := (mkF m 37 #[.val (.int x0), .val (.int x1), .val (.int x2), .val (.int x3), .val (.int x4), .val (.int x5), .val (.int ((x0 &&& (2147483647 : Int32)) % (5 : Int32))), .val (.int (o_f1 x1)), .val (.int (o_f1 x2)), .val (.int (o_f1 x3)), .val (.int (o_f1 x4)), .unset, .unset] [(.ref b661), (.ref b661)])) rfl (hb hby at_37) (n := 4) (by decide) (by decide) (by decide) (by decide)
 refine o_go st662 ?_
 have CC662 := CC661.trans CS662
 refine o_gi (XS.iload X662.here hx rfl (hb hby at_39) rfl) ?_
 refine o_gi (XS.iload X662.here hx rfl (hb hby at_41) rfl) ?_
 refine o_gi (XS.iload X662.here hx rfl (hb hby at_43) rfl) ?_
 refine o_gi (XS.iload X662.here hx rfl (hb hby at_45) rfl) ?_
 refine o_gi (XS.iload X662.here hx rfl (hb hby at_47) rfl) ?_
 show o_Gs p e below _ T662 m 49 #[.val (.int x0), .val (.int x1), .val (.int x2), .val (.int x3), .val (.int x4), .val (.int x5), .val (.int ((x0 &&& (2147483647 : Int32)) % (5 : Int32))), .val (.int (o_f1 x1)), .val (.int (o_f1 x2)), .val (.int (o_f1 x3)), .val (.int (o_f1 x4)), .unset, .unset] [(.int (o_f1 x4)), (.int (o_f1 x3)), (.int (o_f1 x2)), (.int (o_f1 x1)), (.int ((x0 &&& (2147483647 : Int32)) % (5 : Int32))), (.ref a662), (.ref b661), (.ref b661)]
 obtain ⟨_, T663, L663, X663, ⟨b663, rfl, N663q, K663, lt_b663, G663_0⟩, hS663, hZ, hown, CS663, st663⟩ := o_callSW hS662 hk662 (o_hEL hw) CC662.1 X662 hx hZ hown (hw _ o_t16) (hw _ o_t17) (hw _ o_t3) (hw _ o_t18) (by decide) (as := [(.int ((x0 &&& (2147483647 : Int32)) % (5 : Int32))), (.int (o_f1 x1)), (.int (o_f1 x2)), (.int (o_f1 x3)), (.int (o_f1 x4))]) (rm2 l Z a0 hw [] ((x0 &&& (2147483647 : Int32)) % (5 : Int32)) (o_f1 x1) (o_f1 x2) (o_f1 x3) (o_f1 x4) z_cs h662 n0 (Nat.le_trans (Nat.le_trans Z0 E661.1) E662.1) ((O0.ext E661).ext E662) S_z_cs z_CS (o_csb _ x1 x2 x3 x4) (o_len x0)) e662 o_pd13 rfl (pc := 49) (Ls := #[.val (.int x0), .val (.int x1), .val (.int x2), .val (.int x3), .val (.int x4), .val (.int x5), .val (.int ((x0 &&& (2147483647 : Int32)) % (5 : Int32))), .val (.int (o_f1 x1)), .val (.int (o_f1 x2)), .val (.int (o_f1 x3)), .val (.int (o_f1 x4)), .unset, .unset]) (rest := [(.ref a662), (.ref b661), (.ref b661)]) (W := 3) (by rw [hml]; rfl) (Nat.le_of_eq rfl) (by decide) (by decide) (hb hby at_49) (by decide) (by decide)
 have N663 := Fr.app N660 N663q
 have ne_b661_b663 : b661 ≠ b663 := Nat.ne_of_lt (Nat.lt_of_lt_of_le (A661.ext E662).lt lt_b663)
 have g_b663 : n0 ≤ b663 := Nat.le_trans (Nat.le_trans (Nat.le_trans Z0 E661.1) E662.1) lt_b663
 refine o_go st663 ?_
 have CC663 := CC662.trans CS663
 show o_Gs p e below _ T663 m 52 #[.val (.int x0), .val (.int x1), .val (.int x2), .val (.int x3), .val (.int x4), .val (.int x5), .val (.int ((x0 &&& (2147483647 : Int32)) % (5 : Int32))), .val (.int (o_f1 x1)), .val (.int (o_f1 x2)), .val (.int (o_f1 x3)), .val (.int (o_f1 x4)), .unset, .unset] [(.ref b663), (.ref a662), (.ref b661), (.ref b661)]
 obtain ⟨t665, k665, N665z, vs665, Es665, Vs665, Cs665, Ks665, hcd665, hbd665, hl665⟩ := id G663_0
 have ff666 : Fld Z T663.heap b661 "com/example/foothold/foothold/SourceFile" "name" "Ljava/lang/String;" .null := ((F661_name.ext E662).keep K663 List.not_mem_nil)
 have ff667 : Fld Z T663.heap b661 "com/example/foothold/foothold/SourceFile" "text" "Ljava/lang/String;" .null := ((F661_text.ext E662).keep K663 List.not_mem_nil)
 have ff668 : Fld Z T663.heap b661 "com/example/foothold/foothold/SourceFile" "lineStarts" "[I" .null := ((F661_lineStarts.ext E662).keep K663 List.not_mem_nil)
 obtain ⟨_, T664, L664, X664, ⟨b664, kb664, rfl, N664q, K664, lt_b664, G664_0, G664_1, G664_2⟩, st664⟩ := o_callI X663 hx hZ rfl hown (hw _ o_t34) (hw _ o_t35) (hw _ o_t7) (hw _ o_t36) (by decide) (b := b661) (as := [(.ref a662), (.ref b663)]) (rm6 l Z a0 hw [] b661 a662 b663 cl_e cl_c fm t665 k665 N665z vs665 (o_cs ((x0 &&& (2147483647 : Int32)) % (5 : Int32)) (o_f1 x1) (o_f1 x2) (o_f1 x3) (o_f1 x4)) c_0 c_1 c_2 c_3 c_4 s_e x_hi s_c z_cs T663.heap n0 (Nat.le_trans (Nat.le_trans (Nat.le_trans Z0 E661.1) E662.1) K663.1) g_b661 (((O0.ext E661).ext E662).keep K663 all0) A_e z_e A_c z_c h_hi t_c0 E_c0 F_c0 t_c1 E_c1 F_c1 t_c2 E_c2 F_c2 t_c3 E_c3 F_c3 t_c4 E_c4 F_c4 S_fm rf z_CS ((A661.ext E662).keep K663) ff666 ff667 ff668 Es665 Vs665 Cs665 Ks665 hcd665 hbd665 (o_csl _ _ _ _ _) hl665 (Exa.ne ((A661.ext E662).keep K663) Es665 (by decide)) (Exa.neArv ((A661.ext E662).keep K663) Ks665 (hw _ o_t6)) S_s_e S_x_hi S_s_c S_z_cs) rfl o_pd14 rfl (pc := 52) (Ls := #[.val (.int x0), .val (.int x1), .val (.int x2), .val (.int x3), .val (.int x4), .val (.int x5), .val (.int ((x0 &&& (2147483647 : Int32)) % (5 : Int32))), .val (.int (o_f1 x1)), .val (.int (o_f1 x2)), .val (.int (o_f1 x3)), .val (.int (o_f1 x4)), .unset, .unset]) (rest := [(.ref b661)]) (W := 1) (by rw [hml]; rfl) (Nat.le_of_eq rfl) (by decide) (by decide) (hb hby at_52) (by decide) (by decide)
 have N664 := Fr.app N663 N664q
 have ne_b661_b664 : b661 ≠ b664 := Nat.ne_of_lt (Nat.lt_of_lt_of_le ((A661.ext E662).keep K663).lt lt_b664)
 have ne_b663_b664 : b663 ≠ b664 := Nat.ne_of_lt (Nat.lt_of_lt_of_le G663_0.lt lt_b664)
 have g_b664 : n0 ≤ b664 := Nat.le_trans (Nat.le_trans (Nat.le_trans (Nat.le_trans Z0 E661.1) E662.1) K663.1) lt_b664
 refine o_go st664 ?_
 have CC664 := CC663.trans (CHr.keep K664 (allS (Safe.exa (show Z.vm.Alike T663.vm from hZ.alike) ((A661.ext E662).keep K663) (by decide) (by decide)) all0) CC663.1)
 refine o_gi (XS.astore X664.here hx rfl (hb hby at_55) rfl rfl (l' := #[.val (.int x0), .val (.int x1), .val (.int x2), .val (.int x3), .val (.int x4), .val (.int x5), .val (.int ((x0 &&& (2147483647 : Int32)) % (5 : Int32))), .val (.int (o_f1 x1)), .val (.int (o_f1 x2)), .val (.int (o_f1 x3)), .val (.int (o_f1 x4)), .val (.ref b661), .unset]) rfl) ?_
 refine o_gi (XS.iconst X664.here hx rfl (hb hby at_57)) ?_
 refine o_gi (XS.iconst X664.here hx rfl (hb hby at_58)) ?_
 refine o_gi (XS.iload X664.here hx rfl (hb hby at_59) rfl) ?_
 refine o_gi (XS.iload X664.here hx rfl (hb hby at_61) rfl) ?_
 refine o_gi (XS.iload X664.here hx rfl (hb hby at_63) rfl) ?_
 show o_Gs p e below _ T664 m 65 #[.val (.int x0), .val (.int x1), .val (.int x2), .val (.int x3), .val (.int x4), .val (.int x5), .val (.int ((x0 &&& (2147483647 : Int32)) % (5 : Int32))), .val (.int (o_f1 x1)), .val (.int (o_f1 x2)), .val (.int (o_f1 x3)), .val (.int (o_f1 x4)), .val (.ref b661), .unset] [(.int (o_f1 x1)), (.int x5), (.int ((x0 &&& (2147483647 : Int32)) % (5 : Int32))), (.int 0), (.int 1)]
 obtain ⟨_, T669, L669, X669, ⟨rfl, N669q, e669⟩, st669⟩ := o_callS X664 hx hZ hown (hw _ o_t160) (hw _ o_t161) (hw _ o_t3) (hw _ o_t162) (by decide) (as := [(.int 0), (.int ((x0 &&& (2147483647 : Int32)) % (5 : Int32))), (.int x5), (.int (o_f1 x1))]) (rm24 l Z a0 hw [] (0 : Int32) ((x0 &&& (2147483647 : Int32)) % (5 : Int32)) x5 (o_f1 x1) T664.heap n0) rfl o_pd15 rfl (pc := 65) (Ls := #[.val (.int x0), .val (.int x1), .val (.int x2), .val (.int x3), .val (.int x4), .val (.int x5), .val (.int ((x0 &&& (2147483647 : Int32)) % (5 : Int32))), .val (.int (o_f1 x1)), .val (.int (o_f1 x2)), .val (.int (o_f1 x3)), .val (.int (o_f1 x4)), .val (.ref b661), .unset]) (rest := [(.int 1)]) (W := 1) (by rw [hml]; rfl) (Nat.le_of_eq rfl) (by decide) (by decide) (hb hby at_65) (by decide) (by decide)
 have N669 := Fr.app N664 N669q
 refine o_go st669 ?_
 show o_Gs p e below _ T669 m 68 #[.val (.int x0), .val (.int x1), .val (.int x2), .val (.int x3), .val (.int x4), .val (.int x5), .val (.int ((x0 &&& (2147483647 : Int32)) % (5 : Int32))), .val (.int (o_f1 x1)), .val (.int (o_f1 x2)), .val (.int (o_f1 x3)), .val (.int (o_f1 x4)), .val (.ref b661), .unset] [(.int (o_f24 (0 : Int32) ((x0 &&& (2147483647 : Int32)) % (5 : Int32)) x5 (o_f1 x1))), (.int 1)]
 refine o_gi (XS.iadd X669.here hx rfl (hb hby at_68) rfl) ?_
 refine o_gi (XS.iconst X669.here hx rfl (hb hby at_69)) ?_
 refine o_gi (XS.iload X669.here hx rfl (hb hby at_70) rfl) ?_
 refine o_gi (XS.iload X669.here hx rfl (hb hby at_72) rfl) ?_
 refine o_gi (XS.iload X669.here hx rfl (hb hby at_74) rfl) ?_
 show o_Gs p e below _ T669 m 76 #[.val (.int x0), .val (.int x1), .val (.int x2), .val (.int x3), .val (.int x4), .val (.int x5), .val (.int ((x0 &&& (2147483647 : Int32)) % (5 : Int32))), .val (.int (o_f1 x1)), .val (.int (o_f1 x2)), .val (.int (o_f1 x3)), .val (.int (o_f1 x4)), .val (.ref b661), .unset] [(.int (o_f1 x2)), (.int x5), (.int ((x0 &&& (2147483647 : Int32)) % (5 : Int32))), (.int 1), (.int ((1 : Int32) + (o_f24 (0 : Int32) ((x0 &&& (2147483647 : Int32)) % (5 : Int32)) x5 (o_f1 x1))))]
 obtain ⟨_, T670, L670, X670, ⟨rfl, N670q, e670⟩, st670⟩ := o_callS X669 hx hZ hown (hw _ o_t160) (hw _ o_t161) (hw _ o_t3) (hw _ o_t162) (by decide) (as := [(.int 1), (.int ((x0 &&& (2147483647 : Int32)) % (5 : Int32))), (.int x5), (.int (o_f1 x2))]) (rm24 l Z a0 hw [] (1 : Int32) ((x0 &&& (2147483647 : Int32)) % (5 : Int32)) x5 (o_f1 x2) T664.heap n0) e669 o_pd15 rfl (pc := 76) (Ls := #[.val (.int x0), .val (.int x1), .val (.int x2), .val (.int x3), .val (.int x4), .val (.int x5), .val (.int ((x0 &&& (2147483647 : Int32)) % (5 : Int32))), .val (.int (o_f1 x1)), .val (.int (o_f1 x2)), .val (.int (o_f1 x3)), .val (.int (o_f1 x4)), .val (.ref b661), .unset]) (rest := [(.int ((1 : Int32) + (o_f24 (0 : Int32) ((x0 &&& (2147483647 : Int32)) % (5 : Int32)) x5 (o_f1 x1))))]) (W := 1) (by rw [hml]; rfl) (Nat.le_of_eq rfl) (by decide) (by decide) (hb hby at_76) (by decide) (by decide)
 have N670 := Fr.app N669 N670q
 refine o_go st670 ?_
 show o_Gs p e below _ T670 m 79 #[.val (.int x0), .val (.int x1), .val (.int x2), .val (.int x3), .val (.int x4), .val (.int x5), .val (.int ((x0 &&& (2147483647 : Int32)) % (5 : Int32))), .val (.int (o_f1 x1)), .val (.int (o_f1 x2)), .val (.int (o_f1 x3)), .val (.int (o_f1 x4)), .val (.ref b661), .unset] [(.int (o_f24 (1 : Int32) ((x0 &&& (2147483647 : Int32)) % (5 : Int32)) x5 (o_f1 x2))), (.int ((1 : Int32) + (o_f24 (0 : Int32) ((x0 &&& (2147483647 : Int32)) % (5 : Int32)) x5 (o_f1 x1))))]
 refine o_gi (XS.iadd X670.here hx rfl (hb hby at_79) rfl) ?_
 refine o_gi (XS.iconst X670.here hx rfl (hb hby at_80)) ?_
 refine o_gi (XS.iload X670.here hx rfl (hb hby at_81) rfl) ?_
 refine o_gi (XS.iload X670.here hx rfl (hb hby at_83) rfl) ?_
 refine o_gi (XS.iload X670.here hx rfl (hb hby at_85) rfl) ?_
 show o_Gs p e below _ T670 m 87 #[.val (.int x0), .val (.int x1), .val (.int x2), .val (.int x3), .val (.int x4), .val (.int x5), .val (.int ((x0 &&& (2147483647 : Int32)) % (5 : Int32))), .val (.int (o_f1 x1)), .val (.int (o_f1 x2)), .val (.int (o_f1 x3)), .val (.int (o_f1 x4)), .val (.ref b661), .unset] [(.int (o_f1 x3)), (.int x5), (.int ((x0 &&& (2147483647 : Int32)) % (5 : Int32))), (.int 2), (.int (((1 : Int32) + (o_f24 (0 : Int32) ((x0 &&& (2147483647 : Int32)) % (5 : Int32)) x5 (o_f1 x1))) + (o_f24 (1 : Int32) ((x0 &&& (2147483647 : Int32)) % (5 : Int32)) x5 (o_f1 x2))))]
 obtain ⟨_, T671, L671, X671, ⟨rfl, N671q, e671⟩, st671⟩ := o_callS X670 hx hZ hown (hw _ o_t160) (hw _ o_t161) (hw _ o_t3) (hw _ o_t162) (by decide) (as := [(.int 2), (.int ((x0 &&& (2147483647 : Int32)) % (5 : Int32))), (.int x5), (.int (o_f1 x3))]) (rm24 l Z a0 hw [] (2 : Int32) ((x0 &&& (2147483647 : Int32)) % (5 : Int32)) x5 (o_f1 x3) T664.heap n0) e670 o_pd15 rfl (pc := 87) (Ls := #[.val (.int x0), .val (.int x1), .val (.int x2), .val (.int x3), .val (.int x4), .val (.int x5), .val (.int ((x0 &&& (2147483647 : Int32)) % (5 : Int32))), .val (.int (o_f1 x1)), .val (.int (o_f1 x2)), .val (.int (o_f1 x3)), .val (.int (o_f1 x4)), .val (.ref b661), .unset]) (rest := [(.int (((1 : Int32) + (o_f24 (0 : Int32) ((x0 &&& (2147483647 : Int32)) % (5 : Int32)) x5 (o_f1 x1))) + (o_f24 (1 : Int32) ((x0 &&& (2147483647 : Int32)) % (5 : Int32)) x5 (o_f1 x2))))]) (W := 1) (by rw [hml]; rfl) (Nat.le_of_eq rfl) (by decide) (by decide) (hb hby at_87) (by decide) (by decide)
 have N671 := Fr.app N670 N671q
 refine o_go st671 ?_
 show o_Gs p e below _ T671 m 90 #[.val (.int x0), .val (.int x1), .val (.int x2), .val (.int x3), .val (.int x4), .val (.int x5), .val (.int ((x0 &&& (2147483647 : Int32)) % (5 : Int32))), .val (.int (o_f1 x1)), .val (.int (o_f1 x2)), .val (.int (o_f1 x3)), .val (.int (o_f1 x4)), .val (.ref b661), .unset] [(.int (o_f24 (2 : Int32) ((x0 &&& (2147483647 : Int32)) % (5 : Int32)) x5 (o_f1 x3))), (.int (((1 : Int32) + (o_f24 (0 : Int32) ((x0 &&& (2147483647 : Int32)) % (5 : Int32)) x5 (o_f1 x1))) + (o_f24 (1 : Int32) ((x0 &&& (2147483647 : Int32)) % (5 : Int32)) x5 (o_f1 x2))))]
 refine o_gi (XS.iadd X671.here hx rfl (hb hby at_90) rfl) ?_
 refine o_gi (XS.iconst X671.here hx rfl (hb hby at_91)) ?_
 refine o_gi (XS.iload X671.here hx rfl (hb hby at_92) rfl) ?_
 refine o_gi (XS.iload X671.here hx rfl (hb hby at_94) rfl) ?_
 refine o_gi (XS.iload X671.here hx rfl (hb hby at_96) rfl) ?_
 show o_Gs p e below _ T671 m 98 #[.val (.int x0), .val (.int x1), .val (.int x2), .val (.int x3), .val (.int x4), .val (.int x5), .val (.int ((x0 &&& (2147483647 : Int32)) % (5 : Int32))), .val (.int (o_f1 x1)), .val (.int (o_f1 x2)), .val (.int (o_f1 x3)), .val (.int (o_f1 x4)), .val (.ref b661), .unset] [(.int (o_f1 x4)), (.int x5), (.int ((x0 &&& (2147483647 : Int32)) % (5 : Int32))), (.int 3), (.int ((((1 : Int32) + (o_f24 (0 : Int32) ((x0 &&& (2147483647 : Int32)) % (5 : Int32)) x5 (o_f1 x1))) + (o_f24 (1 : Int32) ((x0 &&& (2147483647 : Int32)) % (5 : Int32)) x5 (o_f1 x2))) + (o_f24 (2 : Int32) ((x0 &&& (2147483647 : Int32)) % (5 : Int32)) x5 (o_f1 x3))))]
 obtain ⟨_, T672, L672, X672, ⟨rfl, N672q, e672⟩, st672⟩ := o_callS X671 hx hZ hown (hw _ o_t160) (hw _ o_t161) (hw _ o_t3) (hw _ o_t162) (by decide) (as := [(.int 3), (.int ((x0 &&& (2147483647 : Int32)) % (5 : Int32))), (.int x5), (.int (o_f1 x4))]) (rm24 l Z a0 hw [] (3 : Int32) ((x0 &&& (2147483647 : Int32)) % (5 : Int32)) x5 (o_f1 x4) T664.heap n0) e671 o_pd15 rfl (pc := 98) (Ls := #[.val (.int x0), .val (.int x1), .val (.int x2), .val (.int x3), .val (.int x4), .val (.int x5), .val (.int ((x0 &&& (2147483647 : Int32)) % (5 : Int32))), .val (.int (o_f1 x1)), .val (.int (o_f1 x2)), .val (.int (o_f1 x3)), .val (.int (o_f1 x4)), .val (.ref b661), .unset]) (rest := [(.int ((((1 : Int32) + (o_f24 (0 : Int32) ((x0 &&& (2147483647 : Int32)) % (5 : Int32)) x5 (o_f1 x1))) + (o_f24 (1 : Int32) ((x0 &&& (2147483647 : Int32)) % (5 : Int32)) x5 (o_f1 x2))) + (o_f24 (2 : Int32) ((x0 &&& (2147483647 : Int32)) % (5 : Int32)) x5 (o_f1 x3))))]) (W := 1) (by rw [hml]; rfl) (Nat.le_of_eq rfl) (by decide) (by decide) (hb hby at_98) (by decide) (by decide)
 have N672 := Fr.app N671 N672q
 refine o_go st672 ?_
 show o_Gs p e below _ T672 m 101 #[.val (.int x0), .val (.int x1), .val (.int x2), .val (.int x3), .val (.int x4), .val (.int x5), .val (.int ((x0 &&& (2147483647 : Int32)) % (5 : Int32))), .val (.int (o_f1 x1)), .val (.int (o_f1 x2)), .val (.int (o_f1 x3)), .val (.int (o_f1 x4)), .val (.ref b661), .unset] [(.int (o_f24 (3 : Int32) ((x0 &&& (2147483647 : Int32)) % (5 : Int32)) x5 (o_f1 x4))), (.int ((((1 : Int32) + (o_f24 (0 : Int32) ((x0 &&& (2147483647 : Int32)) % (5 : Int32)) x5 (o_f1 x1))) + (o_f24 (1 : Int32) ((x0 &&& (2147483647 : Int32)) % (5 : Int32)) x5 (o_f1 x2))) + (o_f24 (2 : Int32) ((x0 &&& (2147483647 : Int32)) % (5 : Int32)) x5 (o_f1 x3))))]
 refine o_gi (XS.iadd X672.here hx rfl (hb hby at_101) rfl) ?_
 refine o_gi (XS.istore X672.here hx rfl (hb hby at_102) rfl (l' := #[.val (.int x0), .val (.int x1), .val (.int x2), .val (.int x3), .val (.int x4), .val (.int x5), .val (.int ((x0 &&& (2147483647 : Int32)) % (5 : Int32))), .val (.int (o_f1 x1)), .val (.int (o_f1 x2)), .val (.int (o_f1 x3)), .val (.int (o_f1 x4)), .val (.ref b661), .val (.int (((((1 : Int32) + (o_f24 (0 : Int32) ((x0 &&& (2147483647 : Int32)) % (5 : Int32)) x5 (o_f1 x1))) + (o_f24 (1 : Int32) ((x0 &&& (2147483647 : Int32)) % (5 : Int32)) x5 (o_f1 x2))) + (o_f24 (2 : Int32) ((x0 &&& (2147483647 : Int32)) % (5 : Int32)) x5 (o_f1 x3))) + (o_f24 (3 : Int32) ((x0 &&& (2147483647 : Int32)) % (5 : Int32)) x5 (o_f1 x4))))]) rfl) ?_
 refine o_gi (XS.aload X672.here hx rfl (hb hby at_104) rfl rfl) ?_
 refine o_gi (XS.iload X672.here hx rfl (hb hby at_106) rfl) ?_
 show o_Gs p e below _ T672 m 108 #[.val (.int x0), .val (.int x1), .val (.int x2), .val (.int x3), .val (.int x4), .val (.int x5), .val (.int ((x0 &&& (2147483647 : Int32)) % (5 : Int32))), .val (.int (o_f1 x1)), .val (.int (o_f1 x2)), .val (.int (o_f1 x3)), .val (.int (o_f1 x4)), .val (.ref b661), .val (.int (((((1 : Int32) + (o_f24 (0 : Int32) ((x0 &&& (2147483647 : Int32)) % (5 : Int32)) x5 (o_f1 x1))) + (o_f24 (1 : Int32) ((x0 &&& (2147483647 : Int32)) % (5 : Int32)) x5 (o_f1 x2))) + (o_f24 (2 : Int32) ((x0 &&& (2147483647 : Int32)) % (5 : Int32)) x5 (o_f1 x3))) + (o_f24 (3 : Int32) ((x0 &&& (2147483647 : Int32)) % (5 : Int32)) x5 (o_f1 x4))))] [(.int x5), (.ref b661)]
 obtain ⟨_, T673, L673, X673, ⟨rfl, N673q, e673⟩, st673⟩ := o_callV X672 hx hZ hown (hw _ o_t163) (hw _ o_t164) (hw _ o_t166) (hw _ o_t165) (hw _ o_t7) (hw _ o_t167) (by decide) (b := b661) (as := [(.int x5)]) (rm25 l Z a0 hw [] b661 x5 b664 kb664 (o_ls (o_cs ((x0 &&& (2147483647 : Int32)) % (5 : Int32)) (o_f1 x1) (o_f1 x2) (o_f1 x3) (o_f1 x4))) T664.heap n0 G664_1 G664_2 (o_lsl _ _ _ _ _)) e672 G664_0 o_pd16 rfl (pc := 108) (Ls := #[.val (.int x0), .val (.int x1), .val (.int x2), .val (.int x3), .val (.int x4), .val (.int x5), .val (.int ((x0 &&& (2147483647 : Int32)) % (5 : Int32))), .val (.int (o_f1 x1)), .val (.int (o_f1 x2)), .val (.int (o_f1 x3)), .val (.int (o_f1 x4)), .val (.ref b661), .val (.int (((((1 : Int32) + (o_f24 (0 : Int32) ((x0 &&& (2147483647 : Int32)) % (5 : Int32)) x5 (o_f1 x1))) + (o_f24 (1 : Int32) ((x0 &&& (2147483647 : Int32)) % (5 : Int32)) x5 (o_f1 x2))) + (o_f24 (2 : Int32) ((x0 &&& (2147483647 : Int32)) % (5 : Int32)) x5 (o_f1 x3))) + (o_f24 (3 : Int32) ((x0 &&& (2147483647 : Int32)) % (5 : Int32)) x5 (o_f1 x4))))]) (rest := []) (W := 0) (by rw [hml]; rfl) (Nat.le_of_eq rfl) (by decide) (by decide) (hb hby at_108) (by decide) (by decide)
 have N673 := Fr.app N672 N673q
 refine o_go st673 ?_
 refine o_gi (XS.iload X673.here hx rfl (hb hby at_111) rfl) ?_
 show o_Gs p e below _ T673 m 113 #[.val (.int x0), .val (.int x1), .val (.int x2), .val (.int x3), .val (.int x4), .val (.int x5), .val (.int ((x0 &&& (2147483647 : Int32)) % (5 : Int32))), .val (.int (o_f1 x1)), .val (.int (o_f1 x2)), .val (.int (o_f1 x3)), .val (.int (o_f1 x4)), .val (.ref b661), .val (.int (((((1 : Int32) + (o_f24 (0 : Int32) ((x0 &&& (2147483647 : Int32)) % (5 : Int32)) x5 (o_f1 x1))) + (o_f24 (1 : Int32) ((x0 &&& (2147483647 : Int32)) % (5 : Int32)) x5 (o_f1 x2))) + (o_f24 (2 : Int32) ((x0 &&& (2147483647 : Int32)) % (5 : Int32)) x5 (o_f1 x3))) + (o_f24 (3 : Int32) ((x0 &&& (2147483647 : Int32)) % (5 : Int32)) x5 (o_f1 x4))))] [(.int (((((1 : Int32) + (o_f24 (0 : Int32) ((x0 &&& (2147483647 : Int32)) % (5 : Int32)) x5 (o_f1 x1))) + (o_f24 (1 : Int32) ((x0 &&& (2147483647 : Int32)) % (5 : Int32)) x5 (o_f1 x2))) + (o_f24 (2 : Int32) ((x0 &&& (2147483647 : Int32)) % (5 : Int32)) x5 (o_f1 x3))) + (o_f24 (3 : Int32) ((x0 &&& (2147483647 : Int32)) % (5 : Int32)) x5 (o_f1 x4)))), (.int (o_line (o_ls (o_cs ((x0 &&& (2147483647 : Int32)) % (5 : Int32)) (o_f1 x1) (o_f1 x2) (o_f1 x3) (o_f1 x4))) x5))]
 by_cases hc674 : (o_line (o_ls (o_cs ((x0 &&& (2147483647 : Int32)) % (5 : Int32)) (o_f1 x1) (o_f1 x2) (o_f1 x3) (o_f1 x4))) x5) = (((((1 : Int32) + (o_f24 (0 : Int32) ((x0 &&& (2147483647 : Int32)) % (5 : Int32)) x5 (o_f1 x1))) + (o_f24 (1 : Int32) ((x0 &&& (2147483647 : Int32)) % (5 : Int32)) x5 (o_f1 x2))) + (o_f24 (2 : Int32) ((x0 &&& (2147483647 : Int32)) % (5 : Int32)) x5 (o_f1 x3))) + (o_f24 (3 : Int32) ((x0 &&& (2147483647 : Int32)) % (5 : Int32)) x5 (o_f1 x4)))
 ·refine o_gi (XS.icmpNo X673.here hx rfl (hb hby at_113) rfl (teq hc674).2) ?_
  refine o_gi (XS.iconst X673.here hx rfl (hb hby at_116)) ?_
  refine o_gi (XS.goto X673.here hx rfl (pc0 := 117) (pc' := 121) rfl (hb hby at_117) (by decide) (by decide)) ?_
  show o_Gs p e below _ T673 m 121 #[.val (.int x0), .val (.int x1), .val (.int x2), .val (.int x3), .val (.int x4), .val (.int x5), .val (.int ((x0 &&& (2147483647 : Int32)) % (5 : Int32))), .val (.int (o_f1 x1)), .val (.int (o_f1 x2)), .val (.int (o_f1 x3)), .val (.int (o_f1 x4)), .val (.ref b661), .val (.int (((((1 : Int32) + (o_f24 (0 : Int32) ((x0 &&& (2147483647 : Int32)) % (5 : Int32)) x5 (o_f1 x1))) + (o_f24 (1 : Int32) ((x0 &&& (2147483647 : Int32)) % (5 : Int32)) x5 (o_f1 x2))) + (o_f24 (2 : Int32) ((x0 &&& (2147483647 : Int32)) % (5 : Int32)) x5 (o_f1 x3))) + (o_f24 (3 : Int32) ((x0 &&& (2147483647 : Int32)) % (5 : Int32)) x5 (o_f1 x4))))] [(.int 1)]
  exact o_retNW hS663 (Nat.le_trans (Nat.le_refl _) K664.1) hZ (o_hEL hw) CC664 e673 X673 hx hlk hret (by simp) (z' := (1 : Int32)) rfl (hb hby at_121) (by decide) (by decide) ⟨by rw [o_f0, if_pos hc674], N673, trivial⟩
 ·refine o_gi (XS.icmpYes X673.here hx rfl (pc0 := 113) (pc' := 120) rfl (hb hby at_113) rfl (feq hc674).2 (by decide) (by decide)) ?_
  refine o_gi (XS.iconst X673.here hx rfl (hb hby at_120)) ?_
  show o_Gs p e below _ T673 m 121 #[.val (.int x0), .val (.int x1), .val (.int x2), .val (.int x3), .val (.int x4), .val (.int x5), .val (.int ((x0 &&& (2147483647 : Int32)) % (5 : Int32))), .val (.int (o_f1 x1)), .val (.int (o_f1 x2)), .val (.int (o_f1 x3)), .val (.int (o_f1 x4)), .val (.ref b661), .val (.int (((((1 : Int32) + (o_f24 (0 : Int32) ((x0 &&& (2147483647 : Int32)) % (5 : Int32)) x5 (o_f1 x1))) + (o_f24 (1 : Int32) ((x0 &&& (2147483647 : Int32)) % (5 : Int32)) x5 (o_f1 x2))) + (o_f24 (2 : Int32) ((x0 &&& (2147483647 : Int32)) % (5 : Int32)) x5 (o_f1 x3))) + (o_f24 (3 : Int32) ((x0 &&& (2147483647 : Int32)) % (5 : Int32)) x5 (o_f1 x4))))] [(.int 0)]
  exact o_retNW hS663 (Nat.le_trans (Nat.le_refl _) K664.1) hZ (o_hEL hw) CC664 e673 X673 hx hlk hret (by simp) (z' := (0 : Int32)) rfl (hb hby at_121) (by decide) (by decide) ⟨by rw [o_f0, if_neg hc674], N673, trivial⟩
theorem o_eq (x0 x1 x2 x3 x4 x5 : Int32) : o_f0 x0 x1 x2 x3 x4 x5 = 1 := by
 unfold o_f0
 rw [if_pos]
 have e1 : o_cs 1 (o_f1 x1) (o_f1 x2) (o_f1 x3) (o_f1 x4) = [o_f1 x1] := by
  show [nar .char (o_f1 x1)] = _; rw [o_nar]
 have e2 : o_cs 2 (o_f1 x1) (o_f1 x2) (o_f1 x3) (o_f1 x4) = [o_f1 x1, o_f1 x2] := by
  show [nar .char (o_f1 x1), nar .char (o_f1 x2)] = _; rw [o_nar, o_nar]
 have e3 : o_cs 3 (o_f1 x1) (o_f1 x2) (o_f1 x3) (o_f1 x4) = [o_f1 x1, o_f1 x2, o_f1 x3] := by
  show [nar .char (o_f1 x1), nar .char (o_f1 x2), nar .char (o_f1 x3)] = _; rw [o_nar, o_nar, o_nar]
 have e4 : o_cs 4 (o_f1 x1) (o_f1 x2) (o_f1 x3) (o_f1 x4) = [o_f1 x1, o_f1 x2, o_f1 x3, o_f1 x4] := by
  show [nar .char (o_f1 x1), nar .char (o_f1 x2), nar .char (o_f1 x3), nar .char (o_f1 x4)] = _; rw [o_nar, o_nar, o_nar, o_nar]
 rcases o_len x0 with h | h | h | h | h <;> rw [h]
 ·rw [show o_cs 0 (o_f1 x1) (o_f1 x2) (o_f1 x3) (o_f1 x4) = [] from rfl]
  rw [show o_ls [] = [(0 : Int32)] from by rfl, o_nl2 (i := (0 : Int32)) (by decide), o_nl2 (i := (1 : Int32)) (by decide), o_nl2 (i := (2 : Int32)) (by decide), o_nl2 (i := (3 : Int32)) (by decide)]
  rfl
 ·rw [e1]
  by_cases hf0 : o_f1 x1 = (10 : Int32)
  ·rw [show o_ls [o_f1 x1] = [(0 : Int32), (1 : Int32)] from by simp only [o_ls, o_rest, if_pos hf0] <;> rfl, o_nl1 (i := (0 : Int32)) (k := (1 : Int32)) (by decide) (by decide) hf0, o_nl2 (i := (1 : Int32)) (by decide), o_nl2 (i := (2 : Int32)) (by decide), o_nl2 (i := (3 : Int32)) (by decide)]
   show o_f25_2 x5 (1 : Int32) = _
   rcases o_pos x5 with ⟨q1, q2, q3, q4⟩ | ⟨q1, q2, q3, q4⟩ | ⟨q1, q2, q3, q4⟩ | ⟨q1, q2, q3, q4⟩ | ⟨q1, q2, q3, q4⟩ <;> simp only [o_f25_2, q1, q2, q3, q4, if_true, if_false] <;> rfl
  ·rw [show o_ls [o_f1 x1] = [(0 : Int32)] from by simp only [o_ls, o_rest, if_neg hf0] <;> rfl, o_nl0 (i := (0 : Int32)) hf0, o_nl2 (i := (1 : Int32)) (by decide), o_nl2 (i := (2 : Int32)) (by decide), o_nl2 (i := (3 : Int32)) (by decide)]
   rfl
 ·rw [e2]
  by_cases hf0 : o_f1 x1 = (10 : Int32)
  ·by_cases hf1 : o_f1 x2 = (10 : Int32)
   ·rw [show o_ls [o_f1 x1, o_f1 x2] = [(0 : Int32), (1 : Int32), (2 : Int32)] from by simp only [o_ls, o_rest, if_pos hf0, if_pos hf1] <;> rfl, o_nl1 (i := (0 : Int32)) (k := (1 : Int32)) (by decide) (by decide) hf0, o_nl1 (i := (1 : Int32)) (k := (2 : Int32)) (by decide) (by decide) hf1, o_nl2 (i := (2 : Int32)) (by decide), o_nl2 (i := (3 : Int32)) (by decide)]
    show o_f25_3 x5 (1 : Int32) (2 : Int32) = _
    rcases o_pos x5 with ⟨q1, q2, q3, q4⟩ | ⟨q1, q2, q3, q4⟩ | ⟨q1, q2, q3, q4⟩ | ⟨q1, q2, q3, q4⟩ | ⟨q1, q2, q3, q4⟩ <;> simp only [o_f25_3, q1, q2, q3, q4, if_true, if_false] <;> rfl
   ·rw [show o_ls [o_f1 x1, o_f1 x2] = [(0 : Int32), (1 : Int32)] from by simp only [o_ls, o_rest, if_pos hf0, if_neg hf1] <;> rfl, o_nl1 (i := (0 : Int32)) (k := (1 : Int32)) (by decide) (by decide) hf0, o_nl0 (i := (1 : Int32)) hf1, o_nl2 (i := (2 : Int32)) (by decide), o_nl2 (i := (3 : Int32)) (by decide)]
    show o_f25_2 x5 (1 : Int32) = _
    rcases o_pos x5 with ⟨q1, q2, q3, q4⟩ | ⟨q1, q2, q3, q4⟩ | ⟨q1, q2, q3, q4⟩ | ⟨q1, q2, q3, q4⟩ | ⟨q1, q2, q3, q4⟩ <;> simp only [o_f25_2, q1, q2, q3, q4, if_true, if_false] <;> rfl
  ·by_cases hf1 : o_f1 x2 = (10 : Int32)
   ·rw [show o_ls [o_f1 x1, o_f1 x2] = [(0 : Int32), (2 : Int32)] from by simp only [o_ls, o_rest, if_neg hf0, if_pos hf1] <;> rfl, o_nl0 (i := (0 : Int32)) hf0, o_nl1 (i := (1 : Int32)) (k := (2 : Int32)) (by decide) (by decide) hf1, o_nl2 (i := (2 : Int32)) (by decide), o_nl2 (i := (3 : Int32)) (by decide)]
    show o_f25_2 x5 (2 : Int32) = _
    rcases o_pos x5 with ⟨q1, q2, q3, q4⟩ | ⟨q1, q2, q3, q4⟩ | ⟨q1, q2, q3, q4⟩ | ⟨q1, q2, q3, q4⟩ | ⟨q1, q2, q3, q4⟩ <;> simp only [o_f25_2, q1, q2, q3, q4, if_true, if_false] <;> rfl
   ·rw [show o_ls [o_f1 x1, o_f1 x2] = [(0 : Int32)] from by simp only [o_ls, o_rest, if_neg hf0, if_neg hf1] <;> rfl, o_nl0 (i := (0 : Int32)) hf0, o_nl0 (i := (1 : Int32)) hf1, o_nl2 (i := (2 : Int32)) (by decide), o_nl2 (i := (3 : Int32)) (by decide)]
    rfl
 ·rw [e3]
  by_cases hf0 : o_f1 x1 = (10 : Int32)
  ·by_cases hf1 : o_f1 x2 = (10 : Int32)
   ·by_cases hf2 : o_f1 x3 = (10 : Int32)
    ·rw [show o_ls [o_f1 x1, o_f1 x2, o_f1 x3] = [(0 : Int32), (1 : Int32), (2 : Int32), (3 : Int32)] from by simp only [o_ls, o_rest, if_pos hf0, if_pos hf1, if_pos hf2] <;> rfl, o_nl1 (i := (0 : Int32)) (k := (1 : Int32)) (by decide) (by decide) hf0, o_nl1 (i := (1 : Int32)) (k := (2 : Int32)) (by decide) (by decide) hf1, o_nl1 (i := (2 : Int32)) (k := (3 : Int32)) (by decide) (by decide) hf2, o_nl2 (i := (3 : Int32)) (by decide)]
     show o_f25_4 x5 (1 : Int32) (2 : Int32) (3 : Int32) = _
     rcases o_pos x5 with ⟨q1, q2, q3, q4⟩ | ⟨q1, q2, q3, q4⟩ | ⟨q1, q2, q3, q4⟩ | ⟨q1, q2, q3, q4⟩ | ⟨q1, q2, q3, q4⟩ <;> simp only [o_f25_4, q1, q2, q3, q4, if_true, if_false] <;> rfl
    ·rw [show o_ls [o_f1 x1, o_f1 x2, o_f1 x3] = [(0 : Int32), (1 : Int32), (2 : Int32)] from by simp only [o_ls, o_rest, if_pos hf0, if_pos hf1, if_neg hf2] <;> rfl, o_nl1 (i := (0 : Int32)) (k := (1 : Int32)) (by decide) (by decide) hf0, o_nl1 (i := (1 : Int32)) (k := (2 : Int32)) (by decide) (by decide) hf1, o_nl0 (i := (2 : Int32)) hf2, o_nl2 (i := (3 : Int32)) (by decide)]
     show o_f25_3 x5 (1 : Int32) (2 : Int32) = _
     rcases o_pos x5 with ⟨q1, q2, q3, q4⟩ | ⟨q1, q2, q3, q4⟩ | ⟨q1, q2, q3, q4⟩ | ⟨q1, q2, q3, q4⟩ | ⟨q1, q2, q3, q4⟩ <;> simp only [o_f25_3, q1, q2, q3, q4, if_true, if_false] <;> rfl
   ·by_cases hf2 : o_f1 x3 = (10 : Int32)
    ·rw [show o_ls [o_f1 x1, o_f1 x2, o_f1 x3] = [(0 : Int32), (1 : Int32), (3 : Int32)] from by simp only [o_ls, o_rest, if_pos hf0, if_neg hf1, if_pos hf2] <;> rfl, o_nl1 (i := (0 : Int32)) (k := (1 : Int32)) (by decide) (by decide) hf0, o_nl0 (i := (1 : Int32)) hf1, o_nl1 (i := (2 : Int32)) (k := (3 : Int32)) (by decide) (by decide) hf2, o_nl2 (i := (3 : Int32)) (by decide)]
     show o_f25_3 x5 (1 : Int32) (3 : Int32) = _
     rcases o_pos x5 with ⟨q1, q2, q3, q4⟩ | ⟨q1, q2, q3, q4⟩ | ⟨q1, q2, q3, q4⟩ | ⟨q1, q2, q3, q4⟩ | ⟨q1, q2, q3, q4⟩ <;> simp only [o_f25_3, q1, q2, q3, q4, if_true, if_false] <;> rfl
    ·rw [show o_ls [o_f1 x1, o_f1 x2, o_f1 x3] = [(0 : Int32), (1 : Int32)] from by simp only [o_ls, o_rest, if_pos hf0, if_neg hf1, if_neg hf2] <;> rfl, o_nl1 (i := (0 : Int32)) (k := (1 : Int32)) (by decide) (by decide) hf0, o_nl0 (i := (1 : Int32)) hf1, o_nl0 (i := (2 : Int32)) hf2, o_nl2 (i := (3 : Int32)) (by decide)]
     show o_f25_2 x5 (1 : Int32) = _
     rcases o_pos x5 with ⟨q1, q2, q3, q4⟩ | ⟨q1, q2, q3, q4⟩ | ⟨q1, q2, q3, q4⟩ | ⟨q1, q2, q3, q4⟩ | ⟨q1, q2, q3, q4⟩ <;> simp only [o_f25_2, q1, q2, q3, q4, if_true, if_false] <;> rfl
  ·by_cases hf1 : o_f1 x2 = (10 : Int32)
   ·by_cases hf2 : o_f1 x3 = (10 : Int32)
    ·rw [show o_ls [o_f1 x1, o_f1 x2, o_f1 x3] = [(0 : Int32), (2 : Int32), (3 : Int32)] from by simp only [o_ls, o_rest, if_neg hf0, if_pos hf1, if_pos hf2] <;> rfl, o_nl0 (i := (0 : Int32)) hf0, o_nl1 (i := (1 : Int32)) (k := (2 : Int32)) (by decide) (by decide) hf1, o_nl1 (i := (2 : Int32)) (k := (3 : Int32)) (by decide) (by decide) hf2, o_nl2 (i := (3 : Int32)) (by decide)]
     show o_f25_3 x5 (2 : Int32) (3 : Int32) = _
     rcases o_pos x5 with ⟨q1, q2, q3, q4⟩ | ⟨q1, q2, q3, q4⟩ | ⟨q1, q2, q3, q4⟩ | ⟨q1, q2, q3, q4⟩ | ⟨q1, q2, q3, q4⟩ <;> simp only [o_f25_3, q1, q2, q3, q4, if_true, if_false] <;> rfl
    ·rw [show o_ls [o_f1 x1, o_f1 x2, o_f1 x3] = [(0 : Int32), (2 : Int32)] from by simp only [o_ls, o_rest, if_neg hf0, if_pos hf1, if_neg hf2] <;> rfl, o_nl0 (i := (0 : Int32)) hf0, o_nl1 (i := (1 : Int32)) (k := (2 : Int32)) (by decide) (by decide) hf1, o_nl0 (i := (2 : Int32)) hf2, o_nl2 (i := (3 : Int32)) (by decide)]
     show o_f25_2 x5 (2 : Int32) = _
     rcases o_pos x5 with ⟨q1, q2, q3, q4⟩ | ⟨q1, q2, q3, q4⟩ | ⟨q1, q2, q3, q4⟩ | ⟨q1, q2, q3, q4⟩ | ⟨q1, q2, q3, q4⟩ <;> simp only [o_f25_2, q1, q2, q3, q4, if_true, if_false] <;> rfl
   ·by_cases hf2 : o_f1 x3 = (10 : Int32)
    ·rw [show o_ls [o_f1 x1, o_f1 x2, o_f1 x3] = [(0 : Int32), (3 : Int32)] from by simp only [o_ls, o_rest, if_neg hf0, if_neg hf1, if_pos hf2] <;> rfl, o_nl0 (i := (0 : Int32)) hf0, o_nl0 (i := (1 : Int32)) hf1, o_nl1 (i := (2 : Int32)) (k := (3 : Int32)) (by decide) (by decide) hf2, o_nl2 (i := (3 : Int32)) (by decide)]
     show o_f25_2 x5 (3 : Int32) = _
     rcases o_pos x5 with ⟨q1, q2, q3, q4⟩ | ⟨q1, q2, q3, q4⟩ | ⟨q1, q2, q3, q4⟩ | ⟨q1, q2, q3, q4⟩ | ⟨q1, q2, q3, q4⟩ <;> simp only [o_f25_2, q1, q2, q3, q4, if_true, if_false] <;> rfl
    ·rw [show o_ls [o_f1 x1, o_f1 x2, o_f1 x3] = [(0 : Int32)] from by simp only [o_ls, o_rest, if_neg hf0, if_neg hf1, if_neg hf2] <;> rfl, o_nl0 (i := (0 : Int32)) hf0, o_nl0 (i := (1 : Int32)) hf1, o_nl0 (i := (2 : Int32)) hf2, o_nl2 (i := (3 : Int32)) (by decide)]
     rfl
 ·rw [e4]
  by_cases hf0 : o_f1 x1 = (10 : Int32)
  ·by_cases hf1 : o_f1 x2 = (10 : Int32)
   ·by_cases hf2 : o_f1 x3 = (10 : Int32)
    ·by_cases hf3 : o_f1 x4 = (10 : Int32)
     ·rw [show o_ls [o_f1 x1, o_f1 x2, o_f1 x3, o_f1 x4] = [(0 : Int32), (1 : Int32), (2 : Int32), (3 : Int32), (4 : Int32)] from by simp only [o_ls, o_rest, if_pos hf0, if_pos hf1, if_pos hf2, if_pos hf3] <;> rfl, o_nl1 (i := (0 : Int32)) (k := (1 : Int32)) (by decide) (by decide) hf0, o_nl1 (i := (1 : Int32)) (k := (2 : Int32)) (by decide) (by decide) hf1, o_nl1 (i := (2 : Int32)) (k := (3 : Int32)) (by decide) (by decide) hf2, o_nl1 (i := (3 : Int32)) (k := (4 : Int32)) (by decide) (by decide) hf3]
      show o_f25_5 x5 (1 : Int32) (2 : Int32) (3 : Int32) (4 : Int32) = _
      rcases o_pos x5 with ⟨q1, q2, q3, q4⟩ | ⟨q1, q2, q3, q4⟩ | ⟨q1, q2, q3, q4⟩ | ⟨q1, q2, q3, q4⟩ | ⟨q1, q2, q3, q4⟩ <;> simp only [o_f25_5, q1, q2, q3, q4, if_true, if_false] <;> rfl
     ·rw [show o_ls [o_f1 x1, o_f1 x2, o_f1 x3, o_f1 x4] = [(0 : Int32), (1 : Int32), (2 : Int32), (3 : Int32)] from by simp only [o_ls, o_rest, if_pos hf0, if_pos hf1, if_pos hf2, if_neg hf3] <;> rfl, o_nl1 (i := (0 : Int32)) (k := (1 : Int32)) (by decide) (by decide) hf0, o_nl1 (i := (1 : Int32)) (k := (2 : Int32)) (by decide) (by decide) hf1, o_nl1 (i := (2 : Int32)) (k := (3 : Int32)) (by decide) (by decide) hf2, o_nl0 (i := (3 : Int32)) hf3]
      show o_f25_4 x5 (1 : Int32) (2 : Int32) (3 : Int32) = _
      rcases o_pos x5 with ⟨q1, q2, q3, q4⟩ | ⟨q1, q2, q3, q4⟩ | ⟨q1, q2, q3, q4⟩ | ⟨q1, q2, q3, q4⟩ | ⟨q1, q2, q3, q4⟩ <;> simp only [o_f25_4, q1, q2, q3, q4, if_true, if_false] <;> rfl
    ·by_cases hf3 : o_f1 x4 = (10 : Int32)
     ·rw [show o_ls [o_f1 x1, o_f1 x2, o_f1 x3, o_f1 x4] = [(0 : Int32), (1 : Int32), (2 : Int32), (4 : Int32)] from by simp only [o_ls, o_rest, if_pos hf0, if_pos hf1, if_neg hf2, if_pos hf3] <;> rfl, o_nl1 (i := (0 : Int32)) (k := (1 : Int32)) (by decide) (by decide) hf0, o_nl1 (i := (1 : Int32)) (k := (2 : Int32)) (by decide) (by decide) hf1, o_nl0 (i := (2 : Int32)) hf2, o_nl1 (i := (3 : Int32)) (k := (4 : Int32)) (by decide) (by decide) hf3]
      show o_f25_4 x5 (1 : Int32) (2 : Int32) (4 : Int32) = _
      rcases o_pos x5 with ⟨q1, q2, q3, q4⟩ | ⟨q1, q2, q3, q4⟩ | ⟨q1, q2, q3, q4⟩ | ⟨q1, q2, q3, q4⟩ | ⟨q1, q2, q3, q4⟩ <;> simp only [o_f25_4, q1, q2, q3, q4, if_true, if_false] <;> rfl
     ·rw [show o_ls [o_f1 x1, o_f1 x2, o_f1 x3, o_f1 x4] = [(0 : Int32), (1 : Int32), (2 : Int32)] from by simp only [o_ls, o_rest, if_pos hf0, if_pos hf1, if_neg hf2, if_neg hf3] <;> rfl, o_nl1 (i := (0 : Int32)) (k := (1 : Int32)) (by decide) (by decide) hf0, o_nl1 (i := (1 : Int32)) (k := (2 : Int32)) (by decide) (by decide) hf1, o_nl0 (i := (2 : Int32)) hf2, o_nl0 (i := (3 : Int32)) hf3]
      show o_f25_3 x5 (1 : Int32) (2 : Int32) = _
      rcases o_pos x5 with ⟨q1, q2, q3, q4⟩ | ⟨q1, q2, q3, q4⟩ | ⟨q1, q2, q3, q4⟩ | ⟨q1, q2, q3, q4⟩ | ⟨q1, q2, q3, q4⟩ <;> simp only [o_f25_3, q1, q2, q3, q4, if_true, if_false] <;> rfl
   ·by_cases hf2 : o_f1 x3 = (10 : Int32)
    ·by_cases hf3 : o_f1 x4 = (10 : Int32)
     ·rw [show o_ls [o_f1 x1, o_f1 x2, o_f1 x3, o_f1 x4] = [(0 : Int32), (1 : Int32), (3 : Int32), (4 : Int32)] from by simp only [o_ls, o_rest, if_pos hf0, if_neg hf1, if_pos hf2, if_pos hf3] <;> rfl, o_nl1 (i := (0 : Int32)) (k := (1 : Int32)) (by decide) (by decide) hf0, o_nl0 (i := (1 : Int32)) hf1, o_nl1 (i := (2 : Int32)) (k := (3 : Int32)) (by decide) (by decide) hf2, o_nl1 (i := (3 : Int32)) (k := (4 : Int32)) (by decide) (by decide) hf3]
      show o_f25_4 x5 (1 : Int32) (3 : Int32) (4 : Int32) = _
      rcases o_pos x5 with ⟨q1, q2, q3, q4⟩ | ⟨q1, q2, q3, q4⟩ | ⟨q1, q2, q3, q4⟩ | ⟨q1, q2, q3, q4⟩ | ⟨q1, q2, q3, q4⟩ <;> simp only [o_f25_4, q1, q2, q3, q4, if_true, if_false] <;> rfl
     ·rw [show o_ls [o_f1 x1, o_f1 x2, o_f1 x3, o_f1 x4] = [(0 : Int32), (1 : Int32), (3 : Int32)] from by simp only [o_ls, o_rest, if_pos hf0, if_neg hf1, if_pos hf2, if_neg hf3] <;> rfl, o_nl1 (i := (0 : Int32)) (k := (1 : Int32)) (by decide) (by decide) hf0, o_nl0 (i := (1 : Int32)) hf1, o_nl1 (i := (2 : Int32)) (k := (3 : Int32)) (by decide) (by decide) hf2, o_nl0 (i := (3 : Int32)) hf3]
      show o_f25_3 x5 (1 : Int32) (3 : Int32) = _
      rcases o_pos x5 with ⟨q1, q2, q3, q4⟩ | ⟨q1, q2, q3, q4⟩ | ⟨q1, q2, q3, q4⟩ | ⟨q1, q2, q3, q4⟩ | ⟨q1, q2, q3, q4⟩ <;> simp only [o_f25_3, q1, q2, q3, q4, if_true, if_false] <;> rfl
    ·by_cases hf3 : o_f1 x4 = (10 : Int32)
     ·rw [show o_ls [o_f1 x1, o_f1 x2, o_f1 x3, o_f1 x4] = [(0 : Int32), (1 : Int32), (4 : Int32)] from by simp only [o_ls, o_rest, if_pos hf0, if_neg hf1, if_neg hf2, if_pos hf3] <;> rfl, o_nl1 (i := (0 : Int32)) (k := (1 : Int32)) (by decide) (by decide) hf0, o_nl0 (i := (1 : Int32)) hf1, o_nl0 (i := (2 : Int32)) hf2, o_nl1 (i := (3 : Int32)) (k := (4 : Int32)) (by decide) (by decide) hf3]
      show o_f25_3 x5 (1 : Int32) (4 : Int32) = _
      rcases o_pos x5 with ⟨q1, q2, q3, q4⟩ | ⟨q1, q2, q3, q4⟩ | ⟨q1, q2, q3, q4⟩ | ⟨q1, q2, q3, q4⟩ | ⟨q1, q2, q3, q4⟩ <;> simp only [o_f25_3, q1, q2, q3, q4, if_true, if_false] <;> rfl
     ·rw [show o_ls [o_f1 x1, o_f1 x2, o_f1 x3, o_f1 x4] = [(0 : Int32), (1 : Int32)] from by simp only [o_ls, o_rest, if_pos hf0, if_neg hf1, if_neg hf2, if_neg hf3] <;> rfl, o_nl1 (i := (0 : Int32)) (k := (1 : Int32)) (by decide) (by decide) hf0, o_nl0 (i := (1 : Int32)) hf1, o_nl0 (i := (2 : Int32)) hf2, o_nl0 (i := (3 : Int32)) hf3]
      show o_f25_2 x5 (1 : Int32) = _
      rcases o_pos x5 with ⟨q1, q2, q3, q4⟩ | ⟨q1, q2, q3, q4⟩ | ⟨q1, q2, q3, q4⟩ | ⟨q1, q2, q3, q4⟩ | ⟨q1, q2, q3, q4⟩ <;> simp only [o_f25_2, q1, q2, q3, q4, if_true, if_false] <;> rfl
  ·by_cases hf1 : o_f1 x2 = (10 : Int32)
   ·by_cases hf2 : o_f1 x3 = (10 : Int32)
    ·by_cases hf3 : o_f1 x4 = (10 : Int32)
     ·rw [show o_ls [o_f1 x1, o_f1 x2, o_f1 x3, o_f1 x4] = [(0 : Int32), (2 : Int32), (3 : Int32), (4 : Int32)] from by simp only [o_ls, o_rest, if_neg hf0, if_pos hf1, if_pos hf2, if_pos hf3] <;> rfl, o_nl0 (i := (0 : Int32)) hf0, o_nl1 (i := (1 : Int32)) (k := (2 : Int32)) (by decide) (by decide) hf1, o_nl1 (i := (2 : Int32)) (k := (3 : Int32)) (by decide) (by decide) hf2, o_nl1 (i := (3 : Int32)) (k := (4 : Int32)) (by decide) (by decide) hf3]
      show o_f25_4 x5 (2 : Int32) (3 : Int32) (4 : Int32) = _
      rcases o_pos x5 with ⟨q1, q2, q3, q4⟩ | ⟨q1, q2, q3, q4⟩ | ⟨q1, q2, q3, q4⟩ | ⟨q1, q2, q3, q4⟩ | ⟨q1, q2, q3, q4⟩ <;> simp only [o_f25_4, q1, q2, q3, q4, if_true, if_false] <;> rfl
     ·rw [show o_ls [o_f1 x1, o_f1 x2, o_f1 x3, o_f1 x4] = [(0 : Int32), (2 : Int32), (3 : Int32)] from by simp only [o_ls, o_rest, if_neg hf0, if_pos hf1, if_pos hf2, if_neg hf3] <;> rfl, o_nl0 (i := (0 : Int32)) hf0, o_nl1 (i := (1 : Int32)) (k := (2 : Int32)) (by decide) (by decide) hf1, o_nl1 (i := (2 : Int32)) (k := (3 : Int32)) (by decide) (by decide) hf2, o_nl0 (i := (3 : Int32)) hf3]
      show o_f25_3 x5 (2 : Int32) (3 : Int32) = _
      rcases o_pos x5 with ⟨q1, q2, q3, q4⟩ | ⟨q1, q2, q3, q4⟩ | ⟨q1, q2, q3, q4⟩ | ⟨q1, q2, q3, q4⟩ | ⟨q1, q2, q3, q4⟩ <;> simp only [o_f25_3, q1, q2, q3, q4, if_true, if_false] <;> rfl
    ·by_cases hf3 : o_f1 x4 = (10 : Int32)
     ·rw [show o_ls [o_f1 x1, o_f1 x2, o_f1 x3, o_f1 x4] = [(0 : Int32), (2 : Int32), (4 : Int32)] from by simp only [o_ls, o_rest, if_neg hf0, if_pos hf1, if_neg hf2, if_pos hf3] <;> rfl, o_nl0 (i := (0 : Int32)) hf0, o_nl1 (i := (1 : Int32)) (k := (2 : Int32)) (by decide) (by decide) hf1, o_nl0 (i := (2 : Int32)) hf2, o_nl1 (i := (3 : Int32)) (k := (4 : Int32)) (by decide) (by decide) hf3]
      show o_f25_3 x5 (2 : Int32) (4 : Int32) = _
      rcases o_pos x5 with ⟨q1, q2, q3, q4⟩ | ⟨q1, q2, q3, q4⟩ | ⟨q1, q2, q3, q4⟩ | ⟨q1, q2, q3, q4⟩ | ⟨q1, q2, q3, q4⟩ <;> simp only [o_f25_3, q1, q2, q3, q4, if_true, if_false] <;> rfl
     ·rw [show o_ls [o_f1 x1, o_f1 x2, o_f1 x3, o_f1 x4] = [(0 : Int32), (2 : Int32)] from by simp only [o_ls, o_rest, if_neg hf0, if_pos hf1, if_neg hf2, if_neg hf3] <;> rfl, o_nl0 (i := (0 : Int32)) hf0, o_nl1 (i := (1 : Int32)) (k := (2 : Int32)) (by decide) (by decide) hf1, o_nl0 (i := (2 : Int32)) hf2, o_nl0 (i := (3 : Int32)) hf3]
      show o_f25_2 x5 (2 : Int32) = _
      rcases o_pos x5 with ⟨q1, q2, q3, q4⟩ | ⟨q1, q2, q3, q4⟩ | ⟨q1, q2, q3, q4⟩ | ⟨q1, q2, q3, q4⟩ | ⟨q1, q2, q3, q4⟩ <;> simp only [o_f25_2, q1, q2, q3, q4, if_true, if_false] <;> rfl
   ·by_cases hf2 : o_f1 x3 = (10 : Int32)
    ·by_cases hf3 : o_f1 x4 = (10 : Int32)
     ·rw [show o_ls [o_f1 x1, o_f1 x2, o_f1 x3, o_f1 x4] = [(0 : Int32), (3 : Int32), (4 : Int32)] from by simp only [o_ls, o_rest, if_neg hf0, if_neg hf1, if_pos hf2, if_pos hf3] <;> rfl, o_nl0 (i := (0 : Int32)) hf0, o_nl0 (i := (1 : Int32)) hf1, o_nl1 (i := (2 : Int32)) (k := (3 : Int32)) (by decide) (by decide) hf2, o_nl1 (i := (3 : Int32)) (k := (4 : Int32)) (by decide) (by decide) hf3]
      show o_f25_3 x5 (3 : Int32) (4 : Int32) = _
      rcases o_pos x5 with ⟨q1, q2, q3, q4⟩ | ⟨q1, q2, q3, q4⟩ | ⟨q1, q2, q3, q4⟩ | ⟨q1, q2, q3, q4⟩ | ⟨q1, q2, q3, q4⟩ <;> simp only [o_f25_3, q1, q2, q3, q4, if_true, if_false] <;> rfl
     ·rw [show o_ls [o_f1 x1, o_f1 x2, o_f1 x3, o_f1 x4] = [(0 : Int32), (3 : Int32)] from by simp only [o_ls, o_rest, if_neg hf0, if_neg hf1, if_pos hf2, if_neg hf3] <;> rfl, o_nl0 (i := (0 : Int32)) hf0, o_nl0 (i := (1 : Int32)) hf1, o_nl1 (i := (2 : Int32)) (k := (3 : Int32)) (by decide) (by decide) hf2, o_nl0 (i := (3 : Int32)) hf3]
      show o_f25_2 x5 (3 : Int32) = _
      rcases o_pos x5 with ⟨q1, q2, q3, q4⟩ | ⟨q1, q2, q3, q4⟩ | ⟨q1, q2, q3, q4⟩ | ⟨q1, q2, q3, q4⟩ | ⟨q1, q2, q3, q4⟩ <;> simp only [o_f25_2, q1, q2, q3, q4, if_true, if_false] <;> rfl
    ·by_cases hf3 : o_f1 x4 = (10 : Int32)
     ·rw [show o_ls [o_f1 x1, o_f1 x2, o_f1 x3, o_f1 x4] = [(0 : Int32), (4 : Int32)] from by simp only [o_ls, o_rest, if_neg hf0, if_neg hf1, if_neg hf2, if_pos hf3] <;> rfl, o_nl0 (i := (0 : Int32)) hf0, o_nl0 (i := (1 : Int32)) hf1, o_nl0 (i := (2 : Int32)) hf2, o_nl1 (i := (3 : Int32)) (k := (4 : Int32)) (by decide) (by decide) hf3]
      show o_f25_2 x5 (4 : Int32) = _
      rcases o_pos x5 with ⟨q1, q2, q3, q4⟩ | ⟨q1, q2, q3, q4⟩ | ⟨q1, q2, q3, q4⟩ | ⟨q1, q2, q3, q4⟩ | ⟨q1, q2, q3, q4⟩ <;> simp only [o_f25_2, q1, q2, q3, q4, if_true, if_false] <;> rfl
     ·rw [show o_ls [o_f1 x1, o_f1 x2, o_f1 x3, o_f1 x4] = [(0 : Int32)] from by simp only [o_ls, o_rest, if_neg hf0, if_neg hf1, if_neg hf2, if_neg hf3] <;> rfl, o_nl0 (i := (0 : Int32)) hf0, o_nl0 (i := (1 : Int32)) hf1, o_nl0 (i := (2 : Int32)) hf2, o_nl0 (i := (3 : Int32)) hf3]
      rfl
section OwnWords
variable {args : Array Value} {first s : State} {o : Option Outcome} {idx : List Nat} {a b t : Term} {G Y : Jvm.Cond}
theorem o_eqI {k : Int32} (h : (Jvm.Cond.eq a b).value args first o s idx = some true) (hb : b.eval args first o idx s = some (.int k)) : a.eval args first o idx s = some (.int k) := by
 obtain ⟨x, y, h1, h2, h3, h4⟩ := cmp_v (Or.inl h)
 cases hb.symm.trans h2
 obtain ⟨z, rfl⟩ := h4
 simp only [Jvm.Cond.value, h1, hb] at h
 rw [h1]
 simpa using h
theorem o_eqJ {k : Int64} (h : (Jvm.Cond.eq a b).value args first o s idx = some true) (hb : b.eval args first o idx s = some (.long k)) : a.eval args first o idx s = some (.long k) := by
 obtain ⟨x, y, h1, h2, h3, h4⟩ := cmp_v (Or.inl h)
 cases hb.symm.trans h2
 obtain ⟨z, rfl⟩ := h4
 simp only [Jvm.Cond.value, h1, hb] at h
 rw [h1]
 simpa using h
theorem o_or (h : (Jvm.Cond.or G Y).value args first o s idx = some true) (h1 : G.value args first o s idx = some false) : Y.value args first o s idx = some true := by
 simpa [Jvm.Cond.value, h1] using h
theorem o_ixlt {j k : Int32} (hj : ¬ j < 0) (hk : ¬ j < k) : (Jvm.Cond.lt (Jvm.Term.index 0) (Jvm.Term.int k)).value args first o s [j.toNatClampNeg] = some false := by
 have e := idx_at (args := args) (first := first) (o := o) (s := s) hj
 have f : (Jvm.Term.int k).eval args first o [j.toNatClampNeg] s = some (.int k) := Term.int_eval _
 rw [Cond.lt_ints e f]
 simp [hk]
theorem o_ixle {j k : Int32} (hj : ¬ j < 0) (hk : j < k) : (Jvm.Cond.le (Jvm.Term.int k) (Jvm.Term.index 0)).value args first o s [j.toNatClampNeg] = some false := by
 have e := idx_at (args := args) (first := first) (o := o) (s := s) hj
 have f : (Jvm.Term.int k).eval args first o [j.toNatClampNeg] s = some (.int k) := Term.int_eval _
 rw [Cond.le_ints f e]
 simp [Int32.not_le.mpr hk]
theorem o_ixsub {j k : Int32} (hj : ¬ j < 0) : (Jvm.Term.sub (Jvm.Term.index 0) (Jvm.Term.int k)).eval args first o [j.toNatClampNeg] s = some (.int (j - k)) := by
 have e := idx_at (args := args) (first := first) (o := o) (s := s) hj
 have f : (Jvm.Term.int k).eval args first o [j.toNatClampNeg] s = some (.int k) := Term.int_eval _
 rw [Term.eval, e, f]
 rfl
/-- a field that the case says to hold a number -/
theorem o_fldI {C n d : String} {x : Addr} {k : Int32} (ht : t.eval args s none [] s = some (.ref x)) (h : (Jvm.Cond.eq (Term.field t C n d) (Term.int k)).value args s none s [] = some true) : Fld s s.heap x C n d (.int k) := by
 have e := o_eqI h (Term.int_eval _)
 rw [fld_at ht] at e
 exact Fld.start e
theorem o_fldJ {C n d : String} {x : Addr} {k : Int64} (ht : t.eval args s none [] s = some (.ref x)) (h : (Jvm.Cond.eq (Term.field t C n d) (Term.long k)).value args s none s [] = some true) : Fld s s.heap x C n d (.long k) := by
 have e := o_eqJ h (show (Term.long k).eval args s none [] s = some (.long k) by simp [Term.eval])
 rw [fld_at ht] at e
 exact Fld.start e
end OwnWords

theorem o_lenA {args : Array Value} {s : State} {t : Term} {x : Addr} {cl : Cell} {z : Int32} (ht : t.eval args s none [] s = some (.ref x)) (ha : s.arrayAt? x = some cl) (h : (Term.length t).eval args s none [] s = some (.int z)) : cl.slots.size = z.toNatClampNeg := by
 by_cases q : cl.slots.size < 2 ^ 31
 ·rw [len_f ht ha q] at h
  rw [← Value.int.inj (Option.some.inj h)]
  simp only [Int32.toNatClampNeg, len_toInt q]
  rfl
 ·simp [Term.eval, ht, ha, q] at h
theorem o_ent {args : Array Value} {s : State} {t : Term} {x : Addr} {cl : Cell} {C f d : String} {j k v : Int32} (ht : t.eval args s none [] s = some (.ref x)) (hs : t.eval args s none [j.toNatClampNeg] s = t.eval args s none [] s) (ha : s.arrayAt? x = some cl) (hj : ¬ j < 0) (h : (Jvm.Cond.and (Jvm.Cond.exactly (Term.elem t (Term.index 0)) C) (Jvm.Cond.eq (Term.field (Term.elem t (Term.index 0)) C f d) (Term.sub (Term.index 0) (Term.int k)))).value args s none s [j.toNatClampNeg] = some true) (hv : j - k = v) : ∃ u, cl.slots[j.toNatClampNeg]? = some (.ref u) ∧ Exa s s.heap u C ∧ Fld s s.heap u C f d (.int v) := by
 obtain ⟨h1, h2⟩ := and_e h
 obtain ⟨u, hu⟩ := exa_v h1
 have e := elem_f (hs.trans ht) (idx_at hj) ha hj
 have q := o_eqI h2 (o_ixsub hj)
 rw [fld_at hu, hv] at q
 exact ⟨u, e.symm.trans hu, exa_at hu h1, Fld.start q⟩
theorem o_t71 : (Jvm.Cond.initialized "java/lang/Integer$IntegerCache") ∈ tables_1 := List.mem_of_getElem? (i := 71) rfl
set_option maxRecDepth 65536 in
set_option maxHeartbeats 40000000 in
theorem comes_1 {Post : Tables → Env → Array Value → State → Outcome → State → Prop} (hpost : ∀ tb e args s v u, (limb_1_1.after args s (.returned v) u = true ∧ limb_1_2.after args s (.returned v) u = true) → Jvm.D.FramedW s (.returned v) u (Jvm.fieldLocs frame_1_writes args s ++ Jvm.arrayLocs frame_1_arrays args s ++ Jvm.staticLocs frame_1_statics s) 32 2240 → Post tb e args s (.returned v) u) :
  ArmFor flags0 classFile x code maxLocals ret World_1 tables_1 room_1 Calls_1 rest_1 Pre_1 Post := by
 intro l hfl _ _ p e ha hc hk s m args below hf hA hF happ hP
 obtain ⟨hcalls, hrest, hpre⟩ := hP
 obtain ⟨-, -, -, hnamed, -, -, -, hat⟩ := (Spec.applies_iff hf).mp happ
 obtain ⟨hg, hn⟩ := and_e (Cond.before_iff.mp (show (Jvm.Cond.and given_1 narrow_1).before args s = true from hpre))
 obtain ⟨gg1, gg2⟩ := and_e hg
 obtain ⟨gg3, gg4⟩ := and_e gg2
 obtain ⟨gg5, gg6⟩ := and_e gg4
 obtain ⟨gg7, gg8⟩ := and_e gg6
 obtain ⟨gg9, gg10⟩ := and_e gg8
 obtain ⟨gg11, gg12⟩ := and_e gg10
 obtain ⟨w0, w1, w2, w3, w4, w5, rfl⟩ : ∃ w0 w1 w2 w3 w4 w5 : Value, args = #[w0, w1, w2, w3, w4, w5] := by
  have hs : args.size = 6 := by simpa [Cond.value, given_1] using gg1
  obtain ⟨L⟩ := args
  match L, hs with
  | [w0, w1, w2, w3, w4, w5], _ => exact ⟨w0, w1, w2, w3, w4, w5, rfl⟩
 have hw := fun d (hd : d ∈ tables_1) => atoms_spec (ws := Jvm.Cond.code x code maxLocals ret :: tables_1) hat d (List.mem_cons_of_mem _ hd)
 have hfit : Fit s := fun {y c} hc i hi => by
  obtain ⟨ha, rfl⟩ := Array.getElem?_eq_some_iff.mp hc
  have q := List.all_eq_true.mp ((Array.all_eq_true_iff_forall_mem.mp hF) _ (Array.getElem_mem ha)) i (List.mem_range.mpr hi)
  simpa [Array.getElem?_eq_getElem hi] using q
 obtain ⟨hsets, hown0⟩ := atoms_of _ (rest_1_c_eq ▸ (show rest_1_c.before _ s = true from hrest))
 have hr0 := Cond.before_iff.mp hown0
 obtain ⟨i0, ei0⟩ := is_v gg3
 obtain rfl : w0 = (.int i0) := Option.some.inj ei0
 obtain ⟨i1, ei1⟩ := is_v gg5
 obtain rfl : w1 = (.int i1) := Option.some.inj ei1
 obtain ⟨i2, ei2⟩ := is_v gg7
 obtain rfl : w2 = (.int i2) := Option.some.inj ei2
 obtain ⟨i3, ei3⟩ := is_v gg9
 obtain rfl : w3 = (.int i3) := Option.some.inj ei3
 obtain ⟨i4, ei4⟩ := is_v gg11
 obtain rfl : w4 = (.int i4) := Option.some.inj ei4
 obtain ⟨i5, ei5⟩ := is_v gg12
 obtain rfl : w5 = (.int i5) := Option.some.inj ei5
 obtain ⟨s_e, v_e⟩ := arr_v (Cond.before_iff.mp (hsets _ (List.mem_of_getElem? (i := 6) rfl)))
 obtain ⟨cl_e, A_e⟩ := Arr.start v_e (Cond.before_iff.mp (hsets _ (List.mem_of_getElem? (i := 6) rfl)))
 have ha_e : s.arrayAt? s_e = some cl_e := Arr.fin (Vm.Alike.refl _) A_e
 have z_e := o_lenA v_e ha_e (o_eqI (Cond.before_iff.mp (hsets _ (List.mem_of_getElem? (i := 8) rfl))) (Term.int_eval _))
 have S_e := Sta.start v_e (Or.inr ⟨(hw _ o_t44), (hsets _ (List.mem_of_getElem? (i := 2) rfl))⟩)
 have v_hi := o_eqI (Cond.before_iff.mp (hsets _ (List.mem_of_getElem? (i := 12) rfl))) (Term.int_eval _)
 have S_hi := Sta.start v_hi (Or.inl (hsets _ (List.mem_of_getElem? (i := 10) rfl)))
 obtain ⟨s_c, v_c⟩ := arr_v (Cond.before_iff.mp (hsets _ (List.mem_of_getElem? (i := 13) rfl)))
 obtain ⟨cl_c, A_c⟩ := Arr.start v_c (Cond.before_iff.mp (hsets _ (List.mem_of_getElem? (i := 13) rfl)))
 have ha_c : s.arrayAt? s_c = some cl_c := Arr.fin (Vm.Alike.refl _) A_c
 have z_c := o_lenA v_c ha_c (o_eqI (Cond.before_iff.mp (hsets _ (List.mem_of_getElem? (i := 15) rfl))) (Term.int_eval _))
 have S_c := Sta.start v_c (Or.inr ⟨(hw _ o_t71), (hsets _ (List.mem_of_getElem? (i := 11) rfl))⟩)
 obtain ⟨c_0, t_c0, E_c0, F_c0⟩ := o_ent (j := 128) (v := 0) v_c rfl ha_c (by decide) (Cond.all_elim v_c ha_c (Cond.before_iff.mp (hsets _ (List.mem_of_getElem? (i := 16) rfl))) _ (by rw [z_c]; decide)) (by decide)
 obtain ⟨c_1, t_c1, E_c1, F_c1⟩ := o_ent (j := 129) (v := 1) v_c rfl ha_c (by decide) (Cond.all_elim v_c ha_c (Cond.before_iff.mp (hsets _ (List.mem_of_getElem? (i := 16) rfl))) _ (by rw [z_c]; decide)) (by decide)
 obtain ⟨c_2, t_c2, E_c2, F_c2⟩ := o_ent (j := 130) (v := 2) v_c rfl ha_c (by decide) (Cond.all_elim v_c ha_c (Cond.before_iff.mp (hsets _ (List.mem_of_getElem? (i := 16) rfl))) _ (by rw [z_c]; decide)) (by decide)
 obtain ⟨c_3, t_c3, E_c3, F_c3⟩ := o_ent (j := 131) (v := 3) v_c rfl ha_c (by decide) (Cond.all_elim v_c ha_c (Cond.before_iff.mp (hsets _ (List.mem_of_getElem? (i := 16) rfl))) _ (by rw [z_c]; decide)) (by decide)
 obtain ⟨c_4, t_c4, E_c4, F_c4⟩ := o_ent (j := 132) (v := 4) v_c rfl ha_c (by decide) (Cond.all_elim v_c ha_c (Cond.before_iff.mp (hsets _ (List.mem_of_getElem? (i := 16) rfl))) _ (by rw [z_c]; decide)) (by decide)
 obtain ⟨fm, v_fm, rf⟩ := isR_v (Cond.before_iff.mp (hsets _ (List.mem_of_getElem? (i := 25) rfl)))
 have S_fm := Sta.start v_fm (Or.inl (hsets _ (List.mem_of_getElem? (i := 24) rfl)))
 obtain ⟨z_cs, v_cs⟩ := is_v (Cond.before_iff.mp (hsets _ (List.mem_of_getElem? (i := 18) rfl)))
 have S_CS := Sta.start v_cs (Or.inl (hsets _ (List.mem_of_getElem? (i := 17) rfl)))
 have z_CS : ¬ z_cs = 0 := o_nz v_cs (Cond.before_iff.mp (hsets _ (List.mem_of_getElem? (i := 19) rfl)))
 have held : ∀ p ∈ o_EL, Jvm.Lit.constHeld s p.1 p.2 := fun p hp => by
  rw [List.mem_singleton] at hp
  subst hp
  exact hcalls.1 _ (List.mem_of_getElem? (i := 1) rfl)
 obtain ⟨n, o, h1, h2, h3, v, L, rfl, hQ, -, hq⟩ := rm0 l s _ hw tables_1 i0 i1 i2 i3 i4 i5 cl_e cl_c fm c_0 c_1 c_2 c_3 c_4 s_e 127 s_c z_cs s.heap s.heap.size (Nat.le_refl _) (Old.start s) A_e z_e A_c z_c rfl t_c0 E_c0 F_c0 t_c1 E_c1 F_c1 t_c2 E_c2 F_c2 t_c3 E_c3 F_c3 t_c4 E_c4 F_c4 S_fm rf z_CS S_e S_hi S_c S_CS p e ha hc hk s m _ below hf ((Spec.applies_iff_loose hf).mp happ).1 ⟨rfl, State.Warmed39.refl s, rfl, CHv.start (o_hEL hw) held (hsets _ (List.mem_of_getElem? (i := 19) rfl)) (hw _ (List.mem_of_getElem? (i := 11) rfl)) (hw _ (List.mem_of_getElem? (i := 10) rfl))⟩ trivial
 obtain ⟨hv, N, -⟩ := hQ
 rw [show (o_f0 i0 i1 i2 i3 i4 i5 : Int32) = 1 from o_eq i0 i1 i2 i3 i4 i5] at hv
 subst hv
 refine ⟨n, _, h1, h2, h3, hpost _ _ _ _ _ _ ⟨Cond.after_iff.mpr rfl, Cond.after_iff.mpr (eq_i res_at (Term.int_eval (1)) rfl)⟩ ⟨hq.1, hq.2.1, hq.2.2.1, (hq.2.2.2.sift fun y hy => Or.inr (N y hy)).mono (by decide) (by decide)⟩⟩
theorem main_1_1 : Claimed_1_1 := comes_1 fun _ _ _ _ _ _ h hF => ⟨h.1, hF⟩
theorem main_1_2 : Claimed_1_2 := comes_1 fun _ _ _ _ _ _ h hF => ⟨h.2, hF⟩
end Jvm.Pilot.@@N@@
namespace Jvm.Pilot.@@N@@
open Jvm Jvm.ClassFile Sem Op Lib Jvm.Free Jvm.Stand Jvm.Pilot.@@N@@.Jvm.D
/-! MADE BY PROGRAM (witnessworld.py) out of the Statement's table words and the real class files: 35 classes; the members and pool entries that the words name. The judged class is class 1, her method 4. -/
namespace start1
open Jvm.ClassFile
def u (s : String) : CpInfo := .utf8 (stringToUtf16 s)
/-- a pool by its gaps: so many unusable entries, then the entry; so many at the end -/
def gap : Nat → List CpInfo → List CpInfo
  | 0, r => r
  | n + 1, r => .unusable :: gap n r
def poolList (es : List (Nat × CpInfo)) (last : Nat) : List CpInfo := es.foldr (fun e r => gap e.1 (e.2 :: r)) (gap last [])
def pool (es : List (Nat × CpInfo)) (last : Nat) : Array CpInfo := ⟨poolList es last⟩
def fileOf (pool : Array CpInfo) (this : Nat) (attrs : Array Attribute := #[]) (ms : Array MethodInfo := #[]) (fl : Nat := 33) (sup : Nat := 0) (ifs : Array Nat := #[]) (fds : Array FieldInfo := #[]) : ClassFile where
  minorVersion := 0
  majorVersion := 65
  constantPool := pool
  accessFlags := fl
  thisClass := this
  superClass := sup
  interfaces := ifs
  fields := fds
  methods := ms
  attributes := attrs
def plain (name : String) (sup : Option ClassId) : Class where
  name := name
  kind := .ordinary
  loader := none
  accessFlags := 33
  super := sup
  interfaces := #[]
  cf := none
  fields := #[]
  methods := #[]
  instanceTypes := #[]
  staticTypes := #[]
  resolved := #[]
  callSites := []
  init := .initialized
  statics := none
  mirror := none

def pool0 : Array CpInfo := pool [(5, u "<init>"), (0, u "()V"), (1, .class_ 10), (1, u "java/lang/Object")] 113

def k0c0 : Code := { maxStack := 0, maxLocals := 1, code := object_method_1_code, exceptionTable := #[], attributes := #[] }
def k0m0 : Method := { name := "<init>", desc := "()V", sig := { parameters := [], returnType := none }, accessFlags := 1, code := some k0c0 }
/-- java/lang/Object -/
def k0 : Class := { plain "java/lang/Object" none with
  accessFlags := 33
  interfaces := #[]
  cf := some (fileOf pool0 8 #[] #[{ accessFlags := 1, nameIndex := 5, descriptorIndex := 6, attributes := #[] }] 33 0 #[] #[])
  fields := #[]
  methods := #[k0m0]
  instanceTypes := #[]
  staticTypes := #[]
  resolved := Array.replicate 124 none
  statics := none }

def pool1 : Array CpInfo := pool [(2, .class_ 4), (1, u "java/lang/Object"), (0, u "<init>"), (0, u "()V"), (0, .class_ 8), (0, u "java/lang/String"), (0, .methodref 7 10), (0, .nameAndType 5 11), (0, u "([C)V"), (0, .integer 2147483647), (0, .methodref 14 15), (0, .class_ 16), (0, .nameAndType 17 18), (0, u "com/example/foothold/foothold/SourceFileLinePinLaw"), (0, u "ch"), (0, u "(I)C"), (0, .class_ 20), (0, u "com/example/foothold/foothold/SourceFile"), (0, .string 22), (0, u "f"), (0, .methodref 14 24), (0, .nameAndType 25 26), (0, u "text"), (0, u "(ICCCC)Ljava/lang/String;"), (0, .methodref 19 28), (0, .nameAndType 5 29), (0, u "(Ljava/lang/String;Ljava/lang/String;)V"), (0, .methodref 14 31), (0, .nameAndType 32 33), (0, u "nl"), (0, u "(IIIC)I"), (0, .methodref 19 35), (0, .nameAndType 36 37), (0, u "line"), (0, u "(I)I"), (3, u "law"), (0, u "(IIIIII)Z")] 2

def k1m0 : Method := { name := "<init>", desc := "()V", sig := { parameters := [], returnType := none }, accessFlags := 1, code := none }
def k1c1 : Code := { maxStack := 2, maxLocals := 1, code := method_2_code, exceptionTable := #[], attributes := #[] }
def k1m1 : Method := { name := "ch", desc := "(I)C", sig := { parameters := [.int], returnType := some .char }, accessFlags := 10, code := some k1c1 }
def k1c2 : Code := { maxStack := 2, maxLocals := 4, code := method_3_code, exceptionTable := #[], attributes := #[] }
def k1m2 : Method := { name := "nl", desc := "(IIIC)I", sig := { parameters := [.int, .int, .int, .char], returnType := some .int }, accessFlags := 10, code := some k1c2 }
def k1c3 : Code := { maxStack := 6, maxLocals := 5, code := method_4_code, exceptionTable := #[], attributes := #[] }
def k1m3 : Method := { name := "text", desc := "(ICCCC)Ljava/lang/String;", sig := { parameters := [.int, .char, .char, .char, .char], returnType := some (.object "java/lang/String") }, accessFlags := 10, code := some k1c3 }
def k1c4 : Code := { maxStack := 8, maxLocals := 13, code := code, exceptionTable := #[], attributes := #[] }
def k1m4 : Method := { name := "law", desc := "(IIIIII)Z", sig := { parameters := [.int, .int, .int, .int, .int, .int], returnType := some .boolean }, accessFlags := 9, code := some k1c4 }
/-- com/example/foothold/foothold/SourceFileLinePinLaw -/
def k1 : Class := { plain "com/example/foothold/foothold/SourceFileLinePinLaw" (some 0) with
  accessFlags := 49
  interfaces := #[]
  cf := some (fileOf pool1 14 #[] #[{ accessFlags := 1, nameIndex := 5, descriptorIndex := 6, attributes := #[] }, { accessFlags := 10, nameIndex := 17, descriptorIndex := 18, attributes := #[] }, { accessFlags := 10, nameIndex := 32, descriptorIndex := 33, attributes := #[] }, { accessFlags := 10, nameIndex := 25, descriptorIndex := 26, attributes := #[] }, { accessFlags := 9, nameIndex := 41, descriptorIndex := 42, attributes := #[] }] 49 2 #[] #[])
  fields := #[]
  methods := #[k1m0, k1m1, k1m2, k1m3, k1m4]
  instanceTypes := #[]
  staticTypes := #[]
  resolved := Array.replicate 45 none
  statics := none }

def pool2 : Array CpInfo := pool [(1, .methodref 2 3), (0, .class_ 4), (0, .nameAndType 5 6), (0, u "java/lang/Object"), (0, u "<init>"), (0, u "()V"), (0, .fieldref 8 9), (0, .class_ 10), (0, .nameAndType 11 12), (0, u "com/example/foothold/foothold/SourceFile"), (0, u "name"), (0, u "Ljava/lang/String;"), (0, .fieldref 8 14), (0, .nameAndType 15 12), (0, u "text"), (0, .class_ 17), (0, u "java/util/ArrayList"), (0, .methodref 16 3), (0, .methodref 20 21), (0, .class_ 22), (0, .nameAndType 23 24), (0, u "java/lang/Integer"), (0, u "valueOf"), (0, u "(I)Ljava/lang/Integer;"), (0, .interfaceMethodref 26 27), (0, .class_ 28), (0, .nameAndType 29 30), (0, u "java/util/List"), (0, u "add"), (0, u "(Ljava/lang/Object;)Z"), (0, .methodref 32 33), (0, .class_ 34), (0, .nameAndType 35 36), (0, u "java/lang/String"), (0, u "length"), (0, u "()I"), (0, .methodref 32 38), (0, .nameAndType 39 40), (0, u "charAt"), (0, u "(I)C"), (0, .interfaceMethodref 26 42), (0, .nameAndType 43 36), (0, u "size"), (0, .fieldref 8 45), (0, .nameAndType 46 47), (0, u "lineStarts"), (0, u "[I"), (0, .interfaceMethodref 26 49), (0, .nameAndType 50 51), (0, u "get"), (0, u "(I)Ljava/lang/Object;"), (0, .methodref 20 53), (0, .nameAndType 54 36), (0, u "intValue"), (2, u "line"), (0, u "(I)I"), (36, u "(Ljava/lang/String;Ljava/lang/String;)V")] 22

def k2c0 : Code := { maxStack := 4, maxLocals := 5, code := prog_92_method_1_code, exceptionTable := #[], attributes := #[] }
def k2m0 : Method := { name := "<init>", desc := "(Ljava/lang/String;Ljava/lang/String;)V", sig := { parameters := [(.object "java/lang/String"), (.object "java/lang/String")], returnType := none }, accessFlags := 0, code := some k2c0 }
def k2c1 : Code := { maxStack := 2, maxLocals := 5, code := prog_92_method_4_code, exceptionTable := #[], attributes := #[] }
def k2m1 : Method := { name := "line", desc := "(I)I", sig := { parameters := [.int], returnType := some .int }, accessFlags := 0, code := some k2c1 }
/-- com/example/foothold/foothold/SourceFile -/
def k2 : Class := { plain "com/example/foothold/foothold/SourceFile" (some 0) with
  accessFlags := 48
  interfaces := #[]
  cf := some (fileOf pool2 8 #[] #[{ accessFlags := 0, nameIndex := 5, descriptorIndex := 95, attributes := #[] }, { accessFlags := 0, nameIndex := 57, descriptorIndex := 58, attributes := #[] }] 48 2 #[] #[{ accessFlags := 18, nameIndex := 11, descriptorIndex := 12, attributes := #[] }, { accessFlags := 18, nameIndex := 15, descriptorIndex := 12, attributes := #[] }, { accessFlags := 18, nameIndex := 46, descriptorIndex := 47, attributes := #[] }])
  fields := #[{ name := "name", type := (.object "java/lang/String"), accessFlags := 18, slot := 0, constantValue := 0 }, { name := "text", type := (.object "java/lang/String"), accessFlags := 18, slot := 1, constantValue := 0 }, { name := "lineStarts", type := (.array .int), accessFlags := 18, slot := 2, constantValue := 0 }]
  methods := #[k2m0, k2m1]
  instanceTypes := #[(.object "java/lang/String"), (.object "java/lang/String"), (.array .int)]
  staticTypes := #[]
  resolved := Array.replicate 118 none
  statics := none }

def pool3 : Array CpInfo := pool [(1, .class_ 2), (0, u "java/io/Serializable"), (0, .class_ 4), (0, u "java/lang/Object")] 2

/-- java/io/Serializable -/
def k3 : Class := { plain "java/io/Serializable" (some 0) with
  accessFlags := 1537
  interfaces := #[]
  cf := some (fileOf pool3 1 #[] #[] 1537 3 #[] #[])
  fields := #[]
  methods := #[]
  instanceTypes := #[]
  staticTypes := #[]
  resolved := Array.replicate 7 none
  statics := none }

def pool4 : Array CpInfo := pool [(1, .class_ 2), (0, u "java/lang/Comparable"), (0, .class_ 4), (0, u "java/lang/Object")] 7

/-- java/lang/Comparable -/
def k4 : Class := { plain "java/lang/Comparable" (some 0) with
  accessFlags := 1537
  interfaces := #[]
  cf := some (fileOf pool4 1 #[] #[] 1537 3 #[] #[])
  fields := #[]
  methods := #[]
  instanceTypes := #[]
  staticTypes := #[]
  resolved := Array.replicate 12 none
  statics := none }

def pool5 : Array CpInfo := pool [(2, .class_ 4), (1, u "java/lang/CharSequence"), (42, .class_ 48), (0, u "java/lang/CharSequence$1CodePointIterator"), (10, .class_ 60), (0, u "java/lang/CharSequence$1CharIterator"), (5, .class_ 67), (0, u "java/lang/Object")] 63

/-- java/lang/CharSequence -/
def k5 : Class := { plain "java/lang/CharSequence" (some 0) with
  accessFlags := 1537
  interfaces := #[]
  cf := some (fileOf pool5 2 #[.nestMembers #[47, 59]] #[] 1537 66 #[] #[])
  fields := #[]
  methods := #[]
  instanceTypes := #[]
  staticTypes := #[]
  resolved := Array.replicate 131 none
  statics := none }

def pool6 : Array CpInfo := pool [(1, .class_ 2), (0, u "java/lang/constant/Constable"), (0, .class_ 4), (0, u "java/lang/Object")] 6

/-- java/lang/constant/Constable -/
def k6 : Class := { plain "java/lang/constant/Constable" (some 0) with
  accessFlags := 1537
  interfaces := #[]
  cf := some (fileOf pool6 1 #[] #[] 1537 3 #[] #[])
  fields := #[]
  methods := #[]
  instanceTypes := #[]
  staticTypes := #[]
  resolved := Array.replicate 11 none
  statics := none }

def pool7 : Array CpInfo := pool [(1, .class_ 2), (0, u "java/lang/constant/ConstantDesc"), (0, .class_ 4), (0, u "java/lang/Object")] 32

/-- java/lang/constant/ConstantDesc -/
def k7 : Class := { plain "java/lang/constant/ConstantDesc" (some 0) with
  accessFlags := 1537
  interfaces := #[]
  cf := some (fileOf pool7 1 #[] #[] 1537 3 #[] #[])
  fields := #[]
  methods := #[]
  instanceTypes := #[]
  staticTypes := #[]
  resolved := Array.replicate 37 none
  statics := none }

def pool8 : Array CpInfo := pool [(1, .methodref 2 3), (0, .class_ 4), (0, .nameAndType 5 6), (0, u "java/lang/Object"), (0, u "<init>"), (0, u "()V"), (0, .string 8), (0, u ""), (0, .fieldref 10 11), (0, .class_ 12), (0, .nameAndType 13 14), (0, u "java/lang/String"), (0, u "value"), (0, u "[B"), (0, .fieldref 10 16), (0, .nameAndType 17 18), (0, u "coder"), (0, u "B"), (2, u "hash"), (0, u "I"), (2, u "hashIsZero"), (0, u "Z"), (0, .methodref 10 28), (0, .nameAndType 5 29), (0, u "([CIILjava/lang/Void;)V"), (8, .fieldref 10 39), (0, .nameAndType 40 26), (0, u "COMPACT_STRINGS"), (1, .class_ 44), (1, u "java/lang/StringUTF16"), (0, u "compress"), (1, .methodref 42 48), (0, .nameAndType 49 50), (0, u "coderFromArrayLen"), (0, u "([BI)B"), (56, .class_ 109), (1, u "java/lang/StringLatin1"), (32, u "()Z"), (34, .methodref 42 178), (0, .nameAndType 45 179), (0, u "([CII)[B"), (154, u "()I"), (0, .methodref 10 336), (0, .nameAndType 17 337), (0, u "()B"), (25, u "([BI)C"), (27, u "(II)V"), (35, u "(I)C"), (64, .methodref 10 493), (0, .nameAndType 494 142), (0, u "isLatin1"), (0, .methodref 107 496), (0, .nameAndType 497 363), (0, u "charAt"), (3, u "checkIndex"), (5, u "length"), (67, .class_ 576), (0, u "java/lang/CharSequence"), (22, u "CASE_INSENSITIVE_ORDER"), (0, u "Ljava/util/Comparator;"), (409, u "([C)V"), (42, .fieldref 1054 1055), (0, .class_ 1056), (0, .nameAndType 1057 1058), (0, u "jdk/internal/util/Preconditions"), (0, u "SIOOBE_FORMATTER"), (0, u "Ljava/util/function/BiFunction;"), (0, .methodref 1054 1060), (0, .nameAndType 501 1061), (0, u "(IILjava/util/function/BiFunction;)I"), (39, u "serialPersistentFields"), (0, u "[Ljava/io/ObjectStreamField;"), (0, .class_ 1104), (0, u "java/lang/String$CaseInsensitiveComparator"), (1, .class_ 1107), (0, u "java/io/Serializable"), (0, .class_ 1109), (0, u "java/lang/Comparable"), (0, .class_ 1111), (0, u "java/lang/constant/Constable"), (0, .class_ 1113), (0, u "java/lang/constant/ConstantDesc"), (2, u "serialVersionUID"), (0, u "J"), (3, u "REPL"), (0, u "C"), (2, u "LATIN1"), (1, u "UTF16")] 323

def k8m0 : Method := { name := "<init>", desc := "()V", sig := { parameters := [], returnType := none }, accessFlags := 1, code := none }
def k8c1 : Code := { maxStack := 5, maxLocals := 2, code := jdk_42_method_3_code, exceptionTable := #[], attributes := #[] }
def k8m1 : Method := { name := "<init>", desc := "([C)V", sig := { parameters := [(.array .char)], returnType := none }, accessFlags := 1, code := some k8c1 }
def k8c2 : Code := { maxStack := 2, maxLocals := 1, code := jdk_42_method_54_code, exceptionTable := #[], attributes := #[] }
def k8m2 : Method := { name := "length", desc := "()I", sig := { parameters := [], returnType := some .int }, accessFlags := 1, code := some k8c2 }
def k8c3 : Code := { maxStack := 2, maxLocals := 2, code := jdk_42_method_56_code, exceptionTable := #[], attributes := #[] }
def k8m3 : Method := { name := "charAt", desc := "(I)C", sig := { parameters := [.int], returnType := some .char }, accessFlags := 1, code := some k8c3 }
def k8c4 : Code := { maxStack := 4, maxLocals := 6, code := jdk_42_method_149_code, exceptionTable := #[], attributes := #[] }
def k8m4 : Method := { name := "<init>", desc := "([CIILjava/lang/Void;)V", sig := { parameters := [(.array .char), .int, .int, (.object "java/lang/Void")], returnType := none }, accessFlags := 2, code := some k8c4 }
def k8c5 : Code := { maxStack := 1, maxLocals := 1, code := jdk_42_method_152_code, exceptionTable := #[], attributes := #[] }
def k8m5 : Method := { name := "coder", desc := "()B", sig := { parameters := [], returnType := some .byte }, accessFlags := 0, code := some k8c5 }
def k8c6 : Code := { maxStack := 1, maxLocals := 1, code := jdk_42_method_154_code, exceptionTable := #[], attributes := #[] }
def k8m6 : Method := { name := "isLatin1", desc := "()Z", sig := { parameters := [], returnType := some .boolean }, accessFlags := 0, code := some k8c6 }
def k8c7 : Code := { maxStack := 3, maxLocals := 2, code := jdk_42_method_155_code, exceptionTable := #[], attributes := #[] }
def k8m7 : Method := { name := "checkIndex", desc := "(II)V", sig := { parameters := [.int, .int], returnType := none }, accessFlags := 8, code := some k8c7 }
/-- java/lang/String -/
def k8 : Class := { plain "java/lang/String" (some 0) with
  accessFlags := 49
  interfaces := #[3, 4, 5, 6, 7]
  cf := some (fileOf pool8 10 #[.nestMembers #[1103]] #[{ accessFlags := 1, nameIndex := 5, descriptorIndex := 6, attributes := #[] }, { accessFlags := 1, nameIndex := 5, descriptorIndex := 1010, attributes := #[] }, { accessFlags := 1, nameIndex := 507, descriptorIndex := 334, attributes := #[] }, { accessFlags := 1, nameIndex := 497, descriptorIndex := 427, attributes := #[] }, { accessFlags := 2, nameIndex := 5, descriptorIndex := 29, attributes := #[] }, { accessFlags := 0, nameIndex := 17, descriptorIndex := 337, attributes := #[] }, { accessFlags := 0, nameIndex := 494, descriptorIndex := 142, attributes := #[] }, { accessFlags := 8, nameIndex := 501, descriptorIndex := 391, attributes := #[] }] 49 2 #[1106, 1108, 575, 1110, 1112] #[{ accessFlags := 18, nameIndex := 13, descriptorIndex := 14, attributes := #[] }, { accessFlags := 18, nameIndex := 17, descriptorIndex := 18, attributes := #[] }, { accessFlags := 2, nameIndex := 21, descriptorIndex := 22, attributes := #[] }, { accessFlags := 2, nameIndex := 25, descriptorIndex := 26, attributes := #[] }, { accessFlags := 26, nameIndex := 1116, descriptorIndex := 1117, attributes := #[] }, { accessFlags := 24, nameIndex := 40, descriptorIndex := 26, attributes := #[] }, { accessFlags := 26, nameIndex := 1101, descriptorIndex := 1102, attributes := #[] }, { accessFlags := 26, nameIndex := 1121, descriptorIndex := 1122, attributes := #[] }, { accessFlags := 25, nameIndex := 599, descriptorIndex := 600, attributes := #[] }, { accessFlags := 24, nameIndex := 1125, descriptorIndex := 18, attributes := #[] }, { accessFlags := 24, nameIndex := 1127, descriptorIndex := 18, attributes := #[] }])
  fields := #[{ name := "value", type := (.array .byte), accessFlags := 18, slot := 0, constantValue := 0 }, { name := "coder", type := .byte, accessFlags := 18, slot := 1, constantValue := 0 }, { name := "hash", type := .int, accessFlags := 2, slot := 2, constantValue := 0 }, { name := "hashIsZero", type := .boolean, accessFlags := 2, slot := 3, constantValue := 0 }, { name := "serialVersionUID", type := .long, accessFlags := 26, slot := 0, constantValue := 0 }, { name := "COMPACT_STRINGS", type := .boolean, accessFlags := 24, slot := 1, constantValue := 0 }, { name := "serialPersistentFields", type := (.array (.object "java/io/ObjectStreamField")), accessFlags := 26, slot := 2, constantValue := 0 }, { name := "REPL", type := .char, accessFlags := 26, slot := 3, constantValue := 0 }, { name := "CASE_INSENSITIVE_ORDER", type := (.object "java/util/Comparator"), accessFlags := 25, slot := 4, constantValue := 0 }, { name := "LATIN1", type := .byte, accessFlags := 24, slot := 5, constantValue := 0 }, { name := "UTF16", type := .byte, accessFlags := 24, slot := 6, constantValue := 0 }]
  methods := #[k8m0, k8m1, k8m2, k8m3, k8m4, k8m5, k8m6, k8m7]
  instanceTypes := #[(.array .byte), .byte, .int, .boolean]
  staticTypes := #[.long, .boolean, (.array (.object "java/io/ObjectStreamField")), .char, (.object "java/util/Comparator"), .byte, .byte]
  resolved := Array.replicate 1451 none
  statics := some 0 }

def pool9 : Array CpInfo := pool [(8, .class_ 10), (1, u "java/lang/Iterable"), (24, .class_ 36), (0, u "java/lang/Object")] 25

/-- java/lang/Iterable -/
def k9 : Class := { plain "java/lang/Iterable" (some 0) with
  accessFlags := 1537
  interfaces := #[]
  cf := some (fileOf pool9 8 #[] #[] 1537 35 #[] #[])
  fields := #[]
  methods := #[]
  instanceTypes := #[]
  staticTypes := #[]
  resolved := Array.replicate 62 none
  statics := none }

def pool10 : Array CpInfo := pool [(10, .class_ 12), (1, u "java/util/Collection"), (47, .class_ 61), (0, u "java/lang/Object"), (0, .class_ 63), (0, u "java/lang/Iterable")] 51

/-- java/util/Collection -/
def k10 : Class := { plain "java/util/Collection" (some 0) with
  accessFlags := 1537
  interfaces := #[9]
  cf := some (fileOf pool10 10 #[] #[] 1537 60 #[62] #[])
  fields := #[]
  methods := #[]
  instanceTypes := #[]
  staticTypes := #[]
  resolved := Array.replicate 115 none
  statics := none }

def pool11 : Array CpInfo := pool [(1, .methodref 2 3), (0, .class_ 4), (0, .nameAndType 5 6), (0, u "java/lang/Object"), (0, u "<init>"), (0, u "()V"), (1, .class_ 10), (1, u "java/util/AbstractCollection"), (66, .class_ 78), (0, u "java/util/Collection")] 81

def k11c0 : Code := { maxStack := 1, maxLocals := 1, code := jdk_22_method_1_code, exceptionTable := #[], attributes := #[] }
def k11m0 : Method := { name := "<init>", desc := "()V", sig := { parameters := [], returnType := none }, accessFlags := 4, code := some k11c0 }
/-- java/util/AbstractCollection -/
def k11 : Class := { plain "java/util/AbstractCollection" (some 0) with
  accessFlags := 1057
  interfaces := #[10]
  cf := some (fileOf pool11 8 #[] #[{ accessFlags := 4, nameIndex := 5, descriptorIndex := 6, attributes := #[] }] 1057 2 #[77] #[])
  fields := #[]
  methods := #[k11m0]
  instanceTypes := #[]
  staticTypes := #[]
  resolved := Array.replicate 160 none
  statics := none }

def pool12 : Array CpInfo := pool [(8, .class_ 10), (1, u "java/util/SequencedCollection"), (15, .class_ 27), (0, u "java/lang/Object"), (0, .class_ 29), (0, u "java/util/Collection")] 27

/-- java/util/SequencedCollection -/
def k12 : Class := { plain "java/util/SequencedCollection" (some 0) with
  accessFlags := 1537
  interfaces := #[10]
  cf := some (fileOf pool12 8 #[] #[] 1537 26 #[28] #[])
  fields := #[]
  methods := #[]
  instanceTypes := #[]
  staticTypes := #[]
  resolved := Array.replicate 57 none
  statics := none }

def pool13 : Array CpInfo := pool [(8, .class_ 10), (1, u "java/util/List"), (49, u "add"), (3, u "(Ljava/lang/Object;)Z"), (10, u "get"), (0, u "(I)Ljava/lang/Object;"), (2, u "size"), (0, u "()I"), (22, .class_ 104), (0, u "java/lang/Object"), (15, .class_ 121), (0, u "java/util/SequencedCollection")] 129

def k13m0 : Method := { name := "size", desc := "()I", sig := { parameters := [], returnType := some .int }, accessFlags := 1025, code := none }
def k13m1 : Method := { name := "add", desc := "(Ljava/lang/Object;)Z", sig := { parameters := [(.object "java/lang/Object")], returnType := some .boolean }, accessFlags := 1025, code := none }
def k13m2 : Method := { name := "get", desc := "(I)Ljava/lang/Object;", sig := { parameters := [.int], returnType := some (.object "java/lang/Object") }, accessFlags := 1025, code := none }
/-- java/util/List -/
def k13 : Class := { plain "java/util/List" (some 0) with
  accessFlags := 1537
  interfaces := #[12]
  cf := some (fileOf pool13 8 #[] #[{ accessFlags := 1025, nameIndex := 79, descriptorIndex := 80, attributes := #[] }, { accessFlags := 1025, nameIndex := 60, descriptorIndex := 64, attributes := #[] }, { accessFlags := 1025, nameIndex := 75, descriptorIndex := 76, attributes := #[] }] 1537 103 #[120] #[])
  fields := #[]
  methods := #[k13m0, k13m1, k13m2]
  instanceTypes := #[]
  staticTypes := #[]
  resolved := Array.replicate 251 none
  statics := none }

def pool14 : Array CpInfo := pool [(1, .methodref 2 3), (0, .class_ 4), (0, .nameAndType 5 6), (0, u "java/util/AbstractCollection"), (0, u "<init>"), (0, u "()V"), (0, .fieldref 8 9), (0, .class_ 10), (0, .nameAndType 11 12), (0, u "java/util/AbstractList"), (0, u "modCount"), (0, u "I"), (64, .class_ 78), (0, u "java/util/AbstractList$Itr"), (3, .class_ 83), (0, u "java/util/AbstractList$ListItr"), (9, .class_ 94), (0, u "java/util/AbstractList$RandomAccessSubList"), (3, .class_ 99), (0, u "java/util/AbstractList$SubList"), (33, .class_ 134), (0, u "java/util/List"), (73, .class_ 209), (0, u "java/util/AbstractList$SubList$1"), (0, .class_ 211), (0, u "java/util/AbstractList$RandomAccessSpliterator")] 6

def k14c0 : Code := { maxStack := 2, maxLocals := 1, code := jdk_39_method_1_code, exceptionTable := #[], attributes := #[] }
def k14m0 : Method := { name := "<init>", desc := "()V", sig := { parameters := [], returnType := none }, accessFlags := 4, code := some k14c0 }
/-- java/util/AbstractList -/
def k14 : Class := { plain "java/util/AbstractList" (some 11) with
  accessFlags := 1057
  interfaces := #[13]
  cf := some (fileOf pool14 8 #[.nestMembers #[93, 98, 208, 210, 82, 77]] #[{ accessFlags := 4, nameIndex := 5, descriptorIndex := 6, attributes := #[] }] 1057 2 #[133] #[{ accessFlags := 132, nameIndex := 11, descriptorIndex := 12, attributes := #[] }])
  fields := #[{ name := "modCount", type := .int, accessFlags := 132, slot := 0, constantValue := 0 }]
  methods := #[k14m0]
  instanceTypes := #[.int]
  staticTypes := #[]
  resolved := Array.replicate 218 none
  statics := none }

def pool15 : Array CpInfo := pool [(1, .class_ 2), (0, u "java/util/RandomAccess"), (0, .class_ 4), (0, u "java/lang/Object")] 2

/-- java/util/RandomAccess -/
def k15 : Class := { plain "java/util/RandomAccess" (some 0) with
  accessFlags := 1537
  interfaces := #[]
  cf := some (fileOf pool15 1 #[] #[] 1537 3 #[] #[])
  fields := #[]
  methods := #[]
  instanceTypes := #[]
  staticTypes := #[]
  resolved := Array.replicate 7 none
  statics := none }

def pool16 : Array CpInfo := pool [(1, .class_ 2), (0, u "java/lang/Cloneable"), (0, .class_ 4), (0, u "java/lang/Object")] 2

/-- java/lang/Cloneable -/
def k16 : Class := { plain "java/lang/Cloneable" (some 0) with
  accessFlags := 1537
  interfaces := #[]
  cf := some (fileOf pool16 1 #[] #[] 1537 3 #[] #[])
  fields := #[]
  methods := #[]
  instanceTypes := #[]
  staticTypes := #[]
  resolved := Array.replicate 7 none
  statics := none }

def pool17 : Array CpInfo := pool [(1, .methodref 2 3), (0, .class_ 4), (0, .nameAndType 5 6), (0, u "java/util/AbstractList"), (0, u "<init>"), (0, u "()V"), (0, .class_ 8), (0, u "java/lang/Object"), (0, .fieldref 10 11), (0, .class_ 12), (0, .nameAndType 13 14), (0, u "java/util/ArrayList"), (0, u "elementData"), (0, u "[Ljava/lang/Object;"), (2, u "EMPTY_ELEMENTDATA"), (21, .fieldref 10 40), (0, .nameAndType 41 14), (0, u "DEFAULTCAPACITY_EMPTY_ELEMENTDATA"), (5, u "()[Ljava/lang/Object;"), (0, .fieldref 10 49), (0, .nameAndType 50 51), (0, u "size"), (0, u "I"), (11, .fieldref 10 64), (0, .nameAndType 65 51), (0, u "modCount"), (3, .methodref 10 70), (0, .nameAndType 71 72), (0, u "grow"), (0, u "(I)[Ljava/lang/Object;"), (6, .methodref 80 81), (0, .class_ 82), (0, .nameAndType 83 84), (0, u "java/lang/Math"), (0, u "max"), (0, u "(II)I"), (11, u "(Ljava/lang/Object;)Z"), (21, .methodref 119 120), (0, .class_ 121), (0, .nameAndType 122 84), (0, u "java/util/Objects"), (0, u "checkIndex"), (0, .methodref 10 124), (0, .nameAndType 13 125), (0, u "(I)Ljava/lang/Object;"), (3, .methodref 10 130), (0, .nameAndType 71 47), (0, .methodref 10 132), (0, .nameAndType 133 134), (0, u "add"), (0, u "(Ljava/lang/Object;[Ljava/lang/Object;I)V"), (13, .class_ 149), (0, u "java/util/List"), (36, u "()I"), (75, .class_ 263), (0, u "java/util/ArrayList$ListItr"), (3, .class_ 268), (0, u "java/util/ArrayList$Itr"), (7, .class_ 277), (0, u "java/util/ArrayList$SubList"), (12, .class_ 291), (0, u "java/util/ArrayList$ArrayListSpliterator"), (37, .class_ 330), (0, u "java/util/RandomAccess"), (0, .class_ 332), (0, u "java/lang/Cloneable"), (0, .class_ 334), (0, u "java/io/Serializable"), (0, u "serialVersionUID"), (0, u "J"), (3, u "DEFAULT_CAPACITY"), (40, u "get"), (118, .class_ 501), (0, u "java/util/ArrayList$SubList$2"), (0, .class_ 503), (0, u "java/util/ArrayList$SubList$1")] 5

def k17c0 : Code := { maxStack := 2, maxLocals := 1, code := jdk_38_method_2_code, exceptionTable := #[], attributes := #[] }
def k17m0 : Method := { name := "<init>", desc := "()V", sig := { parameters := [], returnType := none }, accessFlags := 1, code := some k17c0 }
def k17c1 : Code := { maxStack := 4, maxLocals := 4, code := jdk_38_method_6_code, exceptionTable := #[], attributes := #[] }
def k17m1 : Method := { name := "grow", desc := "(I)[Ljava/lang/Object;", sig := { parameters := [.int], returnType := some (.array (.object "java/lang/Object")) }, accessFlags := 2, code := some k17c1 }
def k17c2 : Code := { maxStack := 3, maxLocals := 1, code := jdk_38_method_7_code, exceptionTable := #[], attributes := #[] }
def k17m2 : Method := { name := "grow", desc := "()[Ljava/lang/Object;", sig := { parameters := [], returnType := some (.array (.object "java/lang/Object")) }, accessFlags := 2, code := some k17c2 }
def k17c3 : Code := { maxStack := 1, maxLocals := 1, code := jdk_38_method_8_code, exceptionTable := #[], attributes := #[] }
def k17m3 : Method := { name := "size", desc := "()I", sig := { parameters := [], returnType := some .int }, accessFlags := 1, code := some k17c3 }
def k17c4 : Code := { maxStack := 2, maxLocals := 2, code := jdk_38_method_18_code, exceptionTable := #[], attributes := #[] }
def k17m4 : Method := { name := "elementData", desc := "(I)Ljava/lang/Object;", sig := { parameters := [.int], returnType := some (.object "java/lang/Object") }, accessFlags := 0, code := some k17c4 }
def k17c5 : Code := { maxStack := 2, maxLocals := 2, code := jdk_38_method_20_code, exceptionTable := #[], attributes := #[] }
def k17m5 : Method := { name := "get", desc := "(I)Ljava/lang/Object;", sig := { parameters := [.int], returnType := some (.object "java/lang/Object") }, accessFlags := 1, code := some k17c5 }
def k17c6 : Code := { maxStack := 3, maxLocals := 4, code := jdk_38_method_24_code, exceptionTable := #[], attributes := #[] }
def k17m6 : Method := { name := "add", desc := "(Ljava/lang/Object;[Ljava/lang/Object;I)V", sig := { parameters := [(.object "java/lang/Object"), (.array (.object "java/lang/Object")), .int], returnType := none }, accessFlags := 2, code := some k17c6 }
def k17c7 : Code := { maxStack := 4, maxLocals := 2, code := jdk_38_method_25_code, exceptionTable := #[], attributes := #[] }
def k17m7 : Method := { name := "add", desc := "(Ljava/lang/Object;)Z", sig := { parameters := [(.object "java/lang/Object")], returnType := some .boolean }, accessFlags := 1, code := some k17c7 }
/-- java/util/ArrayList -/
def k17 : Class := { plain "java/util/ArrayList" (some 14) with
  accessFlags := 33
  interfaces := #[13, 15, 16, 3]
  cf := some (fileOf pool17 10 #[.nestMembers #[290, 276, 500, 502, 262, 267]] #[{ accessFlags := 1, nameIndex := 5, descriptorIndex := 6, attributes := #[] }, { accessFlags := 2, nameIndex := 71, descriptorIndex := 72, attributes := #[] }, { accessFlags := 2, nameIndex := 71, descriptorIndex := 47, attributes := #[] }, { accessFlags := 1, nameIndex := 50, descriptorIndex := 186, attributes := #[] }, { accessFlags := 0, nameIndex := 13, descriptorIndex := 125, attributes := #[] }, { accessFlags := 1, nameIndex := 381, descriptorIndex := 125, attributes := #[] }, { accessFlags := 2, nameIndex := 133, descriptorIndex := 134, attributes := #[] }, { accessFlags := 1, nameIndex := 133, descriptorIndex := 96, attributes := #[] }] 33 2 #[148, 329, 331, 333] #[{ accessFlags := 26, nameIndex := 335, descriptorIndex := 336, attributes := #[] }, { accessFlags := 26, nameIndex := 340, descriptorIndex := 51, attributes := #[] }, { accessFlags := 26, nameIndex := 17, descriptorIndex := 14, attributes := #[] }, { accessFlags := 26, nameIndex := 41, descriptorIndex := 14, attributes := #[] }, { accessFlags := 128, nameIndex := 13, descriptorIndex := 14, attributes := #[] }, { accessFlags := 2, nameIndex := 50, descriptorIndex := 51, attributes := #[] }])
  fields := #[{ name := "serialVersionUID", type := .long, accessFlags := 26, slot := 0, constantValue := 0 }, { name := "DEFAULT_CAPACITY", type := .int, accessFlags := 26, slot := 1, constantValue := 0 }, { name := "EMPTY_ELEMENTDATA", type := (.array (.object "java/lang/Object")), accessFlags := 26, slot := 2, constantValue := 0 }, { name := "DEFAULTCAPACITY_EMPTY_ELEMENTDATA", type := (.array (.object "java/lang/Object")), accessFlags := 26, slot := 3, constantValue := 0 }, { name := "elementData", type := (.array (.object "java/lang/Object")), accessFlags := 128, slot := 1, constantValue := 0 }, { name := "size", type := .int, accessFlags := 2, slot := 2, constantValue := 0 }]
  methods := #[k17m0, k17m1, k17m2, k17m3, k17m4, k17m5, k17m6, k17m7]
  instanceTypes := #[.int, (.array (.object "java/lang/Object")), .int]
  staticTypes := #[.long, .int, (.array (.object "java/lang/Object")), (.array (.object "java/lang/Object"))]
  resolved := Array.replicate 509 none
  statics := some 1 }

def pool18 : Array CpInfo := pool [(2, .class_ 4), (1, u "java/lang/Object"), (0, u "<init>"), (0, u "()V"), (1, .class_ 10), (1, u "java/lang/Number"), (2, .class_ 14), (0, u "java/io/Serializable"), (0, u "serialVersionUID"), (0, u "J")] 20

def k18m0 : Method := { name := "<init>", desc := "()V", sig := { parameters := [], returnType := none }, accessFlags := 1, code := none }
/-- java/lang/Number -/
def k18 : Class := { plain "java/lang/Number" (some 0) with
  accessFlags := 1057
  interfaces := #[3]
  cf := some (fileOf pool18 8 #[] #[{ accessFlags := 1, nameIndex := 5, descriptorIndex := 6, attributes := #[] }] 1057 2 #[13] #[{ accessFlags := 26, nameIndex := 15, descriptorIndex := 16, attributes := #[] }])
  fields := #[{ name := "serialVersionUID", type := .long, accessFlags := 26, slot := 0, constantValue := 0 }]
  methods := #[k18m0]
  instanceTypes := #[]
  staticTypes := #[.long]
  resolved := Array.replicate 37 none
  statics := none }

def pool19 : Array CpInfo := pool [(1, .class_ 2), (0, u "java/lang/Integer"), (16, u "digits"), (0, u "[C"), (64, u "DigitOnes"), (0, u "[B"), (2, u "DigitTens"), (31, u "()I"), (65, u "valueOf"), (0, u "(I)Ljava/lang/Integer;"), (0, .class_ 190), (0, u "java/lang/Integer$IntegerCache"), (0, .fieldref 189 192), (0, .nameAndType 193 194), (0, u "high"), (0, u "I"), (0, .fieldref 189 196), (0, .nameAndType 197 198), (0, u "cache"), (0, u "[Ljava/lang/Integer;"), (4, .class_ 204), (0, u "java/lang/Number"), (0, .fieldref 1 206), (0, .nameAndType 207 194), (0, u "value"), (5, u "intValue"), (88, u "TYPE"), (0, u "Ljava/lang/Class;"), (0, .class_ 305), (0, u "java/lang/Comparable"), (0, .class_ 307), (0, u "java/lang/constant/Constable"), (0, .class_ 309), (0, u "java/lang/constant/ConstantDesc"), (0, u "MIN_VALUE"), (1, u "MAX_VALUE"), (3, u "SIZE"), (1, u "BYTES"), (1, u "serialVersionUID"), (0, u "J")] 131

def k19c0 : Code := { maxStack := 3, maxLocals := 1, code := jdk_33_method_22_code, exceptionTable := #[], attributes := #[] }
def k19m0 : Method := { name := "valueOf", desc := "(I)Ljava/lang/Integer;", sig := { parameters := [.int], returnType := some (.object "java/lang/Integer") }, accessFlags := 9, code := some k19c0 }
def k19c1 : Code := { maxStack := 1, maxLocals := 1, code := jdk_33_method_27_code, exceptionTable := #[], attributes := #[] }
def k19m1 : Method := { name := "intValue", desc := "()I", sig := { parameters := [], returnType := some .int }, accessFlags := 1, code := some k19c1 }
/-- java/lang/Integer -/
def k19 : Class := { plain "java/lang/Integer" (some 18) with
  accessFlags := 49
  interfaces := #[4, 6, 7]
  cf := some (fileOf pool19 1 #[.nestMembers #[189]] #[{ accessFlags := 9, nameIndex := 187, descriptorIndex := 188, attributes := #[] }, { accessFlags := 1, nameIndex := 213, descriptorIndex := 121, attributes := #[] }] 49 203 #[304, 306, 308] #[{ accessFlags := 25, nameIndex := 310, descriptorIndex := 194, attributes := #[] }, { accessFlags := 25, nameIndex := 312, descriptorIndex := 194, attributes := #[] }, { accessFlags := 25, nameIndex := 302, descriptorIndex := 303, attributes := #[] }, { accessFlags := 24, nameIndex := 19, descriptorIndex := 20, attributes := #[] }, { accessFlags := 24, nameIndex := 89, descriptorIndex := 86, attributes := #[] }, { accessFlags := 24, nameIndex := 85, descriptorIndex := 86, attributes := #[] }, { accessFlags := 18, nameIndex := 207, descriptorIndex := 194, attributes := #[] }, { accessFlags := 25, nameIndex := 316, descriptorIndex := 194, attributes := #[] }, { accessFlags := 25, nameIndex := 318, descriptorIndex := 194, attributes := #[] }, { accessFlags := 26, nameIndex := 320, descriptorIndex := 321, attributes := #[] }])
  fields := #[{ name := "MIN_VALUE", type := .int, accessFlags := 25, slot := 0, constantValue := 0 }, { name := "MAX_VALUE", type := .int, accessFlags := 25, slot := 1, constantValue := 0 }, { name := "TYPE", type := (.object "java/lang/Class"), accessFlags := 25, slot := 2, constantValue := 0 }, { name := "digits", type := (.array .char), accessFlags := 24, slot := 3, constantValue := 0 }, { name := "DigitTens", type := (.array .byte), accessFlags := 24, slot := 4, constantValue := 0 }, { name := "DigitOnes", type := (.array .byte), accessFlags := 24, slot := 5, constantValue := 0 }, { name := "value", type := .int, accessFlags := 18, slot := 0, constantValue := 0 }, { name := "SIZE", type := .int, accessFlags := 25, slot := 6, constantValue := 0 }, { name := "BYTES", type := .int, accessFlags := 25, slot := 7, constantValue := 0 }, { name := "serialVersionUID", type := .long, accessFlags := 26, slot := 8, constantValue := 0 }]
  methods := #[k19m0, k19m1]
  instanceTypes := #[.int]
  staticTypes := #[.int, .int, (.object "java/lang/Class"), (.array .char), (.array .byte), (.array .byte), .int, .int, .long]
  resolved := Array.replicate 453 none
  statics := none }

def pool20 : Array CpInfo := pool [(2, .class_ 4), (1, u "java/lang/Object"), (0, u "<init>"), (0, u "()V"), (0, .class_ 8), (0, u "java/lang/Integer"), (7, .class_ 18), (1, u "java/lang/Integer$IntegerCache"), (0, u "$assertionsDisabled"), (0, u "Z"), (26, u "high"), (0, u "I"), (8, u "archivedCache"), (0, u "[Ljava/lang/Integer;"), (12, u "cache"), (0, u "low")] 27

def k20m0 : Method := { name := "<init>", desc := "()V", sig := { parameters := [], returnType := none }, accessFlags := 2, code := none }
/-- java/lang/Integer$IntegerCache -/
def k20 : Class := { plain "java/lang/Integer$IntegerCache" (some 0) with
  accessFlags := 48
  interfaces := #[]
  cf := some (fileOf pool20 16 #[.nestHost 7] #[{ accessFlags := 2, nameIndex := 5, descriptorIndex := 6, attributes := #[] }] 48 2 #[] #[{ accessFlags := 24, nameIndex := 72, descriptorIndex := 48, attributes := #[] }, { accessFlags := 24, nameIndex := 47, descriptorIndex := 48, attributes := #[] }, { accessFlags := 24, nameIndex := 71, descriptorIndex := 58, attributes := #[] }, { accessFlags := 8, nameIndex := 57, descriptorIndex := 58, attributes := #[] }, { accessFlags := 4120, nameIndex := 19, descriptorIndex := 20, attributes := #[] }])
  fields := #[{ name := "low", type := .int, accessFlags := 24, slot := 0, constantValue := 0 }, { name := "high", type := .int, accessFlags := 24, slot := 1, constantValue := 0 }, { name := "cache", type := (.array (.object "java/lang/Integer")), accessFlags := 24, slot := 2, constantValue := 0 }, { name := "archivedCache", type := (.array (.object "java/lang/Integer")), accessFlags := 8, slot := 3, constantValue := 0 }, { name := "$assertionsDisabled", type := .boolean, accessFlags := 4120, slot := 4, constantValue := 0 }]
  methods := #[k20m0]
  instanceTypes := #[]
  staticTypes := #[.int, .int, (.array (.object "java/lang/Integer")), (.array (.object "java/lang/Integer")), .boolean]
  resolved := Array.replicate 100 none
  statics := some 2 }

def pool21 : Array CpInfo := pool [(1, .class_ 2), (0, u "java/lang/Math"), (1, .class_ 6), (1, u "java/lang/Object"), (0, u "<init>"), (0, u "()V"), (89, .class_ 100), (1, u "java/lang/Math$RandomNumberGeneratorHolder"), (71, u "negativeZeroFloatBits"), (0, u "J"), (2, u "negativeZeroDoubleBits"), (21, u "max"), (46, u "$assertionsDisabled"), (0, u "Z"), (88, u "(II)I"), (2, u "twoToTheDoubleScaleDown"), (0, u "D"), (4, u "twoToTheDoubleScaleUp"), (9, u "E"), (3, u "PI"), (2, u "TAU"), (2, u "DEGREES_TO_RADIANS"), (0, u "RADIANS_TO_DEGREES")] 94

def k21m0 : Method := { name := "<init>", desc := "()V", sig := { parameters := [], returnType := none }, accessFlags := 2, code := none }
def k21c1 : Code := { maxStack := 2, maxLocals := 2, code := jdk_29_method_65_code, exceptionTable := #[], attributes := #[] }
def k21m1 : Method := { name := "max", desc := "(II)I", sig := { parameters := [.int, .int], returnType := some .int }, accessFlags := 9, code := some k21c1 }
/-- java/lang/Math -/
def k21 : Class := { plain "java/lang/Math" (some 0) with
  accessFlags := 49
  interfaces := #[]
  cf := some (fileOf pool21 1 #[.nestMembers #[98]] #[{ accessFlags := 2, nameIndex := 7, descriptorIndex := 8, attributes := #[] }, { accessFlags := 9, nameIndex := 198, descriptorIndex := 335, attributes := #[] }] 49 4 #[] #[{ accessFlags := 25, nameIndex := 354, descriptorIndex := 339, attributes := #[] }, { accessFlags := 25, nameIndex := 358, descriptorIndex := 339, attributes := #[] }, { accessFlags := 25, nameIndex := 361, descriptorIndex := 339, attributes := #[] }, { accessFlags := 26, nameIndex := 364, descriptorIndex := 339, attributes := #[] }, { accessFlags := 26, nameIndex := 365, descriptorIndex := 339, attributes := #[] }, { accessFlags := 26, nameIndex := 172, descriptorIndex := 173, attributes := #[] }, { accessFlags := 26, nameIndex := 176, descriptorIndex := 173, attributes := #[] }, { accessFlags := 8, nameIndex := 344, descriptorIndex := 339, attributes := #[] }, { accessFlags := 8, nameIndex := 338, descriptorIndex := 339, attributes := #[] }, { accessFlags := 4120, nameIndex := 245, descriptorIndex := 246, attributes := #[] }])
  fields := #[{ name := "E", type := .double, accessFlags := 25, slot := 0, constantValue := 0 }, { name := "PI", type := .double, accessFlags := 25, slot := 1, constantValue := 0 }, { name := "TAU", type := .double, accessFlags := 25, slot := 2, constantValue := 0 }, { name := "DEGREES_TO_RADIANS", type := .double, accessFlags := 26, slot := 3, constantValue := 0 }, { name := "RADIANS_TO_DEGREES", type := .double, accessFlags := 26, slot := 4, constantValue := 0 }, { name := "negativeZeroFloatBits", type := .long, accessFlags := 26, slot := 5, constantValue := 0 }, { name := "negativeZeroDoubleBits", type := .long, accessFlags := 26, slot := 6, constantValue := 0 }, { name := "twoToTheDoubleScaleUp", type := .double, accessFlags := 8, slot := 7, constantValue := 0 }, { name := "twoToTheDoubleScaleDown", type := .double, accessFlags := 8, slot := 8, constantValue := 0 }, { name := "$assertionsDisabled", type := .boolean, accessFlags := 4120, slot := 9, constantValue := 0 }]
  methods := #[k21m0, k21m1]
  instanceTypes := #[]
  staticTypes := #[.double, .double, .double, .double, .double, .long, .long, .double, .double, .boolean]
  resolved := Array.replicate 460 none
  statics := none }

def pool22 : Array CpInfo := pool [(2, .class_ 4), (1, u "java/lang/Object"), (0, u "<init>"), (0, u "()V"), (35, .class_ 44), (1, u "java/util/Objects"), (60, .methodref 106 107), (0, .class_ 108), (0, .nameAndType 109 110), (0, u "jdk/internal/util/Preconditions"), (0, u "checkIndex"), (0, u "(IILjava/util/function/BiFunction;)I"), (60, u "(II)I")] 12

def k22m0 : Method := { name := "<init>", desc := "()V", sig := { parameters := [], returnType := none }, accessFlags := 2, code := none }
def k22c1 : Code := { maxStack := 3, maxLocals := 2, code := jdk_31_method_17_code, exceptionTable := #[], attributes := #[] }
def k22m1 : Method := { name := "checkIndex", desc := "(II)I", sig := { parameters := [.int, .int], returnType := some .int }, accessFlags := 9, code := some k22c1 }
/-- java/util/Objects -/
def k22 : Class := { plain "java/util/Objects" (some 0) with
  accessFlags := 49
  interfaces := #[]
  cf := some (fileOf pool22 42 #[] #[{ accessFlags := 2, nameIndex := 5, descriptorIndex := 6, attributes := #[] }, { accessFlags := 9, nameIndex := 109, descriptorIndex := 171, attributes := #[] }] 49 2 #[] #[])
  fields := #[]
  methods := #[k22m0, k22m1]
  instanceTypes := #[]
  staticTypes := #[]
  resolved := Array.replicate 184 none
  statics := none }

def pool23 : Array CpInfo := pool [(2, .class_ 4), (1, u "java/lang/Object"), (0, u "<init>"), (0, u "()V"), (17, .class_ 26), (1, u "jdk/internal/util/Preconditions"), (6, u "checkIndex"), (21, .class_ 56), (0, u "jdk/internal/util/Preconditions$4"), (57, .class_ 115), (0, u "jdk/internal/util/Preconditions$1"), (7, u "SIOOBE_FORMATTER"), (0, u "Ljava/util/function/BiFunction;"), (0, .class_ 126), (0, u "jdk/internal/util/Preconditions$2"), (3, u "AIOOBE_FORMATTER"), (0, .class_ 132), (0, u "jdk/internal/util/Preconditions$3"), (3, u "IOOBE_FORMATTER"), (41, u "(IILjava/util/function/BiFunction;)I")] 15

def k23m0 : Method := { name := "<init>", desc := "()V", sig := { parameters := [], returnType := none }, accessFlags := 1, code := none }
def k23c1 : Code := { maxStack := 3, maxLocals := 3, code := jdk_41_method_11_code, exceptionTable := #[], attributes := #[] }
def k23m1 : Method := { name := "checkIndex", desc := "(IILjava/util/function/BiFunction;)I", sig := { parameters := [.int, .int, (.object "java/util/function/BiFunction")], returnType := some .int }, accessFlags := 9, code := some k23c1 }
/-- jdk/internal/util/Preconditions -/
def k23 : Class := { plain "jdk/internal/util/Preconditions" (some 0) with
  accessFlags := 33
  interfaces := #[]
  cf := some (fileOf pool23 24 #[.nestMembers #[55, 131, 125, 114]] #[{ accessFlags := 1, nameIndex := 5, descriptorIndex := 6, attributes := #[] }, { accessFlags := 9, nameIndex := 33, descriptorIndex := 178, attributes := #[] }] 33 2 #[] #[{ accessFlags := 25, nameIndex := 123, descriptorIndex := 124, attributes := #[] }, { accessFlags := 25, nameIndex := 130, descriptorIndex := 124, attributes := #[] }, { accessFlags := 25, nameIndex := 136, descriptorIndex := 124, attributes := #[] }])
  fields := #[{ name := "SIOOBE_FORMATTER", type := (.object "java/util/function/BiFunction"), accessFlags := 25, slot := 0, constantValue := 0 }, { name := "AIOOBE_FORMATTER", type := (.object "java/util/function/BiFunction"), accessFlags := 25, slot := 1, constantValue := 0 }, { name := "IOOBE_FORMATTER", type := (.object "java/util/function/BiFunction"), accessFlags := 25, slot := 2, constantValue := 0 }]
  methods := #[k23m0, k23m1]
  instanceTypes := #[]
  staticTypes := #[(.object "java/util/function/BiFunction"), (.object "java/util/function/BiFunction"), (.object "java/util/function/BiFunction")]
  resolved := Array.replicate 194 none
  statics := some 3 }

def pool24 : Array CpInfo := pool [(6, .class_ 8), (1, u "java/lang/Object"), (0, u "<init>"), (0, u "()V"), (1, .class_ 14), (1, u "java/lang/StringUTF16"), (31, u "$assertionsDisabled"), (0, u "Z"), (13, u "HI_BYTE_SHIFT"), (0, u "I"), (2, u "LO_BYTE_SHIFT"), (49, .methodref 12 116), (0, .nameAndType 117 118), (0, u "compress"), (0, u "([CI[BII)I"), (3, u "([CII)[B"), (138, u "coderFromArrayLen"), (0, u "([BI)B"), (106, .class_ 371), (1, u "java/lang/StringUTF16$LinesSpliterator"), (58, u "MAX_LENGTH"), (196, .class_ 628), (0, u "java/lang/StringUTF16$CodePointsSpliterator"), (0, .class_ 630), (0, u "java/lang/StringUTF16$CharsSpliterator")] 4

def k24m0 : Method := { name := "<init>", desc := "()V", sig := { parameters := [], returnType := none }, accessFlags := 0, code := none }
def k24c1 : Code := { maxStack := 2, maxLocals := 2, code := jdk_52_method_15_code, exceptionTable := #[], attributes := #[] }
def k24m1 : Method := { name := "coderFromArrayLen", desc := "([BI)B", sig := { parameters := [(.array .byte), .int], returnType := some .byte }, accessFlags := 8, code := some k24c1 }
def k24c2 : Code := { maxStack := 5, maxLocals := 6, code := jdk_52_method_16_code, exceptionTable := #[], attributes := #[] }
def k24m2 : Method := { name := "compress", desc := "([CII)[B", sig := { parameters := [(.array .char), .int, .int], returnType := some (.array .byte) }, accessFlags := 9, code := some k24c2 }
def k24c3 : Code := { maxStack := 3, maxLocals := 7, code := jdk_52_method_21_code, exceptionTable := #[], attributes := #[] }
def k24m3 : Method := { name := "compress", desc := "([CI[BII)I", sig := { parameters := [(.array .char), .int, (.array .byte), .int, .int], returnType := some .int }, accessFlags := 9, code := some k24c3 }
/-- java/lang/StringUTF16 -/
def k24 : Class := { plain "java/lang/StringUTF16" (some 0) with
  accessFlags := 48
  interfaces := #[]
  cf := some (fileOf pool24 12 #[.nestMembers #[627, 629, 369]] #[{ accessFlags := 0, nameIndex := 9, descriptorIndex := 10, attributes := #[] }, { accessFlags := 8, nameIndex := 261, descriptorIndex := 262, attributes := #[] }, { accessFlags := 9, nameIndex := 117, descriptorIndex := 122, attributes := #[] }, { accessFlags := 9, nameIndex := 117, descriptorIndex := 118, attributes := #[] }] 48 6 #[] #[{ accessFlags := 26, nameIndex := 61, descriptorIndex := 62, attributes := #[] }, { accessFlags := 26, nameIndex := 65, descriptorIndex := 62, attributes := #[] }, { accessFlags := 24, nameIndex := 430, descriptorIndex := 62, attributes := #[] }, { accessFlags := 4120, nameIndex := 46, descriptorIndex := 47, attributes := #[] }])
  fields := #[{ name := "HI_BYTE_SHIFT", type := .int, accessFlags := 26, slot := 0, constantValue := 0 }, { name := "LO_BYTE_SHIFT", type := .int, accessFlags := 26, slot := 1, constantValue := 0 }, { name := "MAX_LENGTH", type := .int, accessFlags := 24, slot := 2, constantValue := 0 }, { name := "$assertionsDisabled", type := .boolean, accessFlags := 4120, slot := 3, constantValue := 0 }]
  methods := #[k24m0, k24m1, k24m2, k24m3]
  instanceTypes := #[]
  staticTypes := #[.int, .int, .int, .boolean]
  resolved := Array.replicate 635 none
  statics := none }

def pool25 : Array CpInfo := pool [(1, .class_ 2), (0, u "java/lang/String"), (1, .class_ 6), (1, u "java/lang/Object"), (0, u "<init>"), (0, u "()V"), (0, .methodref 1 10), (0, .nameAndType 11 12), (0, u "checkIndex"), (0, u "(II)V"), (1, .class_ 16), (1, u "java/lang/StringLatin1"), (36, u "([BI)C"), (67, u "$assertionsDisabled"), (0, u "Z"), (98, .class_ 223), (1, u "java/lang/StringLatin1$LinesSpliterator"), (28, u "charAt"), (137, .class_ 391), (0, u "java/lang/StringLatin1$CharsSpliterator")] 3

def k25m0 : Method := { name := "<init>", desc := "()V", sig := { parameters := [], returnType := none }, accessFlags := 0, code := none }
def k25c1 : Code := { maxStack := 2, maxLocals := 2, code := jdk_43_method_2_code, exceptionTable := #[], attributes := #[] }
def k25m1 : Method := { name := "charAt", desc := "([BI)C", sig := { parameters := [(.array .byte), .int], returnType := some .char }, accessFlags := 9, code := some k25c1 }
/-- java/lang/StringLatin1 -/
def k25 : Class := { plain "java/lang/StringLatin1" (some 0) with
  accessFlags := 48
  interfaces := #[]
  cf := some (fileOf pool25 14 #[.nestMembers #[390, 221]] #[{ accessFlags := 0, nameIndex := 7, descriptorIndex := 8, attributes := #[] }, { accessFlags := 9, nameIndex := 252, descriptorIndex := 53, attributes := #[] }] 48 4 #[] #[{ accessFlags := 4120, nameIndex := 121, descriptorIndex := 122, attributes := #[] }])
  fields := #[{ name := "$assertionsDisabled", type := .boolean, accessFlags := 4120, slot := 0, constantValue := 0 }]
  methods := #[k25m0, k25m1]
  instanceTypes := #[]
  staticTypes := #[.boolean]
  resolved := Array.replicate 395 none
  statics := none }

def pool26 : Array CpInfo := pool [(9, u "<init>"), (6, .class_ 18), (1, u "java/lang/Object"), (0, u "()V"), (1, .class_ 23), (1, u "jdk/internal/util/ArraysSupport"), (0, u "LOG2_ARRAY_LONG_INDEX_SCALE"), (0, u "I"), (2, u "U"), (0, u "Ljdk/internal/misc/Unsafe;"), (8, u "BIG_ENDIAN"), (0, u "Z"), (8, u "LOG2_BYTE_BIT_SIZE"), (4, u "LOG2_ARRAY_INT_INDEX_SCALE"), (54, u "JLA"), (0, u "Ljdk/internal/access/JavaLangAccess;"), (11, u "LOG2_ARRAY_BOOLEAN_INDEX_SCALE"), (9, u "LOG2_ARRAY_BYTE_INDEX_SCALE"), (5, u "LOG2_ARRAY_CHAR_INDEX_SCALE"), (5, u "LOG2_ARRAY_SHORT_INDEX_SCALE"), (18, u "LOG2_ARRAY_FLOAT_INDEX_SCALE"), (24, u "LOG2_ARRAY_DOUBLE_INDEX_SCALE"), (89, u "T_BOOLEAN"), (2, u "T_CHAR"), (1, u "T_FLOAT"), (1, u "T_DOUBLE"), (1, u "T_BYTE"), (1, u "T_SHORT"), (1, u "T_INT"), (1, u "T_LONG"), (1, u "SOFT_MAX_ARRAY_LENGTH")] 83

def k26m0 : Method := { name := "<init>", desc := "()V", sig := { parameters := [], returnType := none }, accessFlags := 2, code := none }
/-- jdk/internal/util/ArraysSupport -/
def k26 : Class := { plain "jdk/internal/util/ArraysSupport" (some 0) with
  accessFlags := 33
  interfaces := #[]
  cf := some (fileOf pool26 21 #[] #[{ accessFlags := 2, nameIndex := 9, descriptorIndex := 19, attributes := #[] }] 33 16 #[] #[{ accessFlags := 24, nameIndex := 28, descriptorIndex := 29, attributes := #[] }, { accessFlags := 26, nameIndex := 38, descriptorIndex := 39, attributes := #[] }, { accessFlags := 25, nameIndex := 121, descriptorIndex := 25, attributes := #[] }, { accessFlags := 25, nameIndex := 131, descriptorIndex := 25, attributes := #[] }, { accessFlags := 25, nameIndex := 137, descriptorIndex := 25, attributes := #[] }, { accessFlags := 25, nameIndex := 143, descriptorIndex := 25, attributes := #[] }, { accessFlags := 25, nameIndex := 53, descriptorIndex := 25, attributes := #[] }, { accessFlags := 25, nameIndex := 24, descriptorIndex := 25, attributes := #[] }, { accessFlags := 25, nameIndex := 162, descriptorIndex := 25, attributes := #[] }, { accessFlags := 25, nameIndex := 187, descriptorIndex := 25, attributes := #[] }, { accessFlags := 26, nameIndex := 48, descriptorIndex := 25, attributes := #[] }, { accessFlags := 25, nameIndex := 277, descriptorIndex := 25, attributes := #[] }, { accessFlags := 25, nameIndex := 280, descriptorIndex := 25, attributes := #[] }, { accessFlags := 25, nameIndex := 282, descriptorIndex := 25, attributes := #[] }, { accessFlags := 25, nameIndex := 284, descriptorIndex := 25, attributes := #[] }, { accessFlags := 25, nameIndex := 286, descriptorIndex := 25, attributes := #[] }, { accessFlags := 25, nameIndex := 288, descriptorIndex := 25, attributes := #[] }, { accessFlags := 25, nameIndex := 290, descriptorIndex := 25, attributes := #[] }, { accessFlags := 25, nameIndex := 292, descriptorIndex := 25, attributes := #[] }, { accessFlags := 26, nameIndex := 108, descriptorIndex := 109, attributes := #[] }, { accessFlags := 25, nameIndex := 294, descriptorIndex := 25, attributes := #[] }])
  fields := #[{ name := "U", type := (.object "jdk/internal/misc/Unsafe"), accessFlags := 24, slot := 0, constantValue := 0 }, { name := "BIG_ENDIAN", type := .boolean, accessFlags := 26, slot := 1, constantValue := 0 }, { name := "LOG2_ARRAY_BOOLEAN_INDEX_SCALE", type := .int, accessFlags := 25, slot := 2, constantValue := 0 }, { name := "LOG2_ARRAY_BYTE_INDEX_SCALE", type := .int, accessFlags := 25, slot := 3, constantValue := 0 }, { name := "LOG2_ARRAY_CHAR_INDEX_SCALE", type := .int, accessFlags := 25, slot := 4, constantValue := 0 }, { name := "LOG2_ARRAY_SHORT_INDEX_SCALE", type := .int, accessFlags := 25, slot := 5, constantValue := 0 }, { name := "LOG2_ARRAY_INT_INDEX_SCALE", type := .int, accessFlags := 25, slot := 6, constantValue := 0 }, { name := "LOG2_ARRAY_LONG_INDEX_SCALE", type := .int, accessFlags := 25, slot := 7, constantValue := 0 }, { name := "LOG2_ARRAY_FLOAT_INDEX_SCALE", type := .int, accessFlags := 25, slot := 8, constantValue := 0 }, { name := "LOG2_ARRAY_DOUBLE_INDEX_SCALE", type := .int, accessFlags := 25, slot := 9, constantValue := 0 }, { name := "LOG2_BYTE_BIT_SIZE", type := .int, accessFlags := 26, slot := 10, constantValue := 0 }, { name := "T_BOOLEAN", type := .int, accessFlags := 25, slot := 11, constantValue := 0 }, { name := "T_CHAR", type := .int, accessFlags := 25, slot := 12, constantValue := 0 }, { name := "T_FLOAT", type := .int, accessFlags := 25, slot := 13, constantValue := 0 }, { name := "T_DOUBLE", type := .int, accessFlags := 25, slot := 14, constantValue := 0 }, { name := "T_BYTE", type := .int, accessFlags := 25, slot := 15, constantValue := 0 }, { name := "T_SHORT", type := .int, accessFlags := 25, slot := 16, constantValue := 0 }, { name := "T_INT", type := .int, accessFlags := 25, slot := 17, constantValue := 0 }, { name := "T_LONG", type := .int, accessFlags := 25, slot := 18, constantValue := 0 }, { name := "JLA", type := (.object "jdk/internal/access/JavaLangAccess"), accessFlags := 26, slot := 19, constantValue := 0 }, { name := "SOFT_MAX_ARRAY_LENGTH", type := .int, accessFlags := 25, slot := 20, constantValue := 0 }]
  methods := #[k26m0]
  instanceTypes := #[]
  staticTypes := #[(.object "jdk/internal/misc/Unsafe"), .boolean, .int, .int, .int, .int, .int, .int, .int, .int, .int, .int, .int, .int, .int, .int, .int, .int, .int, (.object "jdk/internal/access/JavaLangAccess"), .int]
  resolved := Array.replicate 378 none
  statics := none }

/-- the primitive byte -/
def k27 : Class := { plain "byte" none with kind := .primitive 'B', accessFlags := 0x411 }
/-- [B -/
def k28 : Class := { plain "[B" (some 0) with kind := .array 27 .byte, interfaces := #[16, 3], accessFlags := 1041 }

/-- the primitive char -/
def k29 : Class := { plain "char" none with kind := .primitive 'C', accessFlags := 0x411 }
/-- [C -/
def k30 : Class := { plain "[C" (some 0) with kind := .array 29 .char, interfaces := #[16, 3], accessFlags := 1041 }

/-- the primitive int -/
def k31 : Class := { plain "int" none with kind := .primitive 'I', accessFlags := 0x411 }
/-- [I -/
def k32 : Class := { plain "[I" (some 0) with kind := .array 31 .int, interfaces := #[16, 3], accessFlags := 1041 }

/-- [Ljava/lang/Integer; -/
def k33 : Class := { plain "[Ljava/lang/Integer;" (some 0) with kind := .array 19 (.object "java/lang/Integer"), interfaces := #[16, 3], accessFlags := 1041 }

/-- [Ljava/lang/Object; -/
def k34 : Class := { plain "[Ljava/lang/Object;" (some 0) with kind := .array 0 (.object "java/lang/Object"), interfaces := #[16, 3], accessFlags := 1041 }

def heap : Heap := #[{ cls := 8, slots := #[.long 0, .int 1, .null, .int 0, .null, .int 0, .int 0], vm := .statics 8 },
  { cls := 17, slots := #[.long 0, .int 0, .ref 261, .ref 262], vm := .statics 17 },
  { cls := 20, slots := #[.int 0, .int 127, .ref 260, .null, .int 0], vm := .statics 20 },
  { cls := 23, slots := #[.null, .null, .null], vm := .statics 23 },
  { cls := 19, slots := #[.int (-128)], vm := .none },
  { cls := 19, slots := #[.int (-127)], vm := .none },
  { cls := 19, slots := #[.int (-126)], vm := .none },
  { cls := 19, slots := #[.int (-125)], vm := .none },
  { cls := 19, slots := #[.int (-124)], vm := .none },
  { cls := 19, slots := #[.int (-123)], vm := .none },
  { cls := 19, slots := #[.int (-122)], vm := .none },
  { cls := 19, slots := #[.int (-121)], vm := .none },
  { cls := 19, slots := #[.int (-120)], vm := .none },
  { cls := 19, slots := #[.int (-119)], vm := .none },
  { cls := 19, slots := #[.int (-118)], vm := .none },
  { cls := 19, slots := #[.int (-117)], vm := .none },
  { cls := 19, slots := #[.int (-116)], vm := .none },
  { cls := 19, slots := #[.int (-115)], vm := .none },
  { cls := 19, slots := #[.int (-114)], vm := .none },
  { cls := 19, slots := #[.int (-113)], vm := .none },
  { cls := 19, slots := #[.int (-112)], vm := .none },
  { cls := 19, slots := #[.int (-111)], vm := .none },
  { cls := 19, slots := #[.int (-110)], vm := .none },
  { cls := 19, slots := #[.int (-109)], vm := .none },
  { cls := 19, slots := #[.int (-108)], vm := .none },
  { cls := 19, slots := #[.int (-107)], vm := .none },
  { cls := 19, slots := #[.int (-106)], vm := .none },
  { cls := 19, slots := #[.int (-105)], vm := .none },
  { cls := 19, slots := #[.int (-104)], vm := .none },
  { cls := 19, slots := #[.int (-103)], vm := .none },
  { cls := 19, slots := #[.int (-102)], vm := .none },
  { cls := 19, slots := #[.int (-101)], vm := .none },
  { cls := 19, slots := #[.int (-100)], vm := .none },
  { cls := 19, slots := #[.int (-99)], vm := .none },
  { cls := 19, slots := #[.int (-98)], vm := .none },
  { cls := 19, slots := #[.int (-97)], vm := .none },
  { cls := 19, slots := #[.int (-96)], vm := .none },
  { cls := 19, slots := #[.int (-95)], vm := .none },
  { cls := 19, slots := #[.int (-94)], vm := .none },
  { cls := 19, slots := #[.int (-93)], vm := .none },
  { cls := 19, slots := #[.int (-92)], vm := .none },
  { cls := 19, slots := #[.int (-91)], vm := .none },
  { cls := 19, slots := #[.int (-90)], vm := .none },
  { cls := 19, slots := #[.int (-89)], vm := .none },
  { cls := 19, slots := #[.int (-88)], vm := .none },
  { cls := 19, slots := #[.int (-87)], vm := .none },
  { cls := 19, slots := #[.int (-86)], vm := .none },
  { cls := 19, slots := #[.int (-85)], vm := .none },
  { cls := 19, slots := #[.int (-84)], vm := .none },
  { cls := 19, slots := #[.int (-83)], vm := .none },
  { cls := 19, slots := #[.int (-82)], vm := .none },
  { cls := 19, slots := #[.int (-81)], vm := .none },
  { cls := 19, slots := #[.int (-80)], vm := .none },
  { cls := 19, slots := #[.int (-79)], vm := .none },
  { cls := 19, slots := #[.int (-78)], vm := .none },
  { cls := 19, slots := #[.int (-77)], vm := .none },
  { cls := 19, slots := #[.int (-76)], vm := .none },
  { cls := 19, slots := #[.int (-75)], vm := .none },
  { cls := 19, slots := #[.int (-74)], vm := .none },
  { cls := 19, slots := #[.int (-73)], vm := .none },
  { cls := 19, slots := #[.int (-72)], vm := .none },
  { cls := 19, slots := #[.int (-71)], vm := .none },
  { cls := 19, slots := #[.int (-70)], vm := .none },
  { cls := 19, slots := #[.int (-69)], vm := .none },
  { cls := 19, slots := #[.int (-68)], vm := .none },
  { cls := 19, slots := #[.int (-67)], vm := .none },
  { cls := 19, slots := #[.int (-66)], vm := .none },
  { cls := 19, slots := #[.int (-65)], vm := .none },
  { cls := 19, slots := #[.int (-64)], vm := .none },
  { cls := 19, slots := #[.int (-63)], vm := .none },
  { cls := 19, slots := #[.int (-62)], vm := .none },
  { cls := 19, slots := #[.int (-61)], vm := .none },
  { cls := 19, slots := #[.int (-60)], vm := .none },
  { cls := 19, slots := #[.int (-59)], vm := .none },
  { cls := 19, slots := #[.int (-58)], vm := .none },
  { cls := 19, slots := #[.int (-57)], vm := .none },
  { cls := 19, slots := #[.int (-56)], vm := .none },
  { cls := 19, slots := #[.int (-55)], vm := .none },
  { cls := 19, slots := #[.int (-54)], vm := .none },
  { cls := 19, slots := #[.int (-53)], vm := .none },
  { cls := 19, slots := #[.int (-52)], vm := .none },
  { cls := 19, slots := #[.int (-51)], vm := .none },
  { cls := 19, slots := #[.int (-50)], vm := .none },
  { cls := 19, slots := #[.int (-49)], vm := .none },
  { cls := 19, slots := #[.int (-48)], vm := .none },
  { cls := 19, slots := #[.int (-47)], vm := .none },
  { cls := 19, slots := #[.int (-46)], vm := .none },
  { cls := 19, slots := #[.int (-45)], vm := .none },
  { cls := 19, slots := #[.int (-44)], vm := .none },
  { cls := 19, slots := #[.int (-43)], vm := .none },
  { cls := 19, slots := #[.int (-42)], vm := .none },
  { cls := 19, slots := #[.int (-41)], vm := .none },
  { cls := 19, slots := #[.int (-40)], vm := .none },
  { cls := 19, slots := #[.int (-39)], vm := .none },
  { cls := 19, slots := #[.int (-38)], vm := .none },
  { cls := 19, slots := #[.int (-37)], vm := .none },
  { cls := 19, slots := #[.int (-36)], vm := .none },
  { cls := 19, slots := #[.int (-35)], vm := .none },
  { cls := 19, slots := #[.int (-34)], vm := .none },
  { cls := 19, slots := #[.int (-33)], vm := .none },
  { cls := 19, slots := #[.int (-32)], vm := .none },
  { cls := 19, slots := #[.int (-31)], vm := .none },
  { cls := 19, slots := #[.int (-30)], vm := .none },
  { cls := 19, slots := #[.int (-29)], vm := .none },
  { cls := 19, slots := #[.int (-28)], vm := .none },
  { cls := 19, slots := #[.int (-27)], vm := .none },
  { cls := 19, slots := #[.int (-26)], vm := .none },
  { cls := 19, slots := #[.int (-25)], vm := .none },
  { cls := 19, slots := #[.int (-24)], vm := .none },
  { cls := 19, slots := #[.int (-23)], vm := .none },
  { cls := 19, slots := #[.int (-22)], vm := .none },
  { cls := 19, slots := #[.int (-21)], vm := .none },
  { cls := 19, slots := #[.int (-20)], vm := .none },
  { cls := 19, slots := #[.int (-19)], vm := .none },
  { cls := 19, slots := #[.int (-18)], vm := .none },
  { cls := 19, slots := #[.int (-17)], vm := .none },
  { cls := 19, slots := #[.int (-16)], vm := .none },
  { cls := 19, slots := #[.int (-15)], vm := .none },
  { cls := 19, slots := #[.int (-14)], vm := .none },
  { cls := 19, slots := #[.int (-13)], vm := .none },
  { cls := 19, slots := #[.int (-12)], vm := .none },
  { cls := 19, slots := #[.int (-11)], vm := .none },
  { cls := 19, slots := #[.int (-10)], vm := .none },
  { cls := 19, slots := #[.int (-9)], vm := .none },
  { cls := 19, slots := #[.int (-8)], vm := .none },
  { cls := 19, slots := #[.int (-7)], vm := .none },
  { cls := 19, slots := #[.int (-6)], vm := .none },
  { cls := 19, slots := #[.int (-5)], vm := .none },
  { cls := 19, slots := #[.int (-4)], vm := .none },
  { cls := 19, slots := #[.int (-3)], vm := .none },
  { cls := 19, slots := #[.int (-2)], vm := .none },
  { cls := 19, slots := #[.int (-1)], vm := .none },
  { cls := 19, slots := #[.int 0], vm := .none },
  { cls := 19, slots := #[.int 1], vm := .none },
  { cls := 19, slots := #[.int 2], vm := .none },
  { cls := 19, slots := #[.int 3], vm := .none },
  { cls := 19, slots := #[.int 4], vm := .none },
  { cls := 19, slots := #[.int 5], vm := .none },
  { cls := 19, slots := #[.int 6], vm := .none },
  { cls := 19, slots := #[.int 7], vm := .none },
  { cls := 19, slots := #[.int 8], vm := .none },
  { cls := 19, slots := #[.int 9], vm := .none },
  { cls := 19, slots := #[.int 10], vm := .none },
  { cls := 19, slots := #[.int 11], vm := .none },
  { cls := 19, slots := #[.int 12], vm := .none },
  { cls := 19, slots := #[.int 13], vm := .none },
  { cls := 19, slots := #[.int 14], vm := .none },
  { cls := 19, slots := #[.int 15], vm := .none },
  { cls := 19, slots := #[.int 16], vm := .none },
  { cls := 19, slots := #[.int 17], vm := .none },
  { cls := 19, slots := #[.int 18], vm := .none },
  { cls := 19, slots := #[.int 19], vm := .none },
  { cls := 19, slots := #[.int 20], vm := .none },
  { cls := 19, slots := #[.int 21], vm := .none },
  { cls := 19, slots := #[.int 22], vm := .none },
  { cls := 19, slots := #[.int 23], vm := .none },
  { cls := 19, slots := #[.int 24], vm := .none },
  { cls := 19, slots := #[.int 25], vm := .none },
  { cls := 19, slots := #[.int 26], vm := .none },
  { cls := 19, slots := #[.int 27], vm := .none },
  { cls := 19, slots := #[.int 28], vm := .none },
  { cls := 19, slots := #[.int 29], vm := .none },
  { cls := 19, slots := #[.int 30], vm := .none },
  { cls := 19, slots := #[.int 31], vm := .none },
  { cls := 19, slots := #[.int 32], vm := .none },
  { cls := 19, slots := #[.int 33], vm := .none },
  { cls := 19, slots := #[.int 34], vm := .none },
  { cls := 19, slots := #[.int 35], vm := .none },
  { cls := 19, slots := #[.int 36], vm := .none },
  { cls := 19, slots := #[.int 37], vm := .none },
  { cls := 19, slots := #[.int 38], vm := .none },
  { cls := 19, slots := #[.int 39], vm := .none },
  { cls := 19, slots := #[.int 40], vm := .none },
  { cls := 19, slots := #[.int 41], vm := .none },
  { cls := 19, slots := #[.int 42], vm := .none },
  { cls := 19, slots := #[.int 43], vm := .none },
  { cls := 19, slots := #[.int 44], vm := .none },
  { cls := 19, slots := #[.int 45], vm := .none },
  { cls := 19, slots := #[.int 46], vm := .none },
  { cls := 19, slots := #[.int 47], vm := .none },
  { cls := 19, slots := #[.int 48], vm := .none },
  { cls := 19, slots := #[.int 49], vm := .none },
  { cls := 19, slots := #[.int 50], vm := .none },
  { cls := 19, slots := #[.int 51], vm := .none },
  { cls := 19, slots := #[.int 52], vm := .none },
  { cls := 19, slots := #[.int 53], vm := .none },
  { cls := 19, slots := #[.int 54], vm := .none },
  { cls := 19, slots := #[.int 55], vm := .none },
  { cls := 19, slots := #[.int 56], vm := .none },
  { cls := 19, slots := #[.int 57], vm := .none },
  { cls := 19, slots := #[.int 58], vm := .none },
  { cls := 19, slots := #[.int 59], vm := .none },
  { cls := 19, slots := #[.int 60], vm := .none },
  { cls := 19, slots := #[.int 61], vm := .none },
  { cls := 19, slots := #[.int 62], vm := .none },
  { cls := 19, slots := #[.int 63], vm := .none },
  { cls := 19, slots := #[.int 64], vm := .none },
  { cls := 19, slots := #[.int 65], vm := .none },
  { cls := 19, slots := #[.int 66], vm := .none },
  { cls := 19, slots := #[.int 67], vm := .none },
  { cls := 19, slots := #[.int 68], vm := .none },
  { cls := 19, slots := #[.int 69], vm := .none },
  { cls := 19, slots := #[.int 70], vm := .none },
  { cls := 19, slots := #[.int 71], vm := .none },
  { cls := 19, slots := #[.int 72], vm := .none },
  { cls := 19, slots := #[.int 73], vm := .none },
  { cls := 19, slots := #[.int 74], vm := .none },
  { cls := 19, slots := #[.int 75], vm := .none },
  { cls := 19, slots := #[.int 76], vm := .none },
  { cls := 19, slots := #[.int 77], vm := .none },
  { cls := 19, slots := #[.int 78], vm := .none },
  { cls := 19, slots := #[.int 79], vm := .none },
  { cls := 19, slots := #[.int 80], vm := .none },
  { cls := 19, slots := #[.int 81], vm := .none },
  { cls := 19, slots := #[.int 82], vm := .none },
  { cls := 19, slots := #[.int 83], vm := .none },
  { cls := 19, slots := #[.int 84], vm := .none },
  { cls := 19, slots := #[.int 85], vm := .none },
  { cls := 19, slots := #[.int 86], vm := .none },
  { cls := 19, slots := #[.int 87], vm := .none },
  { cls := 19, slots := #[.int 88], vm := .none },
  { cls := 19, slots := #[.int 89], vm := .none },
  { cls := 19, slots := #[.int 90], vm := .none },
  { cls := 19, slots := #[.int 91], vm := .none },
  { cls := 19, slots := #[.int 92], vm := .none },
  { cls := 19, slots := #[.int 93], vm := .none },
  { cls := 19, slots := #[.int 94], vm := .none },
  { cls := 19, slots := #[.int 95], vm := .none },
  { cls := 19, slots := #[.int 96], vm := .none },
  { cls := 19, slots := #[.int 97], vm := .none },
  { cls := 19, slots := #[.int 98], vm := .none },
  { cls := 19, slots := #[.int 99], vm := .none },
  { cls := 19, slots := #[.int 100], vm := .none },
  { cls := 19, slots := #[.int 101], vm := .none },
  { cls := 19, slots := #[.int 102], vm := .none },
  { cls := 19, slots := #[.int 103], vm := .none },
  { cls := 19, slots := #[.int 104], vm := .none },
  { cls := 19, slots := #[.int 105], vm := .none },
  { cls := 19, slots := #[.int 106], vm := .none },
  { cls := 19, slots := #[.int 107], vm := .none },
  { cls := 19, slots := #[.int 108], vm := .none },
  { cls := 19, slots := #[.int 109], vm := .none },
  { cls := 19, slots := #[.int 110], vm := .none },
  { cls := 19, slots := #[.int 111], vm := .none },
  { cls := 19, slots := #[.int 112], vm := .none },
  { cls := 19, slots := #[.int 113], vm := .none },
  { cls := 19, slots := #[.int 114], vm := .none },
  { cls := 19, slots := #[.int 115], vm := .none },
  { cls := 19, slots := #[.int 116], vm := .none },
  { cls := 19, slots := #[.int 117], vm := .none },
  { cls := 19, slots := #[.int 118], vm := .none },
  { cls := 19, slots := #[.int 119], vm := .none },
  { cls := 19, slots := #[.int 120], vm := .none },
  { cls := 19, slots := #[.int 121], vm := .none },
  { cls := 19, slots := #[.int 122], vm := .none },
  { cls := 19, slots := #[.int 123], vm := .none },
  { cls := 19, slots := #[.int 124], vm := .none },
  { cls := 19, slots := #[.int 125], vm := .none },
  { cls := 19, slots := #[.int 126], vm := .none },
  { cls := 19, slots := #[.int 127], vm := .none },
  { cls := 33, slots := #[.ref 4, .ref 5, .ref 6, .ref 7, .ref 8, .ref 9, .ref 10, .ref 11, .ref 12, .ref 13, .ref 14, .ref 15, .ref 16, .ref 17, .ref 18, .ref 19, .ref 20, .ref 21, .ref 22, .ref 23, .ref 24, .ref 25, .ref 26, .ref 27, .ref 28, .ref 29, .ref 30, .ref 31, .ref 32, .ref 33, .ref 34, .ref 35, .ref 36, .ref 37, .ref 38, .ref 39, .ref 40, .ref 41, .ref 42, .ref 43, .ref 44, .ref 45, .ref 46, .ref 47, .ref 48, .ref 49, .ref 50, .ref 51, .ref 52, .ref 53, .ref 54, .ref 55, .ref 56, .ref 57, .ref 58, .ref 59, .ref 60, .ref 61, .ref 62, .ref 63, .ref 64, .ref 65, .ref 66, .ref 67, .ref 68, .ref 69, .ref 70, .ref 71, .ref 72, .ref 73, .ref 74, .ref 75, .ref 76, .ref 77, .ref 78, .ref 79, .ref 80, .ref 81, .ref 82, .ref 83, .ref 84, .ref 85, .ref 86, .ref 87, .ref 88, .ref 89, .ref 90, .ref 91, .ref 92, .ref 93, .ref 94, .ref 95, .ref 96, .ref 97, .ref 98, .ref 99, .ref 100, .ref 101, .ref 102, .ref 103, .ref 104, .ref 105, .ref 106, .ref 107, .ref 108, .ref 109, .ref 110, .ref 111, .ref 112, .ref 113, .ref 114, .ref 115, .ref 116, .ref 117, .ref 118, .ref 119, .ref 120, .ref 121, .ref 122, .ref 123, .ref 124, .ref 125, .ref 126, .ref 127, .ref 128, .ref 129, .ref 130, .ref 131, .ref 132, .ref 133, .ref 134, .ref 135, .ref 136, .ref 137, .ref 138, .ref 139, .ref 140, .ref 141, .ref 142, .ref 143, .ref 144, .ref 145, .ref 146, .ref 147, .ref 148, .ref 149, .ref 150, .ref 151, .ref 152, .ref 153, .ref 154, .ref 155, .ref 156, .ref 157, .ref 158, .ref 159, .ref 160, .ref 161, .ref 162, .ref 163, .ref 164, .ref 165, .ref 166, .ref 167, .ref 168, .ref 169, .ref 170, .ref 171, .ref 172, .ref 173, .ref 174, .ref 175, .ref 176, .ref 177, .ref 178, .ref 179, .ref 180, .ref 181, .ref 182, .ref 183, .ref 184, .ref 185, .ref 186, .ref 187, .ref 188, .ref 189, .ref 190, .ref 191, .ref 192, .ref 193, .ref 194, .ref 195, .ref 196, .ref 197, .ref 198, .ref 199, .ref 200, .ref 201, .ref 202, .ref 203, .ref 204, .ref 205, .ref 206, .ref 207, .ref 208, .ref 209, .ref 210, .ref 211, .ref 212, .ref 213, .ref 214, .ref 215, .ref 216, .ref 217, .ref 218, .ref 219, .ref 220, .ref 221, .ref 222, .ref 223, .ref 224, .ref 225, .ref 226, .ref 227, .ref 228, .ref 229, .ref 230, .ref 231, .ref 232, .ref 233, .ref 234, .ref 235, .ref 236, .ref 237, .ref 238, .ref 239, .ref 240, .ref 241, .ref 242, .ref 243, .ref 244, .ref 245, .ref 246, .ref 247, .ref 248, .ref 249, .ref 250, .ref 251, .ref 252, .ref 253, .ref 254, .ref 255, .ref 256, .ref 257, .ref 258, .ref 259], vm := .none },
  { cls := 34, slots := #[], vm := .none },
  { cls := 34, slots := #[], vm := .none }]
def classes : Array Class := #[k0, k1, k2, k3, k4, k5, k6, k7, k8, k9, k10, k11, k12, k13, k14, k15, k16, k17, k18, k19, k20, k21, k22, k23, k24, k25, k26, k27, k28, k29, k30, k31, k32, k33, k34]
def interned : List (Array UInt16 × Addr) := []
def slotsUsed : Nat := 531
def theMethod : MethodId := ⟨1, 4⟩
def args0 : Array Value := #[.int 0, .int 0, .int 0, .int 0, .int 0, .int 0]
def aboutOver (below : List Frame) : State where
  vm := { classes := classes, interned := interned.toArray }
  heap := heap
  slotsUsed := slotsUsed
  threads := #[{ frames := .invoking theMethod args0 :: below }]
def below0 : List Frame := [.native { method := ⟨0, 0⟩, args := #[] }]
def about1 : State := aboutOver below0
def p0 : Program := .bare "" "" ""
def e0 : Env := launch0.env 0 0 0
theorem w_frames : about1.frames = Frame.invoking theMethod args0 :: below0 := rfl
set_option maxRecDepth 65536 in
theorem w_args : argsFit about1.vm theMethod args0 = true := by decide +kernel
set_option maxRecDepth 65536 in
theorem w_heap : heapFits about1 = true := by decide +kernel
set_option maxRecDepth 65536 in
theorem w_runnable : about1.curStatus? = some .runnable := by decide +kernel
set_option maxRecDepth 65536 in
theorem w_alone : about1.alone = true := by decide +kernel
set_option maxRecDepth 65536 in
theorem w_named : about1.methodNamed? x = some theMethod := by decide +kernel
set_option maxRecDepth 65536 in
theorem w_hears : about1.hears theMethod below0 = true := by decide +kernel
set_option maxRecDepth 65536 in
theorem w_ripe : about1.ripe theMethod args0 below0 = true := by decide +kernel
theorem w_running : about1.status = .running := rfl
set_option maxRecDepth 65536 in
theorem w_room : about1.hasRoom e0.platform room_1 = true :=
  launch0.hasRoom_least _ room_1 (by decide +kernel) (by decide +kernel) (by decide +kernel) (by decide +kernel) (by decide +kernel) (by decide +kernel)
theorem allAtoms_all (ts : List Jvm.Cond) (a : Array Jvm.Value) (st : Jvm.State) : (allAtoms ts).before a st = ts.all (fun c => c.before a st) := by
  induction ts with
  | nil => rfl
  | cons c t ih =>
    show (Jvm.Cond.and c (allAtoms t)).before a st = _
    rw [Jvm.Cond.before_and, ih, List.all_cons]
def words1 : List Jvm.Cond := Jvm.Cond.code x code maxLocals ret :: tables_1
/-- a 'code' word, met by the world's own term for the bytes: nothing is compared byte by byte -/
theorem code_word {y : MethodName} {bytes : ByteArray} {mx : Nat} {rt : Option FieldType} {a : Array Value} {s : State} {m : MethodId} {meth : Method} {c : Code} (h1 : s.methodNamed? y = some m) (h2 : s.vm.method? m = some meth) (h3 : meth.code = some c) (h4 : c.code = bytes)
    (h5 : (c.maxLocals == mx && c.exceptionTable.isEmpty && decide (c.maxStack ≤ mostOperands) && decide (meth.sig.returnType = rt) && !meth.locks && decide (parseMethodDescriptor y.desc = some meth.sig)) = true) : (Jvm.Cond.code y bytes mx rt).before a s = true := by
  simp only [Bool.and_eq_true, beq_iff_eq, Bool.not_eq_true', decide_eq_true_eq] at h5
  obtain ⟨⟨⟨⟨⟨g1, g2⟩, g3⟩, g4⟩, g5⟩, g6⟩ := h5
  simp [Cond.before, Cond.holds, Cond.value, h1, h2, h3, h4, g1, g2, g3, g4, g5, g6]
def isCode : Jvm.Cond → Bool
  | .code _ _ _ _ => true
  | _ => false
theorem all_split {L : List Jvm.Cond} {P : Jvm.Cond → Bool} (h1 : L.all (fun c => isCode c || P c) = true) (h2 : ∀ c ∈ L.filter isCode, P c = true) : L.all P = true := by
  refine List.all_eq_true.mpr fun c hc => ?_
  have h := List.all_eq_true.mp h1 c hc
  rcases Bool.eq_false_or_eq_true (isCode c) with hi | hi
  · exact h2 c (List.mem_filter.mpr ⟨hc, hi⟩)
  · simpa [hi] using h
set_option maxRecDepth 65536 in
theorem w_c0 : (Jvm.Cond.code x code maxLocals ret).before args0 about1 = true := code_word (m := ⟨1, 4⟩) (meth := k1m4) (c := k1c4) (by decide +kernel) rfl rfl rfl (by decide +kernel)
set_option maxRecDepth 65536 in
theorem w_c1 : (Jvm.Cond.code ({ cls := "com/example/foothold/foothold/SourceFileLinePinLaw", name := "ch", desc := "(I)C" } : Jvm.MethodName) method_2_code (1 : Nat) (Option.some Jvm.ClassFile.FieldType.char)).before args0 about1 = true := code_word (m := ⟨1, 1⟩) (meth := k1m1) (c := k1c1) (by decide +kernel) rfl rfl rfl (by decide +kernel)
set_option maxRecDepth 65536 in
theorem w_c2 : (Jvm.Cond.code ({ cls := "com/example/foothold/foothold/SourceFileLinePinLaw", name := "text", desc := "(ICCCC)Ljava/lang/String;" } : Jvm.MethodName) method_4_code (5 : Nat) (Option.some (Jvm.ClassFile.FieldType.object "java/lang/String"))).before args0 about1 = true := code_word (m := ⟨1, 3⟩) (meth := k1m3) (c := k1c3) (by decide +kernel) rfl rfl rfl (by decide +kernel)
set_option maxRecDepth 65536 in
theorem w_c3 : (Jvm.Cond.code ({ cls := "java/lang/String", name := "<init>", desc := "([C)V" } : Jvm.MethodName) jdk_42_method_3_code (2 : Nat) (Option.none : Option Jvm.ClassFile.FieldType)).before args0 about1 = true := code_word (m := ⟨8, 1⟩) (meth := k8m1) (c := k8c1) (by decide +kernel) rfl rfl rfl (by decide +kernel)
set_option maxRecDepth 65536 in
theorem w_c4 : (Jvm.Cond.code ({ cls := "java/lang/String", name := "<init>", desc := "([CIILjava/lang/Void;)V" } : Jvm.MethodName) jdk_42_method_149_code (6 : Nat) (Option.none : Option Jvm.ClassFile.FieldType)).before args0 about1 = true := code_word (m := ⟨8, 4⟩) (meth := k8m4) (c := k8c4) (by decide +kernel) rfl rfl rfl (by decide +kernel)
set_option maxRecDepth 65536 in
theorem w_c5 : (Jvm.Cond.code ({ cls := "java/lang/Object", name := "<init>", desc := "()V" } : Jvm.MethodName) object_method_1_code (1 : Nat) (Option.none : Option Jvm.ClassFile.FieldType)).before args0 about1 = true := code_word (m := ⟨0, 0⟩) (meth := k0m0) (c := k0c0) (by decide +kernel) rfl rfl rfl (by decide +kernel)
set_option maxRecDepth 65536 in
theorem w_c6 : (Jvm.Cond.code ({ cls := "com/example/foothold/foothold/SourceFile", name := "<init>", desc := "(Ljava/lang/String;Ljava/lang/String;)V" } : Jvm.MethodName) prog_92_method_1_code (5 : Nat) (Option.none : Option Jvm.ClassFile.FieldType)).before args0 about1 = true := code_word (m := ⟨2, 0⟩) (meth := k2m0) (c := k2c0) (by decide +kernel) rfl rfl rfl (by decide +kernel)
set_option maxRecDepth 65536 in
theorem w_c7 : (Jvm.Cond.code ({ cls := "java/util/ArrayList", name := "<init>", desc := "()V" } : Jvm.MethodName) jdk_38_method_2_code (1 : Nat) (Option.none : Option Jvm.ClassFile.FieldType)).before args0 about1 = true := code_word (m := ⟨17, 0⟩) (meth := k17m0) (c := k17c0) (by decide +kernel) rfl rfl rfl (by decide +kernel)
set_option maxRecDepth 65536 in
theorem w_c8 : (Jvm.Cond.code ({ cls := "java/util/AbstractList", name := "<init>", desc := "()V" } : Jvm.MethodName) jdk_39_method_1_code (1 : Nat) (Option.none : Option Jvm.ClassFile.FieldType)).before args0 about1 = true := code_word (m := ⟨14, 0⟩) (meth := k14m0) (c := k14c0) (by decide +kernel) rfl rfl rfl (by decide +kernel)
set_option maxRecDepth 65536 in
theorem w_c9 : (Jvm.Cond.code ({ cls := "java/util/AbstractCollection", name := "<init>", desc := "()V" } : Jvm.MethodName) jdk_22_method_1_code (1 : Nat) (Option.none : Option Jvm.ClassFile.FieldType)).before args0 about1 = true := code_word (m := ⟨11, 0⟩) (meth := k11m0) (c := k11c0) (by decide +kernel) rfl rfl rfl (by decide +kernel)
set_option maxRecDepth 65536 in
theorem w_c10 : (Jvm.Cond.code ({ cls := "java/lang/Integer", name := "valueOf", desc := "(I)Ljava/lang/Integer;" } : Jvm.MethodName) jdk_33_method_22_code (1 : Nat) (Option.some (Jvm.ClassFile.FieldType.object "java/lang/Integer"))).before args0 about1 = true := code_word (m := ⟨19, 0⟩) (meth := k19m0) (c := k19c0) (by decide +kernel) rfl rfl rfl (by decide +kernel)
set_option maxRecDepth 65536 in
theorem w_c11 : (Jvm.Cond.code ({ cls := "java/util/ArrayList", name := "add", desc := "(Ljava/lang/Object;)Z" } : Jvm.MethodName) jdk_38_method_25_code (2 : Nat) (Option.some Jvm.ClassFile.FieldType.boolean)).before args0 about1 = true := code_word (m := ⟨17, 7⟩) (meth := k17m7) (c := k17c7) (by decide +kernel) rfl rfl rfl (by decide +kernel)
set_option maxRecDepth 65536 in
theorem w_c12 : (Jvm.Cond.code ({ cls := "java/util/ArrayList", name := "add", desc := "(Ljava/lang/Object;[Ljava/lang/Object;I)V" } : Jvm.MethodName) jdk_38_method_24_code (4 : Nat) (Option.none : Option Jvm.ClassFile.FieldType)).before args0 about1 = true := code_word (m := ⟨17, 6⟩) (meth := k17m6) (c := k17c6) (by decide +kernel) rfl rfl rfl (by decide +kernel)
set_option maxRecDepth 65536 in
theorem w_c13 : (Jvm.Cond.code ({ cls := "java/util/ArrayList", name := "grow", desc := "()[Ljava/lang/Object;" } : Jvm.MethodName) jdk_38_method_7_code (1 : Nat) (Option.some (Jvm.ClassFile.FieldType.array (Jvm.ClassFile.FieldType.object "java/lang/Object")))).before args0 about1 = true := code_word (m := ⟨17, 2⟩) (meth := k17m2) (c := k17c2) (by decide +kernel) rfl rfl rfl (by decide +kernel)
set_option maxRecDepth 65536 in
theorem w_c14 : (Jvm.Cond.code ({ cls := "java/util/ArrayList", name := "grow", desc := "(I)[Ljava/lang/Object;" } : Jvm.MethodName) jdk_38_method_6_code (4 : Nat) (Option.some (Jvm.ClassFile.FieldType.array (Jvm.ClassFile.FieldType.object "java/lang/Object")))).before args0 about1 = true := code_word (m := ⟨17, 1⟩) (meth := k17m1) (c := k17c1) (by decide +kernel) rfl rfl rfl (by decide +kernel)
set_option maxRecDepth 65536 in
theorem w_c15 : (Jvm.Cond.code ({ cls := "java/lang/Math", name := "max", desc := "(II)I" } : Jvm.MethodName) jdk_29_method_65_code (2 : Nat) (Option.some Jvm.ClassFile.FieldType.int)).before args0 about1 = true := code_word (m := ⟨21, 1⟩) (meth := k21m1) (c := k21c1) (by decide +kernel) rfl rfl rfl (by decide +kernel)
set_option maxRecDepth 65536 in
theorem w_c16 : (Jvm.Cond.code ({ cls := "java/lang/String", name := "length", desc := "()I" } : Jvm.MethodName) jdk_42_method_54_code (1 : Nat) (Option.some Jvm.ClassFile.FieldType.int)).before args0 about1 = true := code_word (m := ⟨8, 2⟩) (meth := k8m2) (c := k8c2) (by decide +kernel) rfl rfl rfl (by decide +kernel)
set_option maxRecDepth 65536 in
theorem w_c17 : (Jvm.Cond.code ({ cls := "java/lang/String", name := "coder", desc := "()B" } : Jvm.MethodName) jdk_42_method_152_code (1 : Nat) (Option.some Jvm.ClassFile.FieldType.byte)).before args0 about1 = true := code_word (m := ⟨8, 5⟩) (meth := k8m5) (c := k8c5) (by decide +kernel) rfl rfl rfl (by decide +kernel)
set_option maxRecDepth 65536 in
theorem w_c18 : (Jvm.Cond.code ({ cls := "java/util/ArrayList", name := "size", desc := "()I" } : Jvm.MethodName) jdk_38_method_8_code (1 : Nat) (Option.some Jvm.ClassFile.FieldType.int)).before args0 about1 = true := code_word (m := ⟨17, 3⟩) (meth := k17m3) (c := k17c3) (by decide +kernel) rfl rfl rfl (by decide +kernel)
set_option maxRecDepth 65536 in
theorem w_c19 : (Jvm.Cond.code ({ cls := "java/util/ArrayList", name := "get", desc := "(I)Ljava/lang/Object;" } : Jvm.MethodName) jdk_38_method_20_code (2 : Nat) (Option.some (Jvm.ClassFile.FieldType.object "java/lang/Object"))).before args0 about1 = true := code_word (m := ⟨17, 5⟩) (meth := k17m5) (c := k17c5) (by decide +kernel) rfl rfl rfl (by decide +kernel)
set_option maxRecDepth 65536 in
theorem w_c20 : (Jvm.Cond.code ({ cls := "java/util/Objects", name := "checkIndex", desc := "(II)I" } : Jvm.MethodName) jdk_31_method_17_code (2 : Nat) (Option.some Jvm.ClassFile.FieldType.int)).before args0 about1 = true := code_word (m := ⟨22, 1⟩) (meth := k22m1) (c := k22c1) (by decide +kernel) rfl rfl rfl (by decide +kernel)
set_option maxRecDepth 65536 in
theorem w_c21 : (Jvm.Cond.code ({ cls := "jdk/internal/util/Preconditions", name := "checkIndex", desc := "(IILjava/util/function/BiFunction;)I" } : Jvm.MethodName) jdk_41_method_11_code (3 : Nat) (Option.some Jvm.ClassFile.FieldType.int)).before args0 about1 = true := code_word (m := ⟨23, 1⟩) (meth := k23m1) (c := k23c1) (by decide +kernel) rfl rfl rfl (by decide +kernel)
set_option maxRecDepth 65536 in
theorem w_c22 : (Jvm.Cond.code ({ cls := "java/util/ArrayList", name := "elementData", desc := "(I)Ljava/lang/Object;" } : Jvm.MethodName) jdk_38_method_18_code (2 : Nat) (Option.some (Jvm.ClassFile.FieldType.object "java/lang/Object"))).before args0 about1 = true := code_word (m := ⟨17, 4⟩) (meth := k17m4) (c := k17c4) (by decide +kernel) rfl rfl rfl (by decide +kernel)
set_option maxRecDepth 65536 in
theorem w_c23 : (Jvm.Cond.code ({ cls := "java/lang/Integer", name := "intValue", desc := "()I" } : Jvm.MethodName) jdk_33_method_27_code (1 : Nat) (Option.some Jvm.ClassFile.FieldType.int)).before args0 about1 = true := code_word (m := ⟨19, 1⟩) (meth := k19m1) (c := k19c1) (by decide +kernel) rfl rfl rfl (by decide +kernel)
set_option maxRecDepth 65536 in
theorem w_c24 : (Jvm.Cond.code ({ cls := "com/example/foothold/foothold/SourceFileLinePinLaw", name := "nl", desc := "(IIIC)I" } : Jvm.MethodName) method_3_code (4 : Nat) (Option.some Jvm.ClassFile.FieldType.int)).before args0 about1 = true := code_word (m := ⟨1, 2⟩) (meth := k1m2) (c := k1c2) (by decide +kernel) rfl rfl rfl (by decide +kernel)
set_option maxRecDepth 65536 in
theorem w_c25 : (Jvm.Cond.code ({ cls := "com/example/foothold/foothold/SourceFile", name := "line", desc := "(I)I" } : Jvm.MethodName) prog_92_method_4_code (5 : Nat) (Option.some Jvm.ClassFile.FieldType.int)).before args0 about1 = true := code_word (m := ⟨2, 1⟩) (meth := k2m1) (c := k2c1) (by decide +kernel) rfl rfl rfl (by decide +kernel)
set_option maxRecDepth 65536 in
theorem w_c26 : (Jvm.Cond.code ({ cls := "java/lang/StringUTF16", name := "compress", desc := "([CII)[B" } : Jvm.MethodName) jdk_52_method_16_code (6 : Nat) (Option.some (Jvm.ClassFile.FieldType.array Jvm.ClassFile.FieldType.byte))).before args0 about1 = true := code_word (m := ⟨24, 2⟩) (meth := k24m2) (c := k24c2) (by decide +kernel) rfl rfl rfl (by decide +kernel)
set_option maxRecDepth 65536 in
theorem w_c27 : (Jvm.Cond.code ({ cls := "java/lang/StringUTF16", name := "compress", desc := "([CI[BII)I" } : Jvm.MethodName) jdk_52_method_21_code (7 : Nat) (Option.some Jvm.ClassFile.FieldType.int)).before args0 about1 = true := code_word (m := ⟨24, 3⟩) (meth := k24m3) (c := k24c3) (by decide +kernel) rfl rfl rfl (by decide +kernel)
set_option maxRecDepth 65536 in
theorem w_c28 : (Jvm.Cond.code ({ cls := "java/lang/StringUTF16", name := "coderFromArrayLen", desc := "([BI)B" } : Jvm.MethodName) jdk_52_method_15_code (2 : Nat) (Option.some Jvm.ClassFile.FieldType.byte)).before args0 about1 = true := code_word (m := ⟨24, 1⟩) (meth := k24m1) (c := k24c1) (by decide +kernel) rfl rfl rfl (by decide +kernel)
set_option maxRecDepth 65536 in
theorem w_c29 : (Jvm.Cond.code ({ cls := "java/lang/String", name := "charAt", desc := "(I)C" } : Jvm.MethodName) jdk_42_method_56_code (2 : Nat) (Option.some Jvm.ClassFile.FieldType.char)).before args0 about1 = true := code_word (m := ⟨8, 3⟩) (meth := k8m3) (c := k8c3) (by decide +kernel) rfl rfl rfl (by decide +kernel)
set_option maxRecDepth 65536 in
theorem w_c30 : (Jvm.Cond.code ({ cls := "java/lang/String", name := "isLatin1", desc := "()Z" } : Jvm.MethodName) jdk_42_method_154_code (1 : Nat) (Option.some Jvm.ClassFile.FieldType.boolean)).before args0 about1 = true := code_word (m := ⟨8, 6⟩) (meth := k8m6) (c := k8c6) (by decide +kernel) rfl rfl rfl (by decide +kernel)
set_option maxRecDepth 65536 in
theorem w_c31 : (Jvm.Cond.code ({ cls := "java/lang/StringLatin1", name := "charAt", desc := "([BI)C" } : Jvm.MethodName) jdk_43_method_2_code (2 : Nat) (Option.some Jvm.ClassFile.FieldType.char)).before args0 about1 = true := code_word (m := ⟨25, 1⟩) (meth := k25m1) (c := k25c1) (by decide +kernel) rfl rfl rfl (by decide +kernel)
set_option maxRecDepth 65536 in
theorem w_c32 : (Jvm.Cond.code ({ cls := "java/lang/String", name := "checkIndex", desc := "(II)V" } : Jvm.MethodName) jdk_42_method_155_code (2 : Nat) (Option.none : Option Jvm.ClassFile.FieldType)).before args0 about1 = true := code_word (m := ⟨8, 7⟩) (meth := k8m7) (c := k8c7) (by decide +kernel) rfl rfl rfl (by decide +kernel)
def codes1 : List Jvm.Cond := [Jvm.Cond.code x code maxLocals ret, Jvm.Cond.code ({ cls := "com/example/foothold/foothold/SourceFileLinePinLaw", name := "ch", desc := "(I)C" } : Jvm.MethodName) method_2_code (1 : Nat) (Option.some Jvm.ClassFile.FieldType.char), Jvm.Cond.code ({ cls := "com/example/foothold/foothold/SourceFileLinePinLaw", name := "text", desc := "(ICCCC)Ljava/lang/String;" } : Jvm.MethodName) method_4_code (5 : Nat) (Option.some (Jvm.ClassFile.FieldType.object "java/lang/String")), Jvm.Cond.code ({ cls := "java/lang/String", name := "<init>", desc := "([C)V" } : Jvm.MethodName) jdk_42_method_3_code (2 : Nat) (Option.none : Option Jvm.ClassFile.FieldType), Jvm.Cond.code ({ cls := "java/lang/String", name := "<init>", desc := "([CIILjava/lang/Void;)V" } : Jvm.MethodName) jdk_42_method_149_code (6 : Nat) (Option.none : Option Jvm.ClassFile.FieldType), Jvm.Cond.code ({ cls := "java/lang/Object", name := "<init>", desc := "()V" } : Jvm.MethodName) object_method_1_code (1 : Nat) (Option.none : Option Jvm.ClassFile.FieldType), Jvm.Cond.code ({ cls := "com/example/foothold/foothold/SourceFile", name := "<init>", desc := "(Ljava/lang/String;Ljava/lang/String;)V" } : Jvm.MethodName) prog_92_method_1_code (5 : Nat) (Option.none : Option Jvm.ClassFile.FieldType), Jvm.Cond.code ({ cls := "java/util/ArrayList", name := "<init>", desc := "()V" } : Jvm.MethodName) jdk_38_method_2_code (1 : Nat) (Option.none : Option Jvm.ClassFile.FieldType), Jvm.Cond.code ({ cls := "java/util/AbstractList", name := "<init>", desc := "()V" } : Jvm.MethodName) jdk_39_method_1_code (1 : Nat) (Option.none : Option Jvm.ClassFile.FieldType), Jvm.Cond.code ({ cls := "java/util/AbstractCollection", name := "<init>", desc := "()V" } : Jvm.MethodName) jdk_22_method_1_code (1 : Nat) (Option.none : Option Jvm.ClassFile.FieldType), Jvm.Cond.code ({ cls := "java/lang/Integer", name := "valueOf", desc := "(I)Ljava/lang/Integer;" } : Jvm.MethodName) jdk_33_method_22_code (1 : Nat) (Option.some (Jvm.ClassFile.FieldType.object "java/lang/Integer")), Jvm.Cond.code ({ cls := "java/util/ArrayList", name := "add", desc := "(Ljava/lang/Object;)Z" } : Jvm.MethodName) jdk_38_method_25_code (2 : Nat) (Option.some Jvm.ClassFile.FieldType.boolean), Jvm.Cond.code ({ cls := "java/util/ArrayList", name := "add", desc := "(Ljava/lang/Object;[Ljava/lang/Object;I)V" } : Jvm.MethodName) jdk_38_method_24_code (4 : Nat) (Option.none : Option Jvm.ClassFile.FieldType), Jvm.Cond.code ({ cls := "java/util/ArrayList", name := "grow", desc := "()[Ljava/lang/Object;" } : Jvm.MethodName) jdk_38_method_7_code (1 : Nat) (Option.some (Jvm.ClassFile.FieldType.array (Jvm.ClassFile.FieldType.object "java/lang/Object"))), Jvm.Cond.code ({ cls := "java/util/ArrayList", name := "grow", desc := "(I)[Ljava/lang/Object;" } : Jvm.MethodName) jdk_38_method_6_code (4 : Nat) (Option.some (Jvm.ClassFile.FieldType.array (Jvm.ClassFile.FieldType.object "java/lang/Object"))), Jvm.Cond.code ({ cls := "java/lang/Math", name := "max", desc := "(II)I" } : Jvm.MethodName) jdk_29_method_65_code (2 : Nat) (Option.some Jvm.ClassFile.FieldType.int), Jvm.Cond.code ({ cls := "java/lang/String", name := "length", desc := "()I" } : Jvm.MethodName) jdk_42_method_54_code (1 : Nat) (Option.some Jvm.ClassFile.FieldType.int), Jvm.Cond.code ({ cls := "java/lang/String", name := "coder", desc := "()B" } : Jvm.MethodName) jdk_42_method_152_code (1 : Nat) (Option.some Jvm.ClassFile.FieldType.byte), Jvm.Cond.code ({ cls := "java/util/ArrayList", name := "size", desc := "()I" } : Jvm.MethodName) jdk_38_method_8_code (1 : Nat) (Option.some Jvm.ClassFile.FieldType.int), Jvm.Cond.code ({ cls := "java/util/ArrayList", name := "get", desc := "(I)Ljava/lang/Object;" } : Jvm.MethodName) jdk_38_method_20_code (2 : Nat) (Option.some (Jvm.ClassFile.FieldType.object "java/lang/Object")), Jvm.Cond.code ({ cls := "java/util/Objects", name := "checkIndex", desc := "(II)I" } : Jvm.MethodName) jdk_31_method_17_code (2 : Nat) (Option.some Jvm.ClassFile.FieldType.int), Jvm.Cond.code ({ cls := "jdk/internal/util/Preconditions", name := "checkIndex", desc := "(IILjava/util/function/BiFunction;)I" } : Jvm.MethodName) jdk_41_method_11_code (3 : Nat) (Option.some Jvm.ClassFile.FieldType.int), Jvm.Cond.code ({ cls := "java/util/ArrayList", name := "elementData", desc := "(I)Ljava/lang/Object;" } : Jvm.MethodName) jdk_38_method_18_code (2 : Nat) (Option.some (Jvm.ClassFile.FieldType.object "java/lang/Object")), Jvm.Cond.code ({ cls := "java/lang/Integer", name := "intValue", desc := "()I" } : Jvm.MethodName) jdk_33_method_27_code (1 : Nat) (Option.some Jvm.ClassFile.FieldType.int), Jvm.Cond.code ({ cls := "com/example/foothold/foothold/SourceFileLinePinLaw", name := "nl", desc := "(IIIC)I" } : Jvm.MethodName) method_3_code (4 : Nat) (Option.some Jvm.ClassFile.FieldType.int), Jvm.Cond.code ({ cls := "com/example/foothold/foothold/SourceFile", name := "line", desc := "(I)I" } : Jvm.MethodName) prog_92_method_4_code (5 : Nat) (Option.some Jvm.ClassFile.FieldType.int), Jvm.Cond.code ({ cls := "java/lang/StringUTF16", name := "compress", desc := "([CII)[B" } : Jvm.MethodName) jdk_52_method_16_code (6 : Nat) (Option.some (Jvm.ClassFile.FieldType.array Jvm.ClassFile.FieldType.byte)), Jvm.Cond.code ({ cls := "java/lang/StringUTF16", name := "compress", desc := "([CI[BII)I" } : Jvm.MethodName) jdk_52_method_21_code (7 : Nat) (Option.some Jvm.ClassFile.FieldType.int), Jvm.Cond.code ({ cls := "java/lang/StringUTF16", name := "coderFromArrayLen", desc := "([BI)B" } : Jvm.MethodName) jdk_52_method_15_code (2 : Nat) (Option.some Jvm.ClassFile.FieldType.byte), Jvm.Cond.code ({ cls := "java/lang/String", name := "charAt", desc := "(I)C" } : Jvm.MethodName) jdk_42_method_56_code (2 : Nat) (Option.some Jvm.ClassFile.FieldType.char), Jvm.Cond.code ({ cls := "java/lang/String", name := "isLatin1", desc := "()Z" } : Jvm.MethodName) jdk_42_method_154_code (1 : Nat) (Option.some Jvm.ClassFile.FieldType.boolean), Jvm.Cond.code ({ cls := "java/lang/StringLatin1", name := "charAt", desc := "([BI)C" } : Jvm.MethodName) jdk_43_method_2_code (2 : Nat) (Option.some Jvm.ClassFile.FieldType.char), Jvm.Cond.code ({ cls := "java/lang/String", name := "checkIndex", desc := "(II)V" } : Jvm.MethodName) jdk_42_method_155_code (2 : Nat) (Option.none : Option Jvm.ClassFile.FieldType)]
set_option maxRecDepth 65536 in
theorem codes_eq : words1.filter isCode = codes1 := rfl
theorem w_codes : ∀ c ∈ words1.filter isCode, c.before args0 about1 = true := by
  rw [codes_eq]
  intro c hc
  simp only [codes1, List.mem_cons, List.not_mem_nil, or_false] at hc
  rcases hc with rfl | rfl | rfl | rfl | rfl | rfl | rfl | rfl | rfl | rfl | rfl | rfl | rfl | rfl | rfl | rfl | rfl | rfl | rfl | rfl | rfl | rfl | rfl | rfl | rfl | rfl | rfl | rfl | rfl | rfl | rfl | rfl | rfl
  · exact w_c0
  · exact w_c1
  · exact w_c2
  · exact w_c3
  · exact w_c4
  · exact w_c5
  · exact w_c6
  · exact w_c7
  · exact w_c8
  · exact w_c9
  · exact w_c10
  · exact w_c11
  · exact w_c12
  · exact w_c13
  · exact w_c14
  · exact w_c15
  · exact w_c16
  · exact w_c17
  · exact w_c18
  · exact w_c19
  · exact w_c20
  · exact w_c21
  · exact w_c22
  · exact w_c23
  · exact w_c24
  · exact w_c25
  · exact w_c26
  · exact w_c27
  · exact w_c28
  · exact w_c29
  · exact w_c30
  · exact w_c31
  · exact w_c32
set_option maxRecDepth 65536 in
theorem w_t1 : (words1.take 24).all (fun c => isCode c || c.before args0 about1) = true := by decide +kernel
set_option maxRecDepth 65536 in
theorem w_t2 : ((words1.drop 24).take 24).all (fun c => isCode c || c.before args0 about1) = true := by decide +kernel
set_option maxRecDepth 65536 in
theorem w_t3 : (((words1.drop 24).drop 24).take 24).all (fun c => isCode c || c.before args0 about1) = true := by decide +kernel
set_option maxRecDepth 65536 in
theorem w_t4 : ((((words1.drop 24).drop 24).drop 24).take 24).all (fun c => isCode c || c.before args0 about1) = true := by decide +kernel
set_option maxRecDepth 65536 in
theorem w_t5 : (((((words1.drop 24).drop 24).drop 24).drop 24).take 24).all (fun c => isCode c || c.before args0 about1) = true := by decide +kernel
set_option maxRecDepth 65536 in
theorem w_t6 : ((((((words1.drop 24).drop 24).drop 24).drop 24).drop 24).take 24).all (fun c => isCode c || c.before args0 about1) = true := by decide +kernel
set_option maxRecDepth 65536 in
theorem w_t7 : (((((((words1.drop 24).drop 24).drop 24).drop 24).drop 24).drop 24).take 24).all (fun c => isCode c || c.before args0 about1) = true := by decide +kernel
set_option maxRecDepth 65536 in
theorem w_t8 : ((((((((words1.drop 24).drop 24).drop 24).drop 24).drop 24).drop 24).drop 24).take 24).all (fun c => isCode c || c.before args0 about1) = true := by decide +kernel
set_option maxRecDepth 65536 in
theorem w_t9 : ((((((((words1.drop 24).drop 24).drop 24).drop 24).drop 24).drop 24).drop 24).drop 24).all (fun c => isCode c || c.before args0 about1) = true := by decide +kernel
theorem w_tables : (allAtoms (Jvm.Cond.code x code maxLocals ret :: tables_1)).before args0 about1 = true := by
  rw [allAtoms_all]
  show words1.all (fun c => c.before args0 about1) = true
  refine all_split ?_ w_codes
  rw [← List.take_append_drop 24 words1, List.all_append, w_t1, ← List.take_append_drop 24 (words1.drop 24), List.all_append, w_t2, ← List.take_append_drop 24 ((words1.drop 24).drop 24), List.all_append, w_t3, ← List.take_append_drop 24 (((words1.drop 24).drop 24).drop 24), List.all_append, w_t4, ← List.take_append_drop 24 ((((words1.drop 24).drop 24).drop 24).drop 24), List.all_append, w_t5, ← List.take_append_drop 24 (((((words1.drop 24).drop 24).drop 24).drop 24).drop 24), List.all_append, w_t6, ← List.take_append_drop 24 ((((((words1.drop 24).drop 24).drop 24).drop 24).drop 24).drop 24), List.all_append, w_t7, ← List.take_append_drop 24 (((((((words1.drop 24).drop 24).drop 24).drop 24).drop 24).drop 24).drop 24), List.all_append, w_t8, w_t9]
  rfl
set_option maxRecDepth 65536 in
theorem w_rest : rest_1_c.before args0 about1 = true := by decide +kernel
set_option maxRecDepth 65536 in
theorem w_case : (Jvm.Cond.and given_1 narrow_1).before args0 about1 = true := by decide +kernel
set_option maxRecDepth 65536 in
theorem w_consts : constsHeld consts_1 about1 := Jvm.Lit.constsHeldB_iff.mp (by decide +kernel)
theorem w_applies : (headSpec (Jvm.Cond.code x code maxLocals ret :: tables_1) room_1).applies x e0.platform about1 = true :=
  (Spec.applies_iff w_frames).mpr ⟨w_running, w_runnable, w_alone, w_named, w_hears, w_ripe, w_room, w_tables⟩
theorem atStart : AtStart classFile x code maxLocals ret World_1 tables_1 room_1 Calls_1 rest_1 Pre_1 launch0 p0 e0 about1 theMethod args0 below0 :=
  ⟨lists_1, trivial, launch0.admits_env _ _ _, launch0.least_env, fairChoices_fair.cas, fairChoices_fair.clock, w_frames, w_args, w_heap, w_applies, ⟨w_consts, trivial⟩, w_rest, w_case⟩
end start1
theorem witness_1 : WitnessClaimed_1 := ⟨start1.p0, start1.e0, start1.about1, start1.theMethod, start1.args0, start1.below0, start1.atStart⟩
end Jvm.Pilot.@@N@@
