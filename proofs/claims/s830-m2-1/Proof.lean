import JvmDerived
import JvmDerived.Pilot.@@N@@Statement
import JvmDerived.Pilot.@@N@@Code
set_option linter.unusedVariables false
set_option linter.unusedSimpArgs false
@@BLOCK:NumsL.lean.txt@@
namespace Jvm.Pilot.@@N@@
open Jvm Jvm.ClassFile Sem Op Lib Jvm.Free Jvm.Stand Jvm.LawKit Jvm.RoadKit Bundle Jvm.Pilot.@@N@@.Jvm.D
section Own
variable {p : Program} {l : Launch} {e : Env} {R rm : Room} {s : State} {m : MethodId} {args : Array Value} {below : List Frame} {meth : Method} {c : Code} {T : State} {locs : List Loc} {cells slots : Nat} {Z : State} {a0 : Array Value} {h : Heap}
/-- the run comes to the end of the invocation, and what is asked holds there -/
def own_Goes (p : Program) (e : Env) (below : List Frame) (G : Outcome → State → Prop) (S : State) : Prop := ∃ s₂ o, Steps p.tables e below S s₂ ∧ s₂.status = .running ∧ Ended s₂ below o ∧ G o s₂
theorem own_go {G : Outcome → State → Prop} {S S' : State} (h : ∀ t, Steps p.tables e below S' t → Steps p.tables e below S t) (k : own_Goes p e below G S') : own_Goes p e below G S := by
  obtain ⟨s₂, o, h1, h2⟩ := k
  exact ⟨s₂, o, h _ h1, h2⟩
theorem own_tr {G : Outcome → State → Prop} {S S' : State} (h : Steps p.tables e below S S') (k : own_Goes p e below G S') : own_Goes p e below G S := own_go (fun _ q => h.trans q) k
abbrev own_End (s : State) (rm : Room) (Q : Option Value → Heap → List Loc → Prop) : Outcome → State → Prop := fun o U' => ∃ v L, o = .returned v ∧ Q v U'.heap L ∧ FrameEnd s o U' L rm.cells rm.slots
/-- a body's contract: with these arguments, over this heap, it returns and leaves what Q says -/
def own_Met (l : Launch) (Z : State) (y : MethodName) (bytes : ByteArray) (maxL : Nat) (ret : Option FieldType) (ws : List Jvm.Cond) (rm : Room) (as : Array Value) (h0 : Heap) (Q : Option Value → Heap → List Loc → Prop) : Prop :=
  MetFree l y (head1 (Jvm.Cond.code y bytes maxL ret :: ws) rm) (fun a U => a = as ∧ Z.Warmed39 U.vm ∧ U.heap = h0) (fun _ _ _ _ _ => True) (fun _ U o U' => ∃ v L, o = .returned v ∧ Q v U'.heap L ∧ FrameEnd U o U' L rm.cells rm.slots)
theorem own_met {y : MethodName} {bytes : ByteArray} {maxL : Nat} {ret : Option FieldType} {ws : List Jvm.Cond} {as : Array Value} {h0 : Heap} {Q : Option Value → Heap → List Loc → Prop} (hp : plainFor y = true)
    (body : ∀ (p : Program) (e : Env) (s : State) (m : MethodId) (below : List Frame) (meth : Method) (c : Code) (s₁ : State), p.tables.exec = Jvm.exec → c.code = bytes → c.maxLocals = maxL → s.vm.findClass y.cls = some m.cls → meth.name = y.name → meth.sig.returnType = ret → meth.locks = false → Z.Warmed39 s.vm → s₁.heap = h0 →
      Stand p l e rm s m as below meth c s₁ [] 0 0 → own_Goes p e below (own_End s rm Q) (s₁.setTop (entryFrame m as maxL))) : own_Met l Z y bytes maxL ret ws rm as h0 Q := by
  refine MetFree.of_bodySF hp hisR ?_
  intro p e s m args below meth c s₁ Bd hml hP hK
  obtain ⟨rfl, hZ, hh⟩ := hP
  exact body p e s m below meth c s₁ Bd.exec Bd.bytes hml (findClass_of_methodNamed Bd.named) (name_of_methodNamed Bd.named Bd.method).1 Bd.returns Bd.notSynchronized hZ (by rw [← hh, Bd.state]; rfl) (Stand.of_body Bd)
/-- the returns -/
theorem own_retV {Q : Option Value → Heap → List Loc → Prop} (X : Stand p l e rm s m args below meth c T locs cells slots) (hx : p.tables.exec = Jvm.exec) (hlk : meth.locks = false) {pc : Nat} {Ls : Array Slot} {w : Value} {t : FieldType} {i : Instr} {rest : List Value} (hret : meth.sig.returnType = some t) (hn : narrow t w = w)
    (hi : (i = .ireturn ∧ (t = .int ∨ t = .boolean ∨ t = .byte ∨ t = .char ∨ t = .short) ∧ ∃ z, w = .int z) ∨ (i = .lreturn ∧ t = .long ∧ ∃ z, w = .long z) ∨ (i = .dreturn ∧ t = .double ∧ ∃ z, w = .double z) ∨ (i = .freturn ∧ t = .float ∧ ∃ z, w = .float z) ∨ (i = .areturn ∧ t.isReference = true ∧ w.isRef = true))
    (hd : decode c.code pc = .ok (i, 1)) (hc : cells ≤ rm.cells) (hs : slots ≤ rm.slots) (hq : Q (some w) T.heap locs) : own_Goes p e below (own_End s rm Q) (T.setTop (mkF m pc Ls (w :: rest))) := by
  obtain ⟨fs, hr, hrun, hended, hW, hsame⟩ := X.leave (v := some w) (fun h => by rw [hret] at h; cases h) hlk
  exact ⟨_, _, retOut X hx hret hn hi hd hr, hrun, hended, _, _, rfl, hq, ⟨_, rfl⟩, hW, hsame.mono hc hs⟩
theorem own_retI {Q : Option Value → Heap → List Loc → Prop} (X : Stand p l e rm s m args below meth c T locs cells slots) (hx : p.tables.exec = Jvm.exec) (hlk : meth.locks = false) {pc : Nat} {Ls : Array Slot} {z : Int32} {rest : List Value} (hret : meth.sig.returnType = some .int)
    (hd : decode c.code pc = .ok (.ireturn, 1)) (hc : cells ≤ rm.cells) (hs : slots ≤ rm.slots) (hq : Q (some (.int z)) T.heap locs) : own_Goes p e below (own_End s rm Q) (T.setTop (mkF m pc Ls (.int z :: rest))) :=
  own_retV X hx hlk hret rfl (Or.inl ⟨rfl, Or.inl rfl, z, rfl⟩) hd hc hs hq
theorem own_retJ {Q : Option Value → Heap → List Loc → Prop} (X : Stand p l e rm s m args below meth c T locs cells slots) (hx : p.tables.exec = Jvm.exec) (hlk : meth.locks = false) {pc : Nat} {Ls : Array Slot} {z : Int64} {rest : List Value} (hret : meth.sig.returnType = some .long)
    (hd : decode c.code pc = .ok (.lreturn, 1)) (hc : cells ≤ rm.cells) (hs : slots ≤ rm.slots) (hq : Q (some (.long z)) T.heap locs) : own_Goes p e below (own_End s rm Q) (T.setTop (mkF m pc Ls (.long z :: rest))) :=
  own_retV X hx hlk hret rfl (Or.inr (Or.inl ⟨rfl, rfl, z, rfl⟩)) hd hc hs hq
theorem own_retR {Q : Option Value → Heap → List Loc → Prop} (X : Stand p l e rm s m args below meth c T locs cells slots) (hx : p.tables.exec = Jvm.exec) (hlk : meth.locks = false) {pc : Nat} {Ls : Array Slot} {w : Value} {t : FieldType} {rest : List Value} (hret : meth.sig.returnType = some t) (ht : t.isReference = true) (hw : w.isRef = true)
    (hd : decode c.code pc = .ok (.areturn, 1)) (hc : cells ≤ rm.cells) (hs : slots ≤ rm.slots) (hq : Q (some w) T.heap locs) : own_Goes p e below (own_End s rm Q) (T.setTop (mkF m pc Ls (w :: rest))) :=
  own_retV X hx hlk hret (by cases t <;> first | rfl | cases ht) (Or.inr (Or.inr (Or.inr (Or.inr ⟨rfl, ht, hw⟩)))) hd hc hs hq
theorem own_retN {Q : Option Value → Heap → List Loc → Prop} (X : Stand p l e rm s m args below meth c T locs cells slots) (hx : p.tables.exec = Jvm.exec) (hlk : meth.locks = false) {pc : Nat} {Ls : Array Slot} {z z' : Int32} {t : FieldType} {rest : List Value} (hret : meth.sig.returnType = some t) (ht : t = .boolean ∨ t = .byte ∨ t = .char ∨ t = .short) (hz : nar t z = z')
    (hd : decode c.code pc = .ok (.ireturn, 1)) (hc : cells ≤ rm.cells) (hs : slots ≤ rm.slots) (hq : Q (some (.int z')) T.heap locs) : own_Goes p e below (own_End s rm Q) (T.setTop (mkF m pc Ls (.int z :: rest))) := by
  subst hz
  obtain ⟨fs, hr, hrun, hended, hW, hsame⟩ := X.leave (v := some (.int (nar t z))) (fun h => by rw [hret] at h; cases h) hlk
  exact ⟨_, _, retN X hx hret ht hd hr, hrun, hended, _, _, rfl, hq, ⟨_, rfl⟩, hW, hsame.mono hc hs⟩
theorem own_ret0 {Q : Option Value → Heap → List Loc → Prop} (X : Stand p l e rm s m args below meth c T locs cells slots) (hx : p.tables.exec = Jvm.exec) (hlk : meth.locks = false) {pc : Nat} {Ls : Array Slot} (hret : meth.sig.returnType = none)
    (hd : decode c.code pc = .ok (.return_, 1)) (hc : cells ≤ rm.cells) (hs : slots ≤ rm.slots) (hq : Q none T.heap locs) : own_Goes p e below (own_End s rm Q) (T.setTop (mkF m pc Ls [])) := by
  obtain ⟨fs, hr, hrun, hended, hW, hsame⟩ := X.leave (v := none) (fun _ => rfl) hlk
  exact ⟨_, _, X.returnOut hx hret hd hr, hrun, hended, _, _, rfl, hq, ⟨_, rfl⟩, hW, hsame.mono hc hs⟩
/-- a static call by the callee's contract -/
theorem own_callS (X : Stand p l e R s m args below meth c T locs cells slots) (hx : p.tables.exec = Jvm.exec) (hZ : Z.Warmed39 s.vm) {own : String} {index : Nat} {y : MethodName} {bytes : ByteArray} {maxL : Nat} {ret : Option FieldType} (hown : s.vm.findClass own = some m.cls)
    (w1 : (Jvm.Cond.methodLink own index y).before a0 Z = true) (w2 : (Jvm.Cond.static y).before a0 Z = true) (w3 : (Jvm.Cond.initialized y.cls).before a0 Z = true) (w4 : (Jvm.Cond.code y bytes maxL ret).before a0 Z = true) (hy : y.cls ≠ "java/lang/invoke/MethodHandle" ∧ y.cls ≠ "java/lang/invoke/VarHandle")
    {as : List Value} {Q : Option Value → Heap → List Loc → Prop} (hM : own_Met l Z y bytes maxL ret [] rm as.toArray h Q) (eT : T.heap = h) {ps : List FieldType} {rt : Option FieldType} (hpd : parseMethodDescriptor y.desc = some ⟨ps, rt⟩) (hlen : as.length = ps.length)
    {pc : Nat} {Ls : Array Slot} {rest : List Value} {W : Nat} (hsize : Ls.size = c.maxLocals) (hW : (rest.map fun v => v.category).sum ≤ W) (hf : rm.frames + 1 ≤ R.frames) (hl : W + (maxL + 11) + rm.locals ≤ R.locals) (hd : decode c.code pc = .ok (.invokestatic index, 3)) (hc : cells + rm.cells ≤ R.cells) (hs : slots + rm.slots ≤ R.slots) :
    ∃ (v : Option Value) (T' : State) (L' : List Loc), Stand p l e R s m args below meth c T' (locs ++ L') (cells + rm.cells) (slots + rm.slots) ∧ Q v T'.heap L' ∧ ∀ target, Steps p.tables e below (T'.setTop (mkF m (pc + 3) Ls (v.toList ++ rest))) target → Steps p.tables e below (T.setTop (mkF m pc Ls (as.reverse ++ rest))) target := by
  obtain ⟨v, _, ⟨T', L', k', n'⟩, -, X', ⟨Lc, hQ, hl', hk', hn'⟩, st⟩ := Jvm.LawKit.callS X hx (y := y) hown (mvT hZ w1) (mvT hZ w2) (mvT hZ w3) (mvT hZ w4) hy (backOf (W := W) hM hZ w4 w3 hf hl) (g := mkF m pc Ls (as.reverse ++ rest)) rfl hsize (argsL := as) (rest := rest) (lenOf hpd hlen) rfl (by show 2 * 0 + _ ≤ _; omega) hd (fun _ _ => ⟨rfl, eT, hc, hs⟩)
  dsimp only [Pt.U, Pt.locs, Pt.cells, Pt.slots] at X' hl' hk' hn' st hQ
  subst hl' hk' hn'
  exact ⟨v, T', Lc, X', hQ, st⟩
/-- an instance method by the contract of the body that the receiver's class selects -/
theorem own_callV (X : Stand p l e R s m args below meth c T locs cells slots) (hx : p.tables.exec = Jvm.exec) (hZ : Z.Warmed39 s.vm) {own C : String} {index : Nat} {y : MethodName} {bytes : ByteArray} {maxL : Nat} {ret : Option FieldType} (hown : s.vm.findClass own = some m.cls)
    (w1 : (Jvm.Cond.methodLink own index y).before a0 Z = true) (w2 : (Jvm.Cond.declares y).before a0 Z = true) (w3 : (Jvm.Cond.selects C y y).before a0 Z = true) (w4 : (Jvm.Cond.instanceMethod y).before a0 Z = true) (w5 : (Jvm.Cond.initialized y.cls).before a0 Z = true) (w6 : (Jvm.Cond.code y bytes maxL ret).before a0 Z = true) (hy : y.cls ≠ "java/lang/invoke/MethodHandle" ∧ y.cls ≠ "java/lang/invoke/VarHandle")
    {b : Addr} {as : List Value} {Q : Option Value → Heap → List Loc → Prop} (hM : own_Met l Z y bytes maxL ret [] rm (Value.ref b :: as).toArray h Q) (eT : T.heap = h) (E : Exa Z h b C) {ps : List FieldType} {rt : Option FieldType} (hpd : parseMethodDescriptor y.desc = some ⟨ps, rt⟩) (hlen : as.length = ps.length)
    {pc : Nat} {Ls : Array Slot} {rest : List Value} {W : Nat} (hsize : Ls.size = c.maxLocals) (hW : (rest.map fun v => v.category).sum ≤ W) (hf : rm.frames + 1 ≤ R.frames) (hl : W + (maxL + 11) + rm.locals ≤ R.locals) (hd : decode c.code pc = .ok (.invokevirtual index, 3)) (hc : cells + rm.cells ≤ R.cells) (hs : slots + rm.slots ≤ R.slots) :
    ∃ (v : Option Value) (T' : State) (L' : List Loc), Stand p l e R s m args below meth c T' (locs ++ L') (cells + rm.cells) (slots + rm.slots) ∧ Q v T'.heap L' ∧ ∀ target, Steps p.tables e below (T'.setTop (mkF m (pc + 3) Ls (v.toList ++ rest))) target → Steps p.tables e below (T.setTop (mkF m pc Ls (as.reverse ++ Value.ref b :: rest))) target := by
  obtain ⟨cq, kq, qa, qb, qc⟩ := isOf hZ eT E
  obtain ⟨v, _, ⟨T', L', k', n'⟩, -, X', ⟨Lc, hQ, hl', hk', hn'⟩, st⟩ := X.virtualBack hx (y := y) (z := y) hown (mvT hZ w1) (mvT hZ w2) (notFace_of_selects (args := #[]) (mvT hZ w3)) (mvT hZ w3) (mvT hZ w4) hy (backOf (W := W) hM hZ w6 w5 hf hl) qa qc (g := mkF m pc Ls (as.reverse ++ Value.ref b :: rest)) rfl hsize (Steps.refl _) (argsL := as) (rest := rest) (lenOf hpd hlen) rfl (by show 2 * 0 + _ ≤ _; omega) hd (fun _ _ => ⟨rfl, eT, hc, hs⟩)
  dsimp only [Pt.U, Pt.locs, Pt.cells, Pt.slots] at X' hl' hk' hn' st hQ
  subst hl' hk' hn'
  exact ⟨v, T', Lc, X', hQ, fun _ q => st.trans q⟩
/-- a constructor by its contract -/
theorem own_callI (X : Stand p l e R s m args below meth c T locs cells slots) (hx : p.tables.exec = Jvm.exec) (hZ : Z.Warmed39 s.vm) {own : String} {index : Nat} {y : MethodName} {bytes : ByteArray} {maxL : Nat} (hy1 : y.name = "<init>") (hown : s.vm.findClass own = some m.cls)
    (w1 : (Jvm.Cond.methodLink own index y).before a0 Z = true) (w4 : (Jvm.Cond.instanceMethod y).before a0 Z = true) (w5 : (Jvm.Cond.initialized y.cls).before a0 Z = true) (w6 : (Jvm.Cond.code y bytes maxL none).before a0 Z = true) (hy : y.cls ≠ "java/lang/invoke/MethodHandle" ∧ y.cls ≠ "java/lang/invoke/VarHandle")
    {b : Addr} {as : List Value} {Q : Option Value → Heap → List Loc → Prop} (hM : own_Met l Z y bytes maxL none [] rm (Value.ref b :: as).toArray h Q) (eT : T.heap = h) {ps : List FieldType} {rt : Option FieldType} (hpd : parseMethodDescriptor y.desc = some ⟨ps, rt⟩) (hlen : as.length = ps.length)
    {pc : Nat} {Ls : Array Slot} {rest : List Value} {W : Nat} (hsize : Ls.size = c.maxLocals) (hW : (rest.map fun v => v.category).sum ≤ W) (hf : rm.frames + 1 ≤ R.frames) (hl : W + (maxL + 11) + rm.locals ≤ R.locals) (hd : decode c.code pc = .ok (.invokespecial index, 3)) (hc : cells + rm.cells ≤ R.cells) (hs : slots + rm.slots ≤ R.slots) :
    ∃ (v : Option Value) (T' : State) (L' : List Loc), Stand p l e R s m args below meth c T' (locs ++ L') (cells + rm.cells) (slots + rm.slots) ∧ Q v T'.heap L' ∧ ∀ target, Steps p.tables e below (T'.setTop (mkF m (pc + 3) Ls (v.toList ++ rest))) target → Steps p.tables e below (T.setTop (mkF m pc Ls (as.reverse ++ Value.ref b :: rest))) target := by
  obtain ⟨v, _, ⟨T', L', k', n'⟩, -, X', ⟨Lc, hQ, hl', hk', hn'⟩, st⟩ := X.specialBack hx (y := y) hy1 hown (mvT hZ w1) (mvT hZ w4) (mvT hZ w6) hy (backOf (W := W) hM hZ w6 w5 hf hl) (g := mkF m pc Ls (as.reverse ++ Value.ref b :: rest)) rfl hsize (Steps.refl _) (a := b) (argsL := as) (rest := rest) (lenOf hpd hlen) rfl (by show 2 * 0 + _ ≤ _; omega) hd (fun _ _ => ⟨rfl, eT, hc, hs⟩)
  dsimp only [Pt.U, Pt.locs, Pt.cells, Pt.slots] at X' hl' hk' hn' st hQ
  subst hl' hk' hn'
  exact ⟨v, T', Lc, X', hQ, fun _ q => st.trans q⟩
end Own
section OwnWords
variable {args : Array Value} {first s : State} {o : Option Outcome} {idx : List Nat} {a b t : Term} {G Y : Jvm.Cond}
theorem own_eqI {k : Int32} (h : (Jvm.Cond.eq a b).value args first o s idx = some true) (hb : b.eval args first o idx s = some (.int k)) : a.eval args first o idx s = some (.int k) := by
  obtain ⟨x, y, h1, h2, h3, h4⟩ := cmp_v (Or.inl h)
  cases hb.symm.trans h2
  obtain ⟨z, rfl⟩ := h4
  simp only [Jvm.Cond.value, h1, hb] at h
  rw [h1]
  simpa using h
theorem own_eqJ {k : Int64} (h : (Jvm.Cond.eq a b).value args first o s idx = some true) (hb : b.eval args first o idx s = some (.long k)) : a.eval args first o idx s = some (.long k) := by
  obtain ⟨x, y, h1, h2, h3, h4⟩ := cmp_v (Or.inl h)
  cases hb.symm.trans h2
  obtain ⟨z, rfl⟩ := h4
  simp only [Jvm.Cond.value, h1, hb] at h
  rw [h1]
  simpa using h
theorem own_or (h : (Jvm.Cond.or G Y).value args first o s idx = some true) (h1 : G.value args first o s idx = some false) : Y.value args first o s idx = some true := by
  simpa [Jvm.Cond.value, h1] using h
theorem own_ixlt {j k : Int32} (hj : ¬ j < 0) (hk : ¬ j < k) : (Jvm.Cond.lt (Jvm.Term.index 0) (Jvm.Term.int k)).value args first o s [j.toNatClampNeg] = some false := by
  have e := idx_at (args := args) (first := first) (o := o) (s := s) hj
  have f : (Jvm.Term.int k).eval args first o [j.toNatClampNeg] s = some (.int k) := Term.int_eval _
  rw [Cond.lt_ints e f]
  simp [hk]
theorem own_ixle {j k : Int32} (hj : ¬ j < 0) (hk : j < k) : (Jvm.Cond.le (Jvm.Term.int k) (Jvm.Term.index 0)).value args first o s [j.toNatClampNeg] = some false := by
  have e := idx_at (args := args) (first := first) (o := o) (s := s) hj
  have f : (Jvm.Term.int k).eval args first o [j.toNatClampNeg] s = some (.int k) := Term.int_eval _
  rw [Cond.le_ints f e]
  simp [Int32.not_le.mpr hk]
theorem own_ixsub {j k : Int32} (hj : ¬ j < 0) : (Jvm.Term.sub (Jvm.Term.index 0) (Jvm.Term.int k)).eval args first o [j.toNatClampNeg] s = some (.int (j - k)) := by
  have e := idx_at (args := args) (first := first) (o := o) (s := s) hj
  have f : (Jvm.Term.int k).eval args first o [j.toNatClampNeg] s = some (.int k) := Term.int_eval _
  rw [Term.eval, e, f]
  rfl
/-- a field that the case says to hold a number -/
theorem own_fldI {C n d : String} {x : Addr} {k : Int32} (ht : t.eval args s none [] s = some (.ref x)) (h : (Jvm.Cond.eq (Term.field t C n d) (Term.int k)).value args s none s [] = some true) : Fld s s.heap x C n d (.int k) := by
  have e := own_eqI h (Term.int_eval _)
  rw [fld_at ht] at e
  exact Fld.start e
theorem own_fldJ {C n d : String} {x : Addr} {k : Int64} (ht : t.eval args s none [] s = some (.ref x)) (h : (Jvm.Cond.eq (Term.field t C n d) (Term.long k)).value args s none s [] = some true) : Fld s s.heap x C n d (.long k) := by
  have e := own_eqJ h (show (Term.long k).eval args s none [] s = some (.long k) by simp [Term.eval])
  rw [fld_at ht] at e
  exact Fld.start e
end OwnWords

theorem own_d1_0 : decode method_2_code 0 = .ok (.iload_n 0, 1) := by decide +kernel
theorem own_d1_1 : decode method_2_code 1 = .ok (.ifCond .ne 7, 3) := by decide +kernel
theorem own_d1_4 : decode method_2_code 4 = .ok (.getstatic 7, 3) := by decide +kernel
theorem own_t5 : (Jvm.Cond.fieldLink "khoplenh/OrderTypeIsMarketPinLaw" (7 : Nat) "khoplenh/OrderType" "LO" "Lkhoplenh/OrderType;") ∈ tables_1 := List.mem_of_getElem? (i := 5) rfl
theorem own_d1_8 : decode method_2_code 8 = .ok (.iload_n 0, 1) := by decide +kernel
theorem own_d1_9 : decode method_2_code 9 = .ok (.iconst 1, 1) := by decide +kernel
theorem own_d1_10 : decode method_2_code 10 = .ok (.if_icmp .ne 7, 3) := by decide +kernel
theorem own_d1_13 : decode method_2_code 13 = .ok (.getstatic 13, 3) := by decide +kernel
theorem own_t26 : (Jvm.Cond.fieldLink "khoplenh/OrderTypeIsMarketPinLaw" (13 : Nat) "khoplenh/OrderType" "ATO" "Lkhoplenh/OrderType;") ∈ tables_1 := List.mem_of_getElem? (i := 26) rfl
theorem own_d1_17 : decode method_2_code 17 = .ok (.iload_n 0, 1) := by decide +kernel
theorem own_d1_18 : decode method_2_code 18 = .ok (.iconst 2, 1) := by decide +kernel
theorem own_d1_19 : decode method_2_code 19 = .ok (.if_icmp .ne 7, 3) := by decide +kernel
theorem own_d1_22 : decode method_2_code 22 = .ok (.getstatic 16, 3) := by decide +kernel
theorem own_t24 : (Jvm.Cond.fieldLink "khoplenh/OrderTypeIsMarketPinLaw" (16 : Nat) "khoplenh/OrderType" "ATC" "Lkhoplenh/OrderType;") ∈ tables_1 := List.mem_of_getElem? (i := 24) rfl
theorem own_d1_26 : decode method_2_code 26 = .ok (.iload_n 0, 1) := by decide +kernel
theorem own_d1_27 : decode method_2_code 27 = .ok (.iconst 3, 1) := by decide +kernel
theorem own_d1_28 : decode method_2_code 28 = .ok (.if_icmp .ne 7, 3) := by decide +kernel
theorem own_d1_31 : decode method_2_code 31 = .ok (.getstatic 19, 3) := by decide +kernel
theorem own_t19 : (Jvm.Cond.fieldLink "khoplenh/OrderTypeIsMarketPinLaw" (19 : Nat) "khoplenh/OrderType" "MTL" "Lkhoplenh/OrderType;") ∈ tables_1 := List.mem_of_getElem? (i := 19) rfl
theorem own_d1_35 : decode method_2_code 35 = .ok (.iload_n 0, 1) := by decide +kernel
theorem own_d1_36 : decode method_2_code 36 = .ok (.iconst 4, 1) := by decide +kernel
theorem own_d1_37 : decode method_2_code 37 = .ok (.if_icmp .ne 7, 3) := by decide +kernel
theorem own_d1_40 : decode method_2_code 40 = .ok (.getstatic 22, 3) := by decide +kernel
theorem own_t23 : (Jvm.Cond.fieldLink "khoplenh/OrderTypeIsMarketPinLaw" (22 : Nat) "khoplenh/OrderType" "MOK" "Lkhoplenh/OrderType;") ∈ tables_1 := List.mem_of_getElem? (i := 23) rfl
theorem own_d1_44 : decode method_2_code 44 = .ok (.iload_n 0, 1) := by decide +kernel
theorem own_d1_45 : decode method_2_code 45 = .ok (.iconst 5, 1) := by decide +kernel
theorem own_d1_46 : decode method_2_code 46 = .ok (.if_icmp .ne 7, 3) := by decide +kernel
theorem own_d1_49 : decode method_2_code 49 = .ok (.getstatic 25, 3) := by decide +kernel
theorem own_t20 : (Jvm.Cond.fieldLink "khoplenh/OrderTypeIsMarketPinLaw" (25 : Nat) "khoplenh/OrderType" "MAK" "Lkhoplenh/OrderType;") ∈ tables_1 := List.mem_of_getElem? (i := 20) rfl
theorem own_d1_53 : decode method_2_code 53 = .ok (.getstatic 28, 3) := by decide +kernel
theorem own_t21 : (Jvm.Cond.fieldLink "khoplenh/OrderTypeIsMarketPinLaw" (28 : Nat) "khoplenh/OrderType" "PLO" "Lkhoplenh/OrderType;") ∈ tables_1 := List.mem_of_getElem? (i := 21) rfl
theorem own_pn0 : plainName "khoplenh/OrderTypeIsMarketPinLaw" = true := by first | (simp [plainName, overriddenIn]; done) | decide +kernel
theorem own_d1_7 : decode method_2_code 7 = .ok (.areturn, 1) := by decide +kernel
theorem own_d1_16 : decode method_2_code 16 = .ok (.areturn, 1) := by decide +kernel
theorem own_d1_25 : decode method_2_code 25 = .ok (.areturn, 1) := by decide +kernel
theorem own_d1_34 : decode method_2_code 34 = .ok (.areturn, 1) := by decide +kernel
theorem own_d1_43 : decode method_2_code 43 = .ok (.areturn, 1) := by decide +kernel
theorem own_d1_52 : decode method_2_code 52 = .ok (.areturn, 1) := by decide +kernel
theorem own_d1_56 : decode method_2_code 56 = .ok (.areturn, 1) := by decide +kernel
def own_f1 (x0 : Int32) (s_LO : Addr) (s_ATO : Addr) (s_ATC : Addr) (s_MTL : Addr) (s_MOK : Addr) (s_MAK : Addr) (s_PLO : Addr) : Addr := (if x0 = (0 : Int32) then s_LO else (if x0 = (1 : Int32) then s_ATO else (if x0 = (2 : Int32) then s_ATC else (if x0 = (3 : Int32) then s_MTL else (if x0 = (4 : Int32) then s_MOK else (if x0 = (5 : Int32) then s_MAK else s_PLO))))))
def own_Q1 (x0 : Int32) (s_LO : Addr) (s_ATO : Addr) (s_ATC : Addr) (s_MTL : Addr) (s_MOK : Addr) (s_MAK : Addr) (s_PLO : Addr) (h0 : Heap) (n0 : Nat) (v : Option Value) (h : Heap) (L : List Loc) : Prop := v = some (.ref (own_f1 x0 s_LO s_ATO s_ATC s_MTL s_MOK s_MAK s_PLO)) ∧ Fr n0 L ∧ h = h0
abbrev own_R1 : Room := { frames := 0, cells := 0, slots := 0, locals := 0 }
theorem own_ef1 (m : MethodId) (z0 : Int32) : entryFrame m #[(.int z0)] 1 = mkF m 0 #[.val (.int z0)] [] := by first | (simp [entryFrame, mkF, argsToLocals, Value.category]; done) | rfl
set_option maxRecDepth 65536 in
set_option maxHeartbeats 40000000 in
theorem rm1 (l : Launch) (Z : State) (a0 : Array Value) (hw : ∀ d ∈ tables_1, d.before a0 Z = true) (ws : List Jvm.Cond) (x0 : Int32) (s_LO : Addr) (s_ATO : Addr) (s_ATC : Addr) (s_MTL : Addr) (s_MOK : Addr) (s_MAK : Addr) (s_PLO : Addr) (h0 : Heap) (n0 : Nat) (S_s_LO : Sta Z h0 "khoplenh/OrderType" "LO" "Lkhoplenh/OrderType;" (.ref s_LO)) (S_s_ATO : Sta Z h0 "khoplenh/OrderType" "ATO" "Lkhoplenh/OrderType;" (.ref s_ATO)) (S_s_ATC : Sta Z h0 "khoplenh/OrderType" "ATC" "Lkhoplenh/OrderType;" (.ref s_ATC)) (S_s_MTL : Sta Z h0 "khoplenh/OrderType" "MTL" "Lkhoplenh/OrderType;" (.ref s_MTL)) (S_s_MOK : Sta Z h0 "khoplenh/OrderType" "MOK" "Lkhoplenh/OrderType;" (.ref s_MOK)) (S_s_MAK : Sta Z h0 "khoplenh/OrderType" "MAK" "Lkhoplenh/OrderType;" (.ref s_MAK)) (S_s_PLO : Sta Z h0 "khoplenh/OrderType" "PLO" "Lkhoplenh/OrderType;" (.ref s_PLO)) : own_Met l Z (⟨"khoplenh/OrderTypeIsMarketPinLaw", "pick", "(I)Lkhoplenh/OrderType;"⟩ : MethodName) method_2_code 1 (some (.object "khoplenh/OrderType")) ws own_R1 #[(.int x0)] h0 (own_Q1 x0 s_LO s_ATO s_ATC s_MTL s_MOK s_MAK s_PLO h0 n0) := by
  refine own_met (plainFor_of_name own_pn0) ?_
  intro p e s m below meth c s₁ hx hby hml hown hnm hret hlk hZ e0 X0
  have N0 := Fr.nil n0
  have hml : c.maxLocals = 1 := hml
  have hown : s.vm.findClass "khoplenh/OrderTypeIsMarketPinLaw" = some m.cls := hown
  have hret : meth.sig.returnType = (some (.object "khoplenh/OrderType")) := hret
  have hby : c.code = method_2_code := hby
  have hnm : meth.name = "pick" := hnm
  rw [own_ef1]
  show own_Goes p e below _ (s₁.setTop (mkF m 0 #[.val (.int x0)] []))
  refine own_go (fun t k => XS.iloadN X0.here hx rfl (hb hby own_d1_0) rfl k) ?_
  show own_Goes p e below _ (s₁.setTop (mkF m 1 #[.val (.int x0)] [(.int x0)]))
  by_cases hc1 : x0 = (0 : Int32)
  · refine own_go (fun t k => XS.ifNo X0.here hx rfl (hb hby own_d1_1) rfl ((if0 _ _).trans (teq hc1).2) k) ?_
    show own_Goes p e below _ (s₁.setTop (mkF m 4 #[.val (.int x0)] []))
    obtain ⟨T2, X2, e2, st2⟩ := getS2 X0 hx hZ hown (host := "") (Or.inl (hw _ own_t5)) Via.refl e0 S_s_LO (g := (mkF m 4 #[.val (.int x0)] [])) rfl (hb hby own_d1_4)
    refine own_go st2 ?_
    show own_Goes p e below _ (T2.setTop (mkF m 7 #[.val (.int x0)] [(.ref s_LO)]))
    exact own_retR X2 hx hlk hret rfl rfl (hb hby own_d1_7) (by decide) (by decide) ⟨by rw [own_f1, if_pos hc1], N0, e2⟩
  · refine own_go (fun t k => XS.ifYes X0.here hx rfl (pc0 := 1) (pc' := 8) rfl (hb hby own_d1_1) rfl ((if0 _ _).trans (feq hc1).2) (by decide) (by decide) k) ?_
    show own_Goes p e below _ (s₁.setTop (mkF m 8 #[.val (.int x0)] []))
    refine own_go (fun t k => XS.iloadN X0.here hx rfl (hb hby own_d1_8) rfl k) ?_
    show own_Goes p e below _ (s₁.setTop (mkF m 9 #[.val (.int x0)] [(.int x0)]))
    refine own_go (fun t k => XS.iconst X0.here hx rfl (hb hby own_d1_9) k) ?_
    show own_Goes p e below _ (s₁.setTop (mkF m 10 #[.val (.int x0)] [(.int (1 : Int32)), (.int x0)]))
    by_cases hc3 : x0 = (1 : Int32)
    · refine own_go (fun t k => XS.icmpNo X0.here hx rfl (hb hby own_d1_10) rfl (teq hc3).2 k) ?_
      show own_Goes p e below _ (s₁.setTop (mkF m 13 #[.val (.int x0)] []))
      obtain ⟨T4, X4, e4, st4⟩ := getS2 X0 hx hZ hown (host := "") (Or.inl (hw _ own_t26)) Via.refl e0 S_s_ATO (g := (mkF m 13 #[.val (.int x0)] [])) rfl (hb hby own_d1_13)
      refine own_go st4 ?_
      show own_Goes p e below _ (T4.setTop (mkF m 16 #[.val (.int x0)] [(.ref s_ATO)]))
      exact own_retR X4 hx hlk hret rfl rfl (hb hby own_d1_16) (by decide) (by decide) ⟨by rw [own_f1, if_neg hc1, if_pos hc3], N0, e4⟩
    · refine own_go (fun t k => XS.icmpYes X0.here hx rfl (pc0 := 10) (pc' := 17) rfl (hb hby own_d1_10) rfl (feq hc3).2 (by decide) (by decide) k) ?_
      show own_Goes p e below _ (s₁.setTop (mkF m 17 #[.val (.int x0)] []))
      refine own_go (fun t k => XS.iloadN X0.here hx rfl (hb hby own_d1_17) rfl k) ?_
      show own_Goes p e below _ (s₁.setTop (mkF m 18 #[.val (.int x0)] [(.int x0)]))
      refine own_go (fun t k => XS.iconst X0.here hx rfl (hb hby own_d1_18) k) ?_
      show own_Goes p e below _ (s₁.setTop (mkF m 19 #[.val (.int x0)] [(.int (2 : Int32)), (.int x0)]))
      by_cases hc5 : x0 = (2 : Int32)
      · refine own_go (fun t k => XS.icmpNo X0.here hx rfl (hb hby own_d1_19) rfl (teq hc5).2 k) ?_
        show own_Goes p e below _ (s₁.setTop (mkF m 22 #[.val (.int x0)] []))
        obtain ⟨T6, X6, e6, st6⟩ := getS2 X0 hx hZ hown (host := "") (Or.inl (hw _ own_t24)) Via.refl e0 S_s_ATC (g := (mkF m 22 #[.val (.int x0)] [])) rfl (hb hby own_d1_22)
        refine own_go st6 ?_
        show own_Goes p e below _ (T6.setTop (mkF m 25 #[.val (.int x0)] [(.ref s_ATC)]))
        exact own_retR X6 hx hlk hret rfl rfl (hb hby own_d1_25) (by decide) (by decide) ⟨by rw [own_f1, if_neg hc1, if_neg hc3, if_pos hc5], N0, e6⟩
      · refine own_go (fun t k => XS.icmpYes X0.here hx rfl (pc0 := 19) (pc' := 26) rfl (hb hby own_d1_19) rfl (feq hc5).2 (by decide) (by decide) k) ?_
        show own_Goes p e below _ (s₁.setTop (mkF m 26 #[.val (.int x0)] []))
        refine own_go (fun t k => XS.iloadN X0.here hx rfl (hb hby own_d1_26) rfl k) ?_
        show own_Goes p e below _ (s₁.setTop (mkF m 27 #[.val (.int x0)] [(.int x0)]))
        refine own_go (fun t k => XS.iconst X0.here hx rfl (hb hby own_d1_27) k) ?_
        show own_Goes p e below _ (s₁.setTop (mkF m 28 #[.val (.int x0)] [(.int (3 : Int32)), (.int x0)]))
        by_cases hc7 : x0 = (3 : Int32)
        · refine own_go (fun t k => XS.icmpNo X0.here hx rfl (hb hby own_d1_28) rfl (teq hc7).2 k) ?_
          show own_Goes p e below _ (s₁.setTop (mkF m 31 #[.val (.int x0)] []))
          obtain ⟨T8, X8, e8, st8⟩ := getS2 X0 hx hZ hown (host := "") (Or.inl (hw _ own_t19)) Via.refl e0 S_s_MTL (g := (mkF m 31 #[.val (.int x0)] [])) rfl (hb hby own_d1_31)
          refine own_go st8 ?_
          show own_Goes p e below _ (T8.setTop (mkF m 34 #[.val (.int x0)] [(.ref s_MTL)]))
          exact own_retR X8 hx hlk hret rfl rfl (hb hby own_d1_34) (by decide) (by decide) ⟨by rw [own_f1, if_neg hc1, if_neg hc3, if_neg hc5, if_pos hc7], N0, e8⟩
        · refine own_go (fun t k => XS.icmpYes X0.here hx rfl (pc0 := 28) (pc' := 35) rfl (hb hby own_d1_28) rfl (feq hc7).2 (by decide) (by decide) k) ?_
          show own_Goes p e below _ (s₁.setTop (mkF m 35 #[.val (.int x0)] []))
          refine own_go (fun t k => XS.iloadN X0.here hx rfl (hb hby own_d1_35) rfl k) ?_
          show own_Goes p e below _ (s₁.setTop (mkF m 36 #[.val (.int x0)] [(.int x0)]))
          refine own_go (fun t k => XS.iconst X0.here hx rfl (hb hby own_d1_36) k) ?_
          show own_Goes p e below _ (s₁.setTop (mkF m 37 #[.val (.int x0)] [(.int (4 : Int32)), (.int x0)]))
          by_cases hc9 : x0 = (4 : Int32)
          · refine own_go (fun t k => XS.icmpNo X0.here hx rfl (hb hby own_d1_37) rfl (teq hc9).2 k) ?_
            show own_Goes p e below _ (s₁.setTop (mkF m 40 #[.val (.int x0)] []))
            obtain ⟨T10, X10, e10, st10⟩ := getS2 X0 hx hZ hown (host := "") (Or.inl (hw _ own_t23)) Via.refl e0 S_s_MOK (g := (mkF m 40 #[.val (.int x0)] [])) rfl (hb hby own_d1_40)
            refine own_go st10 ?_
            show own_Goes p e below _ (T10.setTop (mkF m 43 #[.val (.int x0)] [(.ref s_MOK)]))
            exact own_retR X10 hx hlk hret rfl rfl (hb hby own_d1_43) (by decide) (by decide) ⟨by rw [own_f1, if_neg hc1, if_neg hc3, if_neg hc5, if_neg hc7, if_pos hc9], N0, e10⟩
          · refine own_go (fun t k => XS.icmpYes X0.here hx rfl (pc0 := 37) (pc' := 44) rfl (hb hby own_d1_37) rfl (feq hc9).2 (by decide) (by decide) k) ?_
            show own_Goes p e below _ (s₁.setTop (mkF m 44 #[.val (.int x0)] []))
            refine own_go (fun t k => XS.iloadN X0.here hx rfl (hb hby own_d1_44) rfl k) ?_
            show own_Goes p e below _ (s₁.setTop (mkF m 45 #[.val (.int x0)] [(.int x0)]))
            refine own_go (fun t k => XS.iconst X0.here hx rfl (hb hby own_d1_45) k) ?_
            show own_Goes p e below _ (s₁.setTop (mkF m 46 #[.val (.int x0)] [(.int (5 : Int32)), (.int x0)]))
            by_cases hc11 : x0 = (5 : Int32)
            · refine own_go (fun t k => XS.icmpNo X0.here hx rfl (hb hby own_d1_46) rfl (teq hc11).2 k) ?_
              show own_Goes p e below _ (s₁.setTop (mkF m 49 #[.val (.int x0)] []))
              obtain ⟨T12, X12, e12, st12⟩ := getS2 X0 hx hZ hown (host := "") (Or.inl (hw _ own_t20)) Via.refl e0 S_s_MAK (g := (mkF m 49 #[.val (.int x0)] [])) rfl (hb hby own_d1_49)
              refine own_go st12 ?_
              show own_Goes p e below _ (T12.setTop (mkF m 52 #[.val (.int x0)] [(.ref s_MAK)]))
              exact own_retR X12 hx hlk hret rfl rfl (hb hby own_d1_52) (by decide) (by decide) ⟨by rw [own_f1, if_neg hc1, if_neg hc3, if_neg hc5, if_neg hc7, if_neg hc9, if_pos hc11], N0, e12⟩
            · refine own_go (fun t k => XS.icmpYes X0.here hx rfl (pc0 := 46) (pc' := 53) rfl (hb hby own_d1_46) rfl (feq hc11).2 (by decide) (by decide) k) ?_
              show own_Goes p e below _ (s₁.setTop (mkF m 53 #[.val (.int x0)] []))
              obtain ⟨T13, X13, e13, st13⟩ := getS2 X0 hx hZ hown (host := "") (Or.inl (hw _ own_t21)) Via.refl e0 S_s_PLO (g := (mkF m 53 #[.val (.int x0)] [])) rfl (hb hby own_d1_53)
              refine own_go st13 ?_
              show own_Goes p e below _ (T13.setTop (mkF m 56 #[.val (.int x0)] [(.ref s_PLO)]))
              exact own_retR X13 hx hlk hret rfl rfl (hb hby own_d1_56) (by decide) (by decide) ⟨by rw [own_f1, if_neg hc1, if_neg hc3, if_neg hc5, if_neg hc7, if_neg hc9, if_neg hc11], N0, e13⟩
theorem own_d2_0 : decode prog_15_method_6_code 0 = .ok (.aload_n 0, 1) := by decide +kernel
theorem own_d2_1 : decode prog_15_method_6_code 1 = .ok (.getstatic 13, 3) := by decide +kernel
theorem own_t13 : (Jvm.Cond.fieldLink "khoplenh/OrderType" (13 : Nat) "khoplenh/OrderType" "MTL" "Lkhoplenh/OrderType;") ∈ tables_1 := List.mem_of_getElem? (i := 13) rfl
theorem own_d2_4 : decode prog_15_method_6_code 4 = .ok (.if_acmp .eq 17, 3) := by decide +kernel
theorem own_d2_21 : decode prog_15_method_6_code 21 = .ok (.iconst 1, 1) := by decide +kernel
theorem own_d2_22 : decode prog_15_method_6_code 22 = .ok (.goto 4, 3) := by decide +kernel
theorem own_d2_7 : decode prog_15_method_6_code 7 = .ok (.aload_n 0, 1) := by decide +kernel
theorem own_d2_8 : decode prog_15_method_6_code 8 = .ok (.getstatic 16, 3) := by decide +kernel
theorem own_t15 : (Jvm.Cond.fieldLink "khoplenh/OrderType" (16 : Nat) "khoplenh/OrderType" "MOK" "Lkhoplenh/OrderType;") ∈ tables_1 := List.mem_of_getElem? (i := 15) rfl
theorem own_d2_11 : decode prog_15_method_6_code 11 = .ok (.if_acmp .eq 10, 3) := by decide +kernel
theorem own_d2_14 : decode prog_15_method_6_code 14 = .ok (.aload_n 0, 1) := by decide +kernel
theorem own_d2_15 : decode prog_15_method_6_code 15 = .ok (.getstatic 19, 3) := by decide +kernel
theorem own_t17 : (Jvm.Cond.fieldLink "khoplenh/OrderType" (19 : Nat) "khoplenh/OrderType" "MAK" "Lkhoplenh/OrderType;") ∈ tables_1 := List.mem_of_getElem? (i := 17) rfl
theorem own_d2_18 : decode prog_15_method_6_code 18 = .ok (.if_acmp .ne 7, 3) := by decide +kernel
theorem own_d2_25 : decode prog_15_method_6_code 25 = .ok (.iconst 0, 1) := by decide +kernel
theorem own_pn1 : plainName "khoplenh/OrderType" = true := by first | (simp [plainName, overriddenIn]; done) | decide +kernel
theorem own_d2_26 : decode prog_15_method_6_code 26 = .ok (.ireturn, 1) := by decide +kernel
def own_j2_1 (r0 : Addr) (s_MTL : Addr) (s_MOK : Addr) (s_MAK : Addr) : Int32 := (if r0 = s_MTL then (1 : Int32) else (if r0 = s_MOK then (1 : Int32) else (if r0 = s_MAK then (1 : Int32) else (0 : Int32))))
def own_f2 (r0 : Addr) (s_MTL : Addr) (s_MOK : Addr) (s_MAK : Addr) : Int32 := ((own_j2_1 r0 s_MTL s_MOK s_MAK) &&& 1)
def own_Q2 (r0 : Addr) (s_MTL : Addr) (s_MOK : Addr) (s_MAK : Addr) (h0 : Heap) (n0 : Nat) (v : Option Value) (h : Heap) (L : List Loc) : Prop := v = some (.int (own_f2 r0 s_MTL s_MOK s_MAK)) ∧ Fr n0 L ∧ h = h0
abbrev own_R2 : Room := { frames := 0, cells := 0, slots := 0, locals := 0 }
theorem own_ef2 (m : MethodId) (z0 : Addr) : entryFrame m #[(.ref z0)] 1 = mkF m 0 #[.val (.ref z0)] [] := by first | (simp [entryFrame, mkF, argsToLocals, Value.category]; done) | rfl
set_option maxRecDepth 65536 in
set_option maxHeartbeats 40000000 in
theorem rm2 (l : Launch) (Z : State) (a0 : Array Value) (hw : ∀ d ∈ tables_1, d.before a0 Z = true) (ws : List Jvm.Cond) (r0 : Addr) (s_MTL : Addr) (s_MOK : Addr) (s_MAK : Addr) (h0 : Heap) (n0 : Nat) (S_s_MTL : Sta Z h0 "khoplenh/OrderType" "MTL" "Lkhoplenh/OrderType;" (.ref s_MTL)) (S_s_MOK : Sta Z h0 "khoplenh/OrderType" "MOK" "Lkhoplenh/OrderType;" (.ref s_MOK)) (S_s_MAK : Sta Z h0 "khoplenh/OrderType" "MAK" "Lkhoplenh/OrderType;" (.ref s_MAK)) : own_Met l Z (⟨"khoplenh/OrderType", "isMarket", "()Z"⟩ : MethodName) prog_15_method_6_code 1 (some .boolean) ws own_R2 #[(.ref r0)] h0 (own_Q2 r0 s_MTL s_MOK s_MAK h0 n0) := by
  refine own_met (plainFor_of_name own_pn1) ?_
  intro p e s m below meth c s₁ hx hby hml hown hnm hret hlk hZ e0 X0
  have N0 := Fr.nil n0
  have hml : c.maxLocals = 1 := hml
  have hown : s.vm.findClass "khoplenh/OrderType" = some m.cls := hown
  have hret : meth.sig.returnType = (some .boolean) := hret
  have hby : c.code = prog_15_method_6_code := hby
  have hnm : meth.name = "isMarket" := hnm
  rw [own_ef2]
  show own_Goes p e below _ (s₁.setTop (mkF m 0 #[.val (.ref r0)] []))
  refine own_go (fun t k => XS.aloadN X0.here hx rfl (hb hby own_d2_0) rfl rfl k) ?_
  show own_Goes p e below _ (s₁.setTop (mkF m 1 #[.val (.ref r0)] [(.ref r0)]))
  obtain ⟨T14, X14, e14, st14⟩ := getS2 X0 hx hZ hown (host := "") (Or.inl (hw _ own_t13)) Via.refl e0 S_s_MTL (g := (mkF m 1 #[.val (.ref r0)] [(.ref r0)])) rfl (hb hby own_d2_1)
  refine own_go st14 ?_
  show own_Goes p e below _ (T14.setTop (mkF m 4 #[.val (.ref r0)] [(.ref s_MTL), (.ref r0)]))
  suffices HH20 : ∀ (T20 : State) (L20 : List Loc) (X20 : Stand p l e own_R2 s m #[(.ref r0)] below meth c T20 L20 0 0) (e20 : T20.heap = h0) (N20 : Fr n0 L20), own_Goes p e below (own_End s own_R2 (own_Q2 r0 s_MTL s_MOK s_MAK h0 n0)) (T20.setTop (mkF m 26 #[.val (.ref r0)] [(.int (own_j2_1 r0 s_MTL s_MOK s_MAK))])) by
    by_cases hc15 : r0 = s_MTL
    · refine own_go (fun t k => Jvm.RoadKit.acmp (g := (mkF m 4 #[.val (.ref r0)] [(.ref s_MTL), (.ref r0)])) X14 hx rfl rfl rfl (pc0 := 4) (pc' := 21) (same := true) rfl (hb hby own_d2_4) rfl (decide_eq_true (congrArg Value.ref hc15)) (by decide) (by decide) k) ?_
      show own_Goes p e below _ (T14.setTop (mkF m 21 #[.val (.ref r0)] []))
      refine own_go (fun t k => XS.iconst X14.here hx rfl (hb hby own_d2_21) k) ?_
      show own_Goes p e below _ (T14.setTop (mkF m 22 #[.val (.ref r0)] [(.int (1 : Int32))]))
      refine own_go (fun t k => XS.goto X14.here hx rfl (pc0 := 22) (pc' := 26) rfl (hb hby own_d2_22) (by decide) (by decide) k) ?_
      rw [show (own_j2_1 r0 s_MTL s_MOK s_MAK) = (1 : Int32) from by rw [own_j2_1, if_pos hc15]] at HH20
      exact HH20 _ _ X14 e14 N0
    · refine own_go (fun t k => Jvm.RoadKit.acmp (g := (mkF m 4 #[.val (.ref r0)] [(.ref s_MTL), (.ref r0)])) X14 hx rfl rfl rfl (pc0 := 4) (pc' := 7) (same := false) rfl (hb hby own_d2_4) rfl (decide_eq_false (fun q => hc15 (Value.ref.inj q))) (by decide) (by decide) k) ?_
      show own_Goes p e below _ (T14.setTop (mkF m 7 #[.val (.ref r0)] []))
      refine own_go (fun t k => XS.aloadN X14.here hx rfl (hb hby own_d2_7) rfl rfl k) ?_
      show own_Goes p e below _ (T14.setTop (mkF m 8 #[.val (.ref r0)] [(.ref r0)]))
      obtain ⟨T16, X16, e16, st16⟩ := getS2 X14 hx hZ hown (host := "") (Or.inl (hw _ own_t15)) Via.refl e14 S_s_MOK (g := (mkF m 8 #[.val (.ref r0)] [(.ref r0)])) rfl (hb hby own_d2_8)
      refine own_go st16 ?_
      show own_Goes p e below _ (T16.setTop (mkF m 11 #[.val (.ref r0)] [(.ref s_MOK), (.ref r0)]))
      by_cases hc17 : r0 = s_MOK
      · refine own_go (fun t k => Jvm.RoadKit.acmp (g := (mkF m 11 #[.val (.ref r0)] [(.ref s_MOK), (.ref r0)])) X16 hx rfl rfl rfl (pc0 := 11) (pc' := 21) (same := true) rfl (hb hby own_d2_11) rfl (decide_eq_true (congrArg Value.ref hc17)) (by decide) (by decide) k) ?_
        show own_Goes p e below _ (T16.setTop (mkF m 21 #[.val (.ref r0)] []))
        refine own_go (fun t k => XS.iconst X16.here hx rfl (hb hby own_d2_21) k) ?_
        show own_Goes p e below _ (T16.setTop (mkF m 22 #[.val (.ref r0)] [(.int (1 : Int32))]))
        refine own_go (fun t k => XS.goto X16.here hx rfl (pc0 := 22) (pc' := 26) rfl (hb hby own_d2_22) (by decide) (by decide) k) ?_
        rw [show (own_j2_1 r0 s_MTL s_MOK s_MAK) = (1 : Int32) from by rw [own_j2_1, if_neg hc15, if_pos hc17]] at HH20
        exact HH20 _ _ X16 e16 N0
      · refine own_go (fun t k => Jvm.RoadKit.acmp (g := (mkF m 11 #[.val (.ref r0)] [(.ref s_MOK), (.ref r0)])) X16 hx rfl rfl rfl (pc0 := 11) (pc' := 14) (same := false) rfl (hb hby own_d2_11) rfl (decide_eq_false (fun q => hc17 (Value.ref.inj q))) (by decide) (by decide) k) ?_
        show own_Goes p e below _ (T16.setTop (mkF m 14 #[.val (.ref r0)] []))
        refine own_go (fun t k => XS.aloadN X16.here hx rfl (hb hby own_d2_14) rfl rfl k) ?_
        show own_Goes p e below _ (T16.setTop (mkF m 15 #[.val (.ref r0)] [(.ref r0)]))
        obtain ⟨T18, X18, e18, st18⟩ := getS2 X16 hx hZ hown (host := "") (Or.inl (hw _ own_t17)) Via.refl e16 S_s_MAK (g := (mkF m 15 #[.val (.ref r0)] [(.ref r0)])) rfl (hb hby own_d2_15)
        refine own_go st18 ?_
        show own_Goes p e below _ (T18.setTop (mkF m 18 #[.val (.ref r0)] [(.ref s_MAK), (.ref r0)]))
        by_cases hc19 : r0 = s_MAK
        · refine own_go (fun t k => Jvm.RoadKit.acmp (g := (mkF m 18 #[.val (.ref r0)] [(.ref s_MAK), (.ref r0)])) X18 hx rfl rfl rfl (pc0 := 18) (pc' := 21) (same := true) rfl (hb hby own_d2_18) rfl (decide_eq_true (congrArg Value.ref hc19)) (by decide) (by decide) k) ?_
          show own_Goes p e below _ (T18.setTop (mkF m 21 #[.val (.ref r0)] []))
          refine own_go (fun t k => XS.iconst X18.here hx rfl (hb hby own_d2_21) k) ?_
          show own_Goes p e below _ (T18.setTop (mkF m 22 #[.val (.ref r0)] [(.int (1 : Int32))]))
          refine own_go (fun t k => XS.goto X18.here hx rfl (pc0 := 22) (pc' := 26) rfl (hb hby own_d2_22) (by decide) (by decide) k) ?_
          rw [show (own_j2_1 r0 s_MTL s_MOK s_MAK) = (1 : Int32) from by rw [own_j2_1, if_neg hc15, if_neg hc17, if_pos hc19]] at HH20
          exact HH20 _ _ X18 e18 N0
        · refine own_go (fun t k => Jvm.RoadKit.acmp (g := (mkF m 18 #[.val (.ref r0)] [(.ref s_MAK), (.ref r0)])) X18 hx rfl rfl rfl (pc0 := 18) (pc' := 25) (same := false) rfl (hb hby own_d2_18) rfl (decide_eq_false (fun q => hc19 (Value.ref.inj q))) (by decide) (by decide) k) ?_
          show own_Goes p e below _ (T18.setTop (mkF m 25 #[.val (.ref r0)] []))
          refine own_go (fun t k => XS.iconst X18.here hx rfl (hb hby own_d2_25) k) ?_
          rw [show (own_j2_1 r0 s_MTL s_MOK s_MAK) = (0 : Int32) from by rw [own_j2_1, if_neg hc15, if_neg hc17, if_neg hc19]] at HH20
          exact HH20 _ _ X18 e18 N0
  intro T20 L20 X20 e20 N20
  show own_Goes p e below _ (T20.setTop (mkF m 26 #[.val (.ref r0)] [(.int (own_j2_1 r0 s_MTL s_MOK s_MAK))]))
  exact own_retN X20 hx hlk hret (by simp) (z' := ((own_j2_1 r0 s_MTL s_MOK s_MAK) &&& 1)) rfl (hb hby own_d2_26) (by decide) (by decide) ⟨by rw [own_f2], N20, e20⟩
theorem own_pickE {Z : State} {h : Heap} {C : String} {x0 : Int32} {s_LO s_ATO s_ATC s_MTL s_MOK s_MAK s_PLO : Addr} (E_LO : Exa Z h s_LO C) (E_ATO : Exa Z h s_ATO C) (E_ATC : Exa Z h s_ATC C) (E_MTL : Exa Z h s_MTL C) (E_MOK : Exa Z h s_MOK C) (E_MAK : Exa Z h s_MAK C) (E_PLO : Exa Z h s_PLO C) : Exa Z h (own_f1 x0 s_LO s_ATO s_ATC s_MTL s_MOK s_MAK s_PLO) C := by
  unfold own_f1
  repeat' split
  all_goals assumption
theorem own_t0 : (Jvm.Cond.constant "khoplenh/OrderTypeIsMarketPinLaw" (31 : Nat) (2147483647 : Int32)) ∈ tables_1 := List.mem_of_getElem? (i := 0) rfl
theorem own_t1 : (Jvm.Cond.methodLink "khoplenh/OrderTypeIsMarketPinLaw" (32 : Nat) ({ cls := "khoplenh/OrderTypeIsMarketPinLaw", name := "pick", desc := "(I)Lkhoplenh/OrderType;" } : Jvm.MethodName)) ∈ tables_1 := List.mem_of_getElem? (i := 1) rfl
theorem own_pd0 : parseMethodDescriptor "(I)Lkhoplenh/OrderType;" = some ⟨[.int], some (.object "khoplenh/OrderType")⟩ := by decide +kernel
theorem own_t2 : (Jvm.Cond.static ({ cls := "khoplenh/OrderTypeIsMarketPinLaw", name := "pick", desc := "(I)Lkhoplenh/OrderType;" } : Jvm.MethodName)) ∈ tables_1 := List.mem_of_getElem? (i := 2) rfl
theorem own_t3 : (Jvm.Cond.initialized "khoplenh/OrderTypeIsMarketPinLaw") ∈ tables_1 := List.mem_of_getElem? (i := 3) rfl
theorem own_t4 : (Jvm.Cond.code ({ cls := "khoplenh/OrderTypeIsMarketPinLaw", name := "pick", desc := "(I)Lkhoplenh/OrderType;" } : Jvm.MethodName) method_2_code (1 : Nat) (Option.some (Jvm.ClassFile.FieldType.object "khoplenh/OrderType"))) ∈ tables_1 := List.mem_of_getElem? (i := 4) rfl
theorem own_t8 : (Jvm.Cond.methodLink "khoplenh/OrderTypeIsMarketPinLaw" (38 : Nat) ({ cls := "khoplenh/OrderType", name := "isMarket", desc := "()Z" } : Jvm.MethodName)) ∈ tables_1 := List.mem_of_getElem? (i := 8) rfl
theorem own_pd1 : parseMethodDescriptor "()Z" = some ⟨[], some .boolean⟩ := by decide +kernel
theorem own_t9 : (Jvm.Cond.declares ({ cls := "khoplenh/OrderType", name := "isMarket", desc := "()Z" } : Jvm.MethodName)) ∈ tables_1 := List.mem_of_getElem? (i := 9) rfl
theorem own_t11 : (Jvm.Cond.selects "khoplenh/OrderType" ({ cls := "khoplenh/OrderType", name := "isMarket", desc := "()Z" } : Jvm.MethodName) ({ cls := "khoplenh/OrderType", name := "isMarket", desc := "()Z" } : Jvm.MethodName)) ∈ tables_1 := List.mem_of_getElem? (i := 11) rfl
theorem own_t10 : (Jvm.Cond.instanceMethod ({ cls := "khoplenh/OrderType", name := "isMarket", desc := "()Z" } : Jvm.MethodName)) ∈ tables_1 := List.mem_of_getElem? (i := 10) rfl
theorem own_t6 : (Jvm.Cond.initialized "khoplenh/OrderType") ∈ tables_1 := List.mem_of_getElem? (i := 6) rfl
theorem own_t12 : (Jvm.Cond.code ({ cls := "khoplenh/OrderType", name := "isMarket", desc := "()Z" } : Jvm.MethodName) prog_15_method_6_code (1 : Nat) (Option.some Jvm.ClassFile.FieldType.boolean)) ∈ tables_1 := List.mem_of_getElem? (i := 12) rfl
def own_v0_1 (x0 : Int32) : Int32 := ((x0 &&& (2147483647 : Int32)) % (7 : Int32))
def own_j0_1 (x0 : Int32) : Int32 := (if (own_v0_1 x0) < (3 : Int32) then (0 : Int32) else (if (5 : Int32) < (own_v0_1 x0) then (0 : Int32) else (1 : Int32)))
def own_j0_2 (x0 : Int32) (s_LO : Addr) (s_ATO : Addr) (s_ATC : Addr) (s_MTL : Addr) (s_MOK : Addr) (s_MAK : Addr) (s_PLO : Addr) : Int32 := (if (own_f2 (own_f1 (own_v0_1 x0) s_LO s_ATO s_ATC s_MTL s_MOK s_MAK s_PLO) s_MTL s_MOK s_MAK) = (own_j0_1 x0) then (1 : Int32) else (0 : Int32))
def own_f0 (x0 : Int32) (s_LO : Addr) (s_ATO : Addr) (s_ATC : Addr) (s_MTL : Addr) (s_MOK : Addr) (s_MAK : Addr) (s_PLO : Addr) : Int32 := ((own_j0_2 x0 s_LO s_ATO s_ATC s_MTL s_MOK s_MAK s_PLO) &&& 1)
def own_Q0 (x0 : Int32) (s_LO : Addr) (s_ATO : Addr) (s_ATC : Addr) (s_MTL : Addr) (s_MOK : Addr) (s_MAK : Addr) (s_PLO : Addr) (h0 : Heap) (n0 : Nat) (v : Option Value) (h : Heap) (L : List Loc) : Prop := v = some (.int (own_f0 x0 s_LO s_ATO s_ATC s_MTL s_MOK s_MAK s_PLO)) ∧ Fr n0 L ∧ True
theorem own_ef0 (m : MethodId) (z0 : Int32) : entryFrame m #[(.int z0)] maxLocals = mkF m 0 #[.val (.int z0), .unset, .unset, .unset] [] := by first | (simp [entryFrame, mkF, argsToLocals, Value.category, maxLocals]; done) | rfl
set_option maxRecDepth 65536 in
set_option maxHeartbeats 40000000 in
theorem rm0 (l : Launch) (Z : State) (a0 : Array Value) (hw : ∀ d ∈ tables_1, d.before a0 Z = true) (ws : List Jvm.Cond) (x0 : Int32) (s_LO : Addr) (s_ATO : Addr) (s_ATC : Addr) (s_MTL : Addr) (s_MOK : Addr) (s_MAK : Addr) (s_PLO : Addr) (h0 : Heap) (n0 : Nat) (E_LO : Exa Z h0 s_LO "khoplenh/OrderType") (E_ATO : Exa Z h0 s_ATO "khoplenh/OrderType") (E_ATC : Exa Z h0 s_ATC "khoplenh/OrderType") (E_MTL : Exa Z h0 s_MTL "khoplenh/OrderType") (E_MOK : Exa Z h0 s_MOK "khoplenh/OrderType") (E_MAK : Exa Z h0 s_MAK "khoplenh/OrderType") (E_PLO : Exa Z h0 s_PLO "khoplenh/OrderType") (S_s_LO : Sta Z h0 "khoplenh/OrderType" "LO" "Lkhoplenh/OrderType;" (.ref s_LO)) (S_s_ATO : Sta Z h0 "khoplenh/OrderType" "ATO" "Lkhoplenh/OrderType;" (.ref s_ATO)) (S_s_ATC : Sta Z h0 "khoplenh/OrderType" "ATC" "Lkhoplenh/OrderType;" (.ref s_ATC)) (S_s_MTL : Sta Z h0 "khoplenh/OrderType" "MTL" "Lkhoplenh/OrderType;" (.ref s_MTL)) (S_s_MOK : Sta Z h0 "khoplenh/OrderType" "MOK" "Lkhoplenh/OrderType;" (.ref s_MOK)) (S_s_MAK : Sta Z h0 "khoplenh/OrderType" "MAK" "Lkhoplenh/OrderType;" (.ref s_MAK)) (S_s_PLO : Sta Z h0 "khoplenh/OrderType" "PLO" "Lkhoplenh/OrderType;" (.ref s_PLO)) : own_Met l Z x code maxLocals ret ws room_1 #[(.int x0)] h0 (own_Q0 x0 s_LO s_ATO s_ATC s_MTL s_MOK s_MAK s_PLO h0 n0) := by
  refine own_met (plainFor_of_name own_pn0) ?_
  intro p e s m below meth c s₁ hx hby hml hown hnm hret hlk hZ e0 X0
  have N0 := Fr.nil n0
  have hml : c.maxLocals = 4 := hml
  have hown : s.vm.findClass "khoplenh/OrderTypeIsMarketPinLaw" = some m.cls := hown
  have hret : meth.sig.returnType = (some .boolean) := hret
  have hby : c.code = code := hby
  have hnm : meth.name = "law" := hnm
  rw [own_ef0]
  show own_Goes p e below _ (s₁.setTop (mkF m 0 #[.val (.int x0), .unset, .unset, .unset] []))
  refine own_go (fun t k => XS.iloadN X0.here hx rfl (hb hby at_0) rfl k) ?_
  show own_Goes p e below _ (s₁.setTop (mkF m 1 #[.val (.int x0), .unset, .unset, .unset] [(.int x0)]))
  refine own_go (fun t k => X0.ldcInt hx hown (mvT hZ (hw _ own_t0)) (g := (mkF m 1 #[.val (.int x0), .unset, .unset, .unset] [(.int x0)])) rfl (hb hby at_1) t k) ?_
  show own_Goes p e below _ (s₁.setTop (mkF m 3 #[.val (.int x0), .unset, .unset, .unset] [(.int (2147483647 : Int32)), (.int x0)]))
  refine own_go (fun t k => XS.iand X0.here hx rfl (hb hby at_3) rfl k) ?_
  show own_Goes p e below _ (s₁.setTop (mkF m 4 #[.val (.int x0), .unset, .unset, .unset] [(.int (x0 &&& (2147483647 : Int32)))]))
  refine own_go (fun t k => XS.bipush X0.here hx rfl (hb hby at_4) k) ?_
  show own_Goes p e below _ (s₁.setTop (mkF m 6 #[.val (.int x0), .unset, .unset, .unset] [(.int (7 : Int32)), (.int (x0 &&& (2147483647 : Int32)))]))
  refine own_go (fun t k => iremM X0 hx rfl (hb hby at_6) rfl (by decide) k) ?_
  show own_Goes p e below _ (s₁.setTop (mkF m 7 #[.val (.int x0), .unset, .unset, .unset] [(.int ((x0 &&& (2147483647 : Int32)) % (7 : Int32)))]))
  refine own_go (fun t k => XS.istoreN X0.here hx rfl (hb hby at_7) rfl (l' := #[.val (.int x0), .val (.int (own_v0_1 x0)), .unset, .unset]) rfl k) ?_
  show own_Goes p e below _ (s₁.setTop (mkF m 8 #[.val (.int x0), .val (.int (own_v0_1 x0)), .unset, .unset] []))
  refine own_go (fun t k => XS.iloadN X0.here hx rfl (hb hby at_8) rfl k) ?_
  show own_Goes p e below _ (s₁.setTop (mkF m 9 #[.val (.int x0), .val (.int (own_v0_1 x0)), .unset, .unset] [(.int (own_v0_1 x0))]))
  obtain ⟨_, T21, L21, X21, ⟨rfl, N21q, e21⟩, st21⟩ := own_callS X0 hx hZ hown (hw _ own_t1) (hw _ own_t2) (hw _ own_t3) (hw _ own_t4) (by decide) (as := [(.int (own_v0_1 x0))]) (rm1 l Z a0 hw [] (own_v0_1 x0) s_LO s_ATO s_ATC s_MTL s_MOK s_MAK s_PLO h0 n0 S_s_LO S_s_ATO S_s_ATC S_s_MTL S_s_MOK S_s_MAK S_s_PLO) e0 own_pd0 rfl (pc := 9) (Ls := #[.val (.int x0), .val (.int (own_v0_1 x0)), .unset, .unset]) (rest := []) (W := 0) (by rw [hml]; rfl) (Nat.le_of_eq rfl) (by decide) (by decide) (hb hby at_9) (by decide) (by decide)
  have N21 := Fr.app N0 N21q
  refine own_go st21 ?_
  show own_Goes p e below _ (T21.setTop (mkF m 12 #[.val (.int x0), .val (.int (own_v0_1 x0)), .unset, .unset] [(.ref (own_f1 (own_v0_1 x0) s_LO s_ATO s_ATC s_MTL s_MOK s_MAK s_PLO))]))
  refine own_go (fun t k => XS.astoreN X21.here hx rfl (hb hby at_12) rfl rfl (l' := #[.val (.int x0), .val (.int (own_v0_1 x0)), .val (.ref (own_f1 (own_v0_1 x0) s_LO s_ATO s_ATC s_MTL s_MOK s_MAK s_PLO)), .unset]) rfl k) ?_
  show own_Goes p e below _ (T21.setTop (mkF m 13 #[.val (.int x0), .val (.int (own_v0_1 x0)), .val (.ref (own_f1 (own_v0_1 x0) s_LO s_ATO s_ATC s_MTL s_MOK s_MAK s_PLO)), .unset] []))
  refine own_go (fun t k => XS.iloadN X21.here hx rfl (hb hby at_13) rfl k) ?_
  show own_Goes p e below _ (T21.setTop (mkF m 14 #[.val (.int x0), .val (.int (own_v0_1 x0)), .val (.ref (own_f1 (own_v0_1 x0) s_LO s_ATO s_ATC s_MTL s_MOK s_MAK s_PLO)), .unset] [(.int (own_v0_1 x0))]))
  refine own_go (fun t k => XS.iconst X21.here hx rfl (hb hby at_14) k) ?_
  show own_Goes p e below _ (T21.setTop (mkF m 15 #[.val (.int x0), .val (.int (own_v0_1 x0)), .val (.ref (own_f1 (own_v0_1 x0) s_LO s_ATO s_ATC s_MTL s_MOK s_MAK s_PLO)), .unset] [(.int (3 : Int32)), (.int (own_v0_1 x0))]))
  suffices HH24 : own_Goes p e below (own_End s room_1 (own_Q0 x0 s_LO s_ATO s_ATC s_MTL s_MOK s_MAK s_PLO h0 n0)) (T21.setTop (mkF m 28 #[.val (.int x0), .val (.int (own_v0_1 x0)), .val (.ref (own_f1 (own_v0_1 x0) s_LO s_ATO s_ATC s_MTL s_MOK s_MAK s_PLO)), .unset] [(.int (own_j0_1 x0))])) by
    by_cases hc22 : (own_v0_1 x0) < (3 : Int32)
    · refine own_go (fun t k => XS.icmpYes X21.here hx rfl (pc0 := 15) (pc' := 27) rfl (hb hby at_15) rfl (tlt hc22).1 (by decide) (by decide) k) ?_
      show own_Goes p e below _ (T21.setTop (mkF m 27 #[.val (.int x0), .val (.int (own_v0_1 x0)), .val (.ref (own_f1 (own_v0_1 x0) s_LO s_ATO s_ATC s_MTL s_MOK s_MAK s_PLO)), .unset] []))
      refine own_go (fun t k => XS.iconst X21.here hx rfl (hb hby at_27) k) ?_
      rw [show (own_j0_1 x0) = (0 : Int32) from by rw [own_j0_1, if_pos hc22]] at HH24
      exact HH24
    · refine own_go (fun t k => XS.icmpNo X21.here hx rfl (hb hby at_15) rfl (flt hc22).1 k) ?_
      show own_Goes p e below _ (T21.setTop (mkF m 18 #[.val (.int x0), .val (.int (own_v0_1 x0)), .val (.ref (own_f1 (own_v0_1 x0) s_LO s_ATO s_ATC s_MTL s_MOK s_MAK s_PLO)), .unset] []))
      refine own_go (fun t k => XS.iloadN X21.here hx rfl (hb hby at_18) rfl k) ?_
      show own_Goes p e below _ (T21.setTop (mkF m 19 #[.val (.int x0), .val (.int (own_v0_1 x0)), .val (.ref (own_f1 (own_v0_1 x0) s_LO s_ATO s_ATC s_MTL s_MOK s_MAK s_PLO)), .unset] [(.int (own_v0_1 x0))]))
      refine own_go (fun t k => XS.iconst X21.here hx rfl (hb hby at_19) k) ?_
      show own_Goes p e below _ (T21.setTop (mkF m 20 #[.val (.int x0), .val (.int (own_v0_1 x0)), .val (.ref (own_f1 (own_v0_1 x0) s_LO s_ATO s_ATC s_MTL s_MOK s_MAK s_PLO)), .unset] [(.int (5 : Int32)), (.int (own_v0_1 x0))]))
      by_cases hc23 : (5 : Int32) < (own_v0_1 x0)
      · refine own_go (fun t k => XS.icmpYes X21.here hx rfl (pc0 := 20) (pc' := 27) rfl (hb hby at_20) rfl (tlt hc23).2.2.1 (by decide) (by decide) k) ?_
        show own_Goes p e below _ (T21.setTop (mkF m 27 #[.val (.int x0), .val (.int (own_v0_1 x0)), .val (.ref (own_f1 (own_v0_1 x0) s_LO s_ATO s_ATC s_MTL s_MOK s_MAK s_PLO)), .unset] []))
        refine own_go (fun t k => XS.iconst X21.here hx rfl (hb hby at_27) k) ?_
        rw [show (own_j0_1 x0) = (0 : Int32) from by rw [own_j0_1, if_neg hc22, if_pos hc23]] at HH24
        exact HH24
      · refine own_go (fun t k => XS.icmpNo X21.here hx rfl (hb hby at_20) rfl (flt hc23).2.2.1 k) ?_
        show own_Goes p e below _ (T21.setTop (mkF m 23 #[.val (.int x0), .val (.int (own_v0_1 x0)), .val (.ref (own_f1 (own_v0_1 x0) s_LO s_ATO s_ATC s_MTL s_MOK s_MAK s_PLO)), .unset] []))
        refine own_go (fun t k => XS.iconst X21.here hx rfl (hb hby at_23) k) ?_
        show own_Goes p e below _ (T21.setTop (mkF m 24 #[.val (.int x0), .val (.int (own_v0_1 x0)), .val (.ref (own_f1 (own_v0_1 x0) s_LO s_ATO s_ATC s_MTL s_MOK s_MAK s_PLO)), .unset] [(.int (1 : Int32))]))
        refine own_go (fun t k => XS.goto X21.here hx rfl (pc0 := 24) (pc' := 28) rfl (hb hby at_24) (by decide) (by decide) k) ?_
        rw [show (own_j0_1 x0) = (1 : Int32) from by rw [own_j0_1, if_neg hc22, if_neg hc23]] at HH24
        exact HH24
  show own_Goes p e below _ (T21.setTop (mkF m 28 #[.val (.int x0), .val (.int (own_v0_1 x0)), .val (.ref (own_f1 (own_v0_1 x0) s_LO s_ATO s_ATC s_MTL s_MOK s_MAK s_PLO)), .unset] [(.int (own_j0_1 x0))]))
  refine own_go (fun t k => XS.istoreN X21.here hx rfl (hb hby at_28) rfl (l' := #[.val (.int x0), .val (.int (own_v0_1 x0)), .val (.ref (own_f1 (own_v0_1 x0) s_LO s_ATO s_ATC s_MTL s_MOK s_MAK s_PLO)), .val (.int (own_j0_1 x0))]) rfl k) ?_
  show own_Goes p e below _ (T21.setTop (mkF m 29 #[.val (.int x0), .val (.int (own_v0_1 x0)), .val (.ref (own_f1 (own_v0_1 x0) s_LO s_ATO s_ATC s_MTL s_MOK s_MAK s_PLO)), .val (.int (own_j0_1 x0))] []))
  refine own_go (fun t k => XS.aloadN X21.here hx rfl (hb hby at_29) rfl rfl k) ?_
  show own_Goes p e below _ (T21.setTop (mkF m 30 #[.val (.int x0), .val (.int (own_v0_1 x0)), .val (.ref (own_f1 (own_v0_1 x0) s_LO s_ATO s_ATC s_MTL s_MOK s_MAK s_PLO)), .val (.int (own_j0_1 x0))] [(.ref (own_f1 (own_v0_1 x0) s_LO s_ATO s_ATC s_MTL s_MOK s_MAK s_PLO))]))
  obtain ⟨_, T25, L25, X25, ⟨rfl, N25q, e25⟩, st25⟩ := own_callV X21 hx hZ hown (hw _ own_t8) (hw _ own_t9) (hw _ own_t11) (hw _ own_t10) (hw _ own_t6) (hw _ own_t12) (by decide) (b := (own_f1 (own_v0_1 x0) s_LO s_ATO s_ATC s_MTL s_MOK s_MAK s_PLO)) (as := []) (rm2 l Z a0 hw [] (own_f1 (own_v0_1 x0) s_LO s_ATO s_ATC s_MTL s_MOK s_MAK s_PLO) s_MTL s_MOK s_MAK h0 n0 S_s_MTL S_s_MOK S_s_MAK) e21 (own_pickE E_LO E_ATO E_ATC E_MTL E_MOK E_MAK E_PLO) own_pd1 rfl (pc := 30) (Ls := #[.val (.int x0), .val (.int (own_v0_1 x0)), .val (.ref (own_f1 (own_v0_1 x0) s_LO s_ATO s_ATC s_MTL s_MOK s_MAK s_PLO)), .val (.int (own_j0_1 x0))]) (rest := []) (W := 0) (by rw [hml]; rfl) (Nat.le_of_eq rfl) (by decide) (by decide) (hb hby at_30) (by decide) (by decide)
  have N25 := Fr.app N21 N25q
  refine own_go st25 ?_
  show own_Goes p e below _ (T25.setTop (mkF m 33 #[.val (.int x0), .val (.int (own_v0_1 x0)), .val (.ref (own_f1 (own_v0_1 x0) s_LO s_ATO s_ATC s_MTL s_MOK s_MAK s_PLO)), .val (.int (own_j0_1 x0))] [(.int (own_f2 (own_f1 (own_v0_1 x0) s_LO s_ATO s_ATC s_MTL s_MOK s_MAK s_PLO) s_MTL s_MOK s_MAK))]))
  refine own_go (fun t k => XS.iloadN X25.here hx rfl (hb hby at_33) rfl k) ?_
  show own_Goes p e below _ (T25.setTop (mkF m 34 #[.val (.int x0), .val (.int (own_v0_1 x0)), .val (.ref (own_f1 (own_v0_1 x0) s_LO s_ATO s_ATC s_MTL s_MOK s_MAK s_PLO)), .val (.int (own_j0_1 x0))] [(.int (own_j0_1 x0)), (.int (own_f2 (own_f1 (own_v0_1 x0) s_LO s_ATO s_ATC s_MTL s_MOK s_MAK s_PLO) s_MTL s_MOK s_MAK))]))
  suffices HH27 : own_Goes p e below (own_End s room_1 (own_Q0 x0 s_LO s_ATO s_ATC s_MTL s_MOK s_MAK s_PLO h0 n0)) (T25.setTop (mkF m 42 #[.val (.int x0), .val (.int (own_v0_1 x0)), .val (.ref (own_f1 (own_v0_1 x0) s_LO s_ATO s_ATC s_MTL s_MOK s_MAK s_PLO)), .val (.int (own_j0_1 x0))] [(.int (own_j0_2 x0 s_LO s_ATO s_ATC s_MTL s_MOK s_MAK s_PLO))])) by
    by_cases hc26 : (own_f2 (own_f1 (own_v0_1 x0) s_LO s_ATO s_ATC s_MTL s_MOK s_MAK s_PLO) s_MTL s_MOK s_MAK) = (own_j0_1 x0)
    · refine own_go (fun t k => XS.icmpNo X25.here hx rfl (hb hby at_34) rfl (teq hc26).2 k) ?_
      show own_Goes p e below _ (T25.setTop (mkF m 37 #[.val (.int x0), .val (.int (own_v0_1 x0)), .val (.ref (own_f1 (own_v0_1 x0) s_LO s_ATO s_ATC s_MTL s_MOK s_MAK s_PLO)), .val (.int (own_j0_1 x0))] []))
      refine own_go (fun t k => XS.iconst X25.here hx rfl (hb hby at_37) k) ?_
      show own_Goes p e below _ (T25.setTop (mkF m 38 #[.val (.int x0), .val (.int (own_v0_1 x0)), .val (.ref (own_f1 (own_v0_1 x0) s_LO s_ATO s_ATC s_MTL s_MOK s_MAK s_PLO)), .val (.int (own_j0_1 x0))] [(.int (1 : Int32))]))
      refine own_go (fun t k => XS.goto X25.here hx rfl (pc0 := 38) (pc' := 42) rfl (hb hby at_38) (by decide) (by decide) k) ?_
      rw [show (own_j0_2 x0 s_LO s_ATO s_ATC s_MTL s_MOK s_MAK s_PLO) = (1 : Int32) from by rw [own_j0_2, if_pos hc26]] at HH27
      exact HH27
    · refine own_go (fun t k => XS.icmpYes X25.here hx rfl (pc0 := 34) (pc' := 41) rfl (hb hby at_34) rfl (feq hc26).2 (by decide) (by decide) k) ?_
      show own_Goes p e below _ (T25.setTop (mkF m 41 #[.val (.int x0), .val (.int (own_v0_1 x0)), .val (.ref (own_f1 (own_v0_1 x0) s_LO s_ATO s_ATC s_MTL s_MOK s_MAK s_PLO)), .val (.int (own_j0_1 x0))] []))
      refine own_go (fun t k => XS.iconst X25.here hx rfl (hb hby at_41) k) ?_
      rw [show (own_j0_2 x0 s_LO s_ATO s_ATC s_MTL s_MOK s_MAK s_PLO) = (0 : Int32) from by rw [own_j0_2, if_neg hc26]] at HH27
      exact HH27
  show own_Goes p e below _ (T25.setTop (mkF m 42 #[.val (.int x0), .val (.int (own_v0_1 x0)), .val (.ref (own_f1 (own_v0_1 x0) s_LO s_ATO s_ATC s_MTL s_MOK s_MAK s_PLO)), .val (.int (own_j0_1 x0))] [(.int (own_j0_2 x0 s_LO s_ATO s_ATC s_MTL s_MOK s_MAK s_PLO))]))
  exact own_retN X25 hx hlk hret (by simp) (z' := ((own_j0_2 x0 s_LO s_ATO s_ATC s_MTL s_MOK s_MAK s_PLO) &&& 1)) rfl (hb hby at_42) (by decide) (by decide) ⟨by rw [own_f0], N25, trivial⟩
theorem own_k (x : Int32) : 0 ≤ ((x &&& 2147483647) % 7).toInt ∧ ((x &&& 2147483647) % 7).toInt < 7 := by
  have e1 : (x &&& 2147483647).toInt = x.toInt % 2 ^ 31 := Jvm.Kit.i32_mask x 2147483647 (k := 31) (by decide) (by decide)
  have e2 : ((x &&& 2147483647) % 7).toInt = (x &&& 2147483647).toInt % (7 : Int32).toInt := Jvm.Kit.i32_rem_nonneg (by omega)
  rw [e2, show (7 : Int32).toInt = 7 from rfl]
  omega
theorem own_lawK {Z : State} {h : Heap} {C n d : String} {s_LO s_ATO s_ATC s_MTL s_MOK s_MAK s_PLO : Addr} (k : Int32) (hk : 0 ≤ k.toInt ∧ k.toInt < 7)
    (F0 : Fld Z h s_LO C n d (.int 0)) (F1 : Fld Z h s_ATO C n d (.int 1)) (F2 : Fld Z h s_ATC C n d (.int 2)) (F3 : Fld Z h s_MTL C n d (.int 3)) (F4 : Fld Z h s_MOK C n d (.int 4)) (F5 : Fld Z h s_MAK C n d (.int 5)) (F6 : Fld Z h s_PLO C n d (.int 6)) :
    own_f2 (own_f1 k s_LO s_ATO s_ATC s_MTL s_MOK s_MAK s_PLO) s_MTL s_MOK s_MAK = if 3 ≤ k.toInt ∧ k.toInt ≤ 5 then 1 else 0 := by
  have q : k = 0 ∨ k = 1 ∨ k = 2 ∨ k = 3 ∨ k = 4 ∨ k = 5 ∨ k = 6 := by
    simp only [← Int32.toInt_inj]
    rw [show (0 : Int32).toInt = 0 from rfl, show (1 : Int32).toInt = 1 from rfl, show (2 : Int32).toInt = 2 from rfl, show (3 : Int32).toInt = 3 from rfl, show (4 : Int32).toInt = 4 from rfl, show (5 : Int32).toInt = 5 from rfl, show (6 : Int32).toInt = 6 from rfl]
    omega
  have n03 : ¬ s_LO = s_MTL := F0.ne F3 (by decide)
  have n04 : ¬ s_LO = s_MOK := F0.ne F4 (by decide)
  have n05 : ¬ s_LO = s_MAK := F0.ne F5 (by decide)
  have n13 : ¬ s_ATO = s_MTL := F1.ne F3 (by decide)
  have n14 : ¬ s_ATO = s_MOK := F1.ne F4 (by decide)
  have n15 : ¬ s_ATO = s_MAK := F1.ne F5 (by decide)
  have n23 : ¬ s_ATC = s_MTL := F2.ne F3 (by decide)
  have n24 : ¬ s_ATC = s_MOK := F2.ne F4 (by decide)
  have n25 : ¬ s_ATC = s_MAK := F2.ne F5 (by decide)
  have n63 : ¬ s_PLO = s_MTL := F6.ne F3 (by decide)
  have n64 : ¬ s_PLO = s_MOK := F6.ne F4 (by decide)
  have n65 : ¬ s_PLO = s_MAK := F6.ne F5 (by decide)
  rcases q with rfl | rfl | rfl | rfl | rfl | rfl | rfl <;> simp [own_f1, own_f2, own_j2_1, n03, n04, n05, n13, n14, n15, n23, n24, n25, n63, n64, n65]
theorem own_law {Z : State} {h : Heap} {C n d : String} {s_LO s_ATO s_ATC s_MTL s_MOK s_MAK s_PLO : Addr} (x : Int32)
    (F0 : Fld Z h s_LO C n d (.int 0)) (F1 : Fld Z h s_ATO C n d (.int 1)) (F2 : Fld Z h s_ATC C n d (.int 2)) (F3 : Fld Z h s_MTL C n d (.int 3)) (F4 : Fld Z h s_MOK C n d (.int 4)) (F5 : Fld Z h s_MAK C n d (.int 5)) (F6 : Fld Z h s_PLO C n d (.int 6)) :
    own_f0 x s_LO s_ATO s_ATC s_MTL s_MOK s_MAK s_PLO = 1 := by
  unfold own_f0 own_j0_2 own_j0_1
  have hk := own_k x
  rw [show (x &&& 2147483647) % 7 = own_v0_1 x from rfl] at hk
  rw [own_lawK (own_v0_1 x) hk F0 F1 F2 F3 F4 F5 F6]
  revert hk
  generalize own_v0_1 x = k
  intro hk
  by_cases h1 : k < 3
  · have h1' : k.toInt < 3 := Int32.lt_iff_toInt_lt.mp h1
    have h3 : ¬ (3 ≤ k.toInt ∧ k.toInt ≤ 5) := by omega
    rw [if_pos h1, if_neg h3, if_pos rfl]; rfl
  · have h1' : ¬ k.toInt < 3 := fun q => h1 (Int32.lt_iff_toInt_lt.mpr q)
    by_cases h2 : 5 < k
    · have h2' : 5 < k.toInt := Int32.lt_iff_toInt_lt.mp h2
      have h3 : ¬ (3 ≤ k.toInt ∧ k.toInt ≤ 5) := by omega
      rw [if_neg h1, if_pos h2, if_neg h3, if_pos rfl]; rfl
    · have h2' : ¬ 5 < k.toInt := fun q => h2 (Int32.lt_iff_toInt_lt.mpr q)
      have h3 : 3 ≤ k.toInt ∧ k.toInt ≤ 5 := by omega
      rw [if_neg h1, if_neg h2, if_pos h3, if_pos rfl]; rfl
theorem own_t7 : (Jvm.Cond.laysStatic "khoplenh/OrderType" "LO" "Lkhoplenh/OrderType;") ∈ tables_1 := List.mem_of_getElem? (i := 7) rfl
theorem own_t27 : (Jvm.Cond.laysStatic "khoplenh/OrderType" "ATO" "Lkhoplenh/OrderType;") ∈ tables_1 := List.mem_of_getElem? (i := 27) rfl
theorem own_t25 : (Jvm.Cond.laysStatic "khoplenh/OrderType" "ATC" "Lkhoplenh/OrderType;") ∈ tables_1 := List.mem_of_getElem? (i := 25) rfl
theorem own_t14 : (Jvm.Cond.laysStatic "khoplenh/OrderType" "MTL" "Lkhoplenh/OrderType;") ∈ tables_1 := List.mem_of_getElem? (i := 14) rfl
theorem own_t16 : (Jvm.Cond.laysStatic "khoplenh/OrderType" "MOK" "Lkhoplenh/OrderType;") ∈ tables_1 := List.mem_of_getElem? (i := 16) rfl
theorem own_t18 : (Jvm.Cond.laysStatic "khoplenh/OrderType" "MAK" "Lkhoplenh/OrderType;") ∈ tables_1 := List.mem_of_getElem? (i := 18) rfl
theorem own_t22 : (Jvm.Cond.laysStatic "khoplenh/OrderType" "PLO" "Lkhoplenh/OrderType;") ∈ tables_1 := List.mem_of_getElem? (i := 22) rfl
set_option maxRecDepth 65536 in
set_option maxHeartbeats 40000000 in
theorem comes_1 {Post : Tables → Env → Array Value → State → Outcome → State → Prop} (hpost : ∀ tb e args s v u, (limb_1_1.after args s (.returned v) u = true ∧ limb_1_2.after args s (.returned v) u = true) → FrameEnd s (.returned v) u (Jvm.fieldLocs frame_1_writes args s ++ Jvm.arrayLocs frame_1_arrays args s ++ Jvm.staticLocs frame_1_statics s) 0 0 → Post tb e args s (.returned v) u) :
    ArmFor flags0 classFile x code maxLocals ret World_1 tables_1 room_1 Calls_1 rest_1 Pre_1 Post := by
  intro l hfl _ _ p e ha hc hk s m args below hf hA hF happ hP
  obtain ⟨hcalls, hrest, hpre⟩ := hP
  obtain ⟨-, -, -, hnamed, -, -, -, hat⟩ := (Spec.applies_iff hf).mp happ
  obtain ⟨hg, hn⟩ := and_e (Cond.before_iff.mp (show (Jvm.Cond.and given_1 narrow_1).before args s = true from hpre))
  obtain ⟨gg1, gg2⟩ := and_e hg
  obtain ⟨w0, rfl⟩ : ∃ w0 : Value, args = #[w0] := by
    have hs : args.size = 1 := by simpa [Cond.value, given_1] using gg1
    obtain ⟨L⟩ := args
    match L, hs with
    | [w0], _ => exact ⟨w0, rfl⟩
  have hw := fun d (hd : d ∈ tables_1) => atoms_spec (ws := Jvm.Cond.code x code maxLocals ret :: tables_1) hat d (List.mem_cons_of_mem _ hd)
  have hfit : Fit s := fun {y c} hc i hi => by
    obtain ⟨ha, rfl⟩ := Array.getElem?_eq_some_iff.mp hc
    have q := List.all_eq_true.mp ((Array.all_eq_true_iff_forall_mem.mp hF) _ (Array.getElem_mem ha)) i (List.mem_range.mpr hi)
    simpa [Array.getElem?_eq_getElem hi] using q
  obtain ⟨i0, ei0⟩ := is_v gg2
  obtain rfl : w0 = (.int i0) := Option.some.inj ei0
  obtain ⟨n1, m1⟩ := and_e hn
  obtain ⟨n2, m2⟩ := and_e m1
  obtain ⟨n3, m3⟩ := and_e m2
  obtain ⟨n4, m4⟩ := and_e m3
  obtain ⟨n5, m5⟩ := and_e m4
  obtain ⟨n6, m6⟩ := and_e m5
  obtain ⟨n7, m7⟩ := and_e m6
  obtain ⟨n8, m8⟩ := and_e m7
  obtain ⟨n9, m9⟩ := and_e m8
  obtain ⟨n10, m10⟩ := and_e m9
  obtain ⟨n11, m11⟩ := and_e m10
  obtain ⟨n12, m12⟩ := and_e m11
  obtain ⟨n13, m13⟩ := and_e m12
  have n14 := m13
  obtain ⟨s_LO, v_LO⟩ := exa_v n1
  have E_LO := Exa.start v_LO n1
  have S_LO := Sta.start v_LO (Or.inr ⟨(hw _ own_t6), (hw _ own_t7)⟩)
  have F_LO := own_fldI v_LO n3
  obtain ⟨s_ATO, v_ATO⟩ := exa_v n13
  have E_ATO := Exa.start v_ATO n13
  have S_ATO := Sta.start v_ATO (Or.inr ⟨(hw _ own_t6), (hw _ own_t27)⟩)
  have F_ATO := own_fldI v_ATO n14
  obtain ⟨s_ATC, v_ATC⟩ := exa_v n11
  have E_ATC := Exa.start v_ATC n11
  have S_ATC := Sta.start v_ATC (Or.inr ⟨(hw _ own_t6), (hw _ own_t25)⟩)
  have F_ATC := own_fldI v_ATC n12
  obtain ⟨s_MTL, v_MTL⟩ := exa_v n2
  have E_MTL := Exa.start v_MTL n2
  have S_MTL := Sta.start v_MTL (Or.inr ⟨(hw _ own_t6), (hw _ own_t14)⟩)
  have F_MTL := own_fldI v_MTL n4
  obtain ⟨s_MOK, v_MOK⟩ := exa_v n5
  have E_MOK := Exa.start v_MOK n5
  have S_MOK := Sta.start v_MOK (Or.inr ⟨(hw _ own_t6), (hw _ own_t16)⟩)
  have F_MOK := own_fldI v_MOK n6
  obtain ⟨s_MAK, v_MAK⟩ := exa_v n7
  have E_MAK := Exa.start v_MAK n7
  have S_MAK := Sta.start v_MAK (Or.inr ⟨(hw _ own_t6), (hw _ own_t18)⟩)
  have F_MAK := own_fldI v_MAK n8
  obtain ⟨s_PLO, v_PLO⟩ := exa_v n9
  have E_PLO := Exa.start v_PLO n9
  have S_PLO := Sta.start v_PLO (Or.inr ⟨(hw _ own_t6), (hw _ own_t22)⟩)
  have F_PLO := own_fldI v_PLO n10
  obtain ⟨n, o, h1, h2, h3, v, L, rfl, hQ, hq⟩ := rm0 l s _ hw tables_1 i0 s_LO s_ATO s_ATC s_MTL s_MOK s_MAK s_PLO s.heap s.heap.size E_LO E_ATO E_ATC E_MTL E_MOK E_MAK E_PLO S_LO S_ATO S_ATC S_MTL S_MOK S_MAK S_PLO p e ha hc hk s m _ below hf ((Spec.applies_iff_loose hf).mp happ).1 ⟨rfl, State.Warmed39.refl s, rfl⟩ trivial
  obtain ⟨hv, N, -⟩ := hQ
  rw [show (own_f0 i0 s_LO s_ATO s_ATC s_MTL s_MOK s_MAK s_PLO : Int32) = 1 from own_law i0 F_LO F_ATO F_ATC F_MTL F_MOK F_MAK F_PLO] at hv
  subst hv
  refine ⟨n, _, h1, h2, h3, hpost _ _ _ _ _ _ ⟨Cond.after_iff.mpr rfl, Cond.after_iff.mpr (eq_i res_at (Term.int_eval (1)) rfl)⟩ ⟨hq.1, hq.2.1, (hq.2.2.sift fun y hy => Or.inr (N y hy)).mono (by decide) (by decide)⟩⟩
theorem main_1_1 : Claimed_1_1 := comes_1 fun _ _ _ _ _ _ h hF => ⟨h.1, hF⟩
theorem main_1_2 : Claimed_1_2 := comes_1 fun _ _ _ _ _ _ h hF => ⟨h.2, hF⟩
end Jvm.Pilot.@@N@@
namespace Jvm.Pilot.@@N@@
open Jvm Jvm.ClassFile Sem Op Lib Jvm.Free Jvm.Stand Jvm.Pilot.@@N@@.Jvm.D
/-! MADE BY PROGRAM (witnessworld.py) out of the Statement's table words and the real class files: 12 classes; the members and pool entries that the words name. The judged class is class 1, her method 2. -/
namespace start1
open Jvm.ClassFile
def u (s : String) : CpInfo := .utf8 (stringToUtf16 s)
/-- a pool by its gaps: so many unusable entries, then the entry; so many at the end -/
def gap : Nat → List CpInfo → List CpInfo
  | 0, r => r
  | n + 1, r => .unusable :: gap n r
def poolList (es : List (Nat × CpInfo)) (last : Nat) : List CpInfo := es.foldr (fun e r => gap e.1 (e.2 :: r)) (gap last [])
def pool (es : List (Nat × CpInfo)) (last : Nat) : Array CpInfo := ⟨poolList es last⟩
def fileOf (pool : Array CpInfo) (this : Nat) (attrs : Array Attribute := #[]) (ms : Array MethodInfo := #[]) (fl : Nat := 33) (sup : Nat := 0) (ifs : Array Nat := #[]) (fds : Array FieldInfo := #[]) : ClassFile where
  minorVersion := 0
  majorVersion := 65
  constantPool := pool
  accessFlags := fl
  thisClass := this
  superClass := sup
  interfaces := ifs
  fields := fds
  methods := ms
  attributes := attrs
def plain (name : String) (sup : Option ClassId) : Class where
  name := name
  kind := .ordinary
  loader := none
  accessFlags := 33
  super := sup
  interfaces := #[]
  cf := none
  fields := #[]
  methods := #[]
  instanceTypes := #[]
  staticTypes := #[]
  resolved := #[]
  callSites := []
  init := .initialized
  statics := none
  mirror := none

def pool0 : Array CpInfo := pool [(5, u "<init>"), (0, u "()V"), (1, .class_ 10), (1, u "java/lang/Object")] 113

def k0m0 : Method := { name := "<init>", desc := "()V", sig := { parameters := [], returnType := none }, accessFlags := 1, code := none }
/-- java/lang/Object -/
def k0 : Class := { plain "java/lang/Object" none with
  accessFlags := 33
  interfaces := #[]
  cf := some (fileOf pool0 8 #[] #[{ accessFlags := 1, nameIndex := 5, descriptorIndex := 6, attributes := #[] }] 33 0 #[] #[])
  fields := #[]
  methods := #[k0m0]
  instanceTypes := #[]
  staticTypes := #[]
  resolved := Array.replicate 124 none
  statics := none }

def pool1 : Array CpInfo := pool [(2, .class_ 4), (1, u "java/lang/Object"), (0, u "<init>"), (0, u "()V"), (0, .fieldref 8 9), (0, .class_ 10), (0, .nameAndType 11 12), (0, u "khoplenh/OrderType"), (0, u "LO"), (0, u "Lkhoplenh/OrderType;"), (0, .fieldref 8 14), (0, .nameAndType 15 12), (0, u "ATO"), (0, .fieldref 8 17), (0, .nameAndType 18 12), (0, u "ATC"), (0, .fieldref 8 20), (0, .nameAndType 21 12), (0, u "MTL"), (0, .fieldref 8 23), (0, .nameAndType 24 12), (0, u "MOK"), (0, .fieldref 8 26), (0, .nameAndType 27 12), (0, u "MAK"), (0, .fieldref 8 29), (0, .nameAndType 30 12), (0, u "PLO"), (0, .integer 2147483647), (0, .methodref 33 34), (0, .class_ 35), (0, .nameAndType 36 37), (0, u "khoplenh/OrderTypeIsMarketPinLaw"), (0, u "pick"), (0, u "(I)Lkhoplenh/OrderType;"), (0, .methodref 8 39), (0, .nameAndType 40 41), (0, u "isMarket"), (0, u "()Z"), (3, u "law"), (0, u "(I)Z")] 2

def k1m0 : Method := { name := "<init>", desc := "()V", sig := { parameters := [], returnType := none }, accessFlags := 2, code := none }
def k1c1 : Code := { maxStack := 2, maxLocals := 1, code := method_2_code, exceptionTable := #[], attributes := #[] }
def k1m1 : Method := { name := "pick", desc := "(I)Lkhoplenh/OrderType;", sig := { parameters := [.int], returnType := some (.object "khoplenh/OrderType") }, accessFlags := 10, code := some k1c1 }
def k1c2 : Code := { maxStack := 2, maxLocals := 4, code := code, exceptionTable := #[], attributes := #[] }
def k1m2 : Method := { name := "law", desc := "(I)Z", sig := { parameters := [.int], returnType := some .boolean }, accessFlags := 9, code := some k1c2 }
/-- khoplenh/OrderTypeIsMarketPinLaw -/
def k1 : Class := { plain "khoplenh/OrderTypeIsMarketPinLaw" (some 0) with
  accessFlags := 49
  interfaces := #[]
  cf := some (fileOf pool1 33 #[] #[{ accessFlags := 2, nameIndex := 5, descriptorIndex := 6, attributes := #[] }, { accessFlags := 10, nameIndex := 36, descriptorIndex := 37, attributes := #[] }, { accessFlags := 9, nameIndex := 45, descriptorIndex := 46, attributes := #[] }] 49 2 #[] #[])
  fields := #[]
  methods := #[k1m0, k1m1, k1m2]
  instanceTypes := #[]
  staticTypes := #[]
  resolved := Array.replicate 49 none
  statics := none }

def pool2 : Array CpInfo := pool [(1, .class_ 2), (0, u "java/lang/constant/Constable"), (0, .class_ 4), (0, u "java/lang/Object")] 6

/-- java/lang/constant/Constable -/
def k2 : Class := { plain "java/lang/constant/Constable" (some 0) with
  accessFlags := 1537
  interfaces := #[]
  cf := some (fileOf pool2 1 #[] #[] 1537 3 #[] #[])
  fields := #[]
  methods := #[]
  instanceTypes := #[]
  staticTypes := #[]
  resolved := Array.replicate 11 none
  statics := none }

def pool3 : Array CpInfo := pool [(1, .class_ 2), (0, u "java/lang/Comparable"), (0, .class_ 4), (0, u "java/lang/Object")] 7

/-- java/lang/Comparable -/
def k3 : Class := { plain "java/lang/Comparable" (some 0) with
  accessFlags := 1537
  interfaces := #[]
  cf := some (fileOf pool3 1 #[] #[] 1537 3 #[] #[])
  fields := #[]
  methods := #[]
  instanceTypes := #[]
  staticTypes := #[]
  resolved := Array.replicate 12 none
  statics := none }

def pool4 : Array CpInfo := pool [(1, .class_ 2), (0, u "java/io/Serializable"), (0, .class_ 4), (0, u "java/lang/Object")] 2

/-- java/io/Serializable -/
def k4 : Class := { plain "java/io/Serializable" (some 0) with
  accessFlags := 1537
  interfaces := #[]
  cf := some (fileOf pool4 1 #[] #[] 1537 3 #[] #[])
  fields := #[]
  methods := #[]
  instanceTypes := #[]
  staticTypes := #[]
  resolved := Array.replicate 7 none
  statics := none }

def pool5 : Array CpInfo := pool [(2, .class_ 4), (1, u "java/lang/Enum"), (0, u "name"), (0, u "Ljava/lang/String;"), (2, u "ordinal"), (0, u "I"), (1, .class_ 14), (1, u "java/lang/Object"), (4, u "hash"), (86, .class_ 108), (1, u "java/lang/Enum$EnumDesc"), (2, .class_ 112), (0, u "java/lang/constant/Constable"), (0, .class_ 114), (0, u "java/lang/Comparable"), (0, .class_ 116), (0, u "java/io/Serializable")] 87

/-- java/lang/Enum -/
def k5 : Class := { plain "java/lang/Enum" (some 0) with
  accessFlags := 1057
  interfaces := #[2, 3, 4]
  cf := some (fileOf pool5 2 #[.nestMembers #[106]] #[] 1057 12 #[111, 113, 115] #[{ accessFlags := 18, nameIndex := 5, descriptorIndex := 6, attributes := #[] }, { accessFlags := 18, nameIndex := 9, descriptorIndex := 10, attributes := #[] }, { accessFlags := 2, nameIndex := 19, descriptorIndex := 10, attributes := #[] }])
  fields := #[{ name := "name", type := (.object "java/lang/String"), accessFlags := 18, slot := 0, constantValue := 0 }, { name := "ordinal", type := .int, accessFlags := 18, slot := 1, constantValue := 0 }, { name := "hash", type := .int, accessFlags := 2, slot := 2, constantValue := 0 }]
  methods := #[]
  instanceTypes := #[(.object "java/lang/String"), .int, .int]
  staticTypes := #[]
  resolved := Array.replicate 204 none
  statics := none }

def pool6 : Array CpInfo := pool [(1, .class_ 2), (0, u "khoplenh/OrderType"), (2, u "LO"), (0, u "Lkhoplenh/OrderType;"), (2, u "ATO"), (2, u "ATC"), (0, .fieldref 1 14), (0, .nameAndType 15 6), (0, u "MTL"), (0, .fieldref 1 17), (0, .nameAndType 18 6), (0, u "MOK"), (0, .fieldref 1 20), (0, .nameAndType 21 6), (0, u "MAK"), (2, u "PLO"), (2, u "$VALUES"), (0, u "[Lkhoplenh/OrderType;"), (6, .class_ 37), (1, u "java/lang/Enum"), (26, u "()Z"), (2, u "isMarket")] 4

def k6c0 : Code := { maxStack := 2, maxLocals := 1, code := prog_15_method_6_code, exceptionTable := #[], attributes := #[] }
def k6m0 : Method := { name := "isMarket", desc := "()Z", sig := { parameters := [], returnType := some .boolean }, accessFlags := 1, code := some k6c0 }
/-- khoplenh/OrderType -/
def k6 : Class := { plain "khoplenh/OrderType" (some 5) with
  accessFlags := 16433
  interfaces := #[]
  cf := some (fileOf pool6 1 #[] #[{ accessFlags := 1, nameIndex := 67, descriptorIndex := 64, attributes := #[] }] 16433 35 #[] #[{ accessFlags := 16409, nameIndex := 5, descriptorIndex := 6, attributes := #[] }, { accessFlags := 16409, nameIndex := 9, descriptorIndex := 6, attributes := #[] }, { accessFlags := 16409, nameIndex := 12, descriptorIndex := 6, attributes := #[] }, { accessFlags := 16409, nameIndex := 15, descriptorIndex := 6, attributes := #[] }, { accessFlags := 16409, nameIndex := 18, descriptorIndex := 6, attributes := #[] }, { accessFlags := 16409, nameIndex := 21, descriptorIndex := 6, attributes := #[] }, { accessFlags := 16409, nameIndex := 24, descriptorIndex := 6, attributes := #[] }, { accessFlags := 4122, nameIndex := 27, descriptorIndex := 28, attributes := #[] }])
  fields := #[{ name := "LO", type := (.object "khoplenh/OrderType"), accessFlags := 16409, slot := 0, constantValue := 0 }, { name := "ATO", type := (.object "khoplenh/OrderType"), accessFlags := 16409, slot := 1, constantValue := 0 }, { name := "ATC", type := (.object "khoplenh/OrderType"), accessFlags := 16409, slot := 2, constantValue := 0 }, { name := "MTL", type := (.object "khoplenh/OrderType"), accessFlags := 16409, slot := 3, constantValue := 0 }, { name := "MOK", type := (.object "khoplenh/OrderType"), accessFlags := 16409, slot := 4, constantValue := 0 }, { name := "MAK", type := (.object "khoplenh/OrderType"), accessFlags := 16409, slot := 5, constantValue := 0 }, { name := "PLO", type := (.object "khoplenh/OrderType"), accessFlags := 16409, slot := 6, constantValue := 0 }, { name := "$VALUES", type := (.array (.object "khoplenh/OrderType")), accessFlags := 4122, slot := 7, constantValue := 0 }]
  methods := #[k6m0]
  instanceTypes := #[(.object "java/lang/String"), .int, .int]
  staticTypes := #[(.object "khoplenh/OrderType"), (.object "khoplenh/OrderType"), (.object "khoplenh/OrderType"), (.object "khoplenh/OrderType"), (.object "khoplenh/OrderType"), (.object "khoplenh/OrderType"), (.object "khoplenh/OrderType"), (.array (.object "khoplenh/OrderType"))]
  resolved := Array.replicate 72 none
  statics := some 0 }

def pool7 : Array CpInfo := pool [(1, u "java/lang/Cloneable"), (0, .class_ 1), (0, u "java/lang/Object"), (0, .class_ 3)] 3

/-- java/lang/Cloneable -/
def k7 : Class := { plain "java/lang/Cloneable" (some 0) with
  accessFlags := 1537
  interfaces := #[]
  cf := some (fileOf pool7 2 #[] #[] 1537 4 #[] #[])
  fields := #[]
  methods := #[]
  instanceTypes := #[]
  staticTypes := #[]
  resolved := Array.replicate 8 none
  statics := none }

/-- the primitive byte -/
def k8 : Class := { plain "byte" none with kind := .primitive 'B', accessFlags := 0x411 }
/-- [B -/
def k9 : Class := { plain "[B" (some 0) with kind := .array 8 .byte, interfaces := #[7, 4], accessFlags := 1041 }

/-- the primitive int -/
def k10 : Class := { plain "int" none with kind := .primitive 'I', accessFlags := 0x411 }
/-- [I -/
def k11 : Class := { plain "[I" (some 0) with kind := .array 10 .int, interfaces := #[7, 4], accessFlags := 1041 }

def heap : Heap := #[{ cls := 6, slots := #[.ref 1, .ref 2, .ref 3, .ref 4, .ref 5, .ref 6, .ref 7, .null], vm := .statics 6 },
  { cls := 6, slots := #[.null, .int 0, .int 0], vm := .none },
  { cls := 6, slots := #[.null, .int 1, .int 0], vm := .none },
  { cls := 6, slots := #[.null, .int 2, .int 0], vm := .none },
  { cls := 6, slots := #[.null, .int 3, .int 0], vm := .none },
  { cls := 6, slots := #[.null, .int 4, .int 0], vm := .none },
  { cls := 6, slots := #[.null, .int 5, .int 0], vm := .none },
  { cls := 6, slots := #[.null, .int 6, .int 0], vm := .none }]
def classes : Array Class := #[k0, k1, k2, k3, k4, k5, k6, k7, k8, k9, k10, k11]
def interned : List (Array UInt16 × Addr) := []
def slotsUsed : Nat := 29
def theMethod : MethodId := ⟨1, 2⟩
def args0 : Array Value := #[.int 5]
def aboutOver (below : List Frame) : State where
  vm := { classes := classes, interned := interned.toArray }
  heap := heap
  slotsUsed := slotsUsed
  threads := #[{ frames := .invoking theMethod args0 :: below }]
def below0 : List Frame := [.native { method := ⟨0, 0⟩, args := #[] }]
def about1 : State := aboutOver below0
def p0 : Program := .bare "" "" ""
def e0 : Env := launch0.env 0 0 0
theorem w_frames : about1.frames = Frame.invoking theMethod args0 :: below0 := rfl
set_option maxRecDepth 65536 in
theorem w_args : argsFit about1.vm theMethod args0 = true := by decide +kernel
set_option maxRecDepth 65536 in
theorem w_heap : heapFits about1 = true := by decide +kernel
set_option maxRecDepth 65536 in
theorem w_runnable : about1.curStatus? = some .runnable := by decide +kernel
set_option maxRecDepth 65536 in
theorem w_alone : about1.alone = true := by decide +kernel
set_option maxRecDepth 65536 in
theorem w_named : about1.methodNamed? x = some theMethod := by decide +kernel
set_option maxRecDepth 65536 in
theorem w_hears : about1.hears theMethod below0 = true := by decide +kernel
set_option maxRecDepth 65536 in
theorem w_ripe : about1.ripe theMethod args0 below0 = true := by decide +kernel
theorem w_running : about1.status = .running := rfl
set_option maxRecDepth 65536 in
theorem w_room : about1.hasRoom e0.platform room_1 = true :=
  launch0.hasRoom_least _ room_1 (by decide +kernel) (by decide +kernel) (by decide +kernel) (by decide +kernel) (by decide +kernel) (by decide +kernel)
theorem allAtoms_all (ts : List Jvm.Cond) (a : Array Jvm.Value) (st : Jvm.State) : (allAtoms ts).before a st = ts.all (fun c => c.before a st) := by
  induction ts with
  | nil => rfl
  | cons c t ih =>
    show (Jvm.Cond.and c (allAtoms t)).before a st = _
    rw [Jvm.Cond.before_and, ih, List.all_cons]
def words1 : List Jvm.Cond := Jvm.Cond.code x code maxLocals ret :: tables_1
/-- a 'code' word, met by the world's own term for the bytes: nothing is compared byte by byte -/
theorem code_word {y : MethodName} {bytes : ByteArray} {mx : Nat} {rt : Option FieldType} {a : Array Value} {s : State} {m : MethodId} {meth : Method} {c : Code} (h1 : s.methodNamed? y = some m) (h2 : s.vm.method? m = some meth) (h3 : meth.code = some c) (h4 : c.code = bytes)
    (h5 : (c.maxLocals == mx && c.exceptionTable.isEmpty && decide (c.maxStack ≤ mostOperands) && decide (meth.sig.returnType = rt) && !meth.locks && decide (parseMethodDescriptor y.desc = some meth.sig)) = true) : (Jvm.Cond.code y bytes mx rt).before a s = true := by
  simp only [Bool.and_eq_true, beq_iff_eq, Bool.not_eq_true', decide_eq_true_eq] at h5
  obtain ⟨⟨⟨⟨⟨g1, g2⟩, g3⟩, g4⟩, g5⟩, g6⟩ := h5
  simp [Cond.before, Cond.holds, Cond.value, h1, h2, h3, h4, g1, g2, g3, g4, g5, g6]
def isCode : Jvm.Cond → Bool
  | .code _ _ _ _ => true
  | _ => false
theorem all_split {L : List Jvm.Cond} {P : Jvm.Cond → Bool} (h1 : L.all (fun c => isCode c || P c) = true) (h2 : ∀ c ∈ L.filter isCode, P c = true) : L.all P = true := by
  refine List.all_eq_true.mpr fun c hc => ?_
  have h := List.all_eq_true.mp h1 c hc
  rcases Bool.eq_false_or_eq_true (isCode c) with hi | hi
  · exact h2 c (List.mem_filter.mpr ⟨hc, hi⟩)
  · simpa [hi] using h
set_option maxRecDepth 65536 in
theorem w_c0 : (Jvm.Cond.code x code maxLocals ret).before args0 about1 = true := code_word (m := ⟨1, 2⟩) (meth := k1m2) (c := k1c2) (by decide +kernel) rfl rfl rfl (by decide +kernel)
set_option maxRecDepth 65536 in
theorem w_c1 : (Jvm.Cond.code ({ cls := "khoplenh/OrderTypeIsMarketPinLaw", name := "pick", desc := "(I)Lkhoplenh/OrderType;" } : Jvm.MethodName) method_2_code (1 : Nat) (Option.some (Jvm.ClassFile.FieldType.object "khoplenh/OrderType"))).before args0 about1 = true := code_word (m := ⟨1, 1⟩) (meth := k1m1) (c := k1c1) (by decide +kernel) rfl rfl rfl (by decide +kernel)
set_option maxRecDepth 65536 in
theorem w_c2 : (Jvm.Cond.code ({ cls := "khoplenh/OrderType", name := "isMarket", desc := "()Z" } : Jvm.MethodName) prog_15_method_6_code (1 : Nat) (Option.some Jvm.ClassFile.FieldType.boolean)).before args0 about1 = true := code_word (m := ⟨6, 0⟩) (meth := k6m0) (c := k6c0) (by decide +kernel) rfl rfl rfl (by decide +kernel)
def codes1 : List Jvm.Cond := [Jvm.Cond.code x code maxLocals ret, Jvm.Cond.code ({ cls := "khoplenh/OrderTypeIsMarketPinLaw", name := "pick", desc := "(I)Lkhoplenh/OrderType;" } : Jvm.MethodName) method_2_code (1 : Nat) (Option.some (Jvm.ClassFile.FieldType.object "khoplenh/OrderType")), Jvm.Cond.code ({ cls := "khoplenh/OrderType", name := "isMarket", desc := "()Z" } : Jvm.MethodName) prog_15_method_6_code (1 : Nat) (Option.some Jvm.ClassFile.FieldType.boolean)]
set_option maxRecDepth 65536 in
theorem codes_eq : words1.filter isCode = codes1 := rfl
theorem w_codes : ∀ c ∈ words1.filter isCode, c.before args0 about1 = true := by
  rw [codes_eq]
  intro c hc
  simp only [codes1, List.mem_cons, List.not_mem_nil, or_false] at hc
  rcases hc with rfl | rfl | rfl
  · exact w_c0
  · exact w_c1
  · exact w_c2
set_option maxRecDepth 65536 in
theorem w_t1 : (words1.take 24).all (fun c => isCode c || c.before args0 about1) = true := by decide +kernel
set_option maxRecDepth 65536 in
theorem w_t2 : (words1.drop 24).all (fun c => isCode c || c.before args0 about1) = true := by decide +kernel
theorem w_tables : (allAtoms (Jvm.Cond.code x code maxLocals ret :: tables_1)).before args0 about1 = true := by
  rw [allAtoms_all]
  show words1.all (fun c => c.before args0 about1) = true
  refine all_split ?_ w_codes
  rw [← List.take_append_drop 24 words1, List.all_append, w_t1, w_t2]
  rfl
set_option maxRecDepth 65536 in
theorem w_case : (Jvm.Cond.and given_1 narrow_1).before args0 about1 = true := by decide +kernel
theorem w_applies : (headSpec (Jvm.Cond.code x code maxLocals ret :: tables_1) room_1).applies x e0.platform about1 = true :=
  (Spec.applies_iff w_frames).mpr ⟨w_running, w_runnable, w_alone, w_named, w_hears, w_ripe, w_room, w_tables⟩
theorem atStart : AtStart classFile x code maxLocals ret World_1 tables_1 room_1 Calls_1 rest_1 Pre_1 launch0 p0 e0 about1 theMethod args0 below0 :=
  ⟨lists_1, trivial, launch0.admits_env _ _ _, launch0.least_env, fairChoices_fair.cas, fairChoices_fair.clock, w_frames, w_args, w_heap, w_applies, trivial, trivial, w_case⟩
end start1
theorem witness_1 : WitnessClaimed_1 := ⟨start1.p0, start1.e0, start1.about1, start1.theMethod, start1.args0, start1.below0, start1.atStart⟩
end Jvm.Pilot.@@N@@
