import JvmDerived
import JvmDerived.Pilot.@@N@@Statement
import JvmDerived.Pilot.@@N@@Code
set_option linter.unusedVariables false
set_option linter.unusedSimpArgs false
@@BLOCK:NumsL.lean.txt@@
namespace Jvm.Pilot.@@N@@
open Jvm Jvm.ClassFile Sem Op Lib Jvm.Free Jvm.Stand Jvm.LawKit Jvm.RoadKit Bundle Jvm.Pilot.@@N@@.Jvm.D
section Own
variable {p : Program} {l : Launch} {e : Env} {R rm : Room} {s : State} {m : MethodId} {args : Array Value} {below : List Frame} {meth : Method} {c : Code} {T : State} {locs : List Loc} {cells slots : Nat} {Z : State} {a0 : Array Value} {h : Heap}
/-- the run comes to the end of the invocation, and what is asked holds there -/
def own_Goes (p : Program) (e : Env) (below : List Frame) (G : Outcome → State → Prop) (S : State) : Prop := ∃ s₂ o, Steps p.tables e below S s₂ ∧ s₂.status = .running ∧ Ended s₂ below o ∧ G o s₂
theorem own_go {G : Outcome → State → Prop} {S S' : State} (h : ∀ t, Steps p.tables e below S' t → Steps p.tables e below S t) (k : own_Goes p e below G S') : own_Goes p e below G S := by
  obtain ⟨s₂, o, h1, h2⟩ := k
  exact ⟨s₂, o, h _ h1, h2⟩
theorem own_tr {G : Outcome → State → Prop} {S S' : State} (h : Steps p.tables e below S S') (k : own_Goes p e below G S') : own_Goes p e below G S := own_go (fun _ q => h.trans q) k
abbrev own_End (s : State) (rm : Room) (Q : Option Value → Heap → List Loc → Prop) : Outcome → State → Prop := fun o U' => ∃ v L, o = .returned v ∧ Q v U'.heap L ∧ FrameEnd s o U' L rm.cells rm.slots
/-- a body's contract: with these arguments, over this heap, it returns and leaves what Q says -/
def own_Met (l : Launch) (Z : State) (y : MethodName) (bytes : ByteArray) (maxL : Nat) (ret : Option FieldType) (ws : List Jvm.Cond) (rm : Room) (as : Array Value) (h0 : Heap) (Q : Option Value → Heap → List Loc → Prop) : Prop :=
  MetFree l y (head1 (Jvm.Cond.code y bytes maxL ret :: ws) rm) (fun a U => a = as ∧ Z.Warmed39 U.vm ∧ U.heap = h0) (fun _ _ _ _ _ => True) (fun _ U o U' => ∃ v L, o = .returned v ∧ Q v U'.heap L ∧ FrameEnd U o U' L rm.cells rm.slots)
theorem own_met {y : MethodName} {bytes : ByteArray} {maxL : Nat} {ret : Option FieldType} {ws : List Jvm.Cond} {as : Array Value} {h0 : Heap} {Q : Option Value → Heap → List Loc → Prop} (hp : plainFor y = true)
    (body : ∀ (p : Program) (e : Env) (s : State) (m : MethodId) (below : List Frame) (meth : Method) (c : Code) (s₁ : State), p.tables.exec = Jvm.exec → c.code = bytes → c.maxLocals = maxL → s.vm.findClass y.cls = some m.cls → meth.name = y.name → meth.sig.returnType = ret → meth.locks = false → Z.Warmed39 s.vm → s₁.heap = h0 →
      Stand p l e rm s m as below meth c s₁ [] 0 0 → own_Goes p e below (own_End s rm Q) (s₁.setTop (entryFrame m as maxL))) : own_Met l Z y bytes maxL ret ws rm as h0 Q := by
  refine MetFree.of_bodySF hp hisR ?_
  intro p e s m args below meth c s₁ Bd hml hP hK
  obtain ⟨rfl, hZ, hh⟩ := hP
  exact body p e s m below meth c s₁ Bd.exec Bd.bytes hml (findClass_of_methodNamed Bd.named) (name_of_methodNamed Bd.named Bd.method).1 Bd.returns Bd.notSynchronized hZ (by rw [← hh, Bd.state]; rfl) (Stand.of_body Bd)
/-- the returns -/
theorem own_retV {Q : Option Value → Heap → List Loc → Prop} (X : Stand p l e rm s m args below meth c T locs cells slots) (hx : p.tables.exec = Jvm.exec) (hlk : meth.locks = false) {pc : Nat} {Ls : Array Slot} {w : Value} {t : FieldType} {i : Instr} {rest : List Value} (hret : meth.sig.returnType = some t) (hn : narrow t w = w)
    (hi : (i = .ireturn ∧ (t = .int ∨ t = .boolean ∨ t = .byte ∨ t = .char ∨ t = .short) ∧ ∃ z, w = .int z) ∨ (i = .lreturn ∧ t = .long ∧ ∃ z, w = .long z) ∨ (i = .dreturn ∧ t = .double ∧ ∃ z, w = .double z) ∨ (i = .freturn ∧ t = .float ∧ ∃ z, w = .float z) ∨ (i = .areturn ∧ t.isReference = true ∧ w.isRef = true))
    (hd : decode c.code pc = .ok (i, 1)) (hc : cells ≤ rm.cells) (hs : slots ≤ rm.slots) (hq : Q (some w) T.heap locs) : own_Goes p e below (own_End s rm Q) (T.setTop (mkF m pc Ls (w :: rest))) := by
  obtain ⟨fs, hr, hrun, hended, hW, hsame⟩ := X.leave (v := some w) (fun h => by rw [hret] at h; cases h) hlk
  exact ⟨_, _, retOut X hx hret hn hi hd hr, hrun, hended, _, _, rfl, hq, ⟨_, rfl⟩, hW, hsame.mono hc hs⟩
theorem own_retI {Q : Option Value → Heap → List Loc → Prop} (X : Stand p l e rm s m args below meth c T locs cells slots) (hx : p.tables.exec = Jvm.exec) (hlk : meth.locks = false) {pc : Nat} {Ls : Array Slot} {z : Int32} {rest : List Value} (hret : meth.sig.returnType = some .int)
    (hd : decode c.code pc = .ok (.ireturn, 1)) (hc : cells ≤ rm.cells) (hs : slots ≤ rm.slots) (hq : Q (some (.int z)) T.heap locs) : own_Goes p e below (own_End s rm Q) (T.setTop (mkF m pc Ls (.int z :: rest))) :=
  own_retV X hx hlk hret rfl (Or.inl ⟨rfl, Or.inl rfl, z, rfl⟩) hd hc hs hq
theorem own_retJ {Q : Option Value → Heap → List Loc → Prop} (X : Stand p l e rm s m args below meth c T locs cells slots) (hx : p.tables.exec = Jvm.exec) (hlk : meth.locks = false) {pc : Nat} {Ls : Array Slot} {z : Int64} {rest : List Value} (hret : meth.sig.returnType = some .long)
    (hd : decode c.code pc = .ok (.lreturn, 1)) (hc : cells ≤ rm.cells) (hs : slots ≤ rm.slots) (hq : Q (some (.long z)) T.heap locs) : own_Goes p e below (own_End s rm Q) (T.setTop (mkF m pc Ls (.long z :: rest))) :=
  own_retV X hx hlk hret rfl (Or.inr (Or.inl ⟨rfl, rfl, z, rfl⟩)) hd hc hs hq
theorem own_retD {Q : Option Value → Heap → List Loc → Prop} (X : Stand p l e rm s m args below meth c T locs cells slots) (hx : p.tables.exec = Jvm.exec) (hlk : meth.locks = false) {pc : Nat} {Ls : Array Slot} {z : UInt64} {rest : List Value} (hret : meth.sig.returnType = some .double)
    (hd : decode c.code pc = .ok (.dreturn, 1)) (hc : cells ≤ rm.cells) (hs : slots ≤ rm.slots) (hq : Q (some (.double z)) T.heap locs) : own_Goes p e below (own_End s rm Q) (T.setTop (mkF m pc Ls (.double z :: rest))) :=
  own_retV X hx hlk hret rfl (Or.inr (Or.inr (Or.inl ⟨rfl, rfl, z, rfl⟩))) hd hc hs hq
theorem own_retR {Q : Option Value → Heap → List Loc → Prop} (X : Stand p l e rm s m args below meth c T locs cells slots) (hx : p.tables.exec = Jvm.exec) (hlk : meth.locks = false) {pc : Nat} {Ls : Array Slot} {w : Value} {t : FieldType} {rest : List Value} (hret : meth.sig.returnType = some t) (ht : t.isReference = true) (hw : w.isRef = true)
    (hd : decode c.code pc = .ok (.areturn, 1)) (hc : cells ≤ rm.cells) (hs : slots ≤ rm.slots) (hq : Q (some w) T.heap locs) : own_Goes p e below (own_End s rm Q) (T.setTop (mkF m pc Ls (w :: rest))) :=
  own_retV X hx hlk hret (by cases t <;> first | rfl | cases ht) (Or.inr (Or.inr (Or.inr (Or.inr ⟨rfl, ht, hw⟩)))) hd hc hs hq
theorem own_retN {Q : Option Value → Heap → List Loc → Prop} (X : Stand p l e rm s m args below meth c T locs cells slots) (hx : p.tables.exec = Jvm.exec) (hlk : meth.locks = false) {pc : Nat} {Ls : Array Slot} {z z' : Int32} {t : FieldType} {rest : List Value} (hret : meth.sig.returnType = some t) (ht : t = .boolean ∨ t = .byte ∨ t = .char ∨ t = .short) (hz : nar t z = z')
    (hd : decode c.code pc = .ok (.ireturn, 1)) (hc : cells ≤ rm.cells) (hs : slots ≤ rm.slots) (hq : Q (some (.int z')) T.heap locs) : own_Goes p e below (own_End s rm Q) (T.setTop (mkF m pc Ls (.int z :: rest))) := by
  subst hz
  obtain ⟨fs, hr, hrun, hended, hW, hsame⟩ := X.leave (v := some (.int (nar t z))) (fun h => by rw [hret] at h; cases h) hlk
  exact ⟨_, _, retN X hx hret ht hd hr, hrun, hended, _, _, rfl, hq, ⟨_, rfl⟩, hW, hsame.mono hc hs⟩
theorem own_ret0 {Q : Option Value → Heap → List Loc → Prop} (X : Stand p l e rm s m args below meth c T locs cells slots) (hx : p.tables.exec = Jvm.exec) (hlk : meth.locks = false) {pc : Nat} {Ls : Array Slot} (hret : meth.sig.returnType = none)
    (hd : decode c.code pc = .ok (.return_, 1)) (hc : cells ≤ rm.cells) (hs : slots ≤ rm.slots) (hq : Q none T.heap locs) : own_Goes p e below (own_End s rm Q) (T.setTop (mkF m pc Ls [])) := by
  obtain ⟨fs, hr, hrun, hended, hW, hsame⟩ := X.leave (v := none) (fun _ => rfl) hlk
  exact ⟨_, _, X.returnOut hx hret hd hr, hrun, hended, _, _, rfl, hq, ⟨_, rfl⟩, hW, hsame.mono hc hs⟩
/-- a static call by the callee's contract -/
theorem own_callS (X : Stand p l e R s m args below meth c T locs cells slots) (hx : p.tables.exec = Jvm.exec) (hZ : Z.Warmed39 s.vm) {own : String} {index : Nat} {y : MethodName} {bytes : ByteArray} {maxL : Nat} {ret : Option FieldType} (hown : s.vm.findClass own = some m.cls)
    (w1 : (Jvm.Cond.methodLink own index y).before a0 Z = true) (w2 : (Jvm.Cond.static y).before a0 Z = true) (w3 : (Jvm.Cond.initialized y.cls).before a0 Z = true) (w4 : (Jvm.Cond.code y bytes maxL ret).before a0 Z = true) (hy : y.cls ≠ "java/lang/invoke/MethodHandle" ∧ y.cls ≠ "java/lang/invoke/VarHandle")
    {as : List Value} {Q : Option Value → Heap → List Loc → Prop} (hM : own_Met l Z y bytes maxL ret [] rm as.toArray h Q) (eT : T.heap = h) {ps : List FieldType} {rt : Option FieldType} (hpd : parseMethodDescriptor y.desc = some ⟨ps, rt⟩) (hlen : as.length = ps.length)
    {pc : Nat} {Ls : Array Slot} {rest : List Value} {W : Nat} (hsize : Ls.size = c.maxLocals) (hW : (rest.map fun v => v.category).sum ≤ W) (hf : rm.frames + 1 ≤ R.frames) (hl : W + (maxL + 11) + rm.locals ≤ R.locals) (hd : decode c.code pc = .ok (.invokestatic index, 3)) (hc : cells + rm.cells ≤ R.cells) (hs : slots + rm.slots ≤ R.slots) :
    ∃ (v : Option Value) (T' : State) (L' : List Loc), Stand p l e R s m args below meth c T' (locs ++ L') (cells + rm.cells) (slots + rm.slots) ∧ Q v T'.heap L' ∧ ∀ target, Steps p.tables e below (T'.setTop (mkF m (pc + 3) Ls (v.toList ++ rest))) target → Steps p.tables e below (T.setTop (mkF m pc Ls (as.reverse ++ rest))) target := by
  obtain ⟨v, _, ⟨T', L', k', n'⟩, -, X', ⟨Lc, hQ, hl', hk', hn'⟩, st⟩ := Jvm.LawKit.callS X hx (y := y) hown (mvT hZ w1) (mvT hZ w2) (mvT hZ w3) (mvT hZ w4) hy (backOf (W := W) hM hZ w4 w3 hf hl) (g := mkF m pc Ls (as.reverse ++ rest)) rfl hsize (argsL := as) (rest := rest) (lenOf hpd hlen) rfl (by show 2 * 0 + _ ≤ _; omega) hd (fun _ _ => ⟨rfl, eT, hc, hs⟩)
  dsimp only [Pt.U, Pt.locs, Pt.cells, Pt.slots] at X' hl' hk' hn' st hQ
  subst hl' hk' hn'
  exact ⟨v, T', Lc, X', hQ, st⟩
/-- an instance method by the contract of the body that the receiver's class selects -/
theorem own_callV (X : Stand p l e R s m args below meth c T locs cells slots) (hx : p.tables.exec = Jvm.exec) (hZ : Z.Warmed39 s.vm) {own C : String} {index : Nat} {y : MethodName} {bytes : ByteArray} {maxL : Nat} {ret : Option FieldType} (hown : s.vm.findClass own = some m.cls)
    (w1 : (Jvm.Cond.methodLink own index y).before a0 Z = true) (w2 : (Jvm.Cond.declares y).before a0 Z = true) (w3 : (Jvm.Cond.selects C y y).before a0 Z = true) (w4 : (Jvm.Cond.instanceMethod y).before a0 Z = true) (w5 : (Jvm.Cond.initialized y.cls).before a0 Z = true) (w6 : (Jvm.Cond.code y bytes maxL ret).before a0 Z = true) (hy : y.cls ≠ "java/lang/invoke/MethodHandle" ∧ y.cls ≠ "java/lang/invoke/VarHandle")
    {b : Addr} {as : List Value} {Q : Option Value → Heap → List Loc → Prop} (hM : own_Met l Z y bytes maxL ret [] rm (Value.ref b :: as).toArray h Q) (eT : T.heap = h) (E : Exa Z h b C) {ps : List FieldType} {rt : Option FieldType} (hpd : parseMethodDescriptor y.desc = some ⟨ps, rt⟩) (hlen : as.length = ps.length)
    {pc : Nat} {Ls : Array Slot} {rest : List Value} {W : Nat} (hsize : Ls.size = c.maxLocals) (hW : (rest.map fun v => v.category).sum ≤ W) (hf : rm.frames + 1 ≤ R.frames) (hl : W + (maxL + 11) + rm.locals ≤ R.locals) (hd : decode c.code pc = .ok (.invokevirtual index, 3)) (hc : cells + rm.cells ≤ R.cells) (hs : slots + rm.slots ≤ R.slots) :
    ∃ (v : Option Value) (T' : State) (L' : List Loc), Stand p l e R s m args below meth c T' (locs ++ L') (cells + rm.cells) (slots + rm.slots) ∧ Q v T'.heap L' ∧ ∀ target, Steps p.tables e below (T'.setTop (mkF m (pc + 3) Ls (v.toList ++ rest))) target → Steps p.tables e below (T.setTop (mkF m pc Ls (as.reverse ++ Value.ref b :: rest))) target := by
  obtain ⟨cq, kq, qa, qb, qc⟩ := isOf hZ eT E
  obtain ⟨v, _, ⟨T', L', k', n'⟩, -, X', ⟨Lc, hQ, hl', hk', hn'⟩, st⟩ := X.virtualBack hx (y := y) (z := y) hown (mvT hZ w1) (mvT hZ w2) (notFace_of_selects (args := #[]) (mvT hZ w3)) (mvT hZ w3) (mvT hZ w4) hy (backOf (W := W) hM hZ w6 w5 hf hl) qa qc (g := mkF m pc Ls (as.reverse ++ Value.ref b :: rest)) rfl hsize (Steps.refl _) (argsL := as) (rest := rest) (lenOf hpd hlen) rfl (by show 2 * 0 + _ ≤ _; omega) hd (fun _ _ => ⟨rfl, eT, hc, hs⟩)
  dsimp only [Pt.U, Pt.locs, Pt.cells, Pt.slots] at X' hl' hk' hn' st hQ
  subst hl' hk' hn'
  exact ⟨v, T', Lc, X', hQ, fun _ q => st.trans q⟩
/-- a constructor by its contract -/
theorem own_callI (X : Stand p l e R s m args below meth c T locs cells slots) (hx : p.tables.exec = Jvm.exec) (hZ : Z.Warmed39 s.vm) {own : String} {index : Nat} {y : MethodName} {bytes : ByteArray} {maxL : Nat} (hy1 : y.name = "<init>") (hown : s.vm.findClass own = some m.cls)
    (w1 : (Jvm.Cond.methodLink own index y).before a0 Z = true) (w4 : (Jvm.Cond.instanceMethod y).before a0 Z = true) (w5 : (Jvm.Cond.initialized y.cls).before a0 Z = true) (w6 : (Jvm.Cond.code y bytes maxL none).before a0 Z = true) (hy : y.cls ≠ "java/lang/invoke/MethodHandle" ∧ y.cls ≠ "java/lang/invoke/VarHandle")
    {b : Addr} {as : List Value} {Q : Option Value → Heap → List Loc → Prop} (hM : own_Met l Z y bytes maxL none [] rm (Value.ref b :: as).toArray h Q) (eT : T.heap = h) {ps : List FieldType} {rt : Option FieldType} (hpd : parseMethodDescriptor y.desc = some ⟨ps, rt⟩) (hlen : as.length = ps.length)
    {pc : Nat} {Ls : Array Slot} {rest : List Value} {W : Nat} (hsize : Ls.size = c.maxLocals) (hW : (rest.map fun v => v.category).sum ≤ W) (hf : rm.frames + 1 ≤ R.frames) (hl : W + (maxL + 11) + rm.locals ≤ R.locals) (hd : decode c.code pc = .ok (.invokespecial index, 3)) (hc : cells + rm.cells ≤ R.cells) (hs : slots + rm.slots ≤ R.slots) :
    ∃ (v : Option Value) (T' : State) (L' : List Loc), Stand p l e R s m args below meth c T' (locs ++ L') (cells + rm.cells) (slots + rm.slots) ∧ Q v T'.heap L' ∧ ∀ target, Steps p.tables e below (T'.setTop (mkF m (pc + 3) Ls (v.toList ++ rest))) target → Steps p.tables e below (T.setTop (mkF m pc Ls (as.reverse ++ Value.ref b :: rest))) target := by
  obtain ⟨v, _, ⟨T', L', k', n'⟩, -, X', ⟨Lc, hQ, hl', hk', hn'⟩, st⟩ := X.specialBack hx (y := y) hy1 hown (mvT hZ w1) (mvT hZ w4) (mvT hZ w6) hy (backOf (W := W) hM hZ w6 w5 hf hl) (g := mkF m pc Ls (as.reverse ++ Value.ref b :: rest)) rfl hsize (Steps.refl _) (a := b) (argsL := as) (rest := rest) (lenOf hpd hlen) rfl (by show 2 * 0 + _ ≤ _; omega) hd (fun _ _ => ⟨rfl, eT, hc, hs⟩)
  dsimp only [Pt.U, Pt.locs, Pt.cells, Pt.slots] at X' hl' hk' hn' st hQ
  subst hl' hk' hn'
  exact ⟨v, T', Lc, X', hQ, fun _ q => st.trans q⟩
end Own
section OwnWords
variable {args : Array Value} {first s : State} {o : Option Outcome} {idx : List Nat} {a b t : Term} {G Y : Jvm.Cond}
theorem own_eqI {k : Int32} (h : (Jvm.Cond.eq a b).value args first o s idx = some true) (hb : b.eval args first o idx s = some (.int k)) : a.eval args first o idx s = some (.int k) := by
  obtain ⟨x, y, h1, h2, h3, h4⟩ := cmp_v (Or.inl h)
  cases hb.symm.trans h2
  obtain ⟨z, rfl⟩ := h4
  simp only [Jvm.Cond.value, h1, hb] at h
  rw [h1]
  simpa using h
theorem own_eqJ {k : Int64} (h : (Jvm.Cond.eq a b).value args first o s idx = some true) (hb : b.eval args first o idx s = some (.long k)) : a.eval args first o idx s = some (.long k) := by
  obtain ⟨x, y, h1, h2, h3, h4⟩ := cmp_v (Or.inl h)
  cases hb.symm.trans h2
  obtain ⟨z, rfl⟩ := h4
  simp only [Jvm.Cond.value, h1, hb] at h
  rw [h1]
  simpa using h
theorem own_or (h : (Jvm.Cond.or G Y).value args first o s idx = some true) (h1 : G.value args first o s idx = some false) : Y.value args first o s idx = some true := by
  simpa [Jvm.Cond.value, h1] using h
theorem own_ixlt {j k : Int32} (hj : ¬ j < 0) (hk : ¬ j < k) : (Jvm.Cond.lt (Jvm.Term.index 0) (Jvm.Term.int k)).value args first o s [j.toNatClampNeg] = some false := by
  have e := idx_at (args := args) (first := first) (o := o) (s := s) hj
  have f : (Jvm.Term.int k).eval args first o [j.toNatClampNeg] s = some (.int k) := Term.int_eval _
  rw [Cond.lt_ints e f]
  simp [hk]
theorem own_ixle {j k : Int32} (hj : ¬ j < 0) (hk : j < k) : (Jvm.Cond.le (Jvm.Term.int k) (Jvm.Term.index 0)).value args first o s [j.toNatClampNeg] = some false := by
  have e := idx_at (args := args) (first := first) (o := o) (s := s) hj
  have f : (Jvm.Term.int k).eval args first o [j.toNatClampNeg] s = some (.int k) := Term.int_eval _
  rw [Cond.le_ints f e]
  simp [Int32.not_le.mpr hk]
theorem own_ixsub {j k : Int32} (hj : ¬ j < 0) : (Jvm.Term.sub (Jvm.Term.index 0) (Jvm.Term.int k)).eval args first o [j.toNatClampNeg] s = some (.int (j - k)) := by
  have e := idx_at (args := args) (first := first) (o := o) (s := s) hj
  have f : (Jvm.Term.int k).eval args first o [j.toNatClampNeg] s = some (.int k) := Term.int_eval _
  rw [Term.eval, e, f]
  rfl
/-- a field that the case says to hold a number -/
theorem own_fldI {C n d : String} {x : Addr} {k : Int32} (ht : t.eval args s none [] s = some (.ref x)) (h : (Jvm.Cond.eq (Term.field t C n d) (Term.int k)).value args s none s [] = some true) : Fld s s.heap x C n d (.int k) := by
  have e := own_eqI h (Term.int_eval _)
  rw [fld_at ht] at e
  exact Fld.start e
theorem own_fldJ {C n d : String} {x : Addr} {k : Int64} (ht : t.eval args s none [] s = some (.ref x)) (h : (Jvm.Cond.eq (Term.field t C n d) (Term.long k)).value args s none s [] = some true) : Fld s s.heap x C n d (.long k) := by
  have e := own_eqJ h (show (Term.long k).eval args s none [] s = some (.long k) by simp [Term.eval])
  rw [fld_at ht] at e
  exact Fld.start e
end OwnWords

theorem own_d1_0 : decode prog_6_method_2_code 0 = .ok (.aload_n 0, 1) := by decide +kernel
theorem own_d1_1 : decode prog_6_method_2_code 1 = .ok (.invokespecial 1, 3) := by decide +kernel
theorem own_t8 : (Jvm.Cond.methodLink "com/example/nunobiki/nunobiki/engine/Adaptation" (1 : Nat) ({ cls := "java/lang/Object", name := "<init>", desc := "()V" } : Jvm.MethodName)) ∈ tables_1 := List.mem_of_getElem? (i := 8) rfl
theorem own_t9 : (Jvm.Cond.instanceMethod ({ cls := "java/lang/Object", name := "<init>", desc := "()V" } : Jvm.MethodName)) ∈ tables_1 := List.mem_of_getElem? (i := 9) rfl
theorem own_t10 : (Jvm.Cond.code ({ cls := "java/lang/Object", name := "<init>", desc := "()V" } : Jvm.MethodName) object_method_1_code (1 : Nat) (Option.none : Option Jvm.ClassFile.FieldType)) ∈ tables_1 := List.mem_of_getElem? (i := 10) rfl
theorem own_d1_4 : decode prog_6_method_2_code 4 = .ok (.iload_n 1, 1) := by decide +kernel
theorem own_d1_5 : decode prog_6_method_2_code 5 = .ok (.iconst 1, 1) := by decide +kernel
theorem own_d1_6 : decode prog_6_method_2_code 6 = .ok (.if_icmp .ge 13, 3) := by decide +kernel
theorem own_d1_19 : decode prog_6_method_2_code 19 = .ok (.dload_n 2, 1) := by decide +kernel
theorem own_d1_20 : decode prog_6_method_2_code 20 = .ok (.dconst 0, 1) := by decide +kernel
theorem own_d1_21 : decode prog_6_method_2_code 21 = .ok (.dcmp .l, 1) := by decide +kernel
theorem own_d1_22 : decode prog_6_method_2_code 22 = .ok (.ifCond .lt 11, 3) := by decide +kernel
theorem own_d1_25 : decode prog_6_method_2_code 25 = .ok (.dload_n 2, 1) := by decide +kernel
theorem own_d1_26 : decode prog_6_method_2_code 26 = .ok (.ldc2_w 26, 3) := by decide +kernel
theorem own_t11 : (Jvm.Cond.constantDouble "com/example/nunobiki/nunobiki/engine/Adaptation" (26 : Nat) (9218868437227405312 : UInt64)) ∈ tables_1 := List.mem_of_getElem? (i := 11) rfl
theorem own_d1_29 : decode prog_6_method_2_code 29 = .ok (.dcmp .g, 1) := by decide +kernel
theorem own_d1_30 : decode prog_6_method_2_code 30 = .ok (.ifCond .lt 13, 3) := by decide +kernel
theorem own_d1_43 : decode prog_6_method_2_code 43 = .ok (.aload_n 0, 1) := by decide +kernel
theorem own_d1_44 : decode prog_6_method_2_code 44 = .ok (.iload_n 1, 1) := by decide +kernel
theorem own_d1_45 : decode prog_6_method_2_code 45 = .ok (.putfield 7, 3) := by decide +kernel
theorem own_t12 : (Jvm.Cond.fieldLink "com/example/nunobiki/nunobiki/engine/Adaptation" (7 : Nat) "com/example/nunobiki/nunobiki/engine/Adaptation" "expansionTerms" "I") ∈ tables_1 := List.mem_of_getElem? (i := 12) rfl
theorem own_t13 : (Jvm.Cond.laysFinal "com/example/nunobiki/nunobiki/engine/Adaptation" "com/example/nunobiki/nunobiki/engine/Adaptation" "expansionTerms" "I") ∈ tables_1 := List.mem_of_getElem? (i := 13) rfl
theorem own_t3 : (Jvm.Cond.instantiable "com/example/nunobiki/nunobiki/engine/Adaptation" (2 : Nat)) ∈ tables_1 := List.mem_of_getElem? (i := 3) rfl
theorem own_d1_48 : decode prog_6_method_2_code 48 = .ok (.aload_n 0, 1) := by decide +kernel
theorem own_d1_49 : decode prog_6_method_2_code 49 = .ok (.dload_n 2, 1) := by decide +kernel
theorem own_d1_50 : decode prog_6_method_2_code 50 = .ok (.putfield 13, 3) := by decide +kernel
theorem own_t14 : (Jvm.Cond.fieldLink "com/example/nunobiki/nunobiki/engine/Adaptation" (13 : Nat) "com/example/nunobiki/nunobiki/engine/Adaptation" "thresholdStep" "D") ∈ tables_1 := List.mem_of_getElem? (i := 14) rfl
theorem own_t15 : (Jvm.Cond.laysFinal "com/example/nunobiki/nunobiki/engine/Adaptation" "com/example/nunobiki/nunobiki/engine/Adaptation" "thresholdStep" "D") ∈ tables_1 := List.mem_of_getElem? (i := 15) rfl
theorem own_pn0 : plainName "com/example/nunobiki/nunobiki/engine/Adaptation" = true := by first | (simp [plainName, overriddenIn]; done) | decide +kernel
theorem own_d1_53 : decode prog_6_method_2_code 53 = .ok (.return_, 1) := by decide +kernel
def own_Q1 (Z : State) (r0 : Addr) (x1 : Int32) (d2 : UInt64) (h0 : Heap) (n0 : Nat) (v : Option Value) (h : Heap) (L : List Loc) : Prop := v = none ∧ Fr n0 L ∧ Keep h0 h [r0] ∧ Exa Z h r0 "com/example/nunobiki/nunobiki/engine/Adaptation" ∧ Fld Z h r0 "com/example/nunobiki/nunobiki/engine/Adaptation" "expansionTerms" "I" (.int x1) ∧ Fld Z h r0 "com/example/nunobiki/nunobiki/engine/Adaptation" "thresholdStep" "D" (.double d2)
abbrev own_R1 : Room := { frames := 1, cells := 0, slots := 0, locals := 12 }
theorem own_ef1 (m : MethodId) (z0 : Addr) (z1 : Int32) (z2 : UInt64) : entryFrame m #[(.ref z0), (.int z1), (.double z2)] 4 = mkF m 0 #[.val (.ref z0), .val (.int z1), .val (.double z2), .second] [] := by first | (simp [entryFrame, mkF, argsToLocals, Value.category]; done) | rfl
set_option maxRecDepth 65536 in
set_option maxHeartbeats 40000000 in
theorem rm1 (l : Launch) (Z : State) (a0 : Array Value) (hw : ∀ d ∈ tables_1, d.before a0 Z = true) (ws : List Jvm.Cond) (r0 : Addr) (x1 : Int32) (d2 : UInt64) (h0 : Heap) (n0 : Nat) (Z0 : n0 ≤ h0.size) (g_r0 : n0 ≤ r0) (E_r0 : Exa Z h0 r0 "com/example/nunobiki/nunobiki/engine/Adaptation") (F_i : Fld Z h0 r0 "com/example/nunobiki/nunobiki/engine/Adaptation" "expansionTerms" "I" (.int (0 : Int32))) (F_d : Fld Z h0 r0 "com/example/nunobiki/nunobiki/engine/Adaptation" "thresholdStep" "D" (.double (0 : UInt64))) (h1 : ¬ (x1 < (1 : Int32))) (h2 : ¬ ((cmpValue (FP.dcmp d2 (0 : UInt64)) .l) < (0 : Int32))) (h3 : (cmpValue (FP.dcmp d2 (9218868437227405312 : UInt64)) .g) < (0 : Int32)) : own_Met l Z (⟨"com/example/nunobiki/nunobiki/engine/Adaptation", "<init>", "(ID)V"⟩ : MethodName) prog_6_method_2_code 4 none ws own_R1 #[(.ref r0), (.int x1), (.double d2)] h0 (own_Q1 Z r0 x1 d2 h0 n0) := by
  refine own_met (plainFor_of_name own_pn0) ?_
  intro p e s m below meth c s₁ hx hby hml hown hnm hret hlk hZ e0 X0
  have N0 := Fr.nil n0
  have hml : c.maxLocals = 4 := hml
  have hown : s.vm.findClass "com/example/nunobiki/nunobiki/engine/Adaptation" = some m.cls := hown
  have hret : meth.sig.returnType = none := hret
  have hby : c.code = prog_6_method_2_code := hby
  have hnm : meth.name = "<init>" := hnm
  rw [own_ef1]
  show own_Goes p e below _ (s₁.setTop (mkF m 0 #[.val (.ref r0), .val (.int x1), .val (.double d2), .second] []))
  refine own_go (fun t k => XS.aloadN X0.here hx rfl (hb hby own_d1_0) rfl rfl k) ?_
  show own_Goes p e below _ (s₁.setTop (mkF m 1 #[.val (.ref r0), .val (.int x1), .val (.double d2), .second] [(.ref r0)]))
  obtain ⟨T1, X1, e1, st1⟩ := initO X0 hx hZ hown (hw _ own_t8) (hw _ own_t9) (hw _ own_t10) e0 (g := (mkF m 1 #[.val (.ref r0), .val (.int x1), .val (.double d2), .second] [(.ref r0)])) rfl (by rw [hml]; rfl) rfl (hb hby own_d1_1) (by decide) (W := 0) (by show 2 * 0 + _ ≤ _; exact Nat.le_of_eq rfl) (by decide)
  refine own_go st1 ?_
  show own_Goes p e below _ (T1.setTop (mkF m 4 #[.val (.ref r0), .val (.int x1), .val (.double d2), .second] []))
  refine own_go (fun t k => XS.iloadN X1.here hx rfl (hb hby own_d1_4) rfl k) ?_
  show own_Goes p e below _ (T1.setTop (mkF m 5 #[.val (.ref r0), .val (.int x1), .val (.double d2), .second] [(.int x1)]))
  refine own_go (fun t k => XS.iconst X1.here hx rfl (hb hby own_d1_5) k) ?_
  show own_Goes p e below _ (T1.setTop (mkF m 6 #[.val (.ref r0), .val (.int x1), .val (.double d2), .second] [(.int (1 : Int32)), (.int x1)]))
  have hd2 : ¬ (x1 < (1 : Int32)) := h1
  refine own_go (fun t k => XS.icmpYes X1.here hx rfl (pc0 := 6) (pc' := 19) rfl (hb hby own_d1_6) rfl (flt hd2).2.1 (by decide) (by decide) k) ?_
  show own_Goes p e below _ (T1.setTop (mkF m 19 #[.val (.ref r0), .val (.int x1), .val (.double d2), .second] []))
  refine own_go (fun t k => XS.dloadN X1.here hx rfl (hb hby own_d1_19) rfl k) ?_
  show own_Goes p e below _ (T1.setTop (mkF m 20 #[.val (.ref r0), .val (.int x1), .val (.double d2), .second] [(.double d2)]))
  refine own_go (fun t k => XS.dconst0 X1.here hx rfl (hb hby own_d1_20) rfl k) ?_
  show own_Goes p e below _ (T1.setTop (mkF m 21 #[.val (.ref r0), .val (.int x1), .val (.double d2), .second] [(.double (0 : UInt64)), (.double d2)]))
  refine own_go (fun t k => XS.dcmpS X1.here hx rfl (hb hby own_d1_21) rfl rfl k) ?_
  show own_Goes p e below _ (T1.setTop (mkF m 22 #[.val (.ref r0), .val (.int x1), .val (.double d2), .second] [(.int (cmpValue (FP.dcmp d2 (0 : UInt64)) .l))]))
  have hd3 : ¬ ((cmpValue (FP.dcmp d2 (0 : UInt64)) .l) < (0 : Int32)) := h2
  refine own_go (fun t k => XS.ifNo X1.here hx rfl (hb hby own_d1_22) rfl ((if0 _ _).trans (flt hd3).1) k) ?_
  show own_Goes p e below _ (T1.setTop (mkF m 25 #[.val (.ref r0), .val (.int x1), .val (.double d2), .second] []))
  refine own_go (fun t k => XS.dloadN X1.here hx rfl (hb hby own_d1_25) rfl k) ?_
  show own_Goes p e below _ (T1.setTop (mkF m 26 #[.val (.ref r0), .val (.int x1), .val (.double d2), .second] [(.double d2)]))
  refine own_go (fun t k => X1.ldc2DoubleC hx hown (mvT hZ (hw _ own_t11)) (g := (mkF m 26 #[.val (.ref r0), .val (.int x1), .val (.double d2), .second] [(.double d2)])) rfl (hb hby own_d1_26) t k) ?_
  show own_Goes p e below _ (T1.setTop (mkF m 29 #[.val (.ref r0), .val (.int x1), .val (.double d2), .second] [(.double (9218868437227405312 : UInt64)), (.double d2)]))
  refine own_go (fun t k => XS.dcmpS X1.here hx rfl (hb hby own_d1_29) rfl rfl k) ?_
  show own_Goes p e below _ (T1.setTop (mkF m 30 #[.val (.ref r0), .val (.int x1), .val (.double d2), .second] [(.int (cmpValue (FP.dcmp d2 (9218868437227405312 : UInt64)) .g))]))
  have hd4 : (cmpValue (FP.dcmp d2 (9218868437227405312 : UInt64)) .g) < (0 : Int32) := h3
  refine own_go (fun t k => XS.ifYes X1.here hx rfl (pc0 := 30) (pc' := 43) rfl (hb hby own_d1_30) rfl ((if0 _ _).trans (tlt hd4).1) (by decide) (by decide) k) ?_
  show own_Goes p e below _ (T1.setTop (mkF m 43 #[.val (.ref r0), .val (.int x1), .val (.double d2), .second] []))
  refine own_go (fun t k => XS.aloadN X1.here hx rfl (hb hby own_d1_43) rfl rfl k) ?_
  show own_Goes p e below _ (T1.setTop (mkF m 44 #[.val (.ref r0), .val (.int x1), .val (.double d2), .second] [(.ref r0)]))
  refine own_go (fun t k => XS.iloadN X1.here hx rfl (hb hby own_d1_44) rfl k) ?_
  show own_Goes p e below _ (T1.setTop (mkF m 45 #[.val (.ref r0), .val (.int x1), .val (.double d2), .second] [(.int x1), (.ref r0)]))
  obtain ⟨T5, h5, X5, e5, W5, st5⟩ := putF X1 hx hZ hown (host := "") (Or.inl (hw _ own_t12)) Via.refl e1 F_i E_r0 (Or.inr ⟨(hw _ own_t13), rfl, hnm⟩) (hw _ own_t3) (ty := .int) (by decide) rfl rfl (g := (mkF m 45 #[.val (.ref r0), .val (.int x1), .val (.double d2), .second] [(.int x1), (.ref r0)])) rfl rfl (hb hby own_d1_45)
  have N5 := Fr.snoc X5 N0 g_r0
  have Fw5 := F_i.same W5
  refine own_go st5 ?_
  show own_Goes p e below _ (T5.setTop (mkF m 48 #[.val (.ref r0), .val (.int x1), .val (.double d2), .second] []))
  refine own_go (fun t k => XS.aloadN X5.here hx rfl (hb hby own_d1_48) rfl rfl k) ?_
  show own_Goes p e below _ (T5.setTop (mkF m 49 #[.val (.ref r0), .val (.int x1), .val (.double d2), .second] [(.ref r0)]))
  refine own_go (fun t k => XS.dloadN X5.here hx rfl (hb hby own_d1_49) rfl k) ?_
  show own_Goes p e below _ (T5.setTop (mkF m 50 #[.val (.ref r0), .val (.int x1), .val (.double d2), .second] [(.double d2), (.ref r0)]))
  have ff7 : Fld Z h5 r0 "com/example/nunobiki/nunobiki/engine/Adaptation" "thresholdStep" "D" (.double (0 : UInt64)) := (F_d.other W5 (Or.inr (slot_ne (Or.inr (hw _ own_t15)) (Or.inr (hw _ own_t13)) (by decide) (t := .double) (t' := .int) (by decide) (by decide))))
  obtain ⟨T6, h6, X6, e6, W6, st6⟩ := putF X5 hx hZ hown (host := "") (Or.inl (hw _ own_t14)) Via.refl e5 ff7 (E_r0.wr W5) (Or.inr ⟨(hw _ own_t15), rfl, hnm⟩) (hw _ own_t3) (ty := .double) (by decide) rfl rfl (g := (mkF m 50 #[.val (.ref r0), .val (.int x1), .val (.double d2), .second] [(.double d2), (.ref r0)])) rfl rfl (hb hby own_d1_50)
  have N6 := Fr.snoc X6 N5 g_r0
  have Fw6 := ff7.same W6
  refine own_go st6 ?_
  show own_Goes p e below _ (T6.setTop (mkF m 53 #[.val (.ref r0), .val (.int x1), .val (.double d2), .second] []))
  have ff8 : Fld Z h6 r0 "com/example/nunobiki/nunobiki/engine/Adaptation" "expansionTerms" "I" (.int x1) := (Fw5.other W6 (Or.inr (slot_ne (Or.inr (hw _ own_t13)) (Or.inr (hw _ own_t15)) (by decide) (t := .int) (t' := .double) (by decide) (by decide))))
  exact own_ret0 X6 hx hlk hret (hb hby own_d1_53) (by decide) (by decide) (by show own_Q1 Z r0 x1 d2 h0 n0 _ T6.heap _; rw [e6]; exact ⟨rfl, N6, (((Keep.refl h0 _).wr W5 (Or.inl (List.mem_of_getElem? (i := 0) rfl))).wr W6 (Or.inl (List.mem_of_getElem? (i := 0) rfl))), ((E_r0.wr W5).wr W6), ff8, Fw6⟩)
theorem own_d3_0 : decode prog_6_method_5_code 0 = .ok (.aload_n 0, 1) := by decide +kernel
theorem own_d3_1 : decode prog_6_method_5_code 1 = .ok (.getfield 7, 3) := by decide +kernel
theorem own_d3_4 : decode prog_6_method_5_code 4 = .ok (.ifCond .ne 7, 3) := by decide +kernel
theorem own_d3_7 : decode prog_6_method_5_code 7 = .ok (.iconst 1, 1) := by decide +kernel
theorem own_d3_8 : decode prog_6_method_5_code 8 = .ok (.goto 4, 3) := by decide +kernel
theorem own_d3_11 : decode prog_6_method_5_code 11 = .ok (.iconst 0, 1) := by decide +kernel
theorem own_d3_12 : decode prog_6_method_5_code 12 = .ok (.ireturn, 1) := by decide +kernel
def own_j3_1 (q_e : Int32) : Int32 := (if q_e = (0 : Int32) then (1 : Int32) else (0 : Int32))
def own_f3 (q_e : Int32) : Int32 := ((own_j3_1 q_e) &&& 1)
def own_Q3 (r0 : Addr) (q_e : Int32) (h0 : Heap) (n0 : Nat) (v : Option Value) (h : Heap) (L : List Loc) : Prop := v = some (.int (own_f3 q_e)) ∧ Fr n0 L ∧ h = h0
abbrev own_R3 : Room := { frames := 0, cells := 0, slots := 0, locals := 0 }
theorem own_ef3 (m : MethodId) (z0 : Addr) : entryFrame m #[(.ref z0)] 1 = mkF m 0 #[.val (.ref z0)] [] := by first | (simp [entryFrame, mkF, argsToLocals, Value.category]; done) | rfl
set_option maxRecDepth 65536 in
set_option maxHeartbeats 40000000 in
theorem rm3 (l : Launch) (Z : State) (a0 : Array Value) (hw : ∀ d ∈ tables_1, d.before a0 Z = true) (ws : List Jvm.Cond) (r0 : Addr) (q_e : Int32) (h0 : Heap) (n0 : Nat) (F_e : Fld Z h0 r0 "com/example/nunobiki/nunobiki/engine/Adaptation" "expansionTerms" "I" (.int q_e)) : own_Met l Z (⟨"com/example/nunobiki/nunobiki/engine/Adaptation", "isNone", "()Z"⟩ : MethodName) prog_6_method_5_code 1 (some .boolean) ws own_R3 #[(.ref r0)] h0 (own_Q3 r0 q_e h0 n0) := by
  refine own_met (plainFor_of_name own_pn0) ?_
  intro p e s m below meth c s₁ hx hby hml hown hnm hret hlk hZ e0 X0
  have N0 := Fr.nil n0
  have hml : c.maxLocals = 1 := hml
  have hown : s.vm.findClass "com/example/nunobiki/nunobiki/engine/Adaptation" = some m.cls := hown
  have hret : meth.sig.returnType = (some .boolean) := hret
  have hby : c.code = prog_6_method_5_code := hby
  have hnm : meth.name = "isNone" := hnm
  rw [own_ef3]
  show own_Goes p e below _ (s₁.setTop (mkF m 0 #[.val (.ref r0)] []))
  refine own_go (fun t k => XS.aloadN X0.here hx rfl (hb hby own_d3_0) rfl rfl k) ?_
  show own_Goes p e below _ (s₁.setTop (mkF m 1 #[.val (.ref r0)] [(.ref r0)]))
  obtain ⟨T9, X9, e9, st9⟩ := getF X0 hx hZ hown (host := "") (Or.inl (hw _ own_t12)) Via.refl e0 F_e (g := (mkF m 1 #[.val (.ref r0)] [(.ref r0)])) rfl rfl (hb hby own_d3_1)
  refine own_go st9 ?_
  show own_Goes p e below _ (T9.setTop (mkF m 4 #[.val (.ref r0)] [(.int q_e)]))
  suffices HH11 : own_Goes p e below (own_End s own_R3 (own_Q3 r0 q_e h0 n0)) (T9.setTop (mkF m 12 #[.val (.ref r0)] [(.int (own_j3_1 q_e))])) by
    by_cases hc10 : q_e = (0 : Int32)
    · refine own_go (fun t k => XS.ifNo X9.here hx rfl (hb hby own_d3_4) rfl ((if0 _ _).trans (teq hc10).2) k) ?_
      show own_Goes p e below _ (T9.setTop (mkF m 7 #[.val (.ref r0)] []))
      refine own_go (fun t k => XS.iconst X9.here hx rfl (hb hby own_d3_7) k) ?_
      show own_Goes p e below _ (T9.setTop (mkF m 8 #[.val (.ref r0)] [(.int (1 : Int32))]))
      refine own_go (fun t k => XS.goto X9.here hx rfl (pc0 := 8) (pc' := 12) rfl (hb hby own_d3_8) (by decide) (by decide) k) ?_
      rw [show (own_j3_1 q_e) = (1 : Int32) from by rw [own_j3_1, if_pos hc10]] at HH11
      exact HH11
    · refine own_go (fun t k => XS.ifYes X9.here hx rfl (pc0 := 4) (pc' := 11) rfl (hb hby own_d3_4) rfl ((if0 _ _).trans (feq hc10).2) (by decide) (by decide) k) ?_
      show own_Goes p e below _ (T9.setTop (mkF m 11 #[.val (.ref r0)] []))
      refine own_go (fun t k => XS.iconst X9.here hx rfl (hb hby own_d3_11) k) ?_
      rw [show (own_j3_1 q_e) = (0 : Int32) from by rw [own_j3_1, if_neg hc10]] at HH11
      exact HH11
  show own_Goes p e below _ (T9.setTop (mkF m 12 #[.val (.ref r0)] [(.int (own_j3_1 q_e))]))
  exact own_retN X9 hx hlk hret (by simp) (z' := ((own_j3_1 q_e) &&& 1)) rfl (hb hby own_d3_12) (by decide) (by decide) ⟨by rw [own_f3], N0, e9⟩
theorem own_h1 (a : Int32) : ¬ (((a &&& 2147483647) % 2147483647) + 1) < (1 : Int32) := by
  have e1 : (a &&& 2147483647).toInt = a.toInt % 2 ^ 31 := Jvm.Kit.i32_mask a 2147483647 (k := 31) (by decide) (by decide)
  have e2 : ((a &&& 2147483647) % 2147483647).toInt = (a &&& 2147483647).toInt % (2147483647 : Int32).toInt := Jvm.Kit.i32_rem_nonneg (by omega)
  rw [show (2147483647 : Int32).toInt = 2147483647 from rfl] at e2
  have e3 : ((a &&& 2147483647) % 2147483647 + 1).toInt = ((a &&& 2147483647) % 2147483647).toInt + (1 : Int32).toInt := Jvm.Kit.i32_add (by rw [show (1 : Int32).toInt = 1 from rfl]; omega) (by rw [show (1 : Int32).toInt = 1 from rfl]; omega)
  rw [Int32.lt_iff_toInt_lt, e3, show (1 : Int32).toInt = 1 from rfl]
  omega
theorem own_b53 (b : Int32) : B53 (b &&& 65535).toInt64 := by
  have e1 : (b &&& 65535).toInt = b.toInt % 2 ^ 16 := Jvm.Kit.i32_mask b 65535 (k := 16) (by decide) (by decide)
  unfold B53
  rw [Int32.toInt_toInt64]
  omega
theorem own_h2 (b : Int32) : ¬ (cmpValue (FP.dcmp (FP.i2d (b &&& 65535)) (0 : UInt64)) .l) < (0 : Int32) := by
  rw [i2d_w, ← l2d_zero, dcmpV_w (own_b53 b) (by unfold B53; decide), lw_lt]
  have e1 : (b &&& 65535).toInt = b.toInt % 2 ^ 16 := Jvm.Kit.i32_mask b 65535 (k := 16) (by decide) (by decide)
  rw [Int64.lt_iff_toInt_lt, Int32.toInt_toInt64, show (0 : Int64).toInt = 0 from rfl]
  omega
theorem own_h3 (b : Int32) : (cmpValue (FP.dcmp (FP.i2d (b &&& 65535)) (9218868437227405312 : UInt64)) .g) < (0 : Int32) := by
  rw [i2d_w, dcmp_pinf (Jvm.Free.Fl.l2d_fin _)]
  decide
theorem own_t0 : (Jvm.Cond.constant "com/example/nunobiki/nunobiki/engine/AdaptationIsNonePinLaw" (7 : Nat) (2147483647 : Int32)) ∈ tables_1 := List.mem_of_getElem? (i := 0) rfl
theorem own_t1 : (Jvm.Cond.constant "com/example/nunobiki/nunobiki/engine/AdaptationIsNonePinLaw" (8 : Nat) (65535 : Int32)) ∈ tables_1 := List.mem_of_getElem? (i := 1) rfl
theorem own_t2 : (Jvm.Cond.classLink "com/example/nunobiki/nunobiki/engine/AdaptationIsNonePinLaw" (9 : Nat) "com/example/nunobiki/nunobiki/engine/Adaptation") ∈ tables_1 := List.mem_of_getElem? (i := 2) rfl
theorem own_t4 : (Jvm.Cond.initialized "com/example/nunobiki/nunobiki/engine/Adaptation") ∈ tables_1 := List.mem_of_getElem? (i := 4) rfl
theorem own_t5 : (Jvm.Cond.methodLink "com/example/nunobiki/nunobiki/engine/AdaptationIsNonePinLaw" (11 : Nat) ({ cls := "com/example/nunobiki/nunobiki/engine/Adaptation", name := "<init>", desc := "(ID)V" } : Jvm.MethodName)) ∈ tables_1 := List.mem_of_getElem? (i := 5) rfl
theorem own_pd0 : parseMethodDescriptor "(ID)V" = some ⟨[.int, .double], none⟩ := by decide +kernel
theorem own_t6 : (Jvm.Cond.instanceMethod ({ cls := "com/example/nunobiki/nunobiki/engine/Adaptation", name := "<init>", desc := "(ID)V" } : Jvm.MethodName)) ∈ tables_1 := List.mem_of_getElem? (i := 6) rfl
theorem own_t7 : (Jvm.Cond.code ({ cls := "com/example/nunobiki/nunobiki/engine/Adaptation", name := "<init>", desc := "(ID)V" } : Jvm.MethodName) prog_6_method_2_code (4 : Nat) (Option.none : Option Jvm.ClassFile.FieldType)) ∈ tables_1 := List.mem_of_getElem? (i := 7) rfl
theorem own_t16 : (Jvm.Cond.methodLink "com/example/nunobiki/nunobiki/engine/AdaptationIsNonePinLaw" (18 : Nat) ({ cls := "com/example/nunobiki/nunobiki/engine/Adaptation", name := "isNone", desc := "()Z" } : Jvm.MethodName)) ∈ tables_1 := List.mem_of_getElem? (i := 16) rfl
theorem own_pd1 : parseMethodDescriptor "()Z" = some ⟨[], some .boolean⟩ := by decide +kernel
theorem own_t17 : (Jvm.Cond.declares ({ cls := "com/example/nunobiki/nunobiki/engine/Adaptation", name := "isNone", desc := "()Z" } : Jvm.MethodName)) ∈ tables_1 := List.mem_of_getElem? (i := 17) rfl
theorem own_t19 : (Jvm.Cond.selects "com/example/nunobiki/nunobiki/engine/Adaptation" ({ cls := "com/example/nunobiki/nunobiki/engine/Adaptation", name := "isNone", desc := "()Z" } : Jvm.MethodName) ({ cls := "com/example/nunobiki/nunobiki/engine/Adaptation", name := "isNone", desc := "()Z" } : Jvm.MethodName)) ∈ tables_1 := List.mem_of_getElem? (i := 19) rfl
theorem own_t18 : (Jvm.Cond.instanceMethod ({ cls := "com/example/nunobiki/nunobiki/engine/Adaptation", name := "isNone", desc := "()Z" } : Jvm.MethodName)) ∈ tables_1 := List.mem_of_getElem? (i := 18) rfl
theorem own_t20 : (Jvm.Cond.code ({ cls := "com/example/nunobiki/nunobiki/engine/Adaptation", name := "isNone", desc := "()Z" } : Jvm.MethodName) prog_6_method_5_code (1 : Nat) (Option.some Jvm.ClassFile.FieldType.boolean)) ∈ tables_1 := List.mem_of_getElem? (i := 20) rfl
theorem own_t21 : (Jvm.Cond.fieldLink "com/example/nunobiki/nunobiki/engine/AdaptationIsNonePinLaw" (14 : Nat) "com/example/nunobiki/nunobiki/engine/Adaptation" "NONE" "Lcom/example/nunobiki/nunobiki/engine/Adaptation;") ∈ tables_1 := List.mem_of_getElem? (i := 21) rfl
theorem own_pn1 : plainName "com/example/nunobiki/nunobiki/engine/AdaptationIsNonePinLaw" = true := by first | (simp [plainName, overriddenIn]; done) | decide +kernel
def own_v0_1 (x0 : Int32) : Int32 := (((x0 &&& (2147483647 : Int32)) % (2147483647 : Int32)) + (1 : Int32))
def own_j0_1 (x0 : Int32) : Int32 := (if (own_f3 (own_v0_1 x0)) = (0 : Int32) then (1 : Int32) else (0 : Int32))
def own_j0_2  : Int32 := (if (own_f3 (0 : Int32)) = (1 : Int32) then (1 : Int32) else (0 : Int32))
def own_f0 (x0 : Int32) (x2 : Int32) : Int32 := (if (x2 &&& (1 : Int32)) = (0 : Int32) then ((own_j0_1 x0) &&& 1) else (own_j0_2 &&& 1))
def own_Q0 (x0 : Int32) (x1 : Int32) (x2 : Int32) (s_N : Addr) (h0 : Heap) (n0 : Nat) (v : Option Value) (h : Heap) (L : List Loc) : Prop := v = some (.int (own_f0 x0 x2)) ∧ Fr n0 L ∧ True
theorem own_ef0 (m : MethodId) (z0 : Int32) (z1 : Int32) (z2 : Int32) : entryFrame m #[(.int z0), (.int z1), (.int z2)] maxLocals = mkF m 0 #[.val (.int z0), .val (.int z1), .val (.int z2), .unset, .unset, .unset, .unset, .unset] [] := by first | (simp [entryFrame, mkF, argsToLocals, Value.category, maxLocals]; done) | rfl
set_option maxRecDepth 65536 in
set_option maxHeartbeats 40000000 in
theorem rm0 (l : Launch) (Z : State) (a0 : Array Value) (hw : ∀ d ∈ tables_1, d.before a0 Z = true) (ws : List Jvm.Cond) (x0 : Int32) (x1 : Int32) (x2 : Int32) (s_N : Addr) (h0 : Heap) (n0 : Nat) (Z0 : n0 ≤ h0.size) (O0 : Old Z n0 h0) (E_N : Exa Z h0 s_N "com/example/nunobiki/nunobiki/engine/Adaptation") (F_N : Fld Z h0 s_N "com/example/nunobiki/nunobiki/engine/Adaptation" "expansionTerms" "I" (.int (0 : Int32))) (S_s_N : Sta Z Z.heap "com/example/nunobiki/nunobiki/engine/Adaptation" "NONE" "Lcom/example/nunobiki/nunobiki/engine/Adaptation;" (.ref s_N)) : own_Met l Z x code maxLocals ret ws room_1 #[(.int x0), (.int x1), (.int x2)] h0 (own_Q0 x0 x1 x2 s_N h0 n0) := by
  refine own_met (plainFor_of_name own_pn1) ?_
  intro p e s m below meth c s₁ hx hby hml hown hnm hret hlk hZ e0 X0
  have N0 := Fr.nil n0
  have hml : c.maxLocals = 8 := hml
  have hown : s.vm.findClass "com/example/nunobiki/nunobiki/engine/AdaptationIsNonePinLaw" = some m.cls := hown
  have hret : meth.sig.returnType = (some .boolean) := hret
  have hby : c.code = code := hby
  have hnm : meth.name = "law" := hnm
  rw [own_ef0]
  show own_Goes p e below _ (s₁.setTop (mkF m 0 #[.val (.int x0), .val (.int x1), .val (.int x2), .unset, .unset, .unset, .unset, .unset] []))
  refine own_go (fun t k => XS.iloadN X0.here hx rfl (hb hby at_0) rfl k) ?_
  show own_Goes p e below _ (s₁.setTop (mkF m 1 #[.val (.int x0), .val (.int x1), .val (.int x2), .unset, .unset, .unset, .unset, .unset] [(.int x0)]))
  refine own_go (fun t k => X0.ldcInt hx hown (mvT hZ (hw _ own_t0)) (g := (mkF m 1 #[.val (.int x0), .val (.int x1), .val (.int x2), .unset, .unset, .unset, .unset, .unset] [(.int x0)])) rfl (hb hby at_1) t k) ?_
  show own_Goes p e below _ (s₁.setTop (mkF m 3 #[.val (.int x0), .val (.int x1), .val (.int x2), .unset, .unset, .unset, .unset, .unset] [(.int (2147483647 : Int32)), (.int x0)]))
  refine own_go (fun t k => XS.iand X0.here hx rfl (hb hby at_3) rfl k) ?_
  show own_Goes p e below _ (s₁.setTop (mkF m 4 #[.val (.int x0), .val (.int x1), .val (.int x2), .unset, .unset, .unset, .unset, .unset] [(.int (x0 &&& (2147483647 : Int32)))]))
  refine own_go (fun t k => X0.ldcInt hx hown (mvT hZ (hw _ own_t0)) (g := (mkF m 4 #[.val (.int x0), .val (.int x1), .val (.int x2), .unset, .unset, .unset, .unset, .unset] [(.int (x0 &&& (2147483647 : Int32)))])) rfl (hb hby at_4) t k) ?_
  show own_Goes p e below _ (s₁.setTop (mkF m 6 #[.val (.int x0), .val (.int x1), .val (.int x2), .unset, .unset, .unset, .unset, .unset] [(.int (2147483647 : Int32)), (.int (x0 &&& (2147483647 : Int32)))]))
  refine own_go (fun t k => iremM X0 hx rfl (hb hby at_6) rfl (by decide) k) ?_
  show own_Goes p e below _ (s₁.setTop (mkF m 7 #[.val (.int x0), .val (.int x1), .val (.int x2), .unset, .unset, .unset, .unset, .unset] [(.int ((x0 &&& (2147483647 : Int32)) % (2147483647 : Int32)))]))
  refine own_go (fun t k => XS.iconst X0.here hx rfl (hb hby at_7) k) ?_
  show own_Goes p e below _ (s₁.setTop (mkF m 8 #[.val (.int x0), .val (.int x1), .val (.int x2), .unset, .unset, .unset, .unset, .unset] [(.int (1 : Int32)), (.int ((x0 &&& (2147483647 : Int32)) % (2147483647 : Int32)))]))
  refine own_go (fun t k => XS.iadd X0.here hx rfl (hb hby at_8) rfl k) ?_
  show own_Goes p e below _ (s₁.setTop (mkF m 9 #[.val (.int x0), .val (.int x1), .val (.int x2), .unset, .unset, .unset, .unset, .unset] [(.int (((x0 &&& (2147483647 : Int32)) % (2147483647 : Int32)) + (1 : Int32)))]))
  refine own_go (fun t k => XS.istoreN X0.here hx rfl (hb hby at_9) rfl (l' := #[.val (.int x0), .val (.int x1), .val (.int x2), .val (.int (own_v0_1 x0)), .unset, .unset, .unset, .unset]) rfl k) ?_
  show own_Goes p e below _ (s₁.setTop (mkF m 10 #[.val (.int x0), .val (.int x1), .val (.int x2), .val (.int (own_v0_1 x0)), .unset, .unset, .unset, .unset] []))
  refine own_go (fun t k => XS.iloadN X0.here hx rfl (hb hby at_10) rfl k) ?_
  show own_Goes p e below _ (s₁.setTop (mkF m 11 #[.val (.int x0), .val (.int x1), .val (.int x2), .val (.int (own_v0_1 x0)), .unset, .unset, .unset, .unset] [(.int x1)]))
  refine own_go (fun t k => X0.ldcInt hx hown (mvT hZ (hw _ own_t1)) (g := (mkF m 11 #[.val (.int x0), .val (.int x1), .val (.int x2), .val (.int (own_v0_1 x0)), .unset, .unset, .unset, .unset] [(.int x1)])) rfl (hb hby at_11) t k) ?_
  show own_Goes p e below _ (s₁.setTop (mkF m 13 #[.val (.int x0), .val (.int x1), .val (.int x2), .val (.int (own_v0_1 x0)), .unset, .unset, .unset, .unset] [(.int (65535 : Int32)), (.int x1)]))
  refine own_go (fun t k => XS.iand X0.here hx rfl (hb hby at_13) rfl k) ?_
  show own_Goes p e below _ (s₁.setTop (mkF m 14 #[.val (.int x0), .val (.int x1), .val (.int x2), .val (.int (own_v0_1 x0)), .unset, .unset, .unset, .unset] [(.int (x1 &&& (65535 : Int32)))]))
  refine own_go (fun t k => XS.i2dS X0.here hx rfl (hb hby at_14) rfl rfl k) ?_
  show own_Goes p e below _ (s₁.setTop (mkF m 15 #[.val (.int x0), .val (.int x1), .val (.int x2), .val (.int (own_v0_1 x0)), .unset, .unset, .unset, .unset] [(.double (FP.i2d (x1 &&& (65535 : Int32))))]))
  refine own_go (fun t k => XS.dstore X0.here hx rfl (hb hby at_15) rfl (l' := #[.val (.int x0), .val (.int x1), .val (.int x2), .val (.int (own_v0_1 x0)), .val (.double (FP.i2d (x1 &&& (65535 : Int32)))), .second, .unset, .unset]) rfl k) ?_
  show own_Goes p e below _ (s₁.setTop (mkF m 17 #[.val (.int x0), .val (.int x1), .val (.int x2), .val (.int (own_v0_1 x0)), .val (.double (FP.i2d (x1 &&& (65535 : Int32)))), .second, .unset, .unset] []))
  obtain ⟨T12, h12, X12, e12, E12, A12, D12, -, st12⟩ := newO X0 hx hZ hown (hw _ own_t2) (hw _ own_t3) (hw _ own_t4) e0 (g := (mkF m 17 #[.val (.int x0), .val (.int x1), .val (.int x2), .val (.int (own_v0_1 x0)), .val (.double (FP.i2d (x1 &&& (65535 : Int32)))), .second, .unset, .unset] [])) rfl (hb hby at_17) (by decide) (by decide)
  obtain ⟨b12, q12⟩ : ∃ z, z = h0.size := ⟨_, rfl⟩
  rw [← q12] at A12 D12 st12
  have lt_b12 : h0.size ≤ b12 := Nat.le_of_eq q12.symm
  have ne_s_N_b12 : s_N ≠ b12 := Nat.ne_of_lt (Nat.lt_of_lt_of_le E_N.lt lt_b12)
  have g_b12 : n0 ≤ b12 := Nat.le_trans Z0 lt_b12
  have F12_expansionTerms : Fld Z h12 b12 "com/example/nunobiki/nunobiki/engine/Adaptation" "expansionTerms" "I" (.int (0 : Int32)) := D12 (Or.inr (hw _ own_t13)) (ty := .int) (by decide)
  have F12_thresholdStep : Fld Z h12 b12 "com/example/nunobiki/nunobiki/engine/Adaptation" "thresholdStep" "D" (.double (0 : UInt64)) := D12 (Or.inr (hw _ own_t15)) (ty := .double) (by decide)
  refine own_go st12 ?_
  show own_Goes p e below _ (T12.setTop (mkF m 20 #[.val (.int x0), .val (.int x1), .val (.int x2), .val (.int (own_v0_1 x0)), .val (.double (FP.i2d (x1 &&& (65535 : Int32)))), .second, .unset, .unset] [(.ref b12)]))
  refine own_go (fun t k => XS.dup X12.here hx rfl (hb hby at_20) rfl rfl k) ?_
  show own_Goes p e below _ (T12.setTop (mkF m 21 #[.val (.int x0), .val (.int x1), .val (.int x2), .val (.int (own_v0_1 x0)), .val (.double (FP.i2d (x1 &&& (65535 : Int32)))), .second, .unset, .unset] [(.ref b12), (.ref b12)]))
  refine own_go (fun t k => XS.iloadN X12.here hx rfl (hb hby at_21) rfl k) ?_
  show own_Goes p e below _ (T12.setTop (mkF m 22 #[.val (.int x0), .val (.int x1), .val (.int x2), .val (.int (own_v0_1 x0)), .val (.double (FP.i2d (x1 &&& (65535 : Int32)))), .second, .unset, .unset] [(.int (own_v0_1 x0)), (.ref b12), (.ref b12)]))
  refine own_go (fun t k => XS.dload X12.here hx rfl (hb hby at_22) rfl k) ?_
  show own_Goes p e below _ (T12.setTop (mkF m 24 #[.val (.int x0), .val (.int x1), .val (.int x2), .val (.int (own_v0_1 x0)), .val (.double (FP.i2d (x1 &&& (65535 : Int32)))), .second, .unset, .unset] [(.double (FP.i2d (x1 &&& (65535 : Int32)))), (.int (own_v0_1 x0)), (.ref b12), (.ref b12)]))
  obtain ⟨_, T13, L13, X13, ⟨rfl, N13q, K13, G13_0, G13_1, G13_2⟩, st13⟩ := own_callI X12 hx hZ rfl hown (hw _ own_t5) (hw _ own_t6) (hw _ own_t4) (hw _ own_t7) (by decide) (b := b12) (as := [(.int (own_v0_1 x0)), (.double (FP.i2d (x1 &&& (65535 : Int32))))]) (rm1 l Z a0 hw [] b12 (own_v0_1 x0) (FP.i2d (x1 &&& (65535 : Int32))) h12 n0 (Nat.le_trans Z0 E12.1) g_b12 A12 F12_expansionTerms F12_thresholdStep (own_h1 x0) (own_h2 x1) (own_h3 x1)) e12 own_pd0 rfl (pc := 24) (Ls := #[.val (.int x0), .val (.int x1), .val (.int x2), .val (.int (own_v0_1 x0)), .val (.double (FP.i2d (x1 &&& (65535 : Int32)))), .second, .unset, .unset]) (rest := [(.ref b12)]) (W := 1) (by rw [hml]; rfl) (Nat.le_of_eq rfl) (by decide) (by decide) (hb hby at_24) (by decide) (by decide)
  have N13 := Fr.app N0 N13q
  refine own_go st13 ?_
  show own_Goes p e below _ (T13.setTop (mkF m 27 #[.val (.int x0), .val (.int x1), .val (.int x2), .val (.int (own_v0_1 x0)), .val (.double (FP.i2d (x1 &&& (65535 : Int32)))), .second, .unset, .unset] [(.ref b12)]))
  refine own_go (fun t k => XS.astore X13.here hx rfl (hb hby at_27) rfl rfl (l' := #[.val (.int x0), .val (.int x1), .val (.int x2), .val (.int (own_v0_1 x0)), .val (.double (FP.i2d (x1 &&& (65535 : Int32)))), .second, .val (.ref b12), .unset]) rfl k) ?_
  show own_Goes p e below _ (T13.setTop (mkF m 29 #[.val (.int x0), .val (.int x1), .val (.int x2), .val (.int (own_v0_1 x0)), .val (.double (FP.i2d (x1 &&& (65535 : Int32)))), .second, .val (.ref b12), .unset] []))
  refine own_go (fun t k => XS.iloadN X13.here hx rfl (hb hby at_29) rfl k) ?_
  show own_Goes p e below _ (T13.setTop (mkF m 30 #[.val (.int x0), .val (.int x1), .val (.int x2), .val (.int (own_v0_1 x0)), .val (.double (FP.i2d (x1 &&& (65535 : Int32)))), .second, .val (.ref b12), .unset] [(.int x2)]))
  refine own_go (fun t k => XS.iconst X13.here hx rfl (hb hby at_30) k) ?_
  show own_Goes p e below _ (T13.setTop (mkF m 31 #[.val (.int x0), .val (.int x1), .val (.int x2), .val (.int (own_v0_1 x0)), .val (.double (FP.i2d (x1 &&& (65535 : Int32)))), .second, .val (.ref b12), .unset] [(.int (1 : Int32)), (.int x2)]))
  refine own_go (fun t k => XS.iand X13.here hx rfl (hb hby at_31) rfl k) ?_
  show own_Goes p e below _ (T13.setTop (mkF m 32 #[.val (.int x0), .val (.int x1), .val (.int x2), .val (.int (own_v0_1 x0)), .val (.double (FP.i2d (x1 &&& (65535 : Int32)))), .second, .val (.ref b12), .unset] [(.int (x2 &&& (1 : Int32)))]))
  by_cases hc14 : (x2 &&& (1 : Int32)) = (0 : Int32)
  · refine own_go (fun t k => XS.ifYes X13.here hx rfl (pc0 := 32) (pc' := 41) rfl (hb hby at_32) rfl ((if0 _ _).trans (teq hc14).1) (by decide) (by decide) k) ?_
    show own_Goes p e below _ (T13.setTop (mkF m 41 #[.val (.int x0), .val (.int x1), .val (.int x2), .val (.int (own_v0_1 x0)), .val (.double (FP.i2d (x1 &&& (65535 : Int32)))), .second, .val (.ref b12), .unset] []))
    refine own_go (fun t k => XS.aload X13.here hx rfl (hb hby at_41) rfl rfl k) ?_
    show own_Goes p e below _ (T13.setTop (mkF m 43 #[.val (.int x0), .val (.int x1), .val (.int x2), .val (.int (own_v0_1 x0)), .val (.double (FP.i2d (x1 &&& (65535 : Int32)))), .second, .val (.ref b12), .unset] [(.ref b12)]))
    refine own_go (fun t k => XS.astore X13.here hx rfl (hb hby at_43) rfl rfl (l' := #[.val (.int x0), .val (.int x1), .val (.int x2), .val (.int (own_v0_1 x0)), .val (.double (FP.i2d (x1 &&& (65535 : Int32)))), .second, .val (.ref b12), .val (.ref b12)]) rfl k) ?_
    show own_Goes p e below _ (T13.setTop (mkF m 45 #[.val (.int x0), .val (.int x1), .val (.int x2), .val (.int (own_v0_1 x0)), .val (.double (FP.i2d (x1 &&& (65535 : Int32)))), .second, .val (.ref b12), .val (.ref b12)] []))
    refine own_go (fun t k => XS.aload X13.here hx rfl (hb hby at_45) rfl rfl k) ?_
    show own_Goes p e below _ (T13.setTop (mkF m 47 #[.val (.int x0), .val (.int x1), .val (.int x2), .val (.int (own_v0_1 x0)), .val (.double (FP.i2d (x1 &&& (65535 : Int32)))), .second, .val (.ref b12), .val (.ref b12)] [(.ref b12)]))
    obtain ⟨_, T15, L15, X15, ⟨rfl, N15q, e15⟩, st15⟩ := own_callV X13 hx hZ hown (hw _ own_t16) (hw _ own_t17) (hw _ own_t19) (hw _ own_t18) (hw _ own_t4) (hw _ own_t20) (by decide) (b := b12) (as := []) (rm3 l Z a0 hw [] b12 (own_v0_1 x0) T13.heap n0 G13_1) rfl G13_0 own_pd1 rfl (pc := 47) (Ls := #[.val (.int x0), .val (.int x1), .val (.int x2), .val (.int (own_v0_1 x0)), .val (.double (FP.i2d (x1 &&& (65535 : Int32)))), .second, .val (.ref b12), .val (.ref b12)]) (rest := []) (W := 0) (by rw [hml]; rfl) (Nat.le_of_eq rfl) (by decide) (by decide) (hb hby at_47) (by decide) (by decide)
    have N15 := Fr.app N13 N15q
    refine own_go st15 ?_
    show own_Goes p e below _ (T15.setTop (mkF m 50 #[.val (.int x0), .val (.int x1), .val (.int x2), .val (.int (own_v0_1 x0)), .val (.double (FP.i2d (x1 &&& (65535 : Int32)))), .second, .val (.ref b12), .val (.ref b12)] [(.int (own_f3 (own_v0_1 x0)))]))
    refine own_go (fun t k => XS.aload X15.here hx rfl (hb hby at_50) rfl rfl k) ?_
    show own_Goes p e below _ (T15.setTop (mkF m 52 #[.val (.int x0), .val (.int x1), .val (.int x2), .val (.int (own_v0_1 x0)), .val (.double (FP.i2d (x1 &&& (65535 : Int32)))), .second, .val (.ref b12), .val (.ref b12)] [(.ref b12), (.int (own_f3 (own_v0_1 x0)))]))
    obtain ⟨T16, X16, e16, st16⟩ := getS2 X15 hx hZ hown (host := "") (Or.inl (hw _ own_t21)) Via.refl e15 (S_s_N.ext ((O0.ext E12).keep K13 (allS g_b12 all0)).2) (g := (mkF m 52 #[.val (.int x0), .val (.int x1), .val (.int x2), .val (.int (own_v0_1 x0)), .val (.double (FP.i2d (x1 &&& (65535 : Int32)))), .second, .val (.ref b12), .val (.ref b12)] [(.ref b12), (.int (own_f3 (own_v0_1 x0)))])) rfl (hb hby at_52)
    refine own_go st16 ?_
    show own_Goes p e below _ (T16.setTop (mkF m 55 #[.val (.int x0), .val (.int x1), .val (.int x2), .val (.int (own_v0_1 x0)), .val (.double (FP.i2d (x1 &&& (65535 : Int32)))), .second, .val (.ref b12), .val (.ref b12)] [(.ref s_N), (.ref b12), (.int (own_f3 (own_v0_1 x0)))]))
    have hd17 : ¬ (b12 = s_N) := (Ne.symm ne_s_N_b12)
    refine own_go (fun t k => Jvm.RoadKit.acmp (g := (mkF m 55 #[.val (.int x0), .val (.int x1), .val (.int x2), .val (.int (own_v0_1 x0)), .val (.double (FP.i2d (x1 &&& (65535 : Int32)))), .second, .val (.ref b12), .val (.ref b12)] [(.ref s_N), (.ref b12), (.int (own_f3 (own_v0_1 x0)))])) X16 hx rfl rfl rfl (pc0 := 55) (pc' := 62) (same := false) rfl (hb hby at_55) rfl (decide_eq_false (fun q => hd17 (Value.ref.inj q))) (by decide) (by decide) k) ?_
    show own_Goes p e below _ (T16.setTop (mkF m 62 #[.val (.int x0), .val (.int x1), .val (.int x2), .val (.int (own_v0_1 x0)), .val (.double (FP.i2d (x1 &&& (65535 : Int32)))), .second, .val (.ref b12), .val (.ref b12)] [(.int (own_f3 (own_v0_1 x0)))]))
    refine own_go (fun t k => XS.iconst X16.here hx rfl (hb hby at_62) k) ?_
    show own_Goes p e below _ (T16.setTop (mkF m 63 #[.val (.int x0), .val (.int x1), .val (.int x2), .val (.int (own_v0_1 x0)), .val (.double (FP.i2d (x1 &&& (65535 : Int32)))), .second, .val (.ref b12), .val (.ref b12)] [(.int (0 : Int32)), (.int (own_f3 (own_v0_1 x0)))]))
    suffices HH19 : own_Goes p e below (own_End s room_1 (own_Q0 x0 x1 x2 s_N h0 n0)) (T16.setTop (mkF m 71 #[.val (.int x0), .val (.int x1), .val (.int x2), .val (.int (own_v0_1 x0)), .val (.double (FP.i2d (x1 &&& (65535 : Int32)))), .second, .val (.ref b12), .val (.ref b12)] [(.int (own_j0_1 x0))])) by
      by_cases hc18 : (own_f3 (own_v0_1 x0)) = (0 : Int32)
      · refine own_go (fun t k => XS.icmpNo X16.here hx rfl (hb hby at_63) rfl (teq hc18).2 k) ?_
        show own_Goes p e below _ (T16.setTop (mkF m 66 #[.val (.int x0), .val (.int x1), .val (.int x2), .val (.int (own_v0_1 x0)), .val (.double (FP.i2d (x1 &&& (65535 : Int32)))), .second, .val (.ref b12), .val (.ref b12)] []))
        refine own_go (fun t k => XS.iconst X16.here hx rfl (hb hby at_66) k) ?_
        show own_Goes p e below _ (T16.setTop (mkF m 67 #[.val (.int x0), .val (.int x1), .val (.int x2), .val (.int (own_v0_1 x0)), .val (.double (FP.i2d (x1 &&& (65535 : Int32)))), .second, .val (.ref b12), .val (.ref b12)] [(.int (1 : Int32))]))
        refine own_go (fun t k => XS.goto X16.here hx rfl (pc0 := 67) (pc' := 71) rfl (hb hby at_67) (by decide) (by decide) k) ?_
        rw [show (own_j0_1 x0) = (1 : Int32) from by rw [own_j0_1, if_pos hc18]] at HH19
        exact HH19
      · refine own_go (fun t k => XS.icmpYes X16.here hx rfl (pc0 := 63) (pc' := 70) rfl (hb hby at_63) rfl (feq hc18).2 (by decide) (by decide) k) ?_
        show own_Goes p e below _ (T16.setTop (mkF m 70 #[.val (.int x0), .val (.int x1), .val (.int x2), .val (.int (own_v0_1 x0)), .val (.double (FP.i2d (x1 &&& (65535 : Int32)))), .second, .val (.ref b12), .val (.ref b12)] []))
        refine own_go (fun t k => XS.iconst X16.here hx rfl (hb hby at_70) k) ?_
        rw [show (own_j0_1 x0) = (0 : Int32) from by rw [own_j0_1, if_neg hc18]] at HH19
        exact HH19
    show own_Goes p e below _ (T16.setTop (mkF m 71 #[.val (.int x0), .val (.int x1), .val (.int x2), .val (.int (own_v0_1 x0)), .val (.double (FP.i2d (x1 &&& (65535 : Int32)))), .second, .val (.ref b12), .val (.ref b12)] [(.int (own_j0_1 x0))]))
    exact own_retN X16 hx hlk hret (by simp) (z' := ((own_j0_1 x0) &&& 1)) rfl (hb hby at_71) (by decide) (by decide) ⟨by rw [own_f0, if_pos hc14], N15, trivial⟩
  · refine own_go (fun t k => XS.ifNo X13.here hx rfl (hb hby at_32) rfl ((if0 _ _).trans (feq hc14).1) k) ?_
    show own_Goes p e below _ (T13.setTop (mkF m 35 #[.val (.int x0), .val (.int x1), .val (.int x2), .val (.int (own_v0_1 x0)), .val (.double (FP.i2d (x1 &&& (65535 : Int32)))), .second, .val (.ref b12), .unset] []))
    obtain ⟨T20, X20, e20, st20⟩ := getS2 X13 hx hZ hown (host := "") (Or.inl (hw _ own_t21)) Via.refl rfl (S_s_N.ext ((O0.ext E12).keep K13 (allS g_b12 all0)).2) (g := (mkF m 35 #[.val (.int x0), .val (.int x1), .val (.int x2), .val (.int (own_v0_1 x0)), .val (.double (FP.i2d (x1 &&& (65535 : Int32)))), .second, .val (.ref b12), .unset] [])) rfl (hb hby at_35)
    refine own_go st20 ?_
    show own_Goes p e below _ (T20.setTop (mkF m 38 #[.val (.int x0), .val (.int x1), .val (.int x2), .val (.int (own_v0_1 x0)), .val (.double (FP.i2d (x1 &&& (65535 : Int32)))), .second, .val (.ref b12), .unset] [(.ref s_N)]))
    refine own_go (fun t k => XS.goto X20.here hx rfl (pc0 := 38) (pc' := 43) rfl (hb hby at_38) (by decide) (by decide) k) ?_
    show own_Goes p e below _ (T20.setTop (mkF m 43 #[.val (.int x0), .val (.int x1), .val (.int x2), .val (.int (own_v0_1 x0)), .val (.double (FP.i2d (x1 &&& (65535 : Int32)))), .second, .val (.ref b12), .unset] [(.ref s_N)]))
    refine own_go (fun t k => XS.astore X20.here hx rfl (hb hby at_43) rfl rfl (l' := #[.val (.int x0), .val (.int x1), .val (.int x2), .val (.int (own_v0_1 x0)), .val (.double (FP.i2d (x1 &&& (65535 : Int32)))), .second, .val (.ref b12), .val (.ref s_N)]) rfl k) ?_
    show own_Goes p e below _ (T20.setTop (mkF m 45 #[.val (.int x0), .val (.int x1), .val (.int x2), .val (.int (own_v0_1 x0)), .val (.double (FP.i2d (x1 &&& (65535 : Int32)))), .second, .val (.ref b12), .val (.ref s_N)] []))
    refine own_go (fun t k => XS.aload X20.here hx rfl (hb hby at_45) rfl rfl k) ?_
    show own_Goes p e below _ (T20.setTop (mkF m 47 #[.val (.int x0), .val (.int x1), .val (.int x2), .val (.int (own_v0_1 x0)), .val (.double (FP.i2d (x1 &&& (65535 : Int32)))), .second, .val (.ref b12), .val (.ref s_N)] [(.ref s_N)]))
    have ff22 : Fld Z T13.heap s_N "com/example/nunobiki/nunobiki/engine/Adaptation" "expansionTerms" "I" (.int (0 : Int32)) := ((F_N.ext E12).keep K13 (fun z => ne_s_N_b12 (List.mem_singleton.mp z)))
    obtain ⟨_, T21, L21, X21, ⟨rfl, N21q, e21⟩, st21⟩ := own_callV X20 hx hZ hown (hw _ own_t16) (hw _ own_t17) (hw _ own_t19) (hw _ own_t18) (hw _ own_t4) (hw _ own_t20) (by decide) (b := s_N) (as := []) (rm3 l Z a0 hw [] s_N (0 : Int32) T13.heap n0 ff22) e20 ((E_N.ext E12).keep K13) own_pd1 rfl (pc := 47) (Ls := #[.val (.int x0), .val (.int x1), .val (.int x2), .val (.int (own_v0_1 x0)), .val (.double (FP.i2d (x1 &&& (65535 : Int32)))), .second, .val (.ref b12), .val (.ref s_N)]) (rest := []) (W := 0) (by rw [hml]; rfl) (Nat.le_of_eq rfl) (by decide) (by decide) (hb hby at_47) (by decide) (by decide)
    have N21 := Fr.app N13 N21q
    refine own_go st21 ?_
    show own_Goes p e below _ (T21.setTop (mkF m 50 #[.val (.int x0), .val (.int x1), .val (.int x2), .val (.int (own_v0_1 x0)), .val (.double (FP.i2d (x1 &&& (65535 : Int32)))), .second, .val (.ref b12), .val (.ref s_N)] [(.int (own_f3 (0 : Int32)))]))
    refine own_go (fun t k => XS.aload X21.here hx rfl (hb hby at_50) rfl rfl k) ?_
    show own_Goes p e below _ (T21.setTop (mkF m 52 #[.val (.int x0), .val (.int x1), .val (.int x2), .val (.int (own_v0_1 x0)), .val (.double (FP.i2d (x1 &&& (65535 : Int32)))), .second, .val (.ref b12), .val (.ref s_N)] [(.ref s_N), (.int (own_f3 (0 : Int32)))]))
    obtain ⟨T23, X23, e23, st23⟩ := getS2 X21 hx hZ hown (host := "") (Or.inl (hw _ own_t21)) Via.refl e21 (S_s_N.ext ((O0.ext E12).keep K13 (allS g_b12 all0)).2) (g := (mkF m 52 #[.val (.int x0), .val (.int x1), .val (.int x2), .val (.int (own_v0_1 x0)), .val (.double (FP.i2d (x1 &&& (65535 : Int32)))), .second, .val (.ref b12), .val (.ref s_N)] [(.ref s_N), (.int (own_f3 (0 : Int32)))])) rfl (hb hby at_52)
    refine own_go st23 ?_
    show own_Goes p e below _ (T23.setTop (mkF m 55 #[.val (.int x0), .val (.int x1), .val (.int x2), .val (.int (own_v0_1 x0)), .val (.double (FP.i2d (x1 &&& (65535 : Int32)))), .second, .val (.ref b12), .val (.ref s_N)] [(.ref s_N), (.ref s_N), (.int (own_f3 (0 : Int32)))]))
    have hd24 : s_N = s_N := rfl
    refine own_go (fun t k => Jvm.RoadKit.acmp (g := (mkF m 55 #[.val (.int x0), .val (.int x1), .val (.int x2), .val (.int (own_v0_1 x0)), .val (.double (FP.i2d (x1 &&& (65535 : Int32)))), .second, .val (.ref b12), .val (.ref s_N)] [(.ref s_N), (.ref s_N), (.int (own_f3 (0 : Int32)))])) X23 hx rfl rfl rfl (pc0 := 55) (pc' := 58) (same := true) rfl (hb hby at_55) rfl (decide_eq_true (congrArg Value.ref hd24)) (by decide) (by decide) k) ?_
    show own_Goes p e below _ (T23.setTop (mkF m 58 #[.val (.int x0), .val (.int x1), .val (.int x2), .val (.int (own_v0_1 x0)), .val (.double (FP.i2d (x1 &&& (65535 : Int32)))), .second, .val (.ref b12), .val (.ref s_N)] [(.int (own_f3 (0 : Int32)))]))
    refine own_go (fun t k => XS.iconst X23.here hx rfl (hb hby at_58) k) ?_
    show own_Goes p e below _ (T23.setTop (mkF m 59 #[.val (.int x0), .val (.int x1), .val (.int x2), .val (.int (own_v0_1 x0)), .val (.double (FP.i2d (x1 &&& (65535 : Int32)))), .second, .val (.ref b12), .val (.ref s_N)] [(.int (1 : Int32)), (.int (own_f3 (0 : Int32)))]))
    refine own_go (fun t k => XS.goto X23.here hx rfl (pc0 := 59) (pc' := 63) rfl (hb hby at_59) (by decide) (by decide) k) ?_
    show own_Goes p e below _ (T23.setTop (mkF m 63 #[.val (.int x0), .val (.int x1), .val (.int x2), .val (.int (own_v0_1 x0)), .val (.double (FP.i2d (x1 &&& (65535 : Int32)))), .second, .val (.ref b12), .val (.ref s_N)] [(.int (1 : Int32)), (.int (own_f3 (0 : Int32)))]))
    suffices HH26 : own_Goes p e below (own_End s room_1 (own_Q0 x0 x1 x2 s_N h0 n0)) (T23.setTop (mkF m 71 #[.val (.int x0), .val (.int x1), .val (.int x2), .val (.int (own_v0_1 x0)), .val (.double (FP.i2d (x1 &&& (65535 : Int32)))), .second, .val (.ref b12), .val (.ref s_N)] [(.int own_j0_2)])) by
      by_cases hc25 : (own_f3 (0 : Int32)) = (1 : Int32)
      · refine own_go (fun t k => XS.icmpNo X23.here hx rfl (hb hby at_63) rfl (teq hc25).2 k) ?_
        show own_Goes p e below _ (T23.setTop (mkF m 66 #[.val (.int x0), .val (.int x1), .val (.int x2), .val (.int (own_v0_1 x0)), .val (.double (FP.i2d (x1 &&& (65535 : Int32)))), .second, .val (.ref b12), .val (.ref s_N)] []))
        refine own_go (fun t k => XS.iconst X23.here hx rfl (hb hby at_66) k) ?_
        show own_Goes p e below _ (T23.setTop (mkF m 67 #[.val (.int x0), .val (.int x1), .val (.int x2), .val (.int (own_v0_1 x0)), .val (.double (FP.i2d (x1 &&& (65535 : Int32)))), .second, .val (.ref b12), .val (.ref s_N)] [(.int (1 : Int32))]))
        refine own_go (fun t k => XS.goto X23.here hx rfl (pc0 := 67) (pc' := 71) rfl (hb hby at_67) (by decide) (by decide) k) ?_
        rw [show own_j0_2 = (1 : Int32) from by rw [own_j0_2, if_pos hc25]] at HH26
        exact HH26
      · refine own_go (fun t k => XS.icmpYes X23.here hx rfl (pc0 := 63) (pc' := 70) rfl (hb hby at_63) rfl (feq hc25).2 (by decide) (by decide) k) ?_
        show own_Goes p e below _ (T23.setTop (mkF m 70 #[.val (.int x0), .val (.int x1), .val (.int x2), .val (.int (own_v0_1 x0)), .val (.double (FP.i2d (x1 &&& (65535 : Int32)))), .second, .val (.ref b12), .val (.ref s_N)] []))
        refine own_go (fun t k => XS.iconst X23.here hx rfl (hb hby at_70) k) ?_
        rw [show own_j0_2 = (0 : Int32) from by rw [own_j0_2, if_neg hc25]] at HH26
        exact HH26
    show own_Goes p e below _ (T23.setTop (mkF m 71 #[.val (.int x0), .val (.int x1), .val (.int x2), .val (.int (own_v0_1 x0)), .val (.double (FP.i2d (x1 &&& (65535 : Int32)))), .second, .val (.ref b12), .val (.ref s_N)] [(.int own_j0_2)]))
    exact own_retN X23 hx hlk hret (by simp) (z' := (own_j0_2 &&& 1)) rfl (hb hby at_71) (by decide) (by decide) ⟨by rw [own_f0, if_neg hc14], N21, trivial⟩
theorem own_law (a c : Int32) : own_f0 a c = 1 := by
  have h1 : ¬ own_v0_1 a = 0 := fun q => by
    have h := own_h1 a
    rw [show (a &&& 2147483647) % 2147483647 + 1 = own_v0_1 a from rfl, q] at h
    exact h (by decide)
  unfold own_f0 own_j0_1 own_f3 own_j3_1
  rw [if_neg h1]
  by_cases h2 : (c &&& 1) = 0
  · rw [if_pos h2]; decide
  · rw [if_neg h2]; decide
theorem own_t22 : (Jvm.Cond.laysStatic "com/example/nunobiki/nunobiki/engine/Adaptation" "NONE" "Lcom/example/nunobiki/nunobiki/engine/Adaptation;") ∈ tables_1 := List.mem_of_getElem? (i := 22) rfl
set_option maxRecDepth 65536 in
set_option maxHeartbeats 40000000 in
theorem comes_1 {Post : Tables → Env → Array Value → State → Outcome → State → Prop} (hpost : ∀ tb e args s v u, (limb_1_1.after args s (.returned v) u = true ∧ limb_1_2.after args s (.returned v) u = true) → FrameEnd s (.returned v) u (Jvm.fieldLocs frame_1_writes args s ++ Jvm.arrayLocs frame_1_arrays args s ++ Jvm.staticLocs frame_1_statics s) 16 128 → Post tb e args s (.returned v) u) :
    ArmFor flags0 classFile x code maxLocals ret World_1 tables_1 room_1 Calls_1 rest_1 Pre_1 Post := by
  intro l hfl _ _ p e ha hc hk s m args below hf hA hF happ hP
  obtain ⟨hcalls, hrest, hpre⟩ := hP
  obtain ⟨-, -, -, hnamed, -, -, -, hat⟩ := (Spec.applies_iff hf).mp happ
  obtain ⟨hg, hn⟩ := and_e (Cond.before_iff.mp (show (Jvm.Cond.and given_1 narrow_1).before args s = true from hpre))
  obtain ⟨gg1, gg2⟩ := and_e hg
  obtain ⟨gg3, gg4⟩ := and_e gg2
  obtain ⟨gg5, gg6⟩ := and_e gg4
  obtain ⟨w0, w1, w2, rfl⟩ : ∃ w0 w1 w2 : Value, args = #[w0, w1, w2] := by
    have hs : args.size = 3 := by simpa [Cond.value, given_1] using gg1
    obtain ⟨L⟩ := args
    match L, hs with
    | [w0, w1, w2], _ => exact ⟨w0, w1, w2, rfl⟩
  have hw := fun d (hd : d ∈ tables_1) => atoms_spec (ws := Jvm.Cond.code x code maxLocals ret :: tables_1) hat d (List.mem_cons_of_mem _ hd)
  have hfit : Fit s := fun {y c} hc i hi => by
    obtain ⟨ha, rfl⟩ := Array.getElem?_eq_some_iff.mp hc
    have q := List.all_eq_true.mp ((Array.all_eq_true_iff_forall_mem.mp hF) _ (Array.getElem_mem ha)) i (List.mem_range.mpr hi)
    simpa [Array.getElem?_eq_getElem hi] using q
  obtain ⟨i0, ei0⟩ := is_v gg3
  obtain rfl : w0 = (.int i0) := Option.some.inj ei0
  obtain ⟨i1, ei1⟩ := is_v gg5
  obtain rfl : w1 = (.int i1) := Option.some.inj ei1
  obtain ⟨i2, ei2⟩ := is_v gg6
  obtain rfl : w2 = (.int i2) := Option.some.inj ei2
  obtain ⟨n1, m1⟩ := and_e hn
  have n2 := m1
  obtain ⟨s_N, v_N⟩ := exa_v n1
  have E_N := Exa.start v_N n1
  have F_N := own_fldI v_N n2
  have S_N := Sta.start v_N (Or.inr ⟨(hw _ own_t4), (hw _ own_t22)⟩)
  obtain ⟨n, o, h1, h2, h3, v, L, rfl, hQ, hq⟩ := rm0 l s _ hw tables_1 i0 i1 i2 s_N s.heap s.heap.size (Nat.le_refl _) (Old.start s) E_N F_N S_N p e ha hc hk s m _ below hf ((Spec.applies_iff_loose hf).mp happ).1 ⟨rfl, State.Warmed39.refl s, rfl⟩ trivial
  obtain ⟨hv, N, -⟩ := hQ
  rw [show (own_f0 i0 i2 : Int32) = 1 from own_law i0 i2] at hv
  subst hv
  refine ⟨n, _, h1, h2, h3, hpost _ _ _ _ _ _ ⟨Cond.after_iff.mpr rfl, Cond.after_iff.mpr (eq_i res_at (Term.int_eval (1)) rfl)⟩ ⟨hq.1, hq.2.1, (hq.2.2.sift fun y hy => Or.inr (N y hy)).mono (by decide) (by decide)⟩⟩
theorem main_1_1 : Claimed_1_1 := comes_1 fun _ _ _ _ _ _ h hF => ⟨h.1, hF⟩
theorem main_1_2 : Claimed_1_2 := comes_1 fun _ _ _ _ _ _ h hF => ⟨h.2, hF⟩
end Jvm.Pilot.@@N@@
namespace Jvm.Pilot.@@N@@
open Jvm Jvm.ClassFile Sem Op Lib Jvm.Free Jvm.Stand Jvm.Pilot.@@N@@.Jvm.D
/-! MADE BY PROGRAM (witnessworld.py) out of the Statement's table words and the real class files: 9 classes; the members and pool entries that the words name. The judged class is class 1, her method 1. -/
namespace start1
open Jvm.ClassFile
def u (s : String) : CpInfo := .utf8 (stringToUtf16 s)
/-- a pool by its gaps: so many unusable entries, then the entry; so many at the end -/
def gap : Nat → List CpInfo → List CpInfo
  | 0, r => r
  | n + 1, r => .unusable :: gap n r
def poolList (es : List (Nat × CpInfo)) (last : Nat) : List CpInfo := es.foldr (fun e r => gap e.1 (e.2 :: r)) (gap last [])
def pool (es : List (Nat × CpInfo)) (last : Nat) : Array CpInfo := ⟨poolList es last⟩
def fileOf (pool : Array CpInfo) (this : Nat) (attrs : Array Attribute := #[]) (ms : Array MethodInfo := #[]) (fl : Nat := 33) (sup : Nat := 0) (ifs : Array Nat := #[]) (fds : Array FieldInfo := #[]) : ClassFile where
  minorVersion := 0
  majorVersion := 65
  constantPool := pool
  accessFlags := fl
  thisClass := this
  superClass := sup
  interfaces := ifs
  fields := fds
  methods := ms
  attributes := attrs
def plain (name : String) (sup : Option ClassId) : Class where
  name := name
  kind := .ordinary
  loader := none
  accessFlags := 33
  super := sup
  interfaces := #[]
  cf := none
  fields := #[]
  methods := #[]
  instanceTypes := #[]
  staticTypes := #[]
  resolved := #[]
  callSites := []
  init := .initialized
  statics := none
  mirror := none

def pool0 : Array CpInfo := pool [(5, u "<init>"), (0, u "()V"), (1, .class_ 10), (1, u "java/lang/Object")] 113

def k0c0 : Code := { maxStack := 0, maxLocals := 1, code := object_method_1_code, exceptionTable := #[], attributes := #[] }
def k0m0 : Method := { name := "<init>", desc := "()V", sig := { parameters := [], returnType := none }, accessFlags := 1, code := some k0c0 }
/-- java/lang/Object -/
def k0 : Class := { plain "java/lang/Object" none with
  accessFlags := 33
  interfaces := #[]
  cf := some (fileOf pool0 8 #[] #[{ accessFlags := 1, nameIndex := 5, descriptorIndex := 6, attributes := #[] }] 33 0 #[] #[])
  fields := #[]
  methods := #[k0m0]
  instanceTypes := #[]
  staticTypes := #[]
  resolved := Array.replicate 124 none
  statics := none }

def pool1 : Array CpInfo := pool [(2, .class_ 4), (1, u "java/lang/Object"), (0, u "<init>"), (0, u "()V"), (0, .integer 2147483647), (0, .integer 65535), (0, .class_ 10), (0, u "com/example/nunobiki/nunobiki/engine/Adaptation"), (0, .methodref 9 12), (0, .nameAndType 5 13), (0, u "(ID)V"), (0, .fieldref 9 15), (0, .nameAndType 16 17), (0, u "NONE"), (0, u "Lcom/example/nunobiki/nunobiki/engine/Adaptation;"), (0, .methodref 9 19), (0, .nameAndType 20 21), (0, u "isNone"), (0, u "()Z"), (0, .class_ 23), (0, u "com/example/nunobiki/nunobiki/engine/AdaptationIsNonePinLaw"), (2, u "law"), (0, u "(III)Z")] 3

def k1m0 : Method := { name := "<init>", desc := "()V", sig := { parameters := [], returnType := none }, accessFlags := 1, code := none }
def k1c1 : Code := { maxStack := 5, maxLocals := 8, code := code, exceptionTable := #[], attributes := #[] }
def k1m1 : Method := { name := "law", desc := "(III)Z", sig := { parameters := [.int, .int, .int], returnType := some .boolean }, accessFlags := 9, code := some k1c1 }
/-- com/example/nunobiki/nunobiki/engine/AdaptationIsNonePinLaw -/
def k1 : Class := { plain "com/example/nunobiki/nunobiki/engine/AdaptationIsNonePinLaw" (some 0) with
  accessFlags := 49
  interfaces := #[]
  cf := some (fileOf pool1 22 #[] #[{ accessFlags := 1, nameIndex := 5, descriptorIndex := 6, attributes := #[] }, { accessFlags := 9, nameIndex := 26, descriptorIndex := 27, attributes := #[] }] 49 2 #[] #[])
  fields := #[]
  methods := #[k1m0, k1m1]
  instanceTypes := #[]
  staticTypes := #[]
  resolved := Array.replicate 31 none
  statics := none }

def pool2 : Array CpInfo := pool [(1, .methodref 2 3), (0, .class_ 4), (0, .nameAndType 5 6), (0, u "java/lang/Object"), (0, u "<init>"), (0, u "()V"), (0, .fieldref 8 9), (0, .class_ 10), (0, .nameAndType 11 12), (0, u "com/example/nunobiki/nunobiki/engine/Adaptation"), (0, u "expansionTerms"), (0, u "I"), (0, .fieldref 8 14), (0, .nameAndType 15 16), (0, u "thresholdStep"), (0, u "D"), (9, .double 9218868437227405312), (14, u "NONE"), (0, u "Lcom/example/nunobiki/nunobiki/engine/Adaptation;"), (0, u "EXPANSION_WEIGHT"), (3, u "SUPPORT"), (1, u "NEAR"), (2, u "(ID)V"), (3, u "isNone"), (0, u "()Z")] 5

def k2m0 : Method := { name := "<init>", desc := "()V", sig := { parameters := [], returnType := none }, accessFlags := 2, code := none }
def k2c1 : Code := { maxStack := 4, maxLocals := 4, code := prog_6_method_2_code, exceptionTable := #[], attributes := #[] }
def k2m1 : Method := { name := "<init>", desc := "(ID)V", sig := { parameters := [.int, .double], returnType := none }, accessFlags := 1, code := some k2c1 }
def k2c2 : Code := { maxStack := 1, maxLocals := 1, code := prog_6_method_5_code, exceptionTable := #[], attributes := #[] }
def k2m2 : Method := { name := "isNone", desc := "()Z", sig := { parameters := [], returnType := some .boolean }, accessFlags := 0, code := some k2c2 }
/-- com/example/nunobiki/nunobiki/engine/Adaptation -/
def k2 : Class := { plain "com/example/nunobiki/nunobiki/engine/Adaptation" (some 0) with
  accessFlags := 49
  interfaces := #[]
  cf := some (fileOf pool2 8 #[] #[{ accessFlags := 2, nameIndex := 5, descriptorIndex := 6, attributes := #[] }, { accessFlags := 1, nameIndex := 5, descriptorIndex := 52, attributes := #[] }, { accessFlags := 0, nameIndex := 56, descriptorIndex := 57, attributes := #[] }] 49 2 #[] #[{ accessFlags := 25, nameIndex := 41, descriptorIndex := 42, attributes := #[] }, { accessFlags := 24, nameIndex := 43, descriptorIndex := 16, attributes := #[] }, { accessFlags := 24, nameIndex := 47, descriptorIndex := 12, attributes := #[] }, { accessFlags := 24, nameIndex := 49, descriptorIndex := 16, attributes := #[] }, { accessFlags := 18, nameIndex := 11, descriptorIndex := 12, attributes := #[] }, { accessFlags := 18, nameIndex := 15, descriptorIndex := 16, attributes := #[] }])
  fields := #[{ name := "NONE", type := (.object "com/example/nunobiki/nunobiki/engine/Adaptation"), accessFlags := 25, slot := 0, constantValue := 0 }, { name := "EXPANSION_WEIGHT", type := .double, accessFlags := 24, slot := 1, constantValue := 0 }, { name := "SUPPORT", type := .int, accessFlags := 24, slot := 2, constantValue := 0 }, { name := "NEAR", type := .double, accessFlags := 24, slot := 3, constantValue := 0 }, { name := "expansionTerms", type := .int, accessFlags := 18, slot := 0, constantValue := 0 }, { name := "thresholdStep", type := .double, accessFlags := 18, slot := 1, constantValue := 0 }]
  methods := #[k2m0, k2m1, k2m2]
  instanceTypes := #[.int, .double]
  staticTypes := #[(.object "com/example/nunobiki/nunobiki/engine/Adaptation"), .double, .int, .double]
  resolved := Array.replicate 63 none
  statics := some 0 }

def pool3 : Array CpInfo := pool [(1, u "java/lang/Cloneable"), (0, .class_ 1), (0, u "java/lang/Object"), (0, .class_ 3)] 3

/-- java/lang/Cloneable -/
def k3 : Class := { plain "java/lang/Cloneable" (some 0) with
  accessFlags := 1537
  interfaces := #[]
  cf := some (fileOf pool3 2 #[] #[] 1537 4 #[] #[])
  fields := #[]
  methods := #[]
  instanceTypes := #[]
  staticTypes := #[]
  resolved := Array.replicate 8 none
  statics := none }

def pool4 : Array CpInfo := pool [(1, u "java/io/Serializable"), (0, .class_ 1), (0, u "java/lang/Object"), (0, .class_ 3)] 3

/-- java/io/Serializable -/
def k4 : Class := { plain "java/io/Serializable" (some 0) with
  accessFlags := 1537
  interfaces := #[]
  cf := some (fileOf pool4 2 #[] #[] 1537 4 #[] #[])
  fields := #[]
  methods := #[]
  instanceTypes := #[]
  staticTypes := #[]
  resolved := Array.replicate 8 none
  statics := none }

/-- the primitive byte -/
def k5 : Class := { plain "byte" none with kind := .primitive 'B', accessFlags := 0x411 }
/-- [B -/
def k6 : Class := { plain "[B" (some 0) with kind := .array 5 .byte, interfaces := #[3, 4], accessFlags := 1041 }

/-- the primitive int -/
def k7 : Class := { plain "int" none with kind := .primitive 'I', accessFlags := 0x411 }
/-- [I -/
def k8 : Class := { plain "[I" (some 0) with kind := .array 7 .int, interfaces := #[3, 4], accessFlags := 1041 }

def heap : Heap := #[{ cls := 2, slots := #[.ref 1, .double 0, .int 0, .double 0], vm := .statics 2 },
  { cls := 2, slots := #[.int 0, .double 0], vm := .none }]
def classes : Array Class := #[k0, k1, k2, k3, k4, k5, k6, k7, k8]
def interned : List (Array UInt16 × Addr) := []
def slotsUsed : Nat := 6
def theMethod : MethodId := ⟨1, 1⟩
def args0 : Array Value := #[.int 5, .int 7, .int 1]
def aboutOver (below : List Frame) : State where
  vm := { classes := classes, interned := interned.toArray }
  heap := heap
  slotsUsed := slotsUsed
  threads := #[{ frames := .invoking theMethod args0 :: below }]
def below0 : List Frame := [.native { method := ⟨0, 0⟩, args := #[] }]
def about1 : State := aboutOver below0
def p0 : Program := .bare "" "" ""
def e0 : Env := launch0.env 0 0 0
theorem w_frames : about1.frames = Frame.invoking theMethod args0 :: below0 := rfl
set_option maxRecDepth 65536 in
theorem w_args : argsFit about1.vm theMethod args0 = true := by decide +kernel
set_option maxRecDepth 65536 in
theorem w_heap : heapFits about1 = true := by decide +kernel
set_option maxRecDepth 65536 in
theorem w_runnable : about1.curStatus? = some .runnable := by decide +kernel
set_option maxRecDepth 65536 in
theorem w_alone : about1.alone = true := by decide +kernel
set_option maxRecDepth 65536 in
theorem w_named : about1.methodNamed? x = some theMethod := by decide +kernel
set_option maxRecDepth 65536 in
theorem w_hears : about1.hears theMethod below0 = true := by decide +kernel
set_option maxRecDepth 65536 in
theorem w_ripe : about1.ripe theMethod args0 below0 = true := by decide +kernel
theorem w_running : about1.status = .running := rfl
set_option maxRecDepth 65536 in
theorem w_room : about1.hasRoom e0.platform room_1 = true :=
  launch0.hasRoom_least _ room_1 (by decide +kernel) (by decide +kernel) (by decide +kernel) (by decide +kernel) (by decide +kernel) (by decide +kernel)
theorem allAtoms_all (ts : List Jvm.Cond) (a : Array Jvm.Value) (st : Jvm.State) : (allAtoms ts).before a st = ts.all (fun c => c.before a st) := by
  induction ts with
  | nil => rfl
  | cons c t ih =>
    show (Jvm.Cond.and c (allAtoms t)).before a st = _
    rw [Jvm.Cond.before_and, ih, List.all_cons]
def words1 : List Jvm.Cond := Jvm.Cond.code x code maxLocals ret :: tables_1
/-- a 'code' word, met by the world's own term for the bytes: nothing is compared byte by byte -/
theorem code_word {y : MethodName} {bytes : ByteArray} {mx : Nat} {rt : Option FieldType} {a : Array Value} {s : State} {m : MethodId} {meth : Method} {c : Code} (h1 : s.methodNamed? y = some m) (h2 : s.vm.method? m = some meth) (h3 : meth.code = some c) (h4 : c.code = bytes)
    (h5 : (c.maxLocals == mx && c.exceptionTable.isEmpty && decide (c.maxStack ≤ mostOperands) && decide (meth.sig.returnType = rt) && !meth.locks && decide (parseMethodDescriptor y.desc = some meth.sig)) = true) : (Jvm.Cond.code y bytes mx rt).before a s = true := by
  simp only [Bool.and_eq_true, beq_iff_eq, Bool.not_eq_true', decide_eq_true_eq] at h5
  obtain ⟨⟨⟨⟨⟨g1, g2⟩, g3⟩, g4⟩, g5⟩, g6⟩ := h5
  simp [Cond.before, Cond.holds, Cond.value, h1, h2, h3, h4, g1, g2, g3, g4, g5, g6]
def isCode : Jvm.Cond → Bool
  | .code _ _ _ _ => true
  | _ => false
theorem all_split {L : List Jvm.Cond} {P : Jvm.Cond → Bool} (h1 : L.all (fun c => isCode c || P c) = true) (h2 : ∀ c ∈ L.filter isCode, P c = true) : L.all P = true := by
  refine List.all_eq_true.mpr fun c hc => ?_
  have h := List.all_eq_true.mp h1 c hc
  rcases Bool.eq_false_or_eq_true (isCode c) with hi | hi
  · exact h2 c (List.mem_filter.mpr ⟨hc, hi⟩)
  · simpa [hi] using h
set_option maxRecDepth 65536 in
theorem w_c0 : (Jvm.Cond.code x code maxLocals ret).before args0 about1 = true := code_word (m := ⟨1, 1⟩) (meth := k1m1) (c := k1c1) (by decide +kernel) rfl rfl rfl (by decide +kernel)
set_option maxRecDepth 65536 in
theorem w_c1 : (Jvm.Cond.code ({ cls := "com/example/nunobiki/nunobiki/engine/Adaptation", name := "<init>", desc := "(ID)V" } : Jvm.MethodName) prog_6_method_2_code (4 : Nat) (Option.none : Option Jvm.ClassFile.FieldType)).before args0 about1 = true := code_word (m := ⟨2, 1⟩) (meth := k2m1) (c := k2c1) (by decide +kernel) rfl rfl rfl (by decide +kernel)
set_option maxRecDepth 65536 in
theorem w_c2 : (Jvm.Cond.code ({ cls := "java/lang/Object", name := "<init>", desc := "()V" } : Jvm.MethodName) object_method_1_code (1 : Nat) (Option.none : Option Jvm.ClassFile.FieldType)).before args0 about1 = true := code_word (m := ⟨0, 0⟩) (meth := k0m0) (c := k0c0) (by decide +kernel) rfl rfl rfl (by decide +kernel)
set_option maxRecDepth 65536 in
theorem w_c3 : (Jvm.Cond.code ({ cls := "com/example/nunobiki/nunobiki/engine/Adaptation", name := "isNone", desc := "()Z" } : Jvm.MethodName) prog_6_method_5_code (1 : Nat) (Option.some Jvm.ClassFile.FieldType.boolean)).before args0 about1 = true := code_word (m := ⟨2, 2⟩) (meth := k2m2) (c := k2c2) (by decide +kernel) rfl rfl rfl (by decide +kernel)
def codes1 : List Jvm.Cond := [Jvm.Cond.code x code maxLocals ret, Jvm.Cond.code ({ cls := "com/example/nunobiki/nunobiki/engine/Adaptation", name := "<init>", desc := "(ID)V" } : Jvm.MethodName) prog_6_method_2_code (4 : Nat) (Option.none : Option Jvm.ClassFile.FieldType), Jvm.Cond.code ({ cls := "java/lang/Object", name := "<init>", desc := "()V" } : Jvm.MethodName) object_method_1_code (1 : Nat) (Option.none : Option Jvm.ClassFile.FieldType), Jvm.Cond.code ({ cls := "com/example/nunobiki/nunobiki/engine/Adaptation", name := "isNone", desc := "()Z" } : Jvm.MethodName) prog_6_method_5_code (1 : Nat) (Option.some Jvm.ClassFile.FieldType.boolean)]
set_option maxRecDepth 65536 in
theorem codes_eq : words1.filter isCode = codes1 := rfl
theorem w_codes : ∀ c ∈ words1.filter isCode, c.before args0 about1 = true := by
  rw [codes_eq]
  intro c hc
  simp only [codes1, List.mem_cons, List.not_mem_nil, or_false] at hc
  rcases hc with rfl | rfl | rfl | rfl
  · exact w_c0
  · exact w_c1
  · exact w_c2
  · exact w_c3
set_option maxRecDepth 65536 in
theorem w_t1 : words1.all (fun c => isCode c || c.before args0 about1) = true := by decide +kernel
theorem w_tables : (allAtoms (Jvm.Cond.code x code maxLocals ret :: tables_1)).before args0 about1 = true := by
  rw [allAtoms_all]
  show words1.all (fun c => c.before args0 about1) = true
  refine all_split ?_ w_codes
  rw [w_t1]
set_option maxRecDepth 65536 in
theorem w_case : (Jvm.Cond.and given_1 narrow_1).before args0 about1 = true := by decide +kernel
theorem w_applies : (headSpec (Jvm.Cond.code x code maxLocals ret :: tables_1) room_1).applies x e0.platform about1 = true :=
  (Spec.applies_iff w_frames).mpr ⟨w_running, w_runnable, w_alone, w_named, w_hears, w_ripe, w_room, w_tables⟩
theorem atStart : AtStart classFile x code maxLocals ret World_1 tables_1 room_1 Calls_1 rest_1 Pre_1 launch0 p0 e0 about1 theMethod args0 below0 :=
  ⟨lists_1, trivial, launch0.admits_env _ _ _, launch0.least_env, fairChoices_fair.cas, fairChoices_fair.clock, w_frames, w_args, w_heap, w_applies, trivial, trivial, w_case⟩
end start1
theorem witness_1 : WitnessClaimed_1 := ⟨start1.p0, start1.e0, start1.about1, start1.theMethod, start1.args0, start1.below0, start1.atStart⟩
end Jvm.Pilot.@@N@@
