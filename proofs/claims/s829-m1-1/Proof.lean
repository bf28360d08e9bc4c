import JvmDerived
import JvmDerived.Pilot.@@N@@Statement
import JvmDerived.Pilot.@@N@@Code
set_option linter.unusedVariables false
set_option linter.unusedSimpArgs false
@@BLOCK:NumsL.lean.txt@@
namespace Jvm.Pilot.@@N@@
open Jvm Jvm.ClassFile Sem Op Lib Jvm.Free Jvm.Stand Jvm.LawKit Jvm.RoadKit Bundle Jvm.Pilot.@@N@@.Jvm.D
section Own
variable {p : Program} {l : Launch} {e : Env} {R rm : Room} {s : State} {m : MethodId} {args : Array Value} {below : List Frame} {meth : Method} {c : Code} {T : State} {locs : List Loc} {cells slots : Nat} {Z : State} {a0 : Array Value} {h : Heap}
/-- the run comes to the end of the invocation, and what is asked holds there -/
def own_Goes (p : Program) (e : Env) (below : List Frame) (G : Outcome → State → Prop) (S : State) : Prop := ∃ s₂ o, Steps p.tables e below S s₂ ∧ s₂.status = .running ∧ Ended s₂ below o ∧ G o s₂
theorem own_go {G : Outcome → State → Prop} {S S' : State} (h : ∀ t, Steps p.tables e below S' t → Steps p.tables e below S t) (k : own_Goes p e below G S') : own_Goes p e below G S := by
  obtain ⟨s₂, o, h1, h2⟩ := k
  exact ⟨s₂, o, h _ h1, h2⟩
theorem own_tr {G : Outcome → State → Prop} {S S' : State} (h : Steps p.tables e below S S') (k : own_Goes p e below G S') : own_Goes p e below G S := own_go (fun _ q => h.trans q) k
abbrev own_End (s : State) (rm : Room) (Q : Option Value → Heap → List Loc → Prop) : Outcome → State → Prop := fun o U' => ∃ v L, o = .returned v ∧ Q v U'.heap L ∧ FrameEnd s o U' L rm.cells rm.slots
/-- a body's contract: with these arguments, over this heap, it returns and leaves what Q says -/
def own_Met (l : Launch) (Z : State) (y : MethodName) (bytes : ByteArray) (maxL : Nat) (ret : Option FieldType) (ws : List Jvm.Cond) (rm : Room) (as : Array Value) (h0 : Heap) (Q : Option Value → Heap → List Loc → Prop) : Prop :=
  MetFree l y (head1 (Jvm.Cond.code y bytes maxL ret :: ws) rm) (fun a U => a = as ∧ Z.Warmed39 U.vm ∧ U.heap = h0) (fun _ _ _ _ _ => True) (fun _ U o U' => ∃ v L, o = .returned v ∧ Q v U'.heap L ∧ FrameEnd U o U' L rm.cells rm.slots)
theorem own_met {y : MethodName} {bytes : ByteArray} {maxL : Nat} {ret : Option FieldType} {ws : List Jvm.Cond} {as : Array Value} {h0 : Heap} {Q : Option Value → Heap → List Loc → Prop} (hp : plainFor y = true)
    (body : ∀ (p : Program) (e : Env) (s : State) (m : MethodId) (below : List Frame) (meth : Method) (c : Code) (s₁ : State), p.tables.exec = Jvm.exec → c.code = bytes → c.maxLocals = maxL → s.vm.findClass y.cls = some m.cls → meth.name = y.name → meth.sig.returnType = ret → meth.locks = false → Z.Warmed39 s.vm → s₁.heap = h0 →
      Stand p l e rm s m as below meth c s₁ [] 0 0 → own_Goes p e below (own_End s rm Q) (s₁.setTop (entryFrame m as maxL))) : own_Met l Z y bytes maxL ret ws rm as h0 Q := by
  refine MetFree.of_bodySF hp hisR ?_
  intro p e s m args below meth c s₁ Bd hml hP hK
  obtain ⟨rfl, hZ, hh⟩ := hP
  exact body p e s m below meth c s₁ Bd.exec Bd.bytes hml (findClass_of_methodNamed Bd.named) (name_of_methodNamed Bd.named Bd.method).1 Bd.returns Bd.notSynchronized hZ (by rw [← hh, Bd.state]; rfl) (Stand.of_body Bd)
/-- the returns -/
theorem own_retV {Q : Option Value → Heap → List Loc → Prop} (X : Stand p l e rm s m args below meth c T locs cells slots) (hx : p.tables.exec = Jvm.exec) (hlk : meth.locks = false) {pc : Nat} {Ls : Array Slot} {w : Value} {t : FieldType} {i : Instr} {rest : List Value} (hret : meth.sig.returnType = some t) (hn : narrow t w = w)
    (hi : (i = .ireturn ∧ (t = .int ∨ t = .boolean ∨ t = .byte ∨ t = .char ∨ t = .short) ∧ ∃ z, w = .int z) ∨ (i = .lreturn ∧ t = .long ∧ ∃ z, w = .long z) ∨ (i = .dreturn ∧ t = .double ∧ ∃ z, w = .double z) ∨ (i = .freturn ∧ t = .float ∧ ∃ z, w = .float z) ∨ (i = .areturn ∧ t.isReference = true ∧ w.isRef = true))
    (hd : decode c.code pc = .ok (i, 1)) (hc : cells ≤ rm.cells) (hs : slots ≤ rm.slots) (hq : Q (some w) T.heap locs) : own_Goes p e below (own_End s rm Q) (T.setTop (mkF m pc Ls (w :: rest))) := by
  obtain ⟨fs, hr, hrun, hended, hW, hsame⟩ := X.leave (v := some w) (fun h => by rw [hret] at h; cases h) hlk
  exact ⟨_, _, retOut X hx hret hn hi hd hr, hrun, hended, _, _, rfl, hq, ⟨_, rfl⟩, hW, hsame.mono hc hs⟩
theorem own_retI {Q : Option Value → Heap → List Loc → Prop} (X : Stand p l e rm s m args below meth c T locs cells slots) (hx : p.tables.exec = Jvm.exec) (hlk : meth.locks = false) {pc : Nat} {Ls : Array Slot} {z : Int32} {rest : List Value} (hret : meth.sig.returnType = some .int)
    (hd : decode c.code pc = .ok (.ireturn, 1)) (hc : cells ≤ rm.cells) (hs : slots ≤ rm.slots) (hq : Q (some (.int z)) T.heap locs) : own_Goes p e below (own_End s rm Q) (T.setTop (mkF m pc Ls (.int z :: rest))) :=
  own_retV X hx hlk hret rfl (Or.inl ⟨rfl, Or.inl rfl, z, rfl⟩) hd hc hs hq
theorem own_retJ {Q : Option Value → Heap → List Loc → Prop} (X : Stand p l e rm s m args below meth c T locs cells slots) (hx : p.tables.exec = Jvm.exec) (hlk : meth.locks = false) {pc : Nat} {Ls : Array Slot} {z : Int64} {rest : List Value} (hret : meth.sig.returnType = some .long)
    (hd : decode c.code pc = .ok (.lreturn, 1)) (hc : cells ≤ rm.cells) (hs : slots ≤ rm.slots) (hq : Q (some (.long z)) T.heap locs) : own_Goes p e below (own_End s rm Q) (T.setTop (mkF m pc Ls (.long z :: rest))) :=
  own_retV X hx hlk hret rfl (Or.inr (Or.inl ⟨rfl, rfl, z, rfl⟩)) hd hc hs hq
theorem own_retD {Q : Option Value → Heap → List Loc → Prop} (X : Stand p l e rm s m args below meth c T locs cells slots) (hx : p.tables.exec = Jvm.exec) (hlk : meth.locks = false) {pc : Nat} {Ls : Array Slot} {z : UInt64} {rest : List Value} (hret : meth.sig.returnType = some .double)
    (hd : decode c.code pc = .ok (.dreturn, 1)) (hc : cells ≤ rm.cells) (hs : slots ≤ rm.slots) (hq : Q (some (.double z)) T.heap locs) : own_Goes p e below (own_End s rm Q) (T.setTop (mkF m pc Ls (.double z :: rest))) :=
  own_retV X hx hlk hret rfl (Or.inr (Or.inr (Or.inl ⟨rfl, rfl, z, rfl⟩))) hd hc hs hq
theorem own_retR {Q : Option Value → Heap → List Loc → Prop} (X : Stand p l e rm s m args below meth c T locs cells slots) (hx : p.tables.exec = Jvm.exec) (hlk : meth.locks = false) {pc : Nat} {Ls : Array Slot} {w : Value} {t : FieldType} {rest : List Value} (hret : meth.sig.returnType = some t) (ht : t.isReference = true) (hw : w.isRef = true)
    (hd : decode c.code pc = .ok (.areturn, 1)) (hc : cells ≤ rm.cells) (hs : slots ≤ rm.slots) (hq : Q (some w) T.heap locs) : own_Goes p e below (own_End s rm Q) (T.setTop (mkF m pc Ls (w :: rest))) :=
  own_retV X hx hlk hret (by cases t <;> first | rfl | cases ht) (Or.inr (Or.inr (Or.inr (Or.inr ⟨rfl, ht, hw⟩)))) hd hc hs hq
theorem own_retN {Q : Option Value → Heap → List Loc → Prop} (X : Stand p l e rm s m args below meth c T locs cells slots) (hx : p.tables.exec = Jvm.exec) (hlk : meth.locks = false) {pc : Nat} {Ls : Array Slot} {z z' : Int32} {t : FieldType} {rest : List Value} (hret : meth.sig.returnType = some t) (ht : t = .boolean ∨ t = .byte ∨ t = .char ∨ t = .short) (hz : nar t z = z')
    (hd : decode c.code pc = .ok (.ireturn, 1)) (hc : cells ≤ rm.cells) (hs : slots ≤ rm.slots) (hq : Q (some (.int z')) T.heap locs) : own_Goes p e below (own_End s rm Q) (T.setTop (mkF m pc Ls (.int z :: rest))) := by
  subst hz
  obtain ⟨fs, hr, hrun, hended, hW, hsame⟩ := X.leave (v := some (.int (nar t z))) (fun h => by rw [hret] at h; cases h) hlk
  exact ⟨_, _, retN X hx hret ht hd hr, hrun, hended, _, _, rfl, hq, ⟨_, rfl⟩, hW, hsame.mono hc hs⟩
theorem own_ret0 {Q : Option Value → Heap → List Loc → Prop} (X : Stand p l e rm s m args below meth c T locs cells slots) (hx : p.tables.exec = Jvm.exec) (hlk : meth.locks = false) {pc : Nat} {Ls : Array Slot} (hret : meth.sig.returnType = none)
    (hd : decode c.code pc = .ok (.return_, 1)) (hc : cells ≤ rm.cells) (hs : slots ≤ rm.slots) (hq : Q none T.heap locs) : own_Goes p e below (own_End s rm Q) (T.setTop (mkF m pc Ls [])) := by
  obtain ⟨fs, hr, hrun, hended, hW, hsame⟩ := X.leave (v := none) (fun _ => rfl) hlk
  exact ⟨_, _, X.returnOut hx hret hd hr, hrun, hended, _, _, rfl, hq, ⟨_, rfl⟩, hW, hsame.mono hc hs⟩
/-- a static call by the callee's contract -/
theorem own_callS (X : Stand p l e R s m args below meth c T locs cells slots) (hx : p.tables.exec = Jvm.exec) (hZ : Z.Warmed39 s.vm) {own : String} {index : Nat} {y : MethodName} {bytes : ByteArray} {maxL : Nat} {ret : Option FieldType} (hown : s.vm.findClass own = some m.cls)
    (w1 : (Jvm.Cond.methodLink own index y).before a0 Z = true) (w2 : (Jvm.Cond.static y).before a0 Z = true) (w3 : (Jvm.Cond.initialized y.cls).before a0 Z = true) (w4 : (Jvm.Cond.code y bytes maxL ret).before a0 Z = true) (hy : y.cls ≠ "java/lang/invoke/MethodHandle" ∧ y.cls ≠ "java/lang/invoke/VarHandle")
    {as : List Value} {Q : Option Value → Heap → List Loc → Prop} (hM : own_Met l Z y bytes maxL ret [] rm as.toArray h Q) (eT : T.heap = h) {ps : List FieldType} {rt : Option FieldType} (hpd : parseMethodDescriptor y.desc = some ⟨ps, rt⟩) (hlen : as.length = ps.length)
    {pc : Nat} {Ls : Array Slot} {rest : List Value} {W : Nat} (hsize : Ls.size = c.maxLocals) (hW : (rest.map fun v => v.category).sum ≤ W) (hf : rm.frames + 1 ≤ R.frames) (hl : W + (maxL + 11) + rm.locals ≤ R.locals) (hd : decode c.code pc = .ok (.invokestatic index, 3)) (hc : cells + rm.cells ≤ R.cells) (hs : slots + rm.slots ≤ R.slots) :
    ∃ (v : Option Value) (T' : State) (L' : List Loc), Stand p l e R s m args below meth c T' (locs ++ L') (cells + rm.cells) (slots + rm.slots) ∧ Q v T'.heap L' ∧ ∀ target, Steps p.tables e below (T'.setTop (mkF m (pc + 3) Ls (v.toList ++ rest))) target → Steps p.tables e below (T.setTop (mkF m pc Ls (as.reverse ++ rest))) target := by
  obtain ⟨v, _, ⟨T', L', k', n'⟩, -, X', ⟨Lc, hQ, hl', hk', hn'⟩, st⟩ := Jvm.LawKit.callS X hx (y := y) hown (mvT hZ w1) (mvT hZ w2) (mvT hZ w3) (mvT hZ w4) hy (backOf (W := W) hM hZ w4 w3 hf hl) (g := mkF m pc Ls (as.reverse ++ rest)) rfl hsize (argsL := as) (rest := rest) (lenOf hpd hlen) rfl (by show 2 * 0 + _ ≤ _; omega) hd (fun _ _ => ⟨rfl, eT, hc, hs⟩)
  dsimp only [Pt.U, Pt.locs, Pt.cells, Pt.slots] at X' hl' hk' hn' st hQ
  subst hl' hk' hn'
  exact ⟨v, T', Lc, X', hQ, st⟩
/-- an instance method by the contract of the body that the receiver's class selects -/
theorem own_callV (X : Stand p l e R s m args below meth c T locs cells slots) (hx : p.tables.exec = Jvm.exec) (hZ : Z.Warmed39 s.vm) {own C : String} {index : Nat} {y : MethodName} {bytes : ByteArray} {maxL : Nat} {ret : Option FieldType} (hown : s.vm.findClass own = some m.cls)
    (w1 : (Jvm.Cond.methodLink own index y).before a0 Z = true) (w2 : (Jvm.Cond.declares y).before a0 Z = true) (w3 : (Jvm.Cond.selects C y y).before a0 Z = true) (w4 : (Jvm.Cond.instanceMethod y).before a0 Z = true) (w5 : (Jvm.Cond.initialized y.cls).before a0 Z = true) (w6 : (Jvm.Cond.code y bytes maxL ret).before a0 Z = true) (hy : y.cls ≠ "java/lang/invoke/MethodHandle" ∧ y.cls ≠ "java/lang/invoke/VarHandle")
    {b : Addr} {as : List Value} {Q : Option Value → Heap → List Loc → Prop} (hM : own_Met l Z y bytes maxL ret [] rm (Value.ref b :: as).toArray h Q) (eT : T.heap = h) (E : Exa Z h b C) {ps : List FieldType} {rt : Option FieldType} (hpd : parseMethodDescriptor y.desc = some ⟨ps, rt⟩) (hlen : as.length = ps.length)
    {pc : Nat} {Ls : Array Slot} {rest : List Value} {W : Nat} (hsize : Ls.size = c.maxLocals) (hW : (rest.map fun v => v.category).sum ≤ W) (hf : rm.frames + 1 ≤ R.frames) (hl : W + (maxL + 11) + rm.locals ≤ R.locals) (hd : decode c.code pc = .ok (.invokevirtual index, 3)) (hc : cells + rm.cells ≤ R.cells) (hs : slots + rm.slots ≤ R.slots) :
    ∃ (v : Option Value) (T' : State) (L' : List Loc), Stand p l e R s m args below meth c T' (locs ++ L') (cells + rm.cells) (slots + rm.slots) ∧ Q v T'.heap L' ∧ ∀ target, Steps p.tables e below (T'.setTop (mkF m (pc + 3) Ls (v.toList ++ rest))) target → Steps p.tables e below (T.setTop (mkF m pc Ls (as.reverse ++ Value.ref b :: rest))) target := by
  obtain ⟨cq, kq, qa, qb, qc⟩ := isOf hZ eT E
  obtain ⟨v, _, ⟨T', L', k', n'⟩, -, X', ⟨Lc, hQ, hl', hk', hn'⟩, st⟩ := X.virtualBack hx (y := y) (z := y) hown (mvT hZ w1) (mvT hZ w2) (notFace_of_selects (args := #[]) (mvT hZ w3)) (mvT hZ w3) (mvT hZ w4) hy (backOf (W := W) hM hZ w6 w5 hf hl) qa qc (g := mkF m pc Ls (as.reverse ++ Value.ref b :: rest)) rfl hsize (Steps.refl _) (argsL := as) (rest := rest) (lenOf hpd hlen) rfl (by show 2 * 0 + _ ≤ _; omega) hd (fun _ _ => ⟨rfl, eT, hc, hs⟩)
  dsimp only [Pt.U, Pt.locs, Pt.cells, Pt.slots] at X' hl' hk' hn' st hQ
  subst hl' hk' hn'
  exact ⟨v, T', Lc, X', hQ, fun _ q => st.trans q⟩
/-- a constructor by its contract -/
theorem own_callI (X : Stand p l e R s m args below meth c T locs cells slots) (hx : p.tables.exec = Jvm.exec) (hZ : Z.Warmed39 s.vm) {own : String} {index : Nat} {y : MethodName} {bytes : ByteArray} {maxL : Nat} (hy1 : y.name = "<init>") (hown : s.vm.findClass own = some m.cls)
    (w1 : (Jvm.Cond.methodLink own index y).before a0 Z = true) (w4 : (Jvm.Cond.instanceMethod y).before a0 Z = true) (w5 : (Jvm.Cond.initialized y.cls).before a0 Z = true) (w6 : (Jvm.Cond.code y bytes maxL none).before a0 Z = true) (hy : y.cls ≠ "java/lang/invoke/MethodHandle" ∧ y.cls ≠ "java/lang/invoke/VarHandle")
    {b : Addr} {as : List Value} {Q : Option Value → Heap → List Loc → Prop} (hM : own_Met l Z y bytes maxL none [] rm (Value.ref b :: as).toArray h Q) (eT : T.heap = h) {ps : List FieldType} {rt : Option FieldType} (hpd : parseMethodDescriptor y.desc = some ⟨ps, rt⟩) (hlen : as.length = ps.length)
    {pc : Nat} {Ls : Array Slot} {rest : List Value} {W : Nat} (hsize : Ls.size = c.maxLocals) (hW : (rest.map fun v => v.category).sum ≤ W) (hf : rm.frames + 1 ≤ R.frames) (hl : W + (maxL + 11) + rm.locals ≤ R.locals) (hd : decode c.code pc = .ok (.invokespecial index, 3)) (hc : cells + rm.cells ≤ R.cells) (hs : slots + rm.slots ≤ R.slots) :
    ∃ (v : Option Value) (T' : State) (L' : List Loc), Stand p l e R s m args below meth c T' (locs ++ L') (cells + rm.cells) (slots + rm.slots) ∧ Q v T'.heap L' ∧ ∀ target, Steps p.tables e below (T'.setTop (mkF m (pc + 3) Ls (v.toList ++ rest))) target → Steps p.tables e below (T.setTop (mkF m pc Ls (as.reverse ++ Value.ref b :: rest))) target := by
  obtain ⟨v, _, ⟨T', L', k', n'⟩, -, X', ⟨Lc, hQ, hl', hk', hn'⟩, st⟩ := X.specialBack hx (y := y) hy1 hown (mvT hZ w1) (mvT hZ w4) (mvT hZ w6) hy (backOf (W := W) hM hZ w6 w5 hf hl) (g := mkF m pc Ls (as.reverse ++ Value.ref b :: rest)) rfl hsize (Steps.refl _) (a := b) (argsL := as) (rest := rest) (lenOf hpd hlen) rfl (by show 2 * 0 + _ ≤ _; omega) hd (fun _ _ => ⟨rfl, eT, hc, hs⟩)
  dsimp only [Pt.U, Pt.locs, Pt.cells, Pt.slots] at X' hl' hk' hn' st hQ
  subst hl' hk' hn'
  exact ⟨v, T', Lc, X', hQ, fun _ q => st.trans q⟩
end Own
section OwnWords
variable {args : Array Value} {first s : State} {o : Option Outcome} {idx : List Nat} {a b t : Term} {G Y : Jvm.Cond}
theorem own_eqI {k : Int32} (h : (Jvm.Cond.eq a b).value args first o s idx = some true) (hb : b.eval args first o idx s = some (.int k)) : a.eval args first o idx s = some (.int k) := by
  obtain ⟨x, y, h1, h2, h3, h4⟩ := cmp_v (Or.inl h)
  cases hb.symm.trans h2
  obtain ⟨z, rfl⟩ := h4
  simp only [Jvm.Cond.value, h1, hb] at h
  rw [h1]
  simpa using h
theorem own_eqJ {k : Int64} (h : (Jvm.Cond.eq a b).value args first o s idx = some true) (hb : b.eval args first o idx s = some (.long k)) : a.eval args first o idx s = some (.long k) := by
  obtain ⟨x, y, h1, h2, h3, h4⟩ := cmp_v (Or.inl h)
  cases hb.symm.trans h2
  obtain ⟨z, rfl⟩ := h4
  simp only [Jvm.Cond.value, h1, hb] at h
  rw [h1]
  simpa using h
theorem own_or (h : (Jvm.Cond.or G Y).value args first o s idx = some true) (h1 : G.value args first o s idx = some false) : Y.value args first o s idx = some true := by
  simpa [Jvm.Cond.value, h1] using h
theorem own_ixlt {j k : Int32} (hj : ¬ j < 0) (hk : ¬ j < k) : (Jvm.Cond.lt (Jvm.Term.index 0) (Jvm.Term.int k)).value args first o s [j.toNatClampNeg] = some false := by
  have e := idx_at (args := args) (first := first) (o := o) (s := s) hj
  have f : (Jvm.Term.int k).eval args first o [j.toNatClampNeg] s = some (.int k) := Term.int_eval _
  rw [Cond.lt_ints e f]
  simp [hk]
theorem own_ixle {j k : Int32} (hj : ¬ j < 0) (hk : j < k) : (Jvm.Cond.le (Jvm.Term.int k) (Jvm.Term.index 0)).value args first o s [j.toNatClampNeg] = some false := by
  have e := idx_at (args := args) (first := first) (o := o) (s := s) hj
  have f : (Jvm.Term.int k).eval args first o [j.toNatClampNeg] s = some (.int k) := Term.int_eval _
  rw [Cond.le_ints f e]
  simp [Int32.not_le.mpr hk]
theorem own_ixsub {j k : Int32} (hj : ¬ j < 0) : (Jvm.Term.sub (Jvm.Term.index 0) (Jvm.Term.int k)).eval args first o [j.toNatClampNeg] s = some (.int (j - k)) := by
  have e := idx_at (args := args) (first := first) (o := o) (s := s) hj
  have f : (Jvm.Term.int k).eval args first o [j.toNatClampNeg] s = some (.int k) := Term.int_eval _
  rw [Term.eval, e, f]
  rfl
/-- a field that the case says to hold a number -/
theorem own_fldI {C n d : String} {x : Addr} {k : Int32} (ht : t.eval args s none [] s = some (.ref x)) (h : (Jvm.Cond.eq (Term.field t C n d) (Term.int k)).value args s none s [] = some true) : Fld s s.heap x C n d (.int k) := by
  have e := own_eqI h (Term.int_eval _)
  rw [fld_at ht] at e
  exact Fld.start e
theorem own_fldJ {C n d : String} {x : Addr} {k : Int64} (ht : t.eval args s none [] s = some (.ref x)) (h : (Jvm.Cond.eq (Term.field t C n d) (Term.long k)).value args s none s [] = some true) : Fld s s.heap x C n d (.long k) := by
  have e := own_eqJ h (show (Term.long k).eval args s none [] s = some (.long k) by simp [Term.eval])
  rw [fld_at ht] at e
  exact Fld.start e
end OwnWords

/-- a char[] of n places whose j-th holds F j -/
def own_Tab (Z : State) (h : Heap) (a : Addr) (n : Int32) (F : Int32 → Int32) : Prop := ∃ cl : Cell, Arr Z h a cl .char ∧ cl.slots.size = n.toNatClampNeg ∧ ∀ j : Int32, ¬ j < 0 → j < n → cl.slots[j.toNatClampNeg]? = some (.int (F j))
theorem own_Tab.lt {Z : State} {h : Heap} {a : Addr} {n : Int32} {F : Int32 → Int32} (T : own_Tab Z h a n F) : a < h.size := by obtain ⟨c, A, -⟩ := T; exact A.lt
theorem own_Tab.ext {Z : State} {h h' : Heap} {a : Addr} {n : Int32} {F : Int32 → Int32} (T : own_Tab Z h a n F) (E : Ext h h') : own_Tab Z h' a n F := by obtain ⟨c, A, r⟩ := T; exact ⟨c, A.ext E, r⟩
theorem own_Tab.other {Z : State} {h h' : Heap} {a b : Addr} {sl : Nat} {v : Value} {n : Int32} {F : Int32 → Int32} (T : own_Tab Z h a n F) (W : Wr h h' b sl v) (q : a ≠ b) : own_Tab Z h' a n F := by obtain ⟨c, A, r⟩ := T; exact ⟨c, A.other W q, r⟩
theorem own_Tab.keep {Z : State} {h h' : Heap} {a : Addr} {ws : List Addr} {n : Int32} {F : Int32 → Int32} (T : own_Tab Z h a n F) (K : Keep h h' ws) (q : a ∉ ws) : own_Tab Z h' a n F := by obtain ⟨c, A, r⟩ := T; exact ⟨c, ⟨K.2.1 a c A.1 q, A.2⟩, r⟩
theorem own_toNat {j k : Int32} (hj : ¬ j < 0) (hk : ¬ k < 0) (e : j.toNatClampNeg = k.toNatClampNeg) : j = k := by
  rw [← (back32 hj).1, ← (back32 hk).1, e]
theorem own_Tab.new {Z : State} {h : Heap} {a : Addr} {k : ClassId} {n : Int32} (A : Arr Z h a (newA k .char n) .char) (q : ¬ n < 0) : own_Tab Z h a n (fun _ => 0) := by
  obtain ⟨c, A1, -, S, -, H, -⟩ := Arv.new A q
  refine ⟨c, A1, S, fun j hj hn => ?_⟩
  have hi : j.toNatClampNeg < c.slots.size := Nat.lt_of_not_le fun y => inb_of S ⟨hj, hn⟩ (Or.inr y)
  exact H _ hi
theorem own_Tab.set {Z : State} {h h' : Heap} {a : Addr} {n j x : Int32} {F : Int32 → Int32} {cl : Cell} (A : Arr Z h a cl .char) (S : cl.slots.size = n.toNatClampNeg) (H : ∀ j : Int32, ¬ j < 0 → j < n → cl.slots[j.toNatClampNeg]? = some (.int (F j))) (W : Wr h h' a j.toNatClampNeg (.int x)) (hj : ¬ j < 0 ∧ j < n) : own_Tab Z h' a n (fun k => if k = j then x else F k) := by
  have hi : j.toNatClampNeg < cl.slots.size := Nat.lt_of_not_le fun y => inb_of S hj (Or.inr y)
  refine ⟨_, A.same W, by simp [Cell.setSlot, S], fun k hk hn => ?_⟩
  by_cases e : k = j
  · subst e
    show _ = some (Value.int (if k = k then x else F k))
    rw [if_pos rfl]
    simp [Cell.setSlot, hi]
  · show _ = some (Value.int (if k = j then x else F k))
    have e' : j.toNatClampNeg ≠ k.toNatClampNeg := fun q => e (own_toNat hk hj.1 q.symm)
    rw [if_neg e, ← H k hk hn]
    simp [Cell.setSlot, Array.getElem?_setIfInBounds_ne e']
theorem own_bd {n j : Int32} (h : 0 ≤ j.toInt ∧ j.toInt < n.toInt) : ¬ j < 0 ∧ j < n := by
  rw [Int32.lt_iff_toInt_lt, Int32.lt_iff_toInt_lt, show (0 : Int32).toInt = 0 from rfl]; omega
theorem own_add (x k : Int32) (h : -2147483648 ≤ x.toInt + k.toInt ∧ x.toInt + k.toInt < 2147483648) : (x + k).toInt = x.toInt + k.toInt := Jvm.Kit.i32_add (by omega) (by omega)

def own_tab (j : Int32) : Int32 := if j < 4 then (48 : Int32) else if j < 5 then (45 : Int32) else if j < 6 then (48 : Int32) else if j < 7 then (48 : Int32) else if j < 8 then (45 : Int32) else if j < 9 then (48 : Int32) else if j < 10 then (48 : Int32) else if j < 11 then (84 : Int32) else if j < 12 then (48 : Int32) else if j < 13 then (48 : Int32) else if j < 14 then (58 : Int32) else if j < 15 then (48 : Int32) else if j < 16 then (48 : Int32) else if j < 17 then (58 : Int32) else if j < 18 then (48 : Int32) else if j < 19 then (48 : Int32) else if j < 20 then (46 : Int32) else if j < 26 then (48 : Int32) else (90 : Int32)
theorem own_t19 : (Jvm.Cond.initialized "com/example/kleio/kleio/RecordTime") ∈ tables_1 := List.mem_of_getElem? (i := 19) rfl
theorem own_t22 : (Jvm.Cond.laysStatic "com/example/kleio/kleio/RecordTime" "FORM" "[C") ∈ tables_1 := List.mem_of_getElem? (i := 22) rfl
theorem own_d1_0 : decode method_2_code 0 = .ok (.bipush 48, 2) := by decide +kernel
theorem own_d1_2 : decode method_2_code 2 = .ok (.lload_n 0, 1) := by decide +kernel
theorem own_d1_3 : decode method_2_code 3 = .ok (.lload_n 2, 1) := by decide +kernel
theorem own_d1_4 : decode method_2_code 4 = .ok (.ldiv, 1) := by decide +kernel
theorem own_d1_5 : decode method_2_code 5 = .ok (.ldc2_w 7, 3) := by decide +kernel
theorem own_t11 : (Jvm.Cond.constantLong "com/example/kleio/kleio/RecordTimeIsRecordTimePinLaw" (7 : Nat) (10 : Int64)) ∈ tables_1 := List.mem_of_getElem? (i := 11) rfl
theorem own_d1_8 : decode method_2_code 8 = .ok (.lrem, 1) := by decide +kernel
theorem own_d1_9 : decode method_2_code 9 = .ok (.l2i, 1) := by decide +kernel
theorem own_d1_10 : decode method_2_code 10 = .ok (.iadd, 1) := by decide +kernel
theorem own_d1_11 : decode method_2_code 11 = .ok (.i2c, 1) := by decide +kernel
theorem own_pn0 : plainName "com/example/kleio/kleio/RecordTimeIsRecordTimePinLaw" = true := by first | (simp [plainName, overriddenIn]; done) | decide +kernel
theorem own_d1_12 : decode method_2_code 12 = .ok (.ireturn, 1) := by decide +kernel
def own_f1 (y0 : Int64) (y1 : Int64) : Int32 := ((((48 : Int32) + (((y0 / y1) - ((y0 / y1) / (10 : Int64)) * (10 : Int64)).toInt32)).toUInt32.toUInt16.toUInt32.toInt32).toUInt32.toUInt16.toUInt32.toInt32)
def own_Q1 (y0 : Int64) (y1 : Int64) (h0 : Heap) (n0 : Nat) (v : Option Value) (h : Heap) (L : List Loc) : Prop := v = some (.int (own_f1 y0 y1)) ∧ Fr n0 L ∧ h = h0
abbrev own_R1 : Room := { frames := 0, cells := 0, slots := 0, locals := 0 }
theorem own_ef1 (m : MethodId) (z0 : Int64) (z1 : Int64) : entryFrame m #[(.long z0), (.long z1)] 4 = mkF m 0 #[.val (.long z0), .second, .val (.long z1), .second] [] := by first | (simp [entryFrame, mkF, argsToLocals, Value.category]; done) | rfl
set_option maxRecDepth 65536 in
set_option maxHeartbeats 40000000 in
theorem rm1 (l : Launch) (Z : State) (a0 : Array Value) (hw : ∀ d ∈ tables_1, d.before a0 Z = true) (ws : List Jvm.Cond) (y0 : Int64) (y1 : Int64) (h0 : Heap) (n0 : Nat) (hz : y1 ≠ 0) : own_Met l Z (⟨"com/example/kleio/kleio/RecordTimeIsRecordTimePinLaw", "dig", "(JJ)C"⟩ : MethodName) method_2_code 4 (some .char) ws own_R1 #[(.long y0), (.long y1)] h0 (own_Q1 y0 y1 h0 n0) := by
  refine own_met (plainFor_of_name own_pn0) ?_
  intro p e s m below meth c s₁ hx hby hml hown hnm hret hlk hZ e0 X0
  have N0 := Fr.nil n0
  have hml : c.maxLocals = 4 := hml
  have hown : s.vm.findClass "com/example/kleio/kleio/RecordTimeIsRecordTimePinLaw" = some m.cls := hown
  have hret : meth.sig.returnType = (some .char) := hret
  have hby : c.code = method_2_code := hby
  have hnm : meth.name = "dig" := hnm
  rw [own_ef1]
  show own_Goes p e below _ (s₁.setTop (mkF m 0 #[.val (.long y0), .second, .val (.long y1), .second] []))
  refine own_go (fun t k => XS.bipush X0.here hx rfl (hb hby own_d1_0) k) ?_
  show own_Goes p e below _ (s₁.setTop (mkF m 2 #[.val (.long y0), .second, .val (.long y1), .second] [(.int (48 : Int32))]))
  refine own_go (fun t k => XS.lloadN X0.here hx rfl (hb hby own_d1_2) rfl k) ?_
  show own_Goes p e below _ (s₁.setTop (mkF m 3 #[.val (.long y0), .second, .val (.long y1), .second] [(.long y0), (.int (48 : Int32))]))
  refine own_go (fun t k => XS.lloadN X0.here hx rfl (hb hby own_d1_3) rfl k) ?_
  show own_Goes p e below _ (s₁.setTop (mkF m 4 #[.val (.long y0), .second, .val (.long y1), .second] [(.long y1), (.long y0), (.int (48 : Int32))]))
  refine own_go (fun t k => XS.ldiv X0.here hx rfl (hb hby own_d1_4) rfl hz k) ?_
  show own_Goes p e below _ (s₁.setTop (mkF m 5 #[.val (.long y0), .second, .val (.long y1), .second] [(.long (y0 / y1)), (.int (48 : Int32))]))
  refine own_go (fun t k => X0.ldc2Long hx hown (mvT hZ (hw _ own_t11)) (g := (mkF m 5 #[.val (.long y0), .second, .val (.long y1), .second] [(.long (y0 / y1)), (.int (48 : Int32))])) rfl (hb hby own_d1_5) t k) ?_
  show own_Goes p e below _ (s₁.setTop (mkF m 8 #[.val (.long y0), .second, .val (.long y1), .second] [(.long (10 : Int64)), (.long (y0 / y1)), (.int (48 : Int32))]))
  refine own_go (fun t k => XS.lrem X0.here hx rfl (hb hby own_d1_8) rfl (by decide) k) ?_
  show own_Goes p e below _ (s₁.setTop (mkF m 9 #[.val (.long y0), .second, .val (.long y1), .second] [(.long ((y0 / y1) - ((y0 / y1) / (10 : Int64)) * (10 : Int64))), (.int (48 : Int32))]))
  refine own_go (fun t k => XS.l2i X0.here hx rfl (hb hby own_d1_9) rfl k) ?_
  show own_Goes p e below _ (s₁.setTop (mkF m 10 #[.val (.long y0), .second, .val (.long y1), .second] [(.int (((y0 / y1) - ((y0 / y1) / (10 : Int64)) * (10 : Int64)).toInt32)), (.int (48 : Int32))]))
  refine own_go (fun t k => XS.iadd X0.here hx rfl (hb hby own_d1_10) rfl k) ?_
  show own_Goes p e below _ (s₁.setTop (mkF m 11 #[.val (.long y0), .second, .val (.long y1), .second] [(.int ((48 : Int32) + (((y0 / y1) - ((y0 / y1) / (10 : Int64)) * (10 : Int64)).toInt32)))]))
  refine own_go (fun t k => XS.i2c X0.here hx rfl (hb hby own_d1_11) rfl k) ?_
  show own_Goes p e below _ (s₁.setTop (mkF m 12 #[.val (.long y0), .second, .val (.long y1), .second] [(.int (((48 : Int32) + (((y0 / y1) - ((y0 / y1) / (10 : Int64)) * (10 : Int64)).toInt32)).toUInt32.toUInt16.toUInt32.toInt32))]))
  exact own_retN X0 hx hlk hret (by simp) (z' := ((((48 : Int32) + (((y0 / y1) - ((y0 / y1) / (10 : Int64)) * (10 : Int64)).toInt32)).toUInt32.toUInt16.toUInt32.toInt32).toUInt32.toUInt16.toUInt32.toInt32)) rfl (hb hby own_d1_12) (by decide) (by decide) ⟨by rw [own_f1], N0, e0⟩
theorem own_d2_0 : decode method_3_code 0 = .ok (.iload_n 0, 1) := by decide +kernel
theorem own_d2_1 : decode method_3_code 1 = .ok (.iconst 4, 1) := by decide +kernel
theorem own_d2_2 : decode method_3_code 2 = .ok (.if_icmp .eq 9, 3) := by decide +kernel
theorem own_d2_11 : decode method_3_code 11 = .ok (.bipush 45, 2) := by decide +kernel
theorem own_d2_5 : decode method_3_code 5 = .ok (.iload_n 0, 1) := by decide +kernel
theorem own_d2_6 : decode method_3_code 6 = .ok (.bipush 7, 2) := by decide +kernel
theorem own_d2_8 : decode method_3_code 8 = .ok (.if_icmp .ne 6, 3) := by decide +kernel
theorem own_d2_14 : decode method_3_code 14 = .ok (.iload_n 0, 1) := by decide +kernel
theorem own_d2_15 : decode method_3_code 15 = .ok (.bipush 10, 2) := by decide +kernel
theorem own_d2_17 : decode method_3_code 17 = .ok (.if_icmp .ne 6, 3) := by decide +kernel
theorem own_d2_20 : decode method_3_code 20 = .ok (.bipush 84, 2) := by decide +kernel
theorem own_d2_23 : decode method_3_code 23 = .ok (.iload_n 0, 1) := by decide +kernel
theorem own_d2_24 : decode method_3_code 24 = .ok (.bipush 13, 2) := by decide +kernel
theorem own_d2_26 : decode method_3_code 26 = .ok (.if_icmp .eq 9, 3) := by decide +kernel
theorem own_d2_35 : decode method_3_code 35 = .ok (.bipush 58, 2) := by decide +kernel
theorem own_d2_29 : decode method_3_code 29 = .ok (.iload_n 0, 1) := by decide +kernel
theorem own_d2_30 : decode method_3_code 30 = .ok (.bipush 16, 2) := by decide +kernel
theorem own_d2_32 : decode method_3_code 32 = .ok (.if_icmp .ne 6, 3) := by decide +kernel
theorem own_d2_38 : decode method_3_code 38 = .ok (.iload_n 0, 1) := by decide +kernel
theorem own_d2_39 : decode method_3_code 39 = .ok (.bipush 19, 2) := by decide +kernel
theorem own_d2_41 : decode method_3_code 41 = .ok (.if_icmp .ne 6, 3) := by decide +kernel
theorem own_d2_44 : decode method_3_code 44 = .ok (.bipush 46, 2) := by decide +kernel
theorem own_d2_47 : decode method_3_code 47 = .ok (.iload_n 0, 1) := by decide +kernel
theorem own_d2_48 : decode method_3_code 48 = .ok (.bipush 26, 2) := by decide +kernel
theorem own_d2_50 : decode method_3_code 50 = .ok (.if_icmp .ne 6, 3) := by decide +kernel
theorem own_d2_53 : decode method_3_code 53 = .ok (.bipush 90, 2) := by decide +kernel
theorem own_d2_56 : decode method_3_code 56 = .ok (.iconst 0, 1) := by decide +kernel
theorem own_d2_13 : decode method_3_code 13 = .ok (.ireturn, 1) := by decide +kernel
theorem own_d2_22 : decode method_3_code 22 = .ok (.ireturn, 1) := by decide +kernel
theorem own_d2_37 : decode method_3_code 37 = .ok (.ireturn, 1) := by decide +kernel
theorem own_d2_46 : decode method_3_code 46 = .ok (.ireturn, 1) := by decide +kernel
theorem own_d2_55 : decode method_3_code 55 = .ok (.ireturn, 1) := by decide +kernel
theorem own_d2_57 : decode method_3_code 57 = .ok (.ireturn, 1) := by decide +kernel
def own_f2 (x0 : Int32) : Int32 := (if x0 = (4 : Int32) then ((45 : Int32).toUInt32.toUInt16.toUInt32.toInt32) else (if x0 = (7 : Int32) then ((45 : Int32).toUInt32.toUInt16.toUInt32.toInt32) else (if x0 = (10 : Int32) then ((84 : Int32).toUInt32.toUInt16.toUInt32.toInt32) else (if x0 = (13 : Int32) then ((58 : Int32).toUInt32.toUInt16.toUInt32.toInt32) else (if x0 = (16 : Int32) then ((58 : Int32).toUInt32.toUInt16.toUInt32.toInt32) else (if x0 = (19 : Int32) then ((46 : Int32).toUInt32.toUInt16.toUInt32.toInt32) else (if x0 = (26 : Int32) then ((90 : Int32).toUInt32.toUInt16.toUInt32.toInt32) else ((0 : Int32).toUInt32.toUInt16.toUInt32.toInt32))))))))
def own_Q2 (x0 : Int32) (h0 : Heap) (n0 : Nat) (v : Option Value) (h : Heap) (L : List Loc) : Prop := v = some (.int (own_f2 x0)) ∧ Fr n0 L ∧ h = h0
abbrev own_R2 : Room := { frames := 0, cells := 0, slots := 0, locals := 0 }
theorem own_ef2 (m : MethodId) (z0 : Int32) : entryFrame m #[(.int z0)] 1 = mkF m 0 #[.val (.int z0)] [] := by first | (simp [entryFrame, mkF, argsToLocals, Value.category]; done) | rfl
set_option maxRecDepth 65536 in
set_option maxHeartbeats 40000000 in
theorem rm2 (l : Launch) (Z : State) (a0 : Array Value) (hw : ∀ d ∈ tables_1, d.before a0 Z = true) (ws : List Jvm.Cond) (x0 : Int32) (h0 : Heap) (n0 : Nat) : own_Met l Z (⟨"com/example/kleio/kleio/RecordTimeIsRecordTimePinLaw", "sepAt", "(I)C"⟩ : MethodName) method_3_code 1 (some .char) ws own_R2 #[(.int x0)] h0 (own_Q2 x0 h0 n0) := by
  refine own_met (plainFor_of_name own_pn0) ?_
  intro p e s m below meth c s₁ hx hby hml hown hnm hret hlk hZ e0 X0
  have N0 := Fr.nil n0
  have hml : c.maxLocals = 1 := hml
  have hown : s.vm.findClass "com/example/kleio/kleio/RecordTimeIsRecordTimePinLaw" = some m.cls := hown
  have hret : meth.sig.returnType = (some .char) := hret
  have hby : c.code = method_3_code := hby
  have hnm : meth.name = "sepAt" := hnm
  rw [own_ef2]
  show own_Goes p e below _ (s₁.setTop (mkF m 0 #[.val (.int x0)] []))
  refine own_go (fun t k => XS.iloadN X0.here hx rfl (hb hby own_d2_0) rfl k) ?_
  show own_Goes p e below _ (s₁.setTop (mkF m 1 #[.val (.int x0)] [(.int x0)]))
  refine own_go (fun t k => XS.iconst X0.here hx rfl (hb hby own_d2_1) k) ?_
  show own_Goes p e below _ (s₁.setTop (mkF m 2 #[.val (.int x0)] [(.int (4 : Int32)), (.int x0)]))
  by_cases hc1 : x0 = (4 : Int32)
  · refine own_go (fun t k => XS.icmpYes X0.here hx rfl (pc0 := 2) (pc' := 11) rfl (hb hby own_d2_2) rfl (teq hc1).1 (by decide) (by decide) k) ?_
    show own_Goes p e below _ (s₁.setTop (mkF m 11 #[.val (.int x0)] []))
    refine own_go (fun t k => XS.bipush X0.here hx rfl (hb hby own_d2_11) k) ?_
    show own_Goes p e below _ (s₁.setTop (mkF m 13 #[.val (.int x0)] [(.int (45 : Int32))]))
    exact own_retN X0 hx hlk hret (by simp) (z' := ((45 : Int32).toUInt32.toUInt16.toUInt32.toInt32)) rfl (hb hby own_d2_13) (by decide) (by decide) ⟨by rw [own_f2, if_pos hc1], N0, e0⟩
  · refine own_go (fun t k => XS.icmpNo X0.here hx rfl (hb hby own_d2_2) rfl (feq hc1).1 k) ?_
    show own_Goes p e below _ (s₁.setTop (mkF m 5 #[.val (.int x0)] []))
    refine own_go (fun t k => XS.iloadN X0.here hx rfl (hb hby own_d2_5) rfl k) ?_
    show own_Goes p e below _ (s₁.setTop (mkF m 6 #[.val (.int x0)] [(.int x0)]))
    refine own_go (fun t k => XS.bipush X0.here hx rfl (hb hby own_d2_6) k) ?_
    show own_Goes p e below _ (s₁.setTop (mkF m 8 #[.val (.int x0)] [(.int (7 : Int32)), (.int x0)]))
    by_cases hc2 : x0 = (7 : Int32)
    · refine own_go (fun t k => XS.icmpNo X0.here hx rfl (hb hby own_d2_8) rfl (teq hc2).2 k) ?_
      show own_Goes p e below _ (s₁.setTop (mkF m 11 #[.val (.int x0)] []))
      refine own_go (fun t k => XS.bipush X0.here hx rfl (hb hby own_d2_11) k) ?_
      show own_Goes p e below _ (s₁.setTop (mkF m 13 #[.val (.int x0)] [(.int (45 : Int32))]))
      exact own_retN X0 hx hlk hret (by simp) (z' := ((45 : Int32).toUInt32.toUInt16.toUInt32.toInt32)) rfl (hb hby own_d2_13) (by decide) (by decide) ⟨by rw [own_f2, if_neg hc1, if_pos hc2], N0, e0⟩
    · refine own_go (fun t k => XS.icmpYes X0.here hx rfl (pc0 := 8) (pc' := 14) rfl (hb hby own_d2_8) rfl (feq hc2).2 (by decide) (by decide) k) ?_
      show own_Goes p e below _ (s₁.setTop (mkF m 14 #[.val (.int x0)] []))
      refine own_go (fun t k => XS.iloadN X0.here hx rfl (hb hby own_d2_14) rfl k) ?_
      show own_Goes p e below _ (s₁.setTop (mkF m 15 #[.val (.int x0)] [(.int x0)]))
      refine own_go (fun t k => XS.bipush X0.here hx rfl (hb hby own_d2_15) k) ?_
      show own_Goes p e below _ (s₁.setTop (mkF m 17 #[.val (.int x0)] [(.int (10 : Int32)), (.int x0)]))
      by_cases hc3 : x0 = (10 : Int32)
      · refine own_go (fun t k => XS.icmpNo X0.here hx rfl (hb hby own_d2_17) rfl (teq hc3).2 k) ?_
        show own_Goes p e below _ (s₁.setTop (mkF m 20 #[.val (.int x0)] []))
        refine own_go (fun t k => XS.bipush X0.here hx rfl (hb hby own_d2_20) k) ?_
        show own_Goes p e below _ (s₁.setTop (mkF m 22 #[.val (.int x0)] [(.int (84 : Int32))]))
        exact own_retN X0 hx hlk hret (by simp) (z' := ((84 : Int32).toUInt32.toUInt16.toUInt32.toInt32)) rfl (hb hby own_d2_22) (by decide) (by decide) ⟨by rw [own_f2, if_neg hc1, if_neg hc2, if_pos hc3], N0, e0⟩
      · refine own_go (fun t k => XS.icmpYes X0.here hx rfl (pc0 := 17) (pc' := 23) rfl (hb hby own_d2_17) rfl (feq hc3).2 (by decide) (by decide) k) ?_
        show own_Goes p e below _ (s₁.setTop (mkF m 23 #[.val (.int x0)] []))
        refine own_go (fun t k => XS.iloadN X0.here hx rfl (hb hby own_d2_23) rfl k) ?_
        show own_Goes p e below _ (s₁.setTop (mkF m 24 #[.val (.int x0)] [(.int x0)]))
        refine own_go (fun t k => XS.bipush X0.here hx rfl (hb hby own_d2_24) k) ?_
        show own_Goes p e below _ (s₁.setTop (mkF m 26 #[.val (.int x0)] [(.int (13 : Int32)), (.int x0)]))
        by_cases hc4 : x0 = (13 : Int32)
        · refine own_go (fun t k => XS.icmpYes X0.here hx rfl (pc0 := 26) (pc' := 35) rfl (hb hby own_d2_26) rfl (teq hc4).1 (by decide) (by decide) k) ?_
          show own_Goes p e below _ (s₁.setTop (mkF m 35 #[.val (.int x0)] []))
          refine own_go (fun t k => XS.bipush X0.here hx rfl (hb hby own_d2_35) k) ?_
          show own_Goes p e below _ (s₁.setTop (mkF m 37 #[.val (.int x0)] [(.int (58 : Int32))]))
          exact own_retN X0 hx hlk hret (by simp) (z' := ((58 : Int32).toUInt32.toUInt16.toUInt32.toInt32)) rfl (hb hby own_d2_37) (by decide) (by decide) ⟨by rw [own_f2, if_neg hc1, if_neg hc2, if_neg hc3, if_pos hc4], N0, e0⟩
        · refine own_go (fun t k => XS.icmpNo X0.here hx rfl (hb hby own_d2_26) rfl (feq hc4).1 k) ?_
          show own_Goes p e below _ (s₁.setTop (mkF m 29 #[.val (.int x0)] []))
          refine own_go (fun t k => XS.iloadN X0.here hx rfl (hb hby own_d2_29) rfl k) ?_
          show own_Goes p e below _ (s₁.setTop (mkF m 30 #[.val (.int x0)] [(.int x0)]))
          refine own_go (fun t k => XS.bipush X0.here hx rfl (hb hby own_d2_30) k) ?_
          show own_Goes p e below _ (s₁.setTop (mkF m 32 #[.val (.int x0)] [(.int (16 : Int32)), (.int x0)]))
          by_cases hc5 : x0 = (16 : Int32)
          · refine own_go (fun t k => XS.icmpNo X0.here hx rfl (hb hby own_d2_32) rfl (teq hc5).2 k) ?_
            show own_Goes p e below _ (s₁.setTop (mkF m 35 #[.val (.int x0)] []))
            refine own_go (fun t k => XS.bipush X0.here hx rfl (hb hby own_d2_35) k) ?_
            show own_Goes p e below _ (s₁.setTop (mkF m 37 #[.val (.int x0)] [(.int (58 : Int32))]))
            exact own_retN X0 hx hlk hret (by simp) (z' := ((58 : Int32).toUInt32.toUInt16.toUInt32.toInt32)) rfl (hb hby own_d2_37) (by decide) (by decide) ⟨by rw [own_f2, if_neg hc1, if_neg hc2, if_neg hc3, if_neg hc4, if_pos hc5], N0, e0⟩
          · refine own_go (fun t k => XS.icmpYes X0.here hx rfl (pc0 := 32) (pc' := 38) rfl (hb hby own_d2_32) rfl (feq hc5).2 (by decide) (by decide) k) ?_
            show own_Goes p e below _ (s₁.setTop (mkF m 38 #[.val (.int x0)] []))
            refine own_go (fun t k => XS.iloadN X0.here hx rfl (hb hby own_d2_38) rfl k) ?_
            show own_Goes p e below _ (s₁.setTop (mkF m 39 #[.val (.int x0)] [(.int x0)]))
            refine own_go (fun t k => XS.bipush X0.here hx rfl (hb hby own_d2_39) k) ?_
            show own_Goes p e below _ (s₁.setTop (mkF m 41 #[.val (.int x0)] [(.int (19 : Int32)), (.int x0)]))
            by_cases hc6 : x0 = (19 : Int32)
            · refine own_go (fun t k => XS.icmpNo X0.here hx rfl (hb hby own_d2_41) rfl (teq hc6).2 k) ?_
              show own_Goes p e below _ (s₁.setTop (mkF m 44 #[.val (.int x0)] []))
              refine own_go (fun t k => XS.bipush X0.here hx rfl (hb hby own_d2_44) k) ?_
              show own_Goes p e below _ (s₁.setTop (mkF m 46 #[.val (.int x0)] [(.int (46 : Int32))]))
              exact own_retN X0 hx hlk hret (by simp) (z' := ((46 : Int32).toUInt32.toUInt16.toUInt32.toInt32)) rfl (hb hby own_d2_46) (by decide) (by decide) ⟨by rw [own_f2, if_neg hc1, if_neg hc2, if_neg hc3, if_neg hc4, if_neg hc5, if_pos hc6], N0, e0⟩
            · refine own_go (fun t k => XS.icmpYes X0.here hx rfl (pc0 := 41) (pc' := 47) rfl (hb hby own_d2_41) rfl (feq hc6).2 (by decide) (by decide) k) ?_
              show own_Goes p e below _ (s₁.setTop (mkF m 47 #[.val (.int x0)] []))
              refine own_go (fun t k => XS.iloadN X0.here hx rfl (hb hby own_d2_47) rfl k) ?_
              show own_Goes p e below _ (s₁.setTop (mkF m 48 #[.val (.int x0)] [(.int x0)]))
              refine own_go (fun t k => XS.bipush X0.here hx rfl (hb hby own_d2_48) k) ?_
              show own_Goes p e below _ (s₁.setTop (mkF m 50 #[.val (.int x0)] [(.int (26 : Int32)), (.int x0)]))
              by_cases hc7 : x0 = (26 : Int32)
              · refine own_go (fun t k => XS.icmpNo X0.here hx rfl (hb hby own_d2_50) rfl (teq hc7).2 k) ?_
                show own_Goes p e below _ (s₁.setTop (mkF m 53 #[.val (.int x0)] []))
                refine own_go (fun t k => XS.bipush X0.here hx rfl (hb hby own_d2_53) k) ?_
                show own_Goes p e below _ (s₁.setTop (mkF m 55 #[.val (.int x0)] [(.int (90 : Int32))]))
                exact own_retN X0 hx hlk hret (by simp) (z' := ((90 : Int32).toUInt32.toUInt16.toUInt32.toInt32)) rfl (hb hby own_d2_55) (by decide) (by decide) ⟨by rw [own_f2, if_neg hc1, if_neg hc2, if_neg hc3, if_neg hc4, if_neg hc5, if_neg hc6, if_pos hc7], N0, e0⟩
              · refine own_go (fun t k => XS.icmpYes X0.here hx rfl (pc0 := 50) (pc' := 56) rfl (hb hby own_d2_50) rfl (feq hc7).2 (by decide) (by decide) k) ?_
                show own_Goes p e below _ (s₁.setTop (mkF m 56 #[.val (.int x0)] []))
                refine own_go (fun t k => XS.iconst X0.here hx rfl (hb hby own_d2_56) k) ?_
                show own_Goes p e below _ (s₁.setTop (mkF m 57 #[.val (.int x0)] [(.int (0 : Int32))]))
                exact own_retN X0 hx hlk hret (by simp) (z' := ((0 : Int32).toUInt32.toUInt16.toUInt32.toInt32)) rfl (hb hby own_d2_57) (by decide) (by decide) ⟨by rw [own_f2, if_neg hc1, if_neg hc2, if_neg hc3, if_neg hc4, if_neg hc5, if_neg hc6, if_neg hc7], N0, e0⟩
theorem own_d5_0 : decode method_4_code 0 = .ok (.iload_n 1, 1) := by decide +kernel
theorem own_d5_1 : decode method_4_code 1 = .ok (.sipush 400, 3) := by decide +kernel
theorem own_d5_4 : decode method_4_code 4 = .ok (.irem, 1) := by decide +kernel
theorem own_d5_5 : decode method_4_code 5 = .ok (.ifCond .eq 16, 3) := by decide +kernel
theorem own_d5_21 : decode method_4_code 21 = .ok (.iconst 1, 1) := by decide +kernel
theorem own_d5_22 : decode method_4_code 22 = .ok (.goto 4, 3) := by decide +kernel
theorem own_d5_8 : decode method_4_code 8 = .ok (.iload_n 1, 1) := by decide +kernel
theorem own_d5_9 : decode method_4_code 9 = .ok (.iconst 4, 1) := by decide +kernel
theorem own_d5_10 : decode method_4_code 10 = .ok (.irem, 1) := by decide +kernel
theorem own_d5_11 : decode method_4_code 11 = .ok (.ifCond .ne 14, 3) := by decide +kernel
theorem own_d5_14 : decode method_4_code 14 = .ok (.iload_n 1, 1) := by decide +kernel
theorem own_d5_15 : decode method_4_code 15 = .ok (.bipush 100, 2) := by decide +kernel
theorem own_d5_17 : decode method_4_code 17 = .ok (.irem, 1) := by decide +kernel
theorem own_d5_18 : decode method_4_code 18 = .ok (.ifCond .eq 7, 3) := by decide +kernel
theorem own_d5_25 : decode method_4_code 25 = .ok (.iconst 0, 1) := by decide +kernel
theorem own_d5_26 : decode method_4_code 26 = .ok (.istore_n 2, 1) := by decide +kernel
theorem own_d5_27 : decode method_4_code 27 = .ok (.iload_n 0, 1) := by decide +kernel
theorem own_d5_28 : decode method_4_code 28 = .ok (.iconst 2, 1) := by decide +kernel
theorem own_d5_29 : decode method_4_code 29 = .ok (.if_icmp .ne 15, 3) := by decide +kernel
theorem own_d5_32 : decode method_4_code 32 = .ok (.iload_n 2, 1) := by decide +kernel
theorem own_d5_33 : decode method_4_code 33 = .ok (.ifCond .eq 8, 3) := by decide +kernel
theorem own_d5_41 : decode method_4_code 41 = .ok (.bipush 28, 2) := by decide +kernel
theorem own_d5_36 : decode method_4_code 36 = .ok (.bipush 29, 2) := by decide +kernel
theorem own_d5_38 : decode method_4_code 38 = .ok (.goto 5, 3) := by decide +kernel
theorem own_d5_44 : decode method_4_code 44 = .ok (.iload_n 0, 1) := by decide +kernel
theorem own_d5_45 : decode method_4_code 45 = .ok (.iconst 4, 1) := by decide +kernel
theorem own_d5_46 : decode method_4_code 46 = .ok (.if_icmp .eq 21, 3) := by decide +kernel
theorem own_d5_67 : decode method_4_code 67 = .ok (.bipush 30, 2) := by decide +kernel
theorem own_d5_49 : decode method_4_code 49 = .ok (.iload_n 0, 1) := by decide +kernel
theorem own_d5_50 : decode method_4_code 50 = .ok (.bipush 6, 2) := by decide +kernel
theorem own_d5_52 : decode method_4_code 52 = .ok (.if_icmp .eq 15, 3) := by decide +kernel
theorem own_d5_55 : decode method_4_code 55 = .ok (.iload_n 0, 1) := by decide +kernel
theorem own_d5_56 : decode method_4_code 56 = .ok (.bipush 9, 2) := by decide +kernel
theorem own_d5_58 : decode method_4_code 58 = .ok (.if_icmp .eq 9, 3) := by decide +kernel
theorem own_d5_61 : decode method_4_code 61 = .ok (.iload_n 0, 1) := by decide +kernel
theorem own_d5_62 : decode method_4_code 62 = .ok (.bipush 11, 2) := by decide +kernel
theorem own_d5_64 : decode method_4_code 64 = .ok (.if_icmp .ne 6, 3) := by decide +kernel
theorem own_d5_70 : decode method_4_code 70 = .ok (.bipush 31, 2) := by decide +kernel
theorem own_d5_43 : decode method_4_code 43 = .ok (.ireturn, 1) := by decide +kernel
theorem own_d5_69 : decode method_4_code 69 = .ok (.ireturn, 1) := by decide +kernel
theorem own_d5_72 : decode method_4_code 72 = .ok (.ireturn, 1) := by decide +kernel
def own_j5_1 (x1 : Int32) : Int32 := (if (x1 % (400 : Int32)) = (0 : Int32) then (1 : Int32) else (if (x1 % (4 : Int32)) = (0 : Int32) then (if (x1 % (100 : Int32)) = (0 : Int32) then (0 : Int32) else (1 : Int32)) else (0 : Int32)))
def own_j5_2 (x1 : Int32) : Int32 := (if (own_j5_1 x1) = (0 : Int32) then (28 : Int32) else (29 : Int32))
def own_f5 (x0 : Int32) (x1 : Int32) : Int32 := (if x0 = (2 : Int32) then (own_j5_2 x1) else (if x0 = (4 : Int32) then (30 : Int32) else (if x0 = (6 : Int32) then (30 : Int32) else (if x0 = (9 : Int32) then (30 : Int32) else (if x0 = (11 : Int32) then (30 : Int32) else (31 : Int32))))))
def own_Q5 (x0 : Int32) (x1 : Int32) (h0 : Heap) (n0 : Nat) (v : Option Value) (h : Heap) (L : List Loc) : Prop := v = some (.int (own_f5 x0 x1)) ∧ Fr n0 L ∧ h = h0
abbrev own_R5 : Room := { frames := 0, cells := 0, slots := 0, locals := 0 }
theorem own_ef5 (m : MethodId) (z0 : Int32) (z1 : Int32) : entryFrame m #[(.int z0), (.int z1)] 3 = mkF m 0 #[.val (.int z0), .val (.int z1), .unset] [] := by first | (simp [entryFrame, mkF, argsToLocals, Value.category]; done) | rfl
set_option maxRecDepth 65536 in
set_option maxHeartbeats 40000000 in
theorem rm5 (l : Launch) (Z : State) (a0 : Array Value) (hw : ∀ d ∈ tables_1, d.before a0 Z = true) (ws : List Jvm.Cond) (x0 : Int32) (x1 : Int32) (h0 : Heap) (n0 : Nat) : own_Met l Z (⟨"com/example/kleio/kleio/RecordTimeIsRecordTimePinLaw", "daysOf", "(II)I"⟩ : MethodName) method_4_code 3 (some .int) ws own_R5 #[(.int x0), (.int x1)] h0 (own_Q5 x0 x1 h0 n0) := by
  refine own_met (plainFor_of_name own_pn0) ?_
  intro p e s m below meth c s₁ hx hby hml hown hnm hret hlk hZ e0 X0
  have N0 := Fr.nil n0
  have hml : c.maxLocals = 3 := hml
  have hown : s.vm.findClass "com/example/kleio/kleio/RecordTimeIsRecordTimePinLaw" = some m.cls := hown
  have hret : meth.sig.returnType = (some .int) := hret
  have hby : c.code = method_4_code := hby
  have hnm : meth.name = "daysOf" := hnm
  rw [own_ef5]
  show own_Goes p e below _ (s₁.setTop (mkF m 0 #[.val (.int x0), .val (.int x1), .unset] []))
  refine own_go (fun t k => XS.iloadN X0.here hx rfl (hb hby own_d5_0) rfl k) ?_
  show own_Goes p e below _ (s₁.setTop (mkF m 1 #[.val (.int x0), .val (.int x1), .unset] [(.int x1)]))
  refine own_go (fun t k => XS.sipush X0.here hx rfl (hb hby own_d5_1) k) ?_
  show own_Goes p e below _ (s₁.setTop (mkF m 4 #[.val (.int x0), .val (.int x1), .unset] [(.int (400 : Int32)), (.int x1)]))
  refine own_go (fun t k => iremM X0 hx rfl (hb hby own_d5_4) rfl (by decide) k) ?_
  show own_Goes p e below _ (s₁.setTop (mkF m 5 #[.val (.int x0), .val (.int x1), .unset] [(.int (x1 % (400 : Int32)))]))
  suffices HH11 : own_Goes p e below (own_End s own_R5 (own_Q5 x0 x1 h0 n0)) (s₁.setTop (mkF m 26 #[.val (.int x0), .val (.int x1), .unset] [(.int (own_j5_1 x1))])) by
    by_cases hc8 : (x1 % (400 : Int32)) = (0 : Int32)
    · refine own_go (fun t k => XS.ifYes X0.here hx rfl (pc0 := 5) (pc' := 21) rfl (hb hby own_d5_5) rfl ((if0 _ _).trans (teq hc8).1) (by decide) (by decide) k) ?_
      show own_Goes p e below _ (s₁.setTop (mkF m 21 #[.val (.int x0), .val (.int x1), .unset] []))
      refine own_go (fun t k => XS.iconst X0.here hx rfl (hb hby own_d5_21) k) ?_
      show own_Goes p e below _ (s₁.setTop (mkF m 22 #[.val (.int x0), .val (.int x1), .unset] [(.int (1 : Int32))]))
      refine own_go (fun t k => XS.goto X0.here hx rfl (pc0 := 22) (pc' := 26) rfl (hb hby own_d5_22) (by decide) (by decide) k) ?_
      rw [show (own_j5_1 x1) = (1 : Int32) from by rw [own_j5_1, if_pos hc8]] at HH11
      exact HH11
    · refine own_go (fun t k => XS.ifNo X0.here hx rfl (hb hby own_d5_5) rfl ((if0 _ _).trans (feq hc8).1) k) ?_
      show own_Goes p e below _ (s₁.setTop (mkF m 8 #[.val (.int x0), .val (.int x1), .unset] []))
      refine own_go (fun t k => XS.iloadN X0.here hx rfl (hb hby own_d5_8) rfl k) ?_
      show own_Goes p e below _ (s₁.setTop (mkF m 9 #[.val (.int x0), .val (.int x1), .unset] [(.int x1)]))
      refine own_go (fun t k => XS.iconst X0.here hx rfl (hb hby own_d5_9) k) ?_
      show own_Goes p e below _ (s₁.setTop (mkF m 10 #[.val (.int x0), .val (.int x1), .unset] [(.int (4 : Int32)), (.int x1)]))
      refine own_go (fun t k => iremM X0 hx rfl (hb hby own_d5_10) rfl (by decide) k) ?_
      show own_Goes p e below _ (s₁.setTop (mkF m 11 #[.val (.int x0), .val (.int x1), .unset] [(.int (x1 % (4 : Int32)))]))
      by_cases hc9 : (x1 % (4 : Int32)) = (0 : Int32)
      · refine own_go (fun t k => XS.ifNo X0.here hx rfl (hb hby own_d5_11) rfl ((if0 _ _).trans (teq hc9).2) k) ?_
        show own_Goes p e below _ (s₁.setTop (mkF m 14 #[.val (.int x0), .val (.int x1), .unset] []))
        refine own_go (fun t k => XS.iloadN X0.here hx rfl (hb hby own_d5_14) rfl k) ?_
        show own_Goes p e below _ (s₁.setTop (mkF m 15 #[.val (.int x0), .val (.int x1), .unset] [(.int x1)]))
        refine own_go (fun t k => XS.bipush X0.here hx rfl (hb hby own_d5_15) k) ?_
        show own_Goes p e below _ (s₁.setTop (mkF m 17 #[.val (.int x0), .val (.int x1), .unset] [(.int (100 : Int32)), (.int x1)]))
        refine own_go (fun t k => iremM X0 hx rfl (hb hby own_d5_17) rfl (by decide) k) ?_
        show own_Goes p e below _ (s₁.setTop (mkF m 18 #[.val (.int x0), .val (.int x1), .unset] [(.int (x1 % (100 : Int32)))]))
        by_cases hc10 : (x1 % (100 : Int32)) = (0 : Int32)
        · refine own_go (fun t k => XS.ifYes X0.here hx rfl (pc0 := 18) (pc' := 25) rfl (hb hby own_d5_18) rfl ((if0 _ _).trans (teq hc10).1) (by decide) (by decide) k) ?_
          show own_Goes p e below _ (s₁.setTop (mkF m 25 #[.val (.int x0), .val (.int x1), .unset] []))
          refine own_go (fun t k => XS.iconst X0.here hx rfl (hb hby own_d5_25) k) ?_
          rw [show (own_j5_1 x1) = (0 : Int32) from by rw [own_j5_1, if_neg hc8, if_pos hc9, if_pos hc10]] at HH11
          exact HH11
        · refine own_go (fun t k => XS.ifNo X0.here hx rfl (hb hby own_d5_18) rfl ((if0 _ _).trans (feq hc10).1) k) ?_
          show own_Goes p e below _ (s₁.setTop (mkF m 21 #[.val (.int x0), .val (.int x1), .unset] []))
          refine own_go (fun t k => XS.iconst X0.here hx rfl (hb hby own_d5_21) k) ?_
          show own_Goes p e below _ (s₁.setTop (mkF m 22 #[.val (.int x0), .val (.int x1), .unset] [(.int (1 : Int32))]))
          refine own_go (fun t k => XS.goto X0.here hx rfl (pc0 := 22) (pc' := 26) rfl (hb hby own_d5_22) (by decide) (by decide) k) ?_
          rw [show (own_j5_1 x1) = (1 : Int32) from by rw [own_j5_1, if_neg hc8, if_pos hc9, if_neg hc10]] at HH11
          exact HH11
      · refine own_go (fun t k => XS.ifYes X0.here hx rfl (pc0 := 11) (pc' := 25) rfl (hb hby own_d5_11) rfl ((if0 _ _).trans (feq hc9).2) (by decide) (by decide) k) ?_
        show own_Goes p e below _ (s₁.setTop (mkF m 25 #[.val (.int x0), .val (.int x1), .unset] []))
        refine own_go (fun t k => XS.iconst X0.here hx rfl (hb hby own_d5_25) k) ?_
        rw [show (own_j5_1 x1) = (0 : Int32) from by rw [own_j5_1, if_neg hc8, if_neg hc9]] at HH11
        exact HH11
  show own_Goes p e below _ (s₁.setTop (mkF m 26 #[.val (.int x0), .val (.int x1), .unset] [(.int (own_j5_1 x1))]))
  refine own_go (fun t k => XS.istoreN X0.here hx rfl (hb hby own_d5_26) rfl (l' := #[.val (.int x0), .val (.int x1), .val (.int (own_j5_1 x1))]) rfl k) ?_
  show own_Goes p e below _ (s₁.setTop (mkF m 27 #[.val (.int x0), .val (.int x1), .val (.int (own_j5_1 x1))] []))
  refine own_go (fun t k => XS.iloadN X0.here hx rfl (hb hby own_d5_27) rfl k) ?_
  show own_Goes p e below _ (s₁.setTop (mkF m 28 #[.val (.int x0), .val (.int x1), .val (.int (own_j5_1 x1))] [(.int x0)]))
  refine own_go (fun t k => XS.iconst X0.here hx rfl (hb hby own_d5_28) k) ?_
  show own_Goes p e below _ (s₁.setTop (mkF m 29 #[.val (.int x0), .val (.int x1), .val (.int (own_j5_1 x1))] [(.int (2 : Int32)), (.int x0)]))
  by_cases hc12 : x0 = (2 : Int32)
  · refine own_go (fun t k => XS.icmpNo X0.here hx rfl (hb hby own_d5_29) rfl (teq hc12).2 k) ?_
    show own_Goes p e below _ (s₁.setTop (mkF m 32 #[.val (.int x0), .val (.int x1), .val (.int (own_j5_1 x1))] []))
    refine own_go (fun t k => XS.iloadN X0.here hx rfl (hb hby own_d5_32) rfl k) ?_
    show own_Goes p e below _ (s₁.setTop (mkF m 33 #[.val (.int x0), .val (.int x1), .val (.int (own_j5_1 x1))] [(.int (own_j5_1 x1))]))
    suffices HH14 : own_Goes p e below (own_End s own_R5 (own_Q5 x0 x1 h0 n0)) (s₁.setTop (mkF m 43 #[.val (.int x0), .val (.int x1), .val (.int (own_j5_1 x1))] [(.int (own_j5_2 x1))])) by
      by_cases hc13 : (own_j5_1 x1) = (0 : Int32)
      · refine own_go (fun t k => XS.ifYes X0.here hx rfl (pc0 := 33) (pc' := 41) rfl (hb hby own_d5_33) rfl ((if0 _ _).trans (teq hc13).1) (by decide) (by decide) k) ?_
        show own_Goes p e below _ (s₁.setTop (mkF m 41 #[.val (.int x0), .val (.int x1), .val (.int (own_j5_1 x1))] []))
        refine own_go (fun t k => XS.bipush X0.here hx rfl (hb hby own_d5_41) k) ?_
        rw [show (own_j5_2 x1) = (28 : Int32) from by rw [own_j5_2, if_pos hc13]] at HH14
        exact HH14
      · refine own_go (fun t k => XS.ifNo X0.here hx rfl (hb hby own_d5_33) rfl ((if0 _ _).trans (feq hc13).1) k) ?_
        show own_Goes p e below _ (s₁.setTop (mkF m 36 #[.val (.int x0), .val (.int x1), .val (.int (own_j5_1 x1))] []))
        refine own_go (fun t k => XS.bipush X0.here hx rfl (hb hby own_d5_36) k) ?_
        show own_Goes p e below _ (s₁.setTop (mkF m 38 #[.val (.int x0), .val (.int x1), .val (.int (own_j5_1 x1))] [(.int (29 : Int32))]))
        refine own_go (fun t k => XS.goto X0.here hx rfl (pc0 := 38) (pc' := 43) rfl (hb hby own_d5_38) (by decide) (by decide) k) ?_
        rw [show (own_j5_2 x1) = (29 : Int32) from by rw [own_j5_2, if_neg hc13]] at HH14
        exact HH14
    show own_Goes p e below _ (s₁.setTop (mkF m 43 #[.val (.int x0), .val (.int x1), .val (.int (own_j5_1 x1))] [(.int (own_j5_2 x1))]))
    exact own_retI X0 hx hlk hret (hb hby own_d5_43) (by decide) (by decide) ⟨by rw [own_f5, if_pos hc12], N0, e0⟩
  · refine own_go (fun t k => XS.icmpYes X0.here hx rfl (pc0 := 29) (pc' := 44) rfl (hb hby own_d5_29) rfl (feq hc12).2 (by decide) (by decide) k) ?_
    show own_Goes p e below _ (s₁.setTop (mkF m 44 #[.val (.int x0), .val (.int x1), .val (.int (own_j5_1 x1))] []))
    refine own_go (fun t k => XS.iloadN X0.here hx rfl (hb hby own_d5_44) rfl k) ?_
    show own_Goes p e below _ (s₁.setTop (mkF m 45 #[.val (.int x0), .val (.int x1), .val (.int (own_j5_1 x1))] [(.int x0)]))
    refine own_go (fun t k => XS.iconst X0.here hx rfl (hb hby own_d5_45) k) ?_
    show own_Goes p e below _ (s₁.setTop (mkF m 46 #[.val (.int x0), .val (.int x1), .val (.int (own_j5_1 x1))] [(.int (4 : Int32)), (.int x0)]))
    by_cases hc15 : x0 = (4 : Int32)
    · refine own_go (fun t k => XS.icmpYes X0.here hx rfl (pc0 := 46) (pc' := 67) rfl (hb hby own_d5_46) rfl (teq hc15).1 (by decide) (by decide) k) ?_
      show own_Goes p e below _ (s₁.setTop (mkF m 67 #[.val (.int x0), .val (.int x1), .val (.int (own_j5_1 x1))] []))
      refine own_go (fun t k => XS.bipush X0.here hx rfl (hb hby own_d5_67) k) ?_
      show own_Goes p e below _ (s₁.setTop (mkF m 69 #[.val (.int x0), .val (.int x1), .val (.int (own_j5_1 x1))] [(.int (30 : Int32))]))
      exact own_retI X0 hx hlk hret (hb hby own_d5_69) (by decide) (by decide) ⟨by rw [own_f5, if_neg hc12, if_pos hc15], N0, e0⟩
    · refine own_go (fun t k => XS.icmpNo X0.here hx rfl (hb hby own_d5_46) rfl (feq hc15).1 k) ?_
      show own_Goes p e below _ (s₁.setTop (mkF m 49 #[.val (.int x0), .val (.int x1), .val (.int (own_j5_1 x1))] []))
      refine own_go (fun t k => XS.iloadN X0.here hx rfl (hb hby own_d5_49) rfl k) ?_
      show own_Goes p e below _ (s₁.setTop (mkF m 50 #[.val (.int x0), .val (.int x1), .val (.int (own_j5_1 x1))] [(.int x0)]))
      refine own_go (fun t k => XS.bipush X0.here hx rfl (hb hby own_d5_50) k) ?_
      show own_Goes p e below _ (s₁.setTop (mkF m 52 #[.val (.int x0), .val (.int x1), .val (.int (own_j5_1 x1))] [(.int (6 : Int32)), (.int x0)]))
      by_cases hc16 : x0 = (6 : Int32)
      · refine own_go (fun t k => XS.icmpYes X0.here hx rfl (pc0 := 52) (pc' := 67) rfl (hb hby own_d5_52) rfl (teq hc16).1 (by decide) (by decide) k) ?_
        show own_Goes p e below _ (s₁.setTop (mkF m 67 #[.val (.int x0), .val (.int x1), .val (.int (own_j5_1 x1))] []))
        refine own_go (fun t k => XS.bipush X0.here hx rfl (hb hby own_d5_67) k) ?_
        show own_Goes p e below _ (s₁.setTop (mkF m 69 #[.val (.int x0), .val (.int x1), .val (.int (own_j5_1 x1))] [(.int (30 : Int32))]))
        exact own_retI X0 hx hlk hret (hb hby own_d5_69) (by decide) (by decide) ⟨by rw [own_f5, if_neg hc12, if_neg hc15, if_pos hc16], N0, e0⟩
      · refine own_go (fun t k => XS.icmpNo X0.here hx rfl (hb hby own_d5_52) rfl (feq hc16).1 k) ?_
        show own_Goes p e below _ (s₁.setTop (mkF m 55 #[.val (.int x0), .val (.int x1), .val (.int (own_j5_1 x1))] []))
        refine own_go (fun t k => XS.iloadN X0.here hx rfl (hb hby own_d5_55) rfl k) ?_
        show own_Goes p e below _ (s₁.setTop (mkF m 56 #[.val (.int x0), .val (.int x1), .val (.int (own_j5_1 x1))] [(.int x0)]))
        refine own_go (fun t k => XS.bipush X0.here hx rfl (hb hby own_d5_56) k) ?_
        show own_Goes p e below _ (s₁.setTop (mkF m 58 #[.val (.int x0), .val (.int x1), .val (.int (own_j5_1 x1))] [(.int (9 : Int32)), (.int x0)]))
        by_cases hc17 : x0 = (9 : Int32)
        · refine own_go (fun t k => XS.icmpYes X0.here hx rfl (pc0 := 58) (pc' := 67) rfl (hb hby own_d5_58) rfl (teq hc17).1 (by decide) (by decide) k) ?_
          show own_Goes p e below _ (s₁.setTop (mkF m 67 #[.val (.int x0), .val (.int x1), .val (.int (own_j5_1 x1))] []))
          refine own_go (fun t k => XS.bipush X0.here hx rfl (hb hby own_d5_67) k) ?_
          show own_Goes p e below _ (s₁.setTop (mkF m 69 #[.val (.int x0), .val (.int x1), .val (.int (own_j5_1 x1))] [(.int (30 : Int32))]))
          exact own_retI X0 hx hlk hret (hb hby own_d5_69) (by decide) (by decide) ⟨by rw [own_f5, if_neg hc12, if_neg hc15, if_neg hc16, if_pos hc17], N0, e0⟩
        · refine own_go (fun t k => XS.icmpNo X0.here hx rfl (hb hby own_d5_58) rfl (feq hc17).1 k) ?_
          show own_Goes p e below _ (s₁.setTop (mkF m 61 #[.val (.int x0), .val (.int x1), .val (.int (own_j5_1 x1))] []))
          refine own_go (fun t k => XS.iloadN X0.here hx rfl (hb hby own_d5_61) rfl k) ?_
          show own_Goes p e below _ (s₁.setTop (mkF m 62 #[.val (.int x0), .val (.int x1), .val (.int (own_j5_1 x1))] [(.int x0)]))
          refine own_go (fun t k => XS.bipush X0.here hx rfl (hb hby own_d5_62) k) ?_
          show own_Goes p e below _ (s₁.setTop (mkF m 64 #[.val (.int x0), .val (.int x1), .val (.int (own_j5_1 x1))] [(.int (11 : Int32)), (.int x0)]))
          by_cases hc18 : x0 = (11 : Int32)
          · refine own_go (fun t k => XS.icmpNo X0.here hx rfl (hb hby own_d5_64) rfl (teq hc18).2 k) ?_
            show own_Goes p e below _ (s₁.setTop (mkF m 67 #[.val (.int x0), .val (.int x1), .val (.int (own_j5_1 x1))] []))
            refine own_go (fun t k => XS.bipush X0.here hx rfl (hb hby own_d5_67) k) ?_
            show own_Goes p e below _ (s₁.setTop (mkF m 69 #[.val (.int x0), .val (.int x1), .val (.int (own_j5_1 x1))] [(.int (30 : Int32))]))
            exact own_retI X0 hx hlk hret (hb hby own_d5_69) (by decide) (by decide) ⟨by rw [own_f5, if_neg hc12, if_neg hc15, if_neg hc16, if_neg hc17, if_pos hc18], N0, e0⟩
          · refine own_go (fun t k => XS.icmpYes X0.here hx rfl (pc0 := 64) (pc' := 70) rfl (hb hby own_d5_64) rfl (feq hc18).2 (by decide) (by decide) k) ?_
            show own_Goes p e below _ (s₁.setTop (mkF m 70 #[.val (.int x0), .val (.int x1), .val (.int (own_j5_1 x1))] []))
            refine own_go (fun t k => XS.bipush X0.here hx rfl (hb hby own_d5_70) k) ?_
            show own_Goes p e below _ (s₁.setTop (mkF m 72 #[.val (.int x0), .val (.int x1), .val (.int (own_j5_1 x1))] [(.int (31 : Int32))]))
            exact own_retI X0 hx hlk hret (hb hby own_d5_72) (by decide) (by decide) ⟨by rw [own_f5, if_neg hc12, if_neg hc15, if_neg hc16, if_neg hc17, if_neg hc18], N0, e0⟩
theorem own_d6_0 : decode prog_25_method_6_code 0 = .ok (.iload_n 1, 1) := by decide +kernel
theorem own_d6_1 : decode prog_25_method_6_code 1 = .ok (.iconst 4, 1) := by decide +kernel
theorem own_d6_2 : decode prog_25_method_6_code 2 = .ok (.irem, 1) := by decide +kernel
theorem own_d6_3 : decode prog_25_method_6_code 3 = .ok (.ifCond .ne 22, 3) := by decide +kernel
theorem own_d6_6 : decode prog_25_method_6_code 6 = .ok (.iload_n 1, 1) := by decide +kernel
theorem own_d6_7 : decode prog_25_method_6_code 7 = .ok (.bipush 100, 2) := by decide +kernel
theorem own_d6_9 : decode prog_25_method_6_code 9 = .ok (.irem, 1) := by decide +kernel
theorem own_d6_10 : decode prog_25_method_6_code 10 = .ok (.ifCond .ne 11, 3) := by decide +kernel
theorem own_d6_13 : decode prog_25_method_6_code 13 = .ok (.iload_n 1, 1) := by decide +kernel
theorem own_d6_14 : decode prog_25_method_6_code 14 = .ok (.sipush 400, 3) := by decide +kernel
theorem own_d6_17 : decode prog_25_method_6_code 17 = .ok (.irem, 1) := by decide +kernel
theorem own_d6_18 : decode prog_25_method_6_code 18 = .ok (.ifCond .ne 7, 3) := by decide +kernel
theorem own_d6_21 : decode prog_25_method_6_code 21 = .ok (.iconst 1, 1) := by decide +kernel
theorem own_d6_22 : decode prog_25_method_6_code 22 = .ok (.goto 4, 3) := by decide +kernel
theorem own_d6_25 : decode prog_25_method_6_code 25 = .ok (.iconst 0, 1) := by decide +kernel
theorem own_d6_26 : decode prog_25_method_6_code 26 = .ok (.istore_n 2, 1) := by decide +kernel
theorem own_d6_27 : decode prog_25_method_6_code 27 = .ok (.iload_n 0, 1) := by decide +kernel
theorem own_d6_28 : decode prog_25_method_6_code 28 = .ok (.tableswitch 75 2 11 #[56, 75, 70, 75, 70, 75, 75, 70, 75, 70], 56) := by decide +kernel
theorem own_d6_84 : decode prog_25_method_6_code 84 = .ok (.iload_n 2, 1) := by decide +kernel
theorem own_d6_85 : decode prog_25_method_6_code 85 = .ok (.ifCond .eq 8, 3) := by decide +kernel
theorem own_d6_93 : decode prog_25_method_6_code 93 = .ok (.bipush 28, 2) := by decide +kernel
theorem own_d6_95 : decode prog_25_method_6_code 95 = .ok (.goto 10, 3) := by decide +kernel
theorem own_d6_88 : decode prog_25_method_6_code 88 = .ok (.bipush 29, 2) := by decide +kernel
theorem own_d6_90 : decode prog_25_method_6_code 90 = .ok (.goto 15, 3) := by decide +kernel
theorem own_d6_103 : decode prog_25_method_6_code 103 = .ok (.bipush 31, 2) := by decide +kernel
theorem own_d6_98 : decode prog_25_method_6_code 98 = .ok (.bipush 30, 2) := by decide +kernel
theorem own_d6_100 : decode prog_25_method_6_code 100 = .ok (.goto 5, 3) := by decide +kernel
theorem own_sw6_28 {x : Int32} (h2 : ¬ x = (2 : Int32)) (h3 : ¬ x = (3 : Int32)) (h4 : ¬ x = (4 : Int32)) (h5 : ¬ x = (5 : Int32)) (h6 : ¬ x = (6 : Int32)) (h7 : ¬ x = (7 : Int32)) (h8 : ¬ x = (8 : Int32)) (h9 : ¬ x = (9 : Int32)) (h10 : ¬ x = (10 : Int32)) (h11 : ¬ x = (11 : Int32)) : x.toInt < 2 ∨ x.toInt > 11 := by
  simp only [← Int32.toInt_inj] at h2 h3 h4 h5 h6 h7 h8 h9 h10 h11
  rw [show (2 : Int32).toInt = 2 from rfl] at h2
  rw [show (3 : Int32).toInt = 3 from rfl] at h3
  rw [show (4 : Int32).toInt = 4 from rfl] at h4
  rw [show (5 : Int32).toInt = 5 from rfl] at h5
  rw [show (6 : Int32).toInt = 6 from rfl] at h6
  rw [show (7 : Int32).toInt = 7 from rfl] at h7
  rw [show (8 : Int32).toInt = 8 from rfl] at h8
  rw [show (9 : Int32).toInt = 9 from rfl] at h9
  rw [show (10 : Int32).toInt = 10 from rfl] at h10
  rw [show (11 : Int32).toInt = 11 from rfl] at h11
  omega
theorem own_pn1 : plainName "com/example/kleio/kleio/RecordTime" = true := by first | (simp [plainName, overriddenIn]; done) | decide +kernel
theorem own_d6_105 : decode prog_25_method_6_code 105 = .ok (.ireturn, 1) := by decide +kernel
def own_j6_1 (x1 : Int32) : Int32 := (if (x1 % (4 : Int32)) = (0 : Int32) then (if (x1 % (100 : Int32)) = (0 : Int32) then (if (x1 % (400 : Int32)) = (0 : Int32) then (1 : Int32) else (0 : Int32)) else (1 : Int32)) else (0 : Int32))
def own_j6_2 (x0 : Int32) (x1 : Int32) : Int32 := (if x0 = (2 : Int32) then (if (own_j6_1 x1) = (0 : Int32) then (28 : Int32) else (29 : Int32)) else (if x0 = (3 : Int32) then (31 : Int32) else (if x0 = (4 : Int32) then (30 : Int32) else (if x0 = (5 : Int32) then (31 : Int32) else (if x0 = (6 : Int32) then (30 : Int32) else (if x0 = (7 : Int32) then (31 : Int32) else (if x0 = (8 : Int32) then (31 : Int32) else (if x0 = (9 : Int32) then (30 : Int32) else (if x0 = (10 : Int32) then (31 : Int32) else (if x0 = (11 : Int32) then (30 : Int32) else (31 : Int32)))))))))))
def own_f6 (x0 : Int32) (x1 : Int32) : Int32 := (own_j6_2 x0 x1)
def own_Q6 (x0 : Int32) (x1 : Int32) (h0 : Heap) (n0 : Nat) (v : Option Value) (h : Heap) (L : List Loc) : Prop := v = some (.int (own_f6 x0 x1)) ∧ Fr n0 L ∧ h = h0
abbrev own_R6 : Room := { frames := 0, cells := 0, slots := 0, locals := 0 }
theorem own_ef6 (m : MethodId) (z0 : Int32) (z1 : Int32) : entryFrame m #[(.int z0), (.int z1)] 3 = mkF m 0 #[.val (.int z0), .val (.int z1), .unset] [] := by first | (simp [entryFrame, mkF, argsToLocals, Value.category]; done) | rfl
set_option maxRecDepth 65536 in
set_option maxHeartbeats 40000000 in
theorem rm6 (l : Launch) (Z : State) (a0 : Array Value) (hw : ∀ d ∈ tables_1, d.before a0 Z = true) (ws : List Jvm.Cond) (x0 : Int32) (x1 : Int32) (h0 : Heap) (n0 : Nat) : own_Met l Z (⟨"com/example/kleio/kleio/RecordTime", "daysIn", "(II)I"⟩ : MethodName) prog_25_method_6_code 3 (some .int) ws own_R6 #[(.int x0), (.int x1)] h0 (own_Q6 x0 x1 h0 n0) := by
  refine own_met (plainFor_of_name own_pn1) ?_
  intro p e s m below meth c s₁ hx hby hml hown hnm hret hlk hZ e0 X0
  have N0 := Fr.nil n0
  have hml : c.maxLocals = 3 := hml
  have hown : s.vm.findClass "com/example/kleio/kleio/RecordTime" = some m.cls := hown
  have hret : meth.sig.returnType = (some .int) := hret
  have hby : c.code = prog_25_method_6_code := hby
  have hnm : meth.name = "daysIn" := hnm
  rw [own_ef6]
  show own_Goes p e below _ (s₁.setTop (mkF m 0 #[.val (.int x0), .val (.int x1), .unset] []))
  refine own_go (fun t k => XS.iloadN X0.here hx rfl (hb hby own_d6_0) rfl k) ?_
  show own_Goes p e below _ (s₁.setTop (mkF m 1 #[.val (.int x0), .val (.int x1), .unset] [(.int x1)]))
  refine own_go (fun t k => XS.iconst X0.here hx rfl (hb hby own_d6_1) k) ?_
  show own_Goes p e below _ (s₁.setTop (mkF m 2 #[.val (.int x0), .val (.int x1), .unset] [(.int (4 : Int32)), (.int x1)]))
  refine own_go (fun t k => iremM X0 hx rfl (hb hby own_d6_2) rfl (by decide) k) ?_
  show own_Goes p e below _ (s₁.setTop (mkF m 3 #[.val (.int x0), .val (.int x1), .unset] [(.int (x1 % (4 : Int32)))]))
  suffices HH22 : own_Goes p e below (own_End s own_R6 (own_Q6 x0 x1 h0 n0)) (s₁.setTop (mkF m 26 #[.val (.int x0), .val (.int x1), .unset] [(.int (own_j6_1 x1))])) by
    by_cases hc19 : (x1 % (4 : Int32)) = (0 : Int32)
    · refine own_go (fun t k => XS.ifNo X0.here hx rfl (hb hby own_d6_3) rfl ((if0 _ _).trans (teq hc19).2) k) ?_
      show own_Goes p e below _ (s₁.setTop (mkF m 6 #[.val (.int x0), .val (.int x1), .unset] []))
      refine own_go (fun t k => XS.iloadN X0.here hx rfl (hb hby own_d6_6) rfl k) ?_
      show own_Goes p e below _ (s₁.setTop (mkF m 7 #[.val (.int x0), .val (.int x1), .unset] [(.int x1)]))
      refine own_go (fun t k => XS.bipush X0.here hx rfl (hb hby own_d6_7) k) ?_
      show own_Goes p e below _ (s₁.setTop (mkF m 9 #[.val (.int x0), .val (.int x1), .unset] [(.int (100 : Int32)), (.int x1)]))
      refine own_go (fun t k => iremM X0 hx rfl (hb hby own_d6_9) rfl (by decide) k) ?_
      show own_Goes p e below _ (s₁.setTop (mkF m 10 #[.val (.int x0), .val (.int x1), .unset] [(.int (x1 % (100 : Int32)))]))
      by_cases hc20 : (x1 % (100 : Int32)) = (0 : Int32)
      · refine own_go (fun t k => XS.ifNo X0.here hx rfl (hb hby own_d6_10) rfl ((if0 _ _).trans (teq hc20).2) k) ?_
        show own_Goes p e below _ (s₁.setTop (mkF m 13 #[.val (.int x0), .val (.int x1), .unset] []))
        refine own_go (fun t k => XS.iloadN X0.here hx rfl (hb hby own_d6_13) rfl k) ?_
        show own_Goes p e below _ (s₁.setTop (mkF m 14 #[.val (.int x0), .val (.int x1), .unset] [(.int x1)]))
        refine own_go (fun t k => XS.sipush X0.here hx rfl (hb hby own_d6_14) k) ?_
        show own_Goes p e below _ (s₁.setTop (mkF m 17 #[.val (.int x0), .val (.int x1), .unset] [(.int (400 : Int32)), (.int x1)]))
        refine own_go (fun t k => iremM X0 hx rfl (hb hby own_d6_17) rfl (by decide) k) ?_
        show own_Goes p e below _ (s₁.setTop (mkF m 18 #[.val (.int x0), .val (.int x1), .unset] [(.int (x1 % (400 : Int32)))]))
        by_cases hc21 : (x1 % (400 : Int32)) = (0 : Int32)
        · refine own_go (fun t k => XS.ifNo X0.here hx rfl (hb hby own_d6_18) rfl ((if0 _ _).trans (teq hc21).2) k) ?_
          show own_Goes p e below _ (s₁.setTop (mkF m 21 #[.val (.int x0), .val (.int x1), .unset] []))
          refine own_go (fun t k => XS.iconst X0.here hx rfl (hb hby own_d6_21) k) ?_
          show own_Goes p e below _ (s₁.setTop (mkF m 22 #[.val (.int x0), .val (.int x1), .unset] [(.int (1 : Int32))]))
          refine own_go (fun t k => XS.goto X0.here hx rfl (pc0 := 22) (pc' := 26) rfl (hb hby own_d6_22) (by decide) (by decide) k) ?_
          rw [show (own_j6_1 x1) = (1 : Int32) from by rw [own_j6_1, if_pos hc19, if_pos hc20, if_pos hc21]] at HH22
          exact HH22
        · refine own_go (fun t k => XS.ifYes X0.here hx rfl (pc0 := 18) (pc' := 25) rfl (hb hby own_d6_18) rfl ((if0 _ _).trans (feq hc21).2) (by decide) (by decide) k) ?_
          show own_Goes p e below _ (s₁.setTop (mkF m 25 #[.val (.int x0), .val (.int x1), .unset] []))
          refine own_go (fun t k => XS.iconst X0.here hx rfl (hb hby own_d6_25) k) ?_
          rw [show (own_j6_1 x1) = (0 : Int32) from by rw [own_j6_1, if_pos hc19, if_pos hc20, if_neg hc21]] at HH22
          exact HH22
      · refine own_go (fun t k => XS.ifYes X0.here hx rfl (pc0 := 10) (pc' := 21) rfl (hb hby own_d6_10) rfl ((if0 _ _).trans (feq hc20).2) (by decide) (by decide) k) ?_
        show own_Goes p e below _ (s₁.setTop (mkF m 21 #[.val (.int x0), .val (.int x1), .unset] []))
        refine own_go (fun t k => XS.iconst X0.here hx rfl (hb hby own_d6_21) k) ?_
        show own_Goes p e below _ (s₁.setTop (mkF m 22 #[.val (.int x0), .val (.int x1), .unset] [(.int (1 : Int32))]))
        refine own_go (fun t k => XS.goto X0.here hx rfl (pc0 := 22) (pc' := 26) rfl (hb hby own_d6_22) (by decide) (by decide) k) ?_
        rw [show (own_j6_1 x1) = (1 : Int32) from by rw [own_j6_1, if_pos hc19, if_neg hc20]] at HH22
        exact HH22
    · refine own_go (fun t k => XS.ifYes X0.here hx rfl (pc0 := 3) (pc' := 25) rfl (hb hby own_d6_3) rfl ((if0 _ _).trans (feq hc19).2) (by decide) (by decide) k) ?_
      show own_Goes p e below _ (s₁.setTop (mkF m 25 #[.val (.int x0), .val (.int x1), .unset] []))
      refine own_go (fun t k => XS.iconst X0.here hx rfl (hb hby own_d6_25) k) ?_
      rw [show (own_j6_1 x1) = (0 : Int32) from by rw [own_j6_1, if_neg hc19]] at HH22
      exact HH22
  show own_Goes p e below _ (s₁.setTop (mkF m 26 #[.val (.int x0), .val (.int x1), .unset] [(.int (own_j6_1 x1))]))
  refine own_go (fun t k => XS.istoreN X0.here hx rfl (hb hby own_d6_26) rfl (l' := #[.val (.int x0), .val (.int x1), .val (.int (own_j6_1 x1))]) rfl k) ?_
  show own_Goes p e below _ (s₁.setTop (mkF m 27 #[.val (.int x0), .val (.int x1), .val (.int (own_j6_1 x1))] []))
  refine own_go (fun t k => XS.iloadN X0.here hx rfl (hb hby own_d6_27) rfl k) ?_
  show own_Goes p e below _ (s₁.setTop (mkF m 28 #[.val (.int x0), .val (.int x1), .val (.int (own_j6_1 x1))] [(.int x0)]))
  suffices HH34 : own_Goes p e below (own_End s own_R6 (own_Q6 x0 x1 h0 n0)) (s₁.setTop (mkF m 105 #[.val (.int x0), .val (.int x1), .val (.int (own_j6_1 x1))] [(.int (own_j6_2 x0 x1))])) by
    by_cases hc23 : x0 = (2 : Int32)
    · refine own_go (fun t k => XS.tswIn X0.here hx rfl (pc0 := 28) (pc' := 84) (o := 56) rfl (hb hby own_d6_28) rfl (by rw [hc23]; decide) (by rw [hc23]; decide) (by decide) (by decide) k) ?_
      show own_Goes p e below _ (s₁.setTop (mkF m 84 #[.val (.int x0), .val (.int x1), .val (.int (own_j6_1 x1))] []))
      refine own_go (fun t k => XS.iloadN X0.here hx rfl (hb hby own_d6_84) rfl k) ?_
      show own_Goes p e below _ (s₁.setTop (mkF m 85 #[.val (.int x0), .val (.int x1), .val (.int (own_j6_1 x1))] [(.int (own_j6_1 x1))]))
      by_cases hc24 : (own_j6_1 x1) = (0 : Int32)
      · refine own_go (fun t k => XS.ifYes X0.here hx rfl (pc0 := 85) (pc' := 93) rfl (hb hby own_d6_85) rfl ((if0 _ _).trans (teq hc24).1) (by decide) (by decide) k) ?_
        show own_Goes p e below _ (s₁.setTop (mkF m 93 #[.val (.int x0), .val (.int x1), .val (.int (own_j6_1 x1))] []))
        refine own_go (fun t k => XS.bipush X0.here hx rfl (hb hby own_d6_93) k) ?_
        show own_Goes p e below _ (s₁.setTop (mkF m 95 #[.val (.int x0), .val (.int x1), .val (.int (own_j6_1 x1))] [(.int (28 : Int32))]))
        refine own_go (fun t k => XS.goto X0.here hx rfl (pc0 := 95) (pc' := 105) rfl (hb hby own_d6_95) (by decide) (by decide) k) ?_
        rw [show (own_j6_2 x0 x1) = (28 : Int32) from by rw [own_j6_2, if_pos hc23, if_pos hc24]] at HH34
        exact HH34
      · refine own_go (fun t k => XS.ifNo X0.here hx rfl (hb hby own_d6_85) rfl ((if0 _ _).trans (feq hc24).1) k) ?_
        show own_Goes p e below _ (s₁.setTop (mkF m 88 #[.val (.int x0), .val (.int x1), .val (.int (own_j6_1 x1))] []))
        refine own_go (fun t k => XS.bipush X0.here hx rfl (hb hby own_d6_88) k) ?_
        show own_Goes p e below _ (s₁.setTop (mkF m 90 #[.val (.int x0), .val (.int x1), .val (.int (own_j6_1 x1))] [(.int (29 : Int32))]))
        refine own_go (fun t k => XS.goto X0.here hx rfl (pc0 := 90) (pc' := 105) rfl (hb hby own_d6_90) (by decide) (by decide) k) ?_
        rw [show (own_j6_2 x0 x1) = (29 : Int32) from by rw [own_j6_2, if_pos hc23, if_neg hc24]] at HH34
        exact HH34
    · by_cases hc25 : x0 = (3 : Int32)
      · refine own_go (fun t k => XS.tswIn X0.here hx rfl (pc0 := 28) (pc' := 103) (o := 75) rfl (hb hby own_d6_28) rfl (by rw [hc25]; decide) (by rw [hc25]; decide) (by decide) (by decide) k) ?_
        show own_Goes p e below _ (s₁.setTop (mkF m 103 #[.val (.int x0), .val (.int x1), .val (.int (own_j6_1 x1))] []))
        refine own_go (fun t k => XS.bipush X0.here hx rfl (hb hby own_d6_103) k) ?_
        rw [show (own_j6_2 x0 x1) = (31 : Int32) from by rw [own_j6_2, if_neg hc23, if_pos hc25]] at HH34
        exact HH34
      · by_cases hc26 : x0 = (4 : Int32)
        · refine own_go (fun t k => XS.tswIn X0.here hx rfl (pc0 := 28) (pc' := 98) (o := 70) rfl (hb hby own_d6_28) rfl (by rw [hc26]; decide) (by rw [hc26]; decide) (by decide) (by decide) k) ?_
          show own_Goes p e below _ (s₁.setTop (mkF m 98 #[.val (.int x0), .val (.int x1), .val (.int (own_j6_1 x1))] []))
          refine own_go (fun t k => XS.bipush X0.here hx rfl (hb hby own_d6_98) k) ?_
          show own_Goes p e below _ (s₁.setTop (mkF m 100 #[.val (.int x0), .val (.int x1), .val (.int (own_j6_1 x1))] [(.int (30 : Int32))]))
          refine own_go (fun t k => XS.goto X0.here hx rfl (pc0 := 100) (pc' := 105) rfl (hb hby own_d6_100) (by decide) (by decide) k) ?_
          rw [show (own_j6_2 x0 x1) = (30 : Int32) from by rw [own_j6_2, if_neg hc23, if_neg hc25, if_pos hc26]] at HH34
          exact HH34
        · by_cases hc27 : x0 = (5 : Int32)
          · refine own_go (fun t k => XS.tswIn X0.here hx rfl (pc0 := 28) (pc' := 103) (o := 75) rfl (hb hby own_d6_28) rfl (by rw [hc27]; decide) (by rw [hc27]; decide) (by decide) (by decide) k) ?_
            show own_Goes p e below _ (s₁.setTop (mkF m 103 #[.val (.int x0), .val (.int x1), .val (.int (own_j6_1 x1))] []))
            refine own_go (fun t k => XS.bipush X0.here hx rfl (hb hby own_d6_103) k) ?_
            rw [show (own_j6_2 x0 x1) = (31 : Int32) from by rw [own_j6_2, if_neg hc23, if_neg hc25, if_neg hc26, if_pos hc27]] at HH34
            exact HH34
          · by_cases hc28 : x0 = (6 : Int32)
            · refine own_go (fun t k => XS.tswIn X0.here hx rfl (pc0 := 28) (pc' := 98) (o := 70) rfl (hb hby own_d6_28) rfl (by rw [hc28]; decide) (by rw [hc28]; decide) (by decide) (by decide) k) ?_
              show own_Goes p e below _ (s₁.setTop (mkF m 98 #[.val (.int x0), .val (.int x1), .val (.int (own_j6_1 x1))] []))
              refine own_go (fun t k => XS.bipush X0.here hx rfl (hb hby own_d6_98) k) ?_
              show own_Goes p e below _ (s₁.setTop (mkF m 100 #[.val (.int x0), .val (.int x1), .val (.int (own_j6_1 x1))] [(.int (30 : Int32))]))
              refine own_go (fun t k => XS.goto X0.here hx rfl (pc0 := 100) (pc' := 105) rfl (hb hby own_d6_100) (by decide) (by decide) k) ?_
              rw [show (own_j6_2 x0 x1) = (30 : Int32) from by rw [own_j6_2, if_neg hc23, if_neg hc25, if_neg hc26, if_neg hc27, if_pos hc28]] at HH34
              exact HH34
            · by_cases hc29 : x0 = (7 : Int32)
              · refine own_go (fun t k => XS.tswIn X0.here hx rfl (pc0 := 28) (pc' := 103) (o := 75) rfl (hb hby own_d6_28) rfl (by rw [hc29]; decide) (by rw [hc29]; decide) (by decide) (by decide) k) ?_
                show own_Goes p e below _ (s₁.setTop (mkF m 103 #[.val (.int x0), .val (.int x1), .val (.int (own_j6_1 x1))] []))
                refine own_go (fun t k => XS.bipush X0.here hx rfl (hb hby own_d6_103) k) ?_
                rw [show (own_j6_2 x0 x1) = (31 : Int32) from by rw [own_j6_2, if_neg hc23, if_neg hc25, if_neg hc26, if_neg hc27, if_neg hc28, if_pos hc29]] at HH34
                exact HH34
              · by_cases hc30 : x0 = (8 : Int32)
                · refine own_go (fun t k => XS.tswIn X0.here hx rfl (pc0 := 28) (pc' := 103) (o := 75) rfl (hb hby own_d6_28) rfl (by rw [hc30]; decide) (by rw [hc30]; decide) (by decide) (by decide) k) ?_
                  show own_Goes p e below _ (s₁.setTop (mkF m 103 #[.val (.int x0), .val (.int x1), .val (.int (own_j6_1 x1))] []))
                  refine own_go (fun t k => XS.bipush X0.here hx rfl (hb hby own_d6_103) k) ?_
                  rw [show (own_j6_2 x0 x1) = (31 : Int32) from by rw [own_j6_2, if_neg hc23, if_neg hc25, if_neg hc26, if_neg hc27, if_neg hc28, if_neg hc29, if_pos hc30]] at HH34
                  exact HH34
                · by_cases hc31 : x0 = (9 : Int32)
                  · refine own_go (fun t k => XS.tswIn X0.here hx rfl (pc0 := 28) (pc' := 98) (o := 70) rfl (hb hby own_d6_28) rfl (by rw [hc31]; decide) (by rw [hc31]; decide) (by decide) (by decide) k) ?_
                    show own_Goes p e below _ (s₁.setTop (mkF m 98 #[.val (.int x0), .val (.int x1), .val (.int (own_j6_1 x1))] []))
                    refine own_go (fun t k => XS.bipush X0.here hx rfl (hb hby own_d6_98) k) ?_
                    show own_Goes p e below _ (s₁.setTop (mkF m 100 #[.val (.int x0), .val (.int x1), .val (.int (own_j6_1 x1))] [(.int (30 : Int32))]))
                    refine own_go (fun t k => XS.goto X0.here hx rfl (pc0 := 100) (pc' := 105) rfl (hb hby own_d6_100) (by decide) (by decide) k) ?_
                    rw [show (own_j6_2 x0 x1) = (30 : Int32) from by rw [own_j6_2, if_neg hc23, if_neg hc25, if_neg hc26, if_neg hc27, if_neg hc28, if_neg hc29, if_neg hc30, if_pos hc31]] at HH34
                    exact HH34
                  · by_cases hc32 : x0 = (10 : Int32)
                    · refine own_go (fun t k => XS.tswIn X0.here hx rfl (pc0 := 28) (pc' := 103) (o := 75) rfl (hb hby own_d6_28) rfl (by rw [hc32]; decide) (by rw [hc32]; decide) (by decide) (by decide) k) ?_
                      show own_Goes p e below _ (s₁.setTop (mkF m 103 #[.val (.int x0), .val (.int x1), .val (.int (own_j6_1 x1))] []))
                      refine own_go (fun t k => XS.bipush X0.here hx rfl (hb hby own_d6_103) k) ?_
                      rw [show (own_j6_2 x0 x1) = (31 : Int32) from by rw [own_j6_2, if_neg hc23, if_neg hc25, if_neg hc26, if_neg hc27, if_neg hc28, if_neg hc29, if_neg hc30, if_neg hc31, if_pos hc32]] at HH34
                      exact HH34
                    · by_cases hc33 : x0 = (11 : Int32)
                      · refine own_go (fun t k => XS.tswIn X0.here hx rfl (pc0 := 28) (pc' := 98) (o := 70) rfl (hb hby own_d6_28) rfl (by rw [hc33]; decide) (by rw [hc33]; decide) (by decide) (by decide) k) ?_
                        show own_Goes p e below _ (s₁.setTop (mkF m 98 #[.val (.int x0), .val (.int x1), .val (.int (own_j6_1 x1))] []))
                        refine own_go (fun t k => XS.bipush X0.here hx rfl (hb hby own_d6_98) k) ?_
                        show own_Goes p e below _ (s₁.setTop (mkF m 100 #[.val (.int x0), .val (.int x1), .val (.int (own_j6_1 x1))] [(.int (30 : Int32))]))
                        refine own_go (fun t k => XS.goto X0.here hx rfl (pc0 := 100) (pc' := 105) rfl (hb hby own_d6_100) (by decide) (by decide) k) ?_
                        rw [show (own_j6_2 x0 x1) = (30 : Int32) from by rw [own_j6_2, if_neg hc23, if_neg hc25, if_neg hc26, if_neg hc27, if_neg hc28, if_neg hc29, if_neg hc30, if_neg hc31, if_neg hc32, if_pos hc33]] at HH34
                        exact HH34
                      · refine own_go (fun t k => XS.tswOut X0.here hx rfl (pc0 := 28) (pc' := 103) rfl (hb hby own_d6_28) rfl (own_sw6_28 hc23 hc25 hc26 hc27 hc28 hc29 hc30 hc31 hc32 hc33) (by decide) (by decide) k) ?_
                        show own_Goes p e below _ (s₁.setTop (mkF m 103 #[.val (.int x0), .val (.int x1), .val (.int (own_j6_1 x1))] []))
                        refine own_go (fun t k => XS.bipush X0.here hx rfl (hb hby own_d6_103) k) ?_
                        rw [show (own_j6_2 x0 x1) = (31 : Int32) from by rw [own_j6_2, if_neg hc23, if_neg hc25, if_neg hc26, if_neg hc27, if_neg hc28, if_neg hc29, if_neg hc30, if_neg hc31, if_neg hc32, if_neg hc33]] at HH34
                        exact HH34
  show own_Goes p e below _ (s₁.setTop (mkF m 105 #[.val (.int x0), .val (.int x1), .val (.int (own_j6_1 x1))] [(.int (own_j6_2 x0 x1))]))
  exact own_retI X0 hx hlk hret (hb hby own_d6_105) (by decide) (by decide) ⟨by rw [own_f6], N0, e0⟩
theorem own_d4_0 : decode prog_25_method_5_code 0 = .ok (.iconst 0, 1) := by decide +kernel
theorem own_d4_1 : decode prog_25_method_5_code 1 = .ok (.istore_n 3, 1) := by decide +kernel
theorem own_d4_2 : decode prog_25_method_5_code 2 = .ok (.iload_n 1, 1) := by decide +kernel
theorem own_d4_3 : decode prog_25_method_5_code 3 = .ok (.istore 4, 2) := by decide +kernel
theorem own_d4_5 : decode prog_25_method_5_code 5 = .ok (.iload 4, 2) := by decide +kernel
theorem own_d4_7 : decode prog_25_method_5_code 7 = .ok (.iload_n 1, 1) := by decide +kernel
theorem own_d4_8 : decode prog_25_method_5_code 8 = .ok (.iload_n 2, 1) := by decide +kernel
theorem own_d4_9 : decode prog_25_method_5_code 9 = .ok (.iadd, 1) := by decide +kernel
theorem own_d4_10 : decode prog_25_method_5_code 10 = .ok (.if_icmp .ge 22, 3) := by decide +kernel
theorem own_d4_13 : decode prog_25_method_5_code 13 = .ok (.iload_n 3, 1) := by decide +kernel
theorem own_d4_14 : decode prog_25_method_5_code 14 = .ok (.bipush 10, 2) := by decide +kernel
theorem own_d4_16 : decode prog_25_method_5_code 16 = .ok (.imul, 1) := by decide +kernel
theorem own_d4_17 : decode prog_25_method_5_code 17 = .ok (.aload_n 0, 1) := by decide +kernel
theorem own_d4_18 : decode prog_25_method_5_code 18 = .ok (.iload 4, 2) := by decide +kernel
theorem own_d4_20 : decode prog_25_method_5_code 20 = .ok (.caload, 1) := by decide +kernel
theorem own_d4_21 : decode prog_25_method_5_code 21 = .ok (.bipush 48, 2) := by decide +kernel
theorem own_d4_23 : decode prog_25_method_5_code 23 = .ok (.isub, 1) := by decide +kernel
theorem own_d4_24 : decode prog_25_method_5_code 24 = .ok (.iadd, 1) := by decide +kernel
theorem own_d4_25 : decode prog_25_method_5_code 25 = .ok (.istore_n 3, 1) := by decide +kernel
theorem own_d4_26 : decode prog_25_method_5_code 26 = .ok (.iinc 4 1, 3) := by decide +kernel
theorem own_d4_29 : decode prog_25_method_5_code 29 = .ok (.goto (-24), 3) := by decide +kernel
theorem own_d4_32 : decode prog_25_method_5_code 32 = .ok (.iload_n 3, 1) := by decide +kernel
theorem own_d4_33 : decode prog_25_method_5_code 33 = .ok (.ireturn, 1) := by decide +kernel
def own_f4_2 (x1 : Int32) (F : Int32 → Int32) : Int32 := (((((0 : Int32) * (10 : Int32)) + ((F x1) - (48 : Int32))) * (10 : Int32)) + ((F (x1 + (1 : Int32))) - (48 : Int32)))
def own_Q4_2 (r0 : Addr) (x1 : Int32) (F : Int32 → Int32) (h0 : Heap) (n0 : Nat) (v : Option Value) (h : Heap) (L : List Loc) : Prop := v = some (.int (own_f4_2 x1 F)) ∧ Fr n0 L ∧ h = h0
abbrev own_R4_2 : Room := { frames := 0, cells := 0, slots := 0, locals := 0 }
theorem own_ef4_2 (m : MethodId) (z0 : Addr) (z1 : Int32) : entryFrame m #[(.ref z0), (.int z1), (.int (2 : Int32))] 5 = mkF m 0 #[.val (.ref z0), .val (.int z1), .val (.int (2 : Int32)), .unset, .unset] [] := by first | (simp [entryFrame, mkF, argsToLocals, Value.category]; done) | rfl
set_option maxRecDepth 65536 in
set_option maxHeartbeats 40000000 in
theorem rm4_2 (l : Launch) (Z : State) (a0 : Array Value) (hw : ∀ d ∈ tables_1, d.before a0 Z = true) (ws : List Jvm.Cond) (r0 : Addr) (x1 : Int32) (F : Int32 → Int32) (cl_t : Cell) (h0 : Heap) (n0 : Nat) (A_t : Arr Z h0 r0 cl_t .char) (z_t : cl_t.slots.size = (32 : Int32).toNatClampNeg) (t_t : ∀ j : Int32, ¬ j < 0 → j < 32 → cl_t.slots[j.toNatClampNeg]? = some (.int (F j))) (hbx : 0 ≤ x1.toInt ∧ x1.toInt ≤ 28) : own_Met l Z (⟨"com/example/kleio/kleio/RecordTime", "digits", "([CII)I"⟩ : MethodName) prog_25_method_5_code 5 (some .int) ws own_R4_2 #[(.ref r0), (.int x1), (.int (2 : Int32))] h0 (own_Q4_2 r0 x1 F h0 n0) := by
  refine own_met (plainFor_of_name own_pn1) ?_
  intro p e s m below meth c s₁ hx hby hml hown hnm hret hlk hZ e0 X0
  have N0 := Fr.nil n0
  have hml : c.maxLocals = 5 := hml
  have hown : s.vm.findClass "com/example/kleio/kleio/RecordTime" = some m.cls := hown
  have hret : meth.sig.returnType = (some .int) := hret
  have hby : c.code = prog_25_method_5_code := hby
  have hnm : meth.name = "digits" := hnm
  rw [own_ef4_2]
  have a1 : (x1 + 1).toInt = x1.toInt + 1 := by have q := own_add x1 1 (by rw [show (1 : Int32).toInt = 1 from rfl]; omega); rw [show (1 : Int32).toInt = 1 from rfl] at q; omega
  have a2 : ((x1 + 1) + 1).toInt = x1.toInt + 2 := by have q := own_add (x1 + 1) 1 (by rw [show (1 : Int32).toInt = 1 from rfl]; omega); rw [show (1 : Int32).toInt = 1 from rfl] at q; omega
  have an : (x1 + 2).toInt = x1.toInt + 2 := by rw [own_add _ _ (by rw [show (2 : Int32).toInt = 2 from rfl]; omega), show (2 : Int32).toInt = 2 from rfl]
  show own_Goes p e below _ (s₁.setTop (mkF m 0 #[.val (.ref r0), .val (.int x1), .val (.int (2 : Int32)), .unset, .unset] []))
  refine own_go (fun t k => XS.iconst X0.here hx rfl (hb hby own_d4_0) k) ?_
  show own_Goes p e below _ (s₁.setTop (mkF m 1 #[.val (.ref r0), .val (.int x1), .val (.int (2 : Int32)), .unset, .unset] [(.int (0 : Int32))]))
  refine own_go (fun t k => XS.istoreN X0.here hx rfl (hb hby own_d4_1) rfl (l' := #[.val (.ref r0), .val (.int x1), .val (.int (2 : Int32)), .val (.int (0 : Int32)), .unset]) rfl k) ?_
  show own_Goes p e below _ (s₁.setTop (mkF m 2 #[.val (.ref r0), .val (.int x1), .val (.int (2 : Int32)), .val (.int (0 : Int32)), .unset] []))
  refine own_go (fun t k => XS.iloadN X0.here hx rfl (hb hby own_d4_2) rfl k) ?_
  show own_Goes p e below _ (s₁.setTop (mkF m 3 #[.val (.ref r0), .val (.int x1), .val (.int (2 : Int32)), .val (.int (0 : Int32)), .unset] [(.int x1)]))
  refine own_go (fun t k => XS.istore X0.here hx rfl (hb hby own_d4_3) rfl (l' := #[.val (.ref r0), .val (.int x1), .val (.int (2 : Int32)), .val (.int (0 : Int32)), .val (.int x1)]) rfl k) ?_
  show own_Goes p e below _ (s₁.setTop (mkF m 5 #[.val (.ref r0), .val (.int x1), .val (.int (2 : Int32)), .val (.int (0 : Int32)), .val (.int x1)] []))
  refine own_go (fun t k => XS.iload X0.here hx rfl (hb hby own_d4_5) rfl k) ?_
  show own_Goes p e below _ (s₁.setTop (mkF m 7 #[.val (.ref r0), .val (.int x1), .val (.int (2 : Int32)), .val (.int (0 : Int32)), .val (.int x1)] [(.int x1)]))
  refine own_go (fun t k => XS.iloadN X0.here hx rfl (hb hby own_d4_7) rfl k) ?_
  show own_Goes p e below _ (s₁.setTop (mkF m 8 #[.val (.ref r0), .val (.int x1), .val (.int (2 : Int32)), .val (.int (0 : Int32)), .val (.int x1)] [(.int x1), (.int x1)]))
  refine own_go (fun t k => XS.iloadN X0.here hx rfl (hb hby own_d4_8) rfl k) ?_
  show own_Goes p e below _ (s₁.setTop (mkF m 9 #[.val (.ref r0), .val (.int x1), .val (.int (2 : Int32)), .val (.int (0 : Int32)), .val (.int x1)] [(.int (2 : Int32)), (.int x1), (.int x1)]))
  refine own_go (fun t k => XS.iadd X0.here hx rfl (hb hby own_d4_9) rfl k) ?_
  show own_Goes p e below _ (s₁.setTop (mkF m 10 #[.val (.ref r0), .val (.int x1), .val (.int (2 : Int32)), .val (.int (0 : Int32)), .val (.int x1)] [(.int (x1 + (2 : Int32))), (.int x1)]))
  have hd35 : x1 < (x1 + (2 : Int32)) := (by rw [Int32.lt_iff_toInt_lt]; omega)
  refine own_go (fun t k => XS.icmpNo X0.here hx rfl (hb hby own_d4_10) rfl (tlt hd35).2.1 k) ?_
  show own_Goes p e below _ (s₁.setTop (mkF m 13 #[.val (.ref r0), .val (.int x1), .val (.int (2 : Int32)), .val (.int (0 : Int32)), .val (.int x1)] []))
  refine own_go (fun t k => XS.iloadN X0.here hx rfl (hb hby own_d4_13) rfl k) ?_
  show own_Goes p e below _ (s₁.setTop (mkF m 14 #[.val (.ref r0), .val (.int x1), .val (.int (2 : Int32)), .val (.int (0 : Int32)), .val (.int x1)] [(.int (0 : Int32))]))
  refine own_go (fun t k => XS.bipush X0.here hx rfl (hb hby own_d4_14) k) ?_
  show own_Goes p e below _ (s₁.setTop (mkF m 16 #[.val (.ref r0), .val (.int x1), .val (.int (2 : Int32)), .val (.int (0 : Int32)), .val (.int x1)] [(.int (10 : Int32)), (.int (0 : Int32))]))
  refine own_go (fun t k => XS.imul X0.here hx rfl (hb hby own_d4_16) rfl k) ?_
  show own_Goes p e below _ (s₁.setTop (mkF m 17 #[.val (.ref r0), .val (.int x1), .val (.int (2 : Int32)), .val (.int (0 : Int32)), .val (.int x1)] [(.int ((0 : Int32) * (10 : Int32)))]))
  refine own_go (fun t k => XS.aloadN X0.here hx rfl (hb hby own_d4_17) rfl rfl k) ?_
  show own_Goes p e below _ (s₁.setTop (mkF m 18 #[.val (.ref r0), .val (.int x1), .val (.int (2 : Int32)), .val (.int (0 : Int32)), .val (.int x1)] [(.ref r0), (.int ((0 : Int32) * (10 : Int32)))]))
  refine own_go (fun t k => XS.iload X0.here hx rfl (hb hby own_d4_18) rfl k) ?_
  show own_Goes p e below _ (s₁.setTop (mkF m 20 #[.val (.ref r0), .val (.int x1), .val (.int (2 : Int32)), .val (.int (0 : Int32)), .val (.int x1)] [(.int x1), (.ref r0), (.int ((0 : Int32) * (10 : Int32)))]))
  refine own_go (fun t k => X0.caload hx (j := x1) (v := (.int (F x1))) (by rw [e0]; exact A_t.1) (State.isArrayOf_alike hZ.alike A_t.2.1) A_t.2.2 (inb_of z_t (own_bd (n := 32) (by rw [show (32 : Int32).toInt = 32 from rfl]; omega))) (t_t _ (own_bd (n := 32) (by rw [show (32 : Int32).toInt = 32 from rfl]; omega)).1 (own_bd (n := 32) (by rw [show (32 : Int32).toInt = 32 from rfl]; omega)).2) (g := (mkF m 20 #[.val (.ref r0), .val (.int x1), .val (.int (2 : Int32)), .val (.int (0 : Int32)), .val (.int x1)] [(.int x1), (.ref r0), (.int ((0 : Int32) * (10 : Int32)))])) rfl rfl (hb hby own_d4_20) t k) ?_
  show own_Goes p e below _ (s₁.setTop (mkF m 21 #[.val (.ref r0), .val (.int x1), .val (.int (2 : Int32)), .val (.int (0 : Int32)), .val (.int x1)] [(.int (F x1)), (.int ((0 : Int32) * (10 : Int32)))]))
  refine own_go (fun t k => XS.bipush X0.here hx rfl (hb hby own_d4_21) k) ?_
  show own_Goes p e below _ (s₁.setTop (mkF m 23 #[.val (.ref r0), .val (.int x1), .val (.int (2 : Int32)), .val (.int (0 : Int32)), .val (.int x1)] [(.int (48 : Int32)), (.int (F x1)), (.int ((0 : Int32) * (10 : Int32)))]))
  refine own_go (fun t k => XS.isub X0.here hx rfl (hb hby own_d4_23) rfl k) ?_
  show own_Goes p e below _ (s₁.setTop (mkF m 24 #[.val (.ref r0), .val (.int x1), .val (.int (2 : Int32)), .val (.int (0 : Int32)), .val (.int x1)] [(.int ((F x1) - (48 : Int32))), (.int ((0 : Int32) * (10 : Int32)))]))
  refine own_go (fun t k => XS.iadd X0.here hx rfl (hb hby own_d4_24) rfl k) ?_
  show own_Goes p e below _ (s₁.setTop (mkF m 25 #[.val (.ref r0), .val (.int x1), .val (.int (2 : Int32)), .val (.int (0 : Int32)), .val (.int x1)] [(.int (((0 : Int32) * (10 : Int32)) + ((F x1) - (48 : Int32))))]))
  refine own_go (fun t k => XS.istoreN X0.here hx rfl (hb hby own_d4_25) rfl (l' := #[.val (.ref r0), .val (.int x1), .val (.int (2 : Int32)), .val (.int (((0 : Int32) * (10 : Int32)) + ((F x1) - (48 : Int32)))), .val (.int x1)]) rfl k) ?_
  show own_Goes p e below _ (s₁.setTop (mkF m 26 #[.val (.ref r0), .val (.int x1), .val (.int (2 : Int32)), .val (.int (((0 : Int32) * (10 : Int32)) + ((F x1) - (48 : Int32)))), .val (.int x1)] []))
  refine own_go (fun t k => XS.iinc X0.here hx rfl (hb hby own_d4_26) rfl (l' := #[.val (.ref r0), .val (.int x1), .val (.int (2 : Int32)), .val (.int (((0 : Int32) * (10 : Int32)) + ((F x1) - (48 : Int32)))), .val (.int (x1 + (1 : Int32)))]) rfl k) ?_
  show own_Goes p e below _ (s₁.setTop (mkF m 29 #[.val (.ref r0), .val (.int x1), .val (.int (2 : Int32)), .val (.int (((0 : Int32) * (10 : Int32)) + ((F x1) - (48 : Int32)))), .val (.int (x1 + (1 : Int32)))] []))
  refine own_go (fun t k => XS.goto X0.here hx rfl (pc0 := 29) (pc' := 5) rfl (hb hby own_d4_29) (by decide) (by decide) k) ?_
  show own_Goes p e below _ (s₁.setTop (mkF m 5 #[.val (.ref r0), .val (.int x1), .val (.int (2 : Int32)), .val (.int (((0 : Int32) * (10 : Int32)) + ((F x1) - (48 : Int32)))), .val (.int (x1 + (1 : Int32)))] []))
  refine own_go (fun t k => XS.iload X0.here hx rfl (hb hby own_d4_5) rfl k) ?_
  show own_Goes p e below _ (s₁.setTop (mkF m 7 #[.val (.ref r0), .val (.int x1), .val (.int (2 : Int32)), .val (.int (((0 : Int32) * (10 : Int32)) + ((F x1) - (48 : Int32)))), .val (.int (x1 + (1 : Int32)))] [(.int (x1 + (1 : Int32)))]))
  refine own_go (fun t k => XS.iloadN X0.here hx rfl (hb hby own_d4_7) rfl k) ?_
  show own_Goes p e below _ (s₁.setTop (mkF m 8 #[.val (.ref r0), .val (.int x1), .val (.int (2 : Int32)), .val (.int (((0 : Int32) * (10 : Int32)) + ((F x1) - (48 : Int32)))), .val (.int (x1 + (1 : Int32)))] [(.int x1), (.int (x1 + (1 : Int32)))]))
  refine own_go (fun t k => XS.iloadN X0.here hx rfl (hb hby own_d4_8) rfl k) ?_
  show own_Goes p e below _ (s₁.setTop (mkF m 9 #[.val (.ref r0), .val (.int x1), .val (.int (2 : Int32)), .val (.int (((0 : Int32) * (10 : Int32)) + ((F x1) - (48 : Int32)))), .val (.int (x1 + (1 : Int32)))] [(.int (2 : Int32)), (.int x1), (.int (x1 + (1 : Int32)))]))
  refine own_go (fun t k => XS.iadd X0.here hx rfl (hb hby own_d4_9) rfl k) ?_
  show own_Goes p e below _ (s₁.setTop (mkF m 10 #[.val (.ref r0), .val (.int x1), .val (.int (2 : Int32)), .val (.int (((0 : Int32) * (10 : Int32)) + ((F x1) - (48 : Int32)))), .val (.int (x1 + (1 : Int32)))] [(.int (x1 + (2 : Int32))), (.int (x1 + (1 : Int32)))]))
  have hd36 : (x1 + (1 : Int32)) < (x1 + (2 : Int32)) := (by rw [Int32.lt_iff_toInt_lt]; omega)
  refine own_go (fun t k => XS.icmpNo X0.here hx rfl (hb hby own_d4_10) rfl (tlt hd36).2.1 k) ?_
  show own_Goes p e below _ (s₁.setTop (mkF m 13 #[.val (.ref r0), .val (.int x1), .val (.int (2 : Int32)), .val (.int (((0 : Int32) * (10 : Int32)) + ((F x1) - (48 : Int32)))), .val (.int (x1 + (1 : Int32)))] []))
  refine own_go (fun t k => XS.iloadN X0.here hx rfl (hb hby own_d4_13) rfl k) ?_
  show own_Goes p e below _ (s₁.setTop (mkF m 14 #[.val (.ref r0), .val (.int x1), .val (.int (2 : Int32)), .val (.int (((0 : Int32) * (10 : Int32)) + ((F x1) - (48 : Int32)))), .val (.int (x1 + (1 : Int32)))] [(.int (((0 : Int32) * (10 : Int32)) + ((F x1) - (48 : Int32))))]))
  refine own_go (fun t k => XS.bipush X0.here hx rfl (hb hby own_d4_14) k) ?_
  show own_Goes p e below _ (s₁.setTop (mkF m 16 #[.val (.ref r0), .val (.int x1), .val (.int (2 : Int32)), .val (.int (((0 : Int32) * (10 : Int32)) + ((F x1) - (48 : Int32)))), .val (.int (x1 + (1 : Int32)))] [(.int (10 : Int32)), (.int (((0 : Int32) * (10 : Int32)) + ((F x1) - (48 : Int32))))]))
  refine own_go (fun t k => XS.imul X0.here hx rfl (hb hby own_d4_16) rfl k) ?_
  show own_Goes p e below _ (s₁.setTop (mkF m 17 #[.val (.ref r0), .val (.int x1), .val (.int (2 : Int32)), .val (.int (((0 : Int32) * (10 : Int32)) + ((F x1) - (48 : Int32)))), .val (.int (x1 + (1 : Int32)))] [(.int ((((0 : Int32) * (10 : Int32)) + ((F x1) - (48 : Int32))) * (10 : Int32)))]))
  refine own_go (fun t k => XS.aloadN X0.here hx rfl (hb hby own_d4_17) rfl rfl k) ?_
  show own_Goes p e below _ (s₁.setTop (mkF m 18 #[.val (.ref r0), .val (.int x1), .val (.int (2 : Int32)), .val (.int (((0 : Int32) * (10 : Int32)) + ((F x1) - (48 : Int32)))), .val (.int (x1 + (1 : Int32)))] [(.ref r0), (.int ((((0 : Int32) * (10 : Int32)) + ((F x1) - (48 : Int32))) * (10 : Int32)))]))
  refine own_go (fun t k => XS.iload X0.here hx rfl (hb hby own_d4_18) rfl k) ?_
  show own_Goes p e below _ (s₁.setTop (mkF m 20 #[.val (.ref r0), .val (.int x1), .val (.int (2 : Int32)), .val (.int (((0 : Int32) * (10 : Int32)) + ((F x1) - (48 : Int32)))), .val (.int (x1 + (1 : Int32)))] [(.int (x1 + (1 : Int32))), (.ref r0), (.int ((((0 : Int32) * (10 : Int32)) + ((F x1) - (48 : Int32))) * (10 : Int32)))]))
  refine own_go (fun t k => X0.caload hx (j := (x1 + (1 : Int32))) (v := (.int (F (x1 + (1 : Int32))))) (by rw [e0]; exact A_t.1) (State.isArrayOf_alike hZ.alike A_t.2.1) A_t.2.2 (inb_of z_t (own_bd (n := 32) (by rw [show (32 : Int32).toInt = 32 from rfl]; omega))) (t_t _ (own_bd (n := 32) (by rw [show (32 : Int32).toInt = 32 from rfl]; omega)).1 (own_bd (n := 32) (by rw [show (32 : Int32).toInt = 32 from rfl]; omega)).2) (g := (mkF m 20 #[.val (.ref r0), .val (.int x1), .val (.int (2 : Int32)), .val (.int (((0 : Int32) * (10 : Int32)) + ((F x1) - (48 : Int32)))), .val (.int (x1 + (1 : Int32)))] [(.int (x1 + (1 : Int32))), (.ref r0), (.int ((((0 : Int32) * (10 : Int32)) + ((F x1) - (48 : Int32))) * (10 : Int32)))])) rfl rfl (hb hby own_d4_20) t k) ?_
  show own_Goes p e below _ (s₁.setTop (mkF m 21 #[.val (.ref r0), .val (.int x1), .val (.int (2 : Int32)), .val (.int (((0 : Int32) * (10 : Int32)) + ((F x1) - (48 : Int32)))), .val (.int (x1 + (1 : Int32)))] [(.int (F (x1 + (1 : Int32)))), (.int ((((0 : Int32) * (10 : Int32)) + ((F x1) - (48 : Int32))) * (10 : Int32)))]))
  refine own_go (fun t k => XS.bipush X0.here hx rfl (hb hby own_d4_21) k) ?_
  show own_Goes p e below _ (s₁.setTop (mkF m 23 #[.val (.ref r0), .val (.int x1), .val (.int (2 : Int32)), .val (.int (((0 : Int32) * (10 : Int32)) + ((F x1) - (48 : Int32)))), .val (.int (x1 + (1 : Int32)))] [(.int (48 : Int32)), (.int (F (x1 + (1 : Int32)))), (.int ((((0 : Int32) * (10 : Int32)) + ((F x1) - (48 : Int32))) * (10 : Int32)))]))
  refine own_go (fun t k => XS.isub X0.here hx rfl (hb hby own_d4_23) rfl k) ?_
  show own_Goes p e below _ (s₁.setTop (mkF m 24 #[.val (.ref r0), .val (.int x1), .val (.int (2 : Int32)), .val (.int (((0 : Int32) * (10 : Int32)) + ((F x1) - (48 : Int32)))), .val (.int (x1 + (1 : Int32)))] [(.int ((F (x1 + (1 : Int32))) - (48 : Int32))), (.int ((((0 : Int32) * (10 : Int32)) + ((F x1) - (48 : Int32))) * (10 : Int32)))]))
  refine own_go (fun t k => XS.iadd X0.here hx rfl (hb hby own_d4_24) rfl k) ?_
  show own_Goes p e below _ (s₁.setTop (mkF m 25 #[.val (.ref r0), .val (.int x1), .val (.int (2 : Int32)), .val (.int (((0 : Int32) * (10 : Int32)) + ((F x1) - (48 : Int32)))), .val (.int (x1 + (1 : Int32)))] [(.int (((((0 : Int32) * (10 : Int32)) + ((F x1) - (48 : Int32))) * (10 : Int32)) + ((F (x1 + (1 : Int32))) - (48 : Int32))))]))
  refine own_go (fun t k => XS.istoreN X0.here hx rfl (hb hby own_d4_25) rfl (l' := #[.val (.ref r0), .val (.int x1), .val (.int (2 : Int32)), .val (.int (((((0 : Int32) * (10 : Int32)) + ((F x1) - (48 : Int32))) * (10 : Int32)) + ((F (x1 + (1 : Int32))) - (48 : Int32)))), .val (.int (x1 + (1 : Int32)))]) rfl k) ?_
  show own_Goes p e below _ (s₁.setTop (mkF m 26 #[.val (.ref r0), .val (.int x1), .val (.int (2 : Int32)), .val (.int (((((0 : Int32) * (10 : Int32)) + ((F x1) - (48 : Int32))) * (10 : Int32)) + ((F (x1 + (1 : Int32))) - (48 : Int32)))), .val (.int (x1 + (1 : Int32)))] []))
  refine own_go (fun t k => XS.iinc X0.here hx rfl (hb hby own_d4_26) rfl (l' := #[.val (.ref r0), .val (.int x1), .val (.int (2 : Int32)), .val (.int (((((0 : Int32) * (10 : Int32)) + ((F x1) - (48 : Int32))) * (10 : Int32)) + ((F (x1 + (1 : Int32))) - (48 : Int32)))), .val (.int ((x1 + (1 : Int32)) + (1 : Int32)))]) rfl k) ?_
  show own_Goes p e below _ (s₁.setTop (mkF m 29 #[.val (.ref r0), .val (.int x1), .val (.int (2 : Int32)), .val (.int (((((0 : Int32) * (10 : Int32)) + ((F x1) - (48 : Int32))) * (10 : Int32)) + ((F (x1 + (1 : Int32))) - (48 : Int32)))), .val (.int ((x1 + (1 : Int32)) + (1 : Int32)))] []))
  refine own_go (fun t k => XS.goto X0.here hx rfl (pc0 := 29) (pc' := 5) rfl (hb hby own_d4_29) (by decide) (by decide) k) ?_
  show own_Goes p e below _ (s₁.setTop (mkF m 5 #[.val (.ref r0), .val (.int x1), .val (.int (2 : Int32)), .val (.int (((((0 : Int32) * (10 : Int32)) + ((F x1) - (48 : Int32))) * (10 : Int32)) + ((F (x1 + (1 : Int32))) - (48 : Int32)))), .val (.int ((x1 + (1 : Int32)) + (1 : Int32)))] []))
  refine own_go (fun t k => XS.iload X0.here hx rfl (hb hby own_d4_5) rfl k) ?_
  show own_Goes p e below _ (s₁.setTop (mkF m 7 #[.val (.ref r0), .val (.int x1), .val (.int (2 : Int32)), .val (.int (((((0 : Int32) * (10 : Int32)) + ((F x1) - (48 : Int32))) * (10 : Int32)) + ((F (x1 + (1 : Int32))) - (48 : Int32)))), .val (.int ((x1 + (1 : Int32)) + (1 : Int32)))] [(.int ((x1 + (1 : Int32)) + (1 : Int32)))]))
  refine own_go (fun t k => XS.iloadN X0.here hx rfl (hb hby own_d4_7) rfl k) ?_
  show own_Goes p e below _ (s₁.setTop (mkF m 8 #[.val (.ref r0), .val (.int x1), .val (.int (2 : Int32)), .val (.int (((((0 : Int32) * (10 : Int32)) + ((F x1) - (48 : Int32))) * (10 : Int32)) + ((F (x1 + (1 : Int32))) - (48 : Int32)))), .val (.int ((x1 + (1 : Int32)) + (1 : Int32)))] [(.int x1), (.int ((x1 + (1 : Int32)) + (1 : Int32)))]))
  refine own_go (fun t k => XS.iloadN X0.here hx rfl (hb hby own_d4_8) rfl k) ?_
  show own_Goes p e below _ (s₁.setTop (mkF m 9 #[.val (.ref r0), .val (.int x1), .val (.int (2 : Int32)), .val (.int (((((0 : Int32) * (10 : Int32)) + ((F x1) - (48 : Int32))) * (10 : Int32)) + ((F (x1 + (1 : Int32))) - (48 : Int32)))), .val (.int ((x1 + (1 : Int32)) + (1 : Int32)))] [(.int (2 : Int32)), (.int x1), (.int ((x1 + (1 : Int32)) + (1 : Int32)))]))
  refine own_go (fun t k => XS.iadd X0.here hx rfl (hb hby own_d4_9) rfl k) ?_
  show own_Goes p e below _ (s₁.setTop (mkF m 10 #[.val (.ref r0), .val (.int x1), .val (.int (2 : Int32)), .val (.int (((((0 : Int32) * (10 : Int32)) + ((F x1) - (48 : Int32))) * (10 : Int32)) + ((F (x1 + (1 : Int32))) - (48 : Int32)))), .val (.int ((x1 + (1 : Int32)) + (1 : Int32)))] [(.int (x1 + (2 : Int32))), (.int ((x1 + (1 : Int32)) + (1 : Int32)))]))
  have hd37 : ¬ (((x1 + (1 : Int32)) + (1 : Int32)) < (x1 + (2 : Int32))) := (by rw [Int32.lt_iff_toInt_lt]; omega)
  refine own_go (fun t k => XS.icmpYes X0.here hx rfl (pc0 := 10) (pc' := 32) rfl (hb hby own_d4_10) rfl (flt hd37).2.1 (by decide) (by decide) k) ?_
  show own_Goes p e below _ (s₁.setTop (mkF m 32 #[.val (.ref r0), .val (.int x1), .val (.int (2 : Int32)), .val (.int (((((0 : Int32) * (10 : Int32)) + ((F x1) - (48 : Int32))) * (10 : Int32)) + ((F (x1 + (1 : Int32))) - (48 : Int32)))), .val (.int ((x1 + (1 : Int32)) + (1 : Int32)))] []))
  refine own_go (fun t k => XS.iloadN X0.here hx rfl (hb hby own_d4_32) rfl k) ?_
  show own_Goes p e below _ (s₁.setTop (mkF m 33 #[.val (.ref r0), .val (.int x1), .val (.int (2 : Int32)), .val (.int (((((0 : Int32) * (10 : Int32)) + ((F x1) - (48 : Int32))) * (10 : Int32)) + ((F (x1 + (1 : Int32))) - (48 : Int32)))), .val (.int ((x1 + (1 : Int32)) + (1 : Int32)))] [(.int (((((0 : Int32) * (10 : Int32)) + ((F x1) - (48 : Int32))) * (10 : Int32)) + ((F (x1 + (1 : Int32))) - (48 : Int32))))]))
  exact own_retI X0 hx hlk hret (hb hby own_d4_33) (by decide) (by decide) ⟨by rw [own_f4_2], N0, e0⟩
def own_f4_4 (x1 : Int32) (F : Int32 → Int32) : Int32 := (((((((((0 : Int32) * (10 : Int32)) + ((F x1) - (48 : Int32))) * (10 : Int32)) + ((F (x1 + (1 : Int32))) - (48 : Int32))) * (10 : Int32)) + ((F ((x1 + (1 : Int32)) + (1 : Int32))) - (48 : Int32))) * (10 : Int32)) + ((F (((x1 + (1 : Int32)) + (1 : Int32)) + (1 : Int32))) - (48 : Int32)))
def own_Q4_4 (r0 : Addr) (x1 : Int32) (F : Int32 → Int32) (h0 : Heap) (n0 : Nat) (v : Option Value) (h : Heap) (L : List Loc) : Prop := v = some (.int (own_f4_4 x1 F)) ∧ Fr n0 L ∧ h = h0
abbrev own_R4_4 : Room := { frames := 0, cells := 0, slots := 0, locals := 0 }
theorem own_ef4_4 (m : MethodId) (z0 : Addr) (z1 : Int32) : entryFrame m #[(.ref z0), (.int z1), (.int (4 : Int32))] 5 = mkF m 0 #[.val (.ref z0), .val (.int z1), .val (.int (4 : Int32)), .unset, .unset] [] := by first | (simp [entryFrame, mkF, argsToLocals, Value.category]; done) | rfl
set_option maxRecDepth 65536 in
set_option maxHeartbeats 40000000 in
theorem rm4_4 (l : Launch) (Z : State) (a0 : Array Value) (hw : ∀ d ∈ tables_1, d.before a0 Z = true) (ws : List Jvm.Cond) (r0 : Addr) (x1 : Int32) (F : Int32 → Int32) (cl_t : Cell) (h0 : Heap) (n0 : Nat) (A_t : Arr Z h0 r0 cl_t .char) (z_t : cl_t.slots.size = (32 : Int32).toNatClampNeg) (t_t : ∀ j : Int32, ¬ j < 0 → j < 32 → cl_t.slots[j.toNatClampNeg]? = some (.int (F j))) (hbx : 0 ≤ x1.toInt ∧ x1.toInt ≤ 28) : own_Met l Z (⟨"com/example/kleio/kleio/RecordTime", "digits", "([CII)I"⟩ : MethodName) prog_25_method_5_code 5 (some .int) ws own_R4_4 #[(.ref r0), (.int x1), (.int (4 : Int32))] h0 (own_Q4_4 r0 x1 F h0 n0) := by
  refine own_met (plainFor_of_name own_pn1) ?_
  intro p e s m below meth c s₁ hx hby hml hown hnm hret hlk hZ e0 X0
  have N0 := Fr.nil n0
  have hml : c.maxLocals = 5 := hml
  have hown : s.vm.findClass "com/example/kleio/kleio/RecordTime" = some m.cls := hown
  have hret : meth.sig.returnType = (some .int) := hret
  have hby : c.code = prog_25_method_5_code := hby
  have hnm : meth.name = "digits" := hnm
  rw [own_ef4_4]
  have a1 : (x1 + 1).toInt = x1.toInt + 1 := by have q := own_add x1 1 (by rw [show (1 : Int32).toInt = 1 from rfl]; omega); rw [show (1 : Int32).toInt = 1 from rfl] at q; omega
  have a2 : ((x1 + 1) + 1).toInt = x1.toInt + 2 := by have q := own_add (x1 + 1) 1 (by rw [show (1 : Int32).toInt = 1 from rfl]; omega); rw [show (1 : Int32).toInt = 1 from rfl] at q; omega
  have a3 : (((x1 + 1) + 1) + 1).toInt = x1.toInt + 3 := by have q := own_add ((x1 + 1) + 1) 1 (by rw [show (1 : Int32).toInt = 1 from rfl]; omega); rw [show (1 : Int32).toInt = 1 from rfl] at q; omega
  have a4 : ((((x1 + 1) + 1) + 1) + 1).toInt = x1.toInt + 4 := by have q := own_add (((x1 + 1) + 1) + 1) 1 (by rw [show (1 : Int32).toInt = 1 from rfl]; omega); rw [show (1 : Int32).toInt = 1 from rfl] at q; omega
  have an : (x1 + 4).toInt = x1.toInt + 4 := by rw [own_add _ _ (by rw [show (4 : Int32).toInt = 4 from rfl]; omega), show (4 : Int32).toInt = 4 from rfl]
  show own_Goes p e below _ (s₁.setTop (mkF m 0 #[.val (.ref r0), .val (.int x1), .val (.int (4 : Int32)), .unset, .unset] []))
  refine own_go (fun t k => XS.iconst X0.here hx rfl (hb hby own_d4_0) k) ?_
  show own_Goes p e below _ (s₁.setTop (mkF m 1 #[.val (.ref r0), .val (.int x1), .val (.int (4 : Int32)), .unset, .unset] [(.int (0 : Int32))]))
  refine own_go (fun t k => XS.istoreN X0.here hx rfl (hb hby own_d4_1) rfl (l' := #[.val (.ref r0), .val (.int x1), .val (.int (4 : Int32)), .val (.int (0 : Int32)), .unset]) rfl k) ?_
  show own_Goes p e below _ (s₁.setTop (mkF m 2 #[.val (.ref r0), .val (.int x1), .val (.int (4 : Int32)), .val (.int (0 : Int32)), .unset] []))
  refine own_go (fun t k => XS.iloadN X0.here hx rfl (hb hby own_d4_2) rfl k) ?_
  show own_Goes p e below _ (s₁.setTop (mkF m 3 #[.val (.ref r0), .val (.int x1), .val (.int (4 : Int32)), .val (.int (0 : Int32)), .unset] [(.int x1)]))
  refine own_go (fun t k => XS.istore X0.here hx rfl (hb hby own_d4_3) rfl (l' := #[.val (.ref r0), .val (.int x1), .val (.int (4 : Int32)), .val (.int (0 : Int32)), .val (.int x1)]) rfl k) ?_
  show own_Goes p e below _ (s₁.setTop (mkF m 5 #[.val (.ref r0), .val (.int x1), .val (.int (4 : Int32)), .val (.int (0 : Int32)), .val (.int x1)] []))
  refine own_go (fun t k => XS.iload X0.here hx rfl (hb hby own_d4_5) rfl k) ?_
  show own_Goes p e below _ (s₁.setTop (mkF m 7 #[.val (.ref r0), .val (.int x1), .val (.int (4 : Int32)), .val (.int (0 : Int32)), .val (.int x1)] [(.int x1)]))
  refine own_go (fun t k => XS.iloadN X0.here hx rfl (hb hby own_d4_7) rfl k) ?_
  show own_Goes p e below _ (s₁.setTop (mkF m 8 #[.val (.ref r0), .val (.int x1), .val (.int (4 : Int32)), .val (.int (0 : Int32)), .val (.int x1)] [(.int x1), (.int x1)]))
  refine own_go (fun t k => XS.iloadN X0.here hx rfl (hb hby own_d4_8) rfl k) ?_
  show own_Goes p e below _ (s₁.setTop (mkF m 9 #[.val (.ref r0), .val (.int x1), .val (.int (4 : Int32)), .val (.int (0 : Int32)), .val (.int x1)] [(.int (4 : Int32)), (.int x1), (.int x1)]))
  refine own_go (fun t k => XS.iadd X0.here hx rfl (hb hby own_d4_9) rfl k) ?_
  show own_Goes p e below _ (s₁.setTop (mkF m 10 #[.val (.ref r0), .val (.int x1), .val (.int (4 : Int32)), .val (.int (0 : Int32)), .val (.int x1)] [(.int (x1 + (4 : Int32))), (.int x1)]))
  have hd38 : x1 < (x1 + (4 : Int32)) := (by rw [Int32.lt_iff_toInt_lt]; omega)
  refine own_go (fun t k => XS.icmpNo X0.here hx rfl (hb hby own_d4_10) rfl (tlt hd38).2.1 k) ?_
  show own_Goes p e below _ (s₁.setTop (mkF m 13 #[.val (.ref r0), .val (.int x1), .val (.int (4 : Int32)), .val (.int (0 : Int32)), .val (.int x1)] []))
  refine own_go (fun t k => XS.iloadN X0.here hx rfl (hb hby own_d4_13) rfl k) ?_
  show own_Goes p e below _ (s₁.setTop (mkF m 14 #[.val (.ref r0), .val (.int x1), .val (.int (4 : Int32)), .val (.int (0 : Int32)), .val (.int x1)] [(.int (0 : Int32))]))
  refine own_go (fun t k => XS.bipush X0.here hx rfl (hb hby own_d4_14) k) ?_
  show own_Goes p e below _ (s₁.setTop (mkF m 16 #[.val (.ref r0), .val (.int x1), .val (.int (4 : Int32)), .val (.int (0 : Int32)), .val (.int x1)] [(.int (10 : Int32)), (.int (0 : Int32))]))
  refine own_go (fun t k => XS.imul X0.here hx rfl (hb hby own_d4_16) rfl k) ?_
  show own_Goes p e below _ (s₁.setTop (mkF m 17 #[.val (.ref r0), .val (.int x1), .val (.int (4 : Int32)), .val (.int (0 : Int32)), .val (.int x1)] [(.int ((0 : Int32) * (10 : Int32)))]))
  refine own_go (fun t k => XS.aloadN X0.here hx rfl (hb hby own_d4_17) rfl rfl k) ?_
  show own_Goes p e below _ (s₁.setTop (mkF m 18 #[.val (.ref r0), .val (.int x1), .val (.int (4 : Int32)), .val (.int (0 : Int32)), .val (.int x1)] [(.ref r0), (.int ((0 : Int32) * (10 : Int32)))]))
  refine own_go (fun t k => XS.iload X0.here hx rfl (hb hby own_d4_18) rfl k) ?_
  show own_Goes p e below _ (s₁.setTop (mkF m 20 #[.val (.ref r0), .val (.int x1), .val (.int (4 : Int32)), .val (.int (0 : Int32)), .val (.int x1)] [(.int x1), (.ref r0), (.int ((0 : Int32) * (10 : Int32)))]))
  refine own_go (fun t k => X0.caload hx (j := x1) (v := (.int (F x1))) (by rw [e0]; exact A_t.1) (State.isArrayOf_alike hZ.alike A_t.2.1) A_t.2.2 (inb_of z_t (own_bd (n := 32) (by rw [show (32 : Int32).toInt = 32 from rfl]; omega))) (t_t _ (own_bd (n := 32) (by rw [show (32 : Int32).toInt = 32 from rfl]; omega)).1 (own_bd (n := 32) (by rw [show (32 : Int32).toInt = 32 from rfl]; omega)).2) (g := (mkF m 20 #[.val (.ref r0), .val (.int x1), .val (.int (4 : Int32)), .val (.int (0 : Int32)), .val (.int x1)] [(.int x1), (.ref r0), (.int ((0 : Int32) * (10 : Int32)))])) rfl rfl (hb hby own_d4_20) t k) ?_
  show own_Goes p e below _ (s₁.setTop (mkF m 21 #[.val (.ref r0), .val (.int x1), .val (.int (4 : Int32)), .val (.int (0 : Int32)), .val (.int x1)] [(.int (F x1)), (.int ((0 : Int32) * (10 : Int32)))]))
  refine own_go (fun t k => XS.bipush X0.here hx rfl (hb hby own_d4_21) k) ?_
  show own_Goes p e below _ (s₁.setTop (mkF m 23 #[.val (.ref r0), .val (.int x1), .val (.int (4 : Int32)), .val (.int (0 : Int32)), .val (.int x1)] [(.int (48 : Int32)), (.int (F x1)), (.int ((0 : Int32) * (10 : Int32)))]))
  refine own_go (fun t k => XS.isub X0.here hx rfl (hb hby own_d4_23) rfl k) ?_
  show own_Goes p e below _ (s₁.setTop (mkF m 24 #[.val (.ref r0), .val (.int x1), .val (.int (4 : Int32)), .val (.int (0 : Int32)), .val (.int x1)] [(.int ((F x1) - (48 : Int32))), (.int ((0 : Int32) * (10 : Int32)))]))
  refine own_go (fun t k => XS.iadd X0.here hx rfl (hb hby own_d4_24) rfl k) ?_
  show own_Goes p e below _ (s₁.setTop (mkF m 25 #[.val (.ref r0), .val (.int x1), .val (.int (4 : Int32)), .val (.int (0 : Int32)), .val (.int x1)] [(.int (((0 : Int32) * (10 : Int32)) + ((F x1) - (48 : Int32))))]))
  refine own_go (fun t k => XS.istoreN X0.here hx rfl (hb hby own_d4_25) rfl (l' := #[.val (.ref r0), .val (.int x1), .val (.int (4 : Int32)), .val (.int (((0 : Int32) * (10 : Int32)) + ((F x1) - (48 : Int32)))), .val (.int x1)]) rfl k) ?_
  show own_Goes p e below _ (s₁.setTop (mkF m 26 #[.val (.ref r0), .val (.int x1), .val (.int (4 : Int32)), .val (.int (((0 : Int32) * (10 : Int32)) + ((F x1) - (48 : Int32)))), .val (.int x1)] []))
  refine own_go (fun t k => XS.iinc X0.here hx rfl (hb hby own_d4_26) rfl (l' := #[.val (.ref r0), .val (.int x1), .val (.int (4 : Int32)), .val (.int (((0 : Int32) * (10 : Int32)) + ((F x1) - (48 : Int32)))), .val (.int (x1 + (1 : Int32)))]) rfl k) ?_
  show own_Goes p e below _ (s₁.setTop (mkF m 29 #[.val (.ref r0), .val (.int x1), .val (.int (4 : Int32)), .val (.int (((0 : Int32) * (10 : Int32)) + ((F x1) - (48 : Int32)))), .val (.int (x1 + (1 : Int32)))] []))
  refine own_go (fun t k => XS.goto X0.here hx rfl (pc0 := 29) (pc' := 5) rfl (hb hby own_d4_29) (by decide) (by decide) k) ?_
  show own_Goes p e below _ (s₁.setTop (mkF m 5 #[.val (.ref r0), .val (.int x1), .val (.int (4 : Int32)), .val (.int (((0 : Int32) * (10 : Int32)) + ((F x1) - (48 : Int32)))), .val (.int (x1 + (1 : Int32)))] []))
  refine own_go (fun t k => XS.iload X0.here hx rfl (hb hby own_d4_5) rfl k) ?_
  show own_Goes p e below _ (s₁.setTop (mkF m 7 #[.val (.ref r0), .val (.int x1), .val (.int (4 : Int32)), .val (.int (((0 : Int32) * (10 : Int32)) + ((F x1) - (48 : Int32)))), .val (.int (x1 + (1 : Int32)))] [(.int (x1 + (1 : Int32)))]))
  refine own_go (fun t k => XS.iloadN X0.here hx rfl (hb hby own_d4_7) rfl k) ?_
  show own_Goes p e below _ (s₁.setTop (mkF m 8 #[.val (.ref r0), .val (.int x1), .val (.int (4 : Int32)), .val (.int (((0 : Int32) * (10 : Int32)) + ((F x1) - (48 : Int32)))), .val (.int (x1 + (1 : Int32)))] [(.int x1), (.int (x1 + (1 : Int32)))]))
  refine own_go (fun t k => XS.iloadN X0.here hx rfl (hb hby own_d4_8) rfl k) ?_
  show own_Goes p e below _ (s₁.setTop (mkF m 9 #[.val (.ref r0), .val (.int x1), .val (.int (4 : Int32)), .val (.int (((0 : Int32) * (10 : Int32)) + ((F x1) - (48 : Int32)))), .val (.int (x1 + (1 : Int32)))] [(.int (4 : Int32)), (.int x1), (.int (x1 + (1 : Int32)))]))
  refine own_go (fun t k => XS.iadd X0.here hx rfl (hb hby own_d4_9) rfl k) ?_
  show own_Goes p e below _ (s₁.setTop (mkF m 10 #[.val (.ref r0), .val (.int x1), .val (.int (4 : Int32)), .val (.int (((0 : Int32) * (10 : Int32)) + ((F x1) - (48 : Int32)))), .val (.int (x1 + (1 : Int32)))] [(.int (x1 + (4 : Int32))), (.int (x1 + (1 : Int32)))]))
  have hd39 : (x1 + (1 : Int32)) < (x1 + (4 : Int32)) := (by rw [Int32.lt_iff_toInt_lt]; omega)
  refine own_go (fun t k => XS.icmpNo X0.here hx rfl (hb hby own_d4_10) rfl (tlt hd39).2.1 k) ?_
  show own_Goes p e below _ (s₁.setTop (mkF m 13 #[.val (.ref r0), .val (.int x1), .val (.int (4 : Int32)), .val (.int (((0 : Int32) * (10 : Int32)) + ((F x1) - (48 : Int32)))), .val (.int (x1 + (1 : Int32)))] []))
  refine own_go (fun t k => XS.iloadN X0.here hx rfl (hb hby own_d4_13) rfl k) ?_
  show own_Goes p e below _ (s₁.setTop (mkF m 14 #[.val (.ref r0), .val (.int x1), .val (.int (4 : Int32)), .val (.int (((0 : Int32) * (10 : Int32)) + ((F x1) - (48 : Int32)))), .val (.int (x1 + (1 : Int32)))] [(.int (((0 : Int32) * (10 : Int32)) + ((F x1) - (48 : Int32))))]))
  refine own_go (fun t k => XS.bipush X0.here hx rfl (hb hby own_d4_14) k) ?_
  show own_Goes p e below _ (s₁.setTop (mkF m 16 #[.val (.ref r0), .val (.int x1), .val (.int (4 : Int32)), .val (.int (((0 : Int32) * (10 : Int32)) + ((F x1) - (48 : Int32)))), .val (.int (x1 + (1 : Int32)))] [(.int (10 : Int32)), (.int (((0 : Int32) * (10 : Int32)) + ((F x1) - (48 : Int32))))]))
  refine own_go (fun t k => XS.imul X0.here hx rfl (hb hby own_d4_16) rfl k) ?_
  show own_Goes p e below _ (s₁.setTop (mkF m 17 #[.val (.ref r0), .val (.int x1), .val (.int (4 : Int32)), .val (.int (((0 : Int32) * (10 : Int32)) + ((F x1) - (48 : Int32)))), .val (.int (x1 + (1 : Int32)))] [(.int ((((0 : Int32) * (10 : Int32)) + ((F x1) - (48 : Int32))) * (10 : Int32)))]))
  refine own_go (fun t k => XS.aloadN X0.here hx rfl (hb hby own_d4_17) rfl rfl k) ?_
  show own_Goes p e below _ (s₁.setTop (mkF m 18 #[.val (.ref r0), .val (.int x1), .val (.int (4 : Int32)), .val (.int (((0 : Int32) * (10 : Int32)) + ((F x1) - (48 : Int32)))), .val (.int (x1 + (1 : Int32)))] [(.ref r0), (.int ((((0 : Int32) * (10 : Int32)) + ((F x1) - (48 : Int32))) * (10 : Int32)))]))
  refine own_go (fun t k => XS.iload X0.here hx rfl (hb hby own_d4_18) rfl k) ?_
  show own_Goes p e below _ (s₁.setTop (mkF m 20 #[.val (.ref r0), .val (.int x1), .val (.int (4 : Int32)), .val (.int (((0 : Int32) * (10 : Int32)) + ((F x1) - (48 : Int32)))), .val (.int (x1 + (1 : Int32)))] [(.int (x1 + (1 : Int32))), (.ref r0), (.int ((((0 : Int32) * (10 : Int32)) + ((F x1) - (48 : Int32))) * (10 : Int32)))]))
  refine own_go (fun t k => X0.caload hx (j := (x1 + (1 : Int32))) (v := (.int (F (x1 + (1 : Int32))))) (by rw [e0]; exact A_t.1) (State.isArrayOf_alike hZ.alike A_t.2.1) A_t.2.2 (inb_of z_t (own_bd (n := 32) (by rw [show (32 : Int32).toInt = 32 from rfl]; omega))) (t_t _ (own_bd (n := 32) (by rw [show (32 : Int32).toInt = 32 from rfl]; omega)).1 (own_bd (n := 32) (by rw [show (32 : Int32).toInt = 32 from rfl]; omega)).2) (g := (mkF m 20 #[.val (.ref r0), .val (.int x1), .val (.int (4 : Int32)), .val (.int (((0 : Int32) * (10 : Int32)) + ((F x1) - (48 : Int32)))), .val (.int (x1 + (1 : Int32)))] [(.int (x1 + (1 : Int32))), (.ref r0), (.int ((((0 : Int32) * (10 : Int32)) + ((F x1) - (48 : Int32))) * (10 : Int32)))])) rfl rfl (hb hby own_d4_20) t k) ?_
  show own_Goes p e below _ (s₁.setTop (mkF m 21 #[.val (.ref r0), .val (.int x1), .val (.int (4 : Int32)), .val (.int (((0 : Int32) * (10 : Int32)) + ((F x1) - (48 : Int32)))), .val (.int (x1 + (1 : Int32)))] [(.int (F (x1 + (1 : Int32)))), (.int ((((0 : Int32) * (10 : Int32)) + ((F x1) - (48 : Int32))) * (10 : Int32)))]))
  refine own_go (fun t k => XS.bipush X0.here hx rfl (hb hby own_d4_21) k) ?_
  show own_Goes p e below _ (s₁.setTop (mkF m 23 #[.val (.ref r0), .val (.int x1), .val (.int (4 : Int32)), .val (.int (((0 : Int32) * (10 : Int32)) + ((F x1) - (48 : Int32)))), .val (.int (x1 + (1 : Int32)))] [(.int (48 : Int32)), (.int (F (x1 + (1 : Int32)))), (.int ((((0 : Int32) * (10 : Int32)) + ((F x1) - (48 : Int32))) * (10 : Int32)))]))
  refine own_go (fun t k => XS.isub X0.here hx rfl (hb hby own_d4_23) rfl k) ?_
  show own_Goes p e below _ (s₁.setTop (mkF m 24 #[.val (.ref r0), .val (.int x1), .val (.int (4 : Int32)), .val (.int (((0 : Int32) * (10 : Int32)) + ((F x1) - (48 : Int32)))), .val (.int (x1 + (1 : Int32)))] [(.int ((F (x1 + (1 : Int32))) - (48 : Int32))), (.int ((((0 : Int32) * (10 : Int32)) + ((F x1) - (48 : Int32))) * (10 : Int32)))]))
  refine own_go (fun t k => XS.iadd X0.here hx rfl (hb hby own_d4_24) rfl k) ?_
  show own_Goes p e below _ (s₁.setTop (mkF m 25 #[.val (.ref r0), .val (.int x1), .val (.int (4 : Int32)), .val (.int (((0 : Int32) * (10 : Int32)) + ((F x1) - (48 : Int32)))), .val (.int (x1 + (1 : Int32)))] [(.int (((((0 : Int32) * (10 : Int32)) + ((F x1) - (48 : Int32))) * (10 : Int32)) + ((F (x1 + (1 : Int32))) - (48 : Int32))))]))
  refine own_go (fun t k => XS.istoreN X0.here hx rfl (hb hby own_d4_25) rfl (l' := #[.val (.ref r0), .val (.int x1), .val (.int (4 : Int32)), .val (.int (((((0 : Int32) * (10 : Int32)) + ((F x1) - (48 : Int32))) * (10 : Int32)) + ((F (x1 + (1 : Int32))) - (48 : Int32)))), .val (.int (x1 + (1 : Int32)))]) rfl k) ?_
  show own_Goes p e below _ (s₁.setTop (mkF m 26 #[.val (.ref r0), .val (.int x1), .val (.int (4 : Int32)), .val (.int (((((0 : Int32) * (10 : Int32)) + ((F x1) - (48 : Int32))) * (10 : Int32)) + ((F (x1 + (1 : Int32))) - (48 : Int32)))), .val (.int (x1 + (1 : Int32)))] []))
  refine own_go (fun t k => XS.iinc X0.here hx rfl (hb hby own_d4_26) rfl (l' := #[.val (.ref r0), .val (.int x1), .val (.int (4 : Int32)), .val (.int (((((0 : Int32) * (10 : Int32)) + ((F x1) - (48 : Int32))) * (10 : Int32)) + ((F (x1 + (1 : Int32))) - (48 : Int32)))), .val (.int ((x1 + (1 : Int32)) + (1 : Int32)))]) rfl k) ?_
  show own_Goes p e below _ (s₁.setTop (mkF m 29 #[.val (.ref r0), .val (.int x1), .val (.int (4 : Int32)), .val (.int (((((0 : Int32) * (10 : Int32)) + ((F x1) - (48 : Int32))) * (10 : Int32)) + ((F (x1 + (1 : Int32))) - (48 : Int32)))), .val (.int ((x1 + (1 : Int32)) + (1 : Int32)))] []))
  refine own_go (fun t k => XS.goto X0.here hx rfl (pc0 := 29) (pc' := 5) rfl (hb hby own_d4_29) (by decide) (by decide) k) ?_
  show own_Goes p e below _ (s₁.setTop (mkF m 5 #[.val (.ref r0), .val (.int x1), .val (.int (4 : Int32)), .val (.int (((((0 : Int32) * (10 : Int32)) + ((F x1) - (48 : Int32))) * (10 : Int32)) + ((F (x1 + (1 : Int32))) - (48 : Int32)))), .val (.int ((x1 + (1 : Int32)) + (1 : Int32)))] []))
  refine own_go (fun t k => XS.iload X0.here hx rfl (hb hby own_d4_5) rfl k) ?_
  show own_Goes p e below _ (s₁.setTop (mkF m 7 #[.val (.ref r0), .val (.int x1), .val (.int (4 : Int32)), .val (.int (((((0 : Int32) * (10 : Int32)) + ((F x1) - (48 : Int32))) * (10 : Int32)) + ((F (x1 + (1 : Int32))) - (48 : Int32)))), .val (.int ((x1 + (1 : Int32)) + (1 : Int32)))] [(.int ((x1 + (1 : Int32)) + (1 : Int32)))]))
  refine own_go (fun t k => XS.iloadN X0.here hx rfl (hb hby own_d4_7) rfl k) ?_
  show own_Goes p e below _ (s₁.setTop (mkF m 8 #[.val (.ref r0), .val (.int x1), .val (.int (4 : Int32)), .val (.int (((((0 : Int32) * (10 : Int32)) + ((F x1) - (48 : Int32))) * (10 : Int32)) + ((F (x1 + (1 : Int32))) - (48 : Int32)))), .val (.int ((x1 + (1 : Int32)) + (1 : Int32)))] [(.int x1), (.int ((x1 + (1 : Int32)) + (1 : Int32)))]))
  refine own_go (fun t k => XS.iloadN X0.here hx rfl (hb hby own_d4_8) rfl k) ?_
  show own_Goes p e below _ (s₁.setTop (mkF m 9 #[.val (.ref r0), .val (.int x1), .val (.int (4 : Int32)), .val (.int (((((0 : Int32) * (10 : Int32)) + ((F x1) - (48 : Int32))) * (10 : Int32)) + ((F (x1 + (1 : Int32))) - (48 : Int32)))), .val (.int ((x1 + (1 : Int32)) + (1 : Int32)))] [(.int (4 : Int32)), (.int x1), (.int ((x1 + (1 : Int32)) + (1 : Int32)))]))
  refine own_go (fun t k => XS.iadd X0.here hx rfl (hb hby own_d4_9) rfl k) ?_
  show own_Goes p e below _ (s₁.setTop (mkF m 10 #[.val (.ref r0), .val (.int x1), .val (.int (4 : Int32)), .val (.int (((((0 : Int32) * (10 : Int32)) + ((F x1) - (48 : Int32))) * (10 : Int32)) + ((F (x1 + (1 : Int32))) - (48 : Int32)))), .val (.int ((x1 + (1 : Int32)) + (1 : Int32)))] [(.int (x1 + (4 : Int32))), (.int ((x1 + (1 : Int32)) + (1 : Int32)))]))
  have hd40 : ((x1 + (1 : Int32)) + (1 : Int32)) < (x1 + (4 : Int32)) := (by rw [Int32.lt_iff_toInt_lt]; omega)
  refine own_go (fun t k => XS.icmpNo X0.here hx rfl (hb hby own_d4_10) rfl (tlt hd40).2.1 k) ?_
  show own_Goes p e below _ (s₁.setTop (mkF m 13 #[.val (.ref r0), .val (.int x1), .val (.int (4 : Int32)), .val (.int (((((0 : Int32) * (10 : Int32)) + ((F x1) - (48 : Int32))) * (10 : Int32)) + ((F (x1 + (1 : Int32))) - (48 : Int32)))), .val (.int ((x1 + (1 : Int32)) + (1 : Int32)))] []))
  refine own_go (fun t k => XS.iloadN X0.here hx rfl (hb hby own_d4_13) rfl k) ?_
  show own_Goes p e below _ (s₁.setTop (mkF m 14 #[.val (.ref r0), .val (.int x1), .val (.int (4 : Int32)), .val (.int (((((0 : Int32) * (10 : Int32)) + ((F x1) - (48 : Int32))) * (10 : Int32)) + ((F (x1 + (1 : Int32))) - (48 : Int32)))), .val (.int ((x1 + (1 : Int32)) + (1 : Int32)))] [(.int (((((0 : Int32) * (10 : Int32)) + ((F x1) - (48 : Int32))) * (10 : Int32)) + ((F (x1 + (1 : Int32))) - (48 : Int32))))]))
  refine own_go (fun t k => XS.bipush X0.here hx rfl (hb hby own_d4_14) k) ?_
  show own_Goes p e below _ (s₁.setTop (mkF m 16 #[.val (.ref r0), .val (.int x1), .val (.int (4 : Int32)), .val (.int (((((0 : Int32) * (10 : Int32)) + ((F x1) - (48 : Int32))) * (10 : Int32)) + ((F (x1 + (1 : Int32))) - (48 : Int32)))), .val (.int ((x1 + (1 : Int32)) + (1 : Int32)))] [(.int (10 : Int32)), (.int (((((0 : Int32) * (10 : Int32)) + ((F x1) - (48 : Int32))) * (10 : Int32)) + ((F (x1 + (1 : Int32))) - (48 : Int32))))]))
  refine own_go (fun t k => XS.imul X0.here hx rfl (hb hby own_d4_16) rfl k) ?_
  show own_Goes p e below _ (s₁.setTop (mkF m 17 #[.val (.ref r0), .val (.int x1), .val (.int (4 : Int32)), .val (.int (((((0 : Int32) * (10 : Int32)) + ((F x1) - (48 : Int32))) * (10 : Int32)) + ((F (x1 + (1 : Int32))) - (48 : Int32)))), .val (.int ((x1 + (1 : Int32)) + (1 : Int32)))] [(.int ((((((0 : Int32) * (10 : Int32)) + ((F x1) - (48 : Int32))) * (10 : Int32)) + ((F (x1 + (1 : Int32))) - (48 : Int32))) * (10 : Int32)))]))
  refine own_go (fun t k => XS.aloadN X0.here hx rfl (hb hby own_d4_17) rfl rfl k) ?_
  show own_Goes p e below _ (s₁.setTop (mkF m 18 #[.val (.ref r0), .val (.int x1), .val (.int (4 : Int32)), .val (.int (((((0 : Int32) * (10 : Int32)) + ((F x1) - (48 : Int32))) * (10 : Int32)) + ((F (x1 + (1 : Int32))) - (48 : Int32)))), .val (.int ((x1 + (1 : Int32)) + (1 : Int32)))] [(.ref r0), (.int ((((((0 : Int32) * (10 : Int32)) + ((F x1) - (48 : Int32))) * (10 : Int32)) + ((F (x1 + (1 : Int32))) - (48 : Int32))) * (10 : Int32)))]))
  refine own_go (fun t k => XS.iload X0.here hx rfl (hb hby own_d4_18) rfl k) ?_
  show own_Goes p e below _ (s₁.setTop (mkF m 20 #[.val (.ref r0), .val (.int x1), .val (.int (4 : Int32)), .val (.int (((((0 : Int32) * (10 : Int32)) + ((F x1) - (48 : Int32))) * (10 : Int32)) + ((F (x1 + (1 : Int32))) - (48 : Int32)))), .val (.int ((x1 + (1 : Int32)) + (1 : Int32)))] [(.int ((x1 + (1 : Int32)) + (1 : Int32))), (.ref r0), (.int ((((((0 : Int32) * (10 : Int32)) + ((F x1) - (48 : Int32))) * (10 : Int32)) + ((F (x1 + (1 : Int32))) - (48 : Int32))) * (10 : Int32)))]))
  refine own_go (fun t k => X0.caload hx (j := ((x1 + (1 : Int32)) + (1 : Int32))) (v := (.int (F ((x1 + (1 : Int32)) + (1 : Int32))))) (by rw [e0]; exact A_t.1) (State.isArrayOf_alike hZ.alike A_t.2.1) A_t.2.2 (inb_of z_t (own_bd (n := 32) (by rw [show (32 : Int32).toInt = 32 from rfl]; omega))) (t_t _ (own_bd (n := 32) (by rw [show (32 : Int32).toInt = 32 from rfl]; omega)).1 (own_bd (n := 32) (by rw [show (32 : Int32).toInt = 32 from rfl]; omega)).2) (g := (mkF m 20 #[.val (.ref r0), .val (.int x1), .val (.int (4 : Int32)), .val (.int (((((0 : Int32) * (10 : Int32)) + ((F x1) - (48 : Int32))) * (10 : Int32)) + ((F (x1 + (1 : Int32))) - (48 : Int32)))), .val (.int ((x1 + (1 : Int32)) + (1 : Int32)))] [(.int ((x1 + (1 : Int32)) + (1 : Int32))), (.ref r0), (.int ((((((0 : Int32) * (10 : Int32)) + ((F x1) - (48 : Int32))) * (10 : Int32)) + ((F (x1 + (1 : Int32))) - (48 : Int32))) * (10 : Int32)))])) rfl rfl (hb hby own_d4_20) t k) ?_
  show own_Goes p e below _ (s₁.setTop (mkF m 21 #[.val (.ref r0), .val (.int x1), .val (.int (4 : Int32)), .val (.int (((((0 : Int32) * (10 : Int32)) + ((F x1) - (48 : Int32))) * (10 : Int32)) + ((F (x1 + (1 : Int32))) - (48 : Int32)))), .val (.int ((x1 + (1 : Int32)) + (1 : Int32)))] [(.int (F ((x1 + (1 : Int32)) + (1 : Int32)))), (.int ((((((0 : Int32) * (10 : Int32)) + ((F x1) - (48 : Int32))) * (10 : Int32)) + ((F (x1 + (1 : Int32))) - (48 : Int32))) * (10 : Int32)))]))
  refine own_go (fun t k => XS.bipush X0.here hx rfl (hb hby own_d4_21) k) ?_
  show own_Goes p e below _ (s₁.setTop (mkF m 23 #[.val (.ref r0), .val (.int x1), .val (.int (4 : Int32)), .val (.int (((((0 : Int32) * (10 : Int32)) + ((F x1) - (48 : Int32))) * (10 : Int32)) + ((F (x1 + (1 : Int32))) - (48 : Int32)))), .val (.int ((x1 + (1 : Int32)) + (1 : Int32)))] [(.int (48 : Int32)), (.int (F ((x1 + (1 : Int32)) + (1 : Int32)))), (.int ((((((0 : Int32) * (10 : Int32)) + ((F x1) - (48 : Int32))) * (10 : Int32)) + ((F (x1 + (1 : Int32))) - (48 : Int32))) * (10 : Int32)))]))
  refine own_go (fun t k => XS.isub X0.here hx rfl (hb hby own_d4_23) rfl k) ?_
  show own_Goes p e below _ (s₁.setTop (mkF m 24 #[.val (.ref r0), .val (.int x1), .val (.int (4 : Int32)), .val (.int (((((0 : Int32) * (10 : Int32)) + ((F x1) - (48 : Int32))) * (10 : Int32)) + ((F (x1 + (1 : Int32))) - (48 : Int32)))), .val (.int ((x1 + (1 : Int32)) + (1 : Int32)))] [(.int ((F ((x1 + (1 : Int32)) + (1 : Int32))) - (48 : Int32))), (.int ((((((0 : Int32) * (10 : Int32)) + ((F x1) - (48 : Int32))) * (10 : Int32)) + ((F (x1 + (1 : Int32))) - (48 : Int32))) * (10 : Int32)))]))
  refine own_go (fun t k => XS.iadd X0.here hx rfl (hb hby own_d4_24) rfl k) ?_
  show own_Goes p e below _ (s₁.setTop (mkF m 25 #[.val (.ref r0), .val (.int x1), .val (.int (4 : Int32)), .val (.int (((((0 : Int32) * (10 : Int32)) + ((F x1) - (48 : Int32))) * (10 : Int32)) + ((F (x1 + (1 : Int32))) - (48 : Int32)))), .val (.int ((x1 + (1 : Int32)) + (1 : Int32)))] [(.int (((((((0 : Int32) * (10 : Int32)) + ((F x1) - (48 : Int32))) * (10 : Int32)) + ((F (x1 + (1 : Int32))) - (48 : Int32))) * (10 : Int32)) + ((F ((x1 + (1 : Int32)) + (1 : Int32))) - (48 : Int32))))]))
  refine own_go (fun t k => XS.istoreN X0.here hx rfl (hb hby own_d4_25) rfl (l' := #[.val (.ref r0), .val (.int x1), .val (.int (4 : Int32)), .val (.int (((((((0 : Int32) * (10 : Int32)) + ((F x1) - (48 : Int32))) * (10 : Int32)) + ((F (x1 + (1 : Int32))) - (48 : Int32))) * (10 : Int32)) + ((F ((x1 + (1 : Int32)) + (1 : Int32))) - (48 : Int32)))), .val (.int ((x1 + (1 : Int32)) + (1 : Int32)))]) rfl k) ?_
  show own_Goes p e below _ (s₁.setTop (mkF m 26 #[.val (.ref r0), .val (.int x1), .val (.int (4 : Int32)), .val (.int (((((((0 : Int32) * (10 : Int32)) + ((F x1) - (48 : Int32))) * (10 : Int32)) + ((F (x1 + (1 : Int32))) - (48 : Int32))) * (10 : Int32)) + ((F ((x1 + (1 : Int32)) + (1 : Int32))) - (48 : Int32)))), .val (.int ((x1 + (1 : Int32)) + (1 : Int32)))] []))
  refine own_go (fun t k => XS.iinc X0.here hx rfl (hb hby own_d4_26) rfl (l' := #[.val (.ref r0), .val (.int x1), .val (.int (4 : Int32)), .val (.int (((((((0 : Int32) * (10 : Int32)) + ((F x1) - (48 : Int32))) * (10 : Int32)) + ((F (x1 + (1 : Int32))) - (48 : Int32))) * (10 : Int32)) + ((F ((x1 + (1 : Int32)) + (1 : Int32))) - (48 : Int32)))), .val (.int (((x1 + (1 : Int32)) + (1 : Int32)) + (1 : Int32)))]) rfl k) ?_
  show own_Goes p e below _ (s₁.setTop (mkF m 29 #[.val (.ref r0), .val (.int x1), .val (.int (4 : Int32)), .val (.int (((((((0 : Int32) * (10 : Int32)) + ((F x1) - (48 : Int32))) * (10 : Int32)) + ((F (x1 + (1 : Int32))) - (48 : Int32))) * (10 : Int32)) + ((F ((x1 + (1 : Int32)) + (1 : Int32))) - (48 : Int32)))), .val (.int (((x1 + (1 : Int32)) + (1 : Int32)) + (1 : Int32)))] []))
  refine own_go (fun t k => XS.goto X0.here hx rfl (pc0 := 29) (pc' := 5) rfl (hb hby own_d4_29) (by decide) (by decide) k) ?_
  show own_Goes p e below _ (s₁.setTop (mkF m 5 #[.val (.ref r0), .val (.int x1), .val (.int (4 : Int32)), .val (.int (((((((0 : Int32) * (10 : Int32)) + ((F x1) - (48 : Int32))) * (10 : Int32)) + ((F (x1 + (1 : Int32))) - (48 : Int32))) * (10 : Int32)) + ((F ((x1 + (1 : Int32)) + (1 : Int32))) - (48 : Int32)))), .val (.int (((x1 + (1 : Int32)) + (1 : Int32)) + (1 : Int32)))] []))
  refine own_go (fun t k => XS.iload X0.here hx rfl (hb hby own_d4_5) rfl k) ?_
  show own_Goes p e below _ (s₁.setTop (mkF m 7 #[.val (.ref r0), .val (.int x1), .val (.int (4 : Int32)), .val (.int (((((((0 : Int32) * (10 : Int32)) + ((F x1) - (48 : Int32))) * (10 : Int32)) + ((F (x1 + (1 : Int32))) - (48 : Int32))) * (10 : Int32)) + ((F ((x1 + (1 : Int32)) + (1 : Int32))) - (48 : Int32)))), .val (.int (((x1 + (1 : Int32)) + (1 : Int32)) + (1 : Int32)))] [(.int (((x1 + (1 : Int32)) + (1 : Int32)) + (1 : Int32)))]))
  refine own_go (fun t k => XS.iloadN X0.here hx rfl (hb hby own_d4_7) rfl k) ?_
  show own_Goes p e below _ (s₁.setTop (mkF m 8 #[.val (.ref r0), .val (.int x1), .val (.int (4 : Int32)), .val (.int (((((((0 : Int32) * (10 : Int32)) + ((F x1) - (48 : Int32))) * (10 : Int32)) + ((F (x1 + (1 : Int32))) - (48 : Int32))) * (10 : Int32)) + ((F ((x1 + (1 : Int32)) + (1 : Int32))) - (48 : Int32)))), .val (.int (((x1 + (1 : Int32)) + (1 : Int32)) + (1 : Int32)))] [(.int x1), (.int (((x1 + (1 : Int32)) + (1 : Int32)) + (1 : Int32)))]))
  refine own_go (fun t k => XS.iloadN X0.here hx rfl (hb hby own_d4_8) rfl k) ?_
  show own_Goes p e below _ (s₁.setTop (mkF m 9 #[.val (.ref r0), .val (.int x1), .val (.int (4 : Int32)), .val (.int (((((((0 : Int32) * (10 : Int32)) + ((F x1) - (48 : Int32))) * (10 : Int32)) + ((F (x1 + (1 : Int32))) - (48 : Int32))) * (10 : Int32)) + ((F ((x1 + (1 : Int32)) + (1 : Int32))) - (48 : Int32)))), .val (.int (((x1 + (1 : Int32)) + (1 : Int32)) + (1 : Int32)))] [(.int (4 : Int32)), (.int x1), (.int (((x1 + (1 : Int32)) + (1 : Int32)) + (1 : Int32)))]))
  refine own_go (fun t k => XS.iadd X0.here hx rfl (hb hby own_d4_9) rfl k) ?_
  show own_Goes p e below _ (s₁.setTop (mkF m 10 #[.val (.ref r0), .val (.int x1), .val (.int (4 : Int32)), .val (.int (((((((0 : Int32) * (10 : Int32)) + ((F x1) - (48 : Int32))) * (10 : Int32)) + ((F (x1 + (1 : Int32))) - (48 : Int32))) * (10 : Int32)) + ((F ((x1 + (1 : Int32)) + (1 : Int32))) - (48 : Int32)))), .val (.int (((x1 + (1 : Int32)) + (1 : Int32)) + (1 : Int32)))] [(.int (x1 + (4 : Int32))), (.int (((x1 + (1 : Int32)) + (1 : Int32)) + (1 : Int32)))]))
  have hd41 : (((x1 + (1 : Int32)) + (1 : Int32)) + (1 : Int32)) < (x1 + (4 : Int32)) := (by rw [Int32.lt_iff_toInt_lt]; omega)
  refine own_go (fun t k => XS.icmpNo X0.here hx rfl (hb hby own_d4_10) rfl (tlt hd41).2.1 k) ?_
  show own_Goes p e below _ (s₁.setTop (mkF m 13 #[.val (.ref r0), .val (.int x1), .val (.int (4 : Int32)), .val (.int (((((((0 : Int32) * (10 : Int32)) + ((F x1) - (48 : Int32))) * (10 : Int32)) + ((F (x1 + (1 : Int32))) - (48 : Int32))) * (10 : Int32)) + ((F ((x1 + (1 : Int32)) + (1 : Int32))) - (48 : Int32)))), .val (.int (((x1 + (1 : Int32)) + (1 : Int32)) + (1 : Int32)))] []))
  refine own_go (fun t k => XS.iloadN X0.here hx rfl (hb hby own_d4_13) rfl k) ?_
  show own_Goes p e below _ (s₁.setTop (mkF m 14 #[.val (.ref r0), .val (.int x1), .val (.int (4 : Int32)), .val (.int (((((((0 : Int32) * (10 : Int32)) + ((F x1) - (48 : Int32))) * (10 : Int32)) + ((F (x1 + (1 : Int32))) - (48 : Int32))) * (10 : Int32)) + ((F ((x1 + (1 : Int32)) + (1 : Int32))) - (48 : Int32)))), .val (.int (((x1 + (1 : Int32)) + (1 : Int32)) + (1 : Int32)))] [(.int (((((((0 : Int32) * (10 : Int32)) + ((F x1) - (48 : Int32))) * (10 : Int32)) + ((F (x1 + (1 : Int32))) - (48 : Int32))) * (10 : Int32)) + ((F ((x1 + (1 : Int32)) + (1 : Int32))) - (48 : Int32))))]))
  refine own_go (fun t k => XS.bipush X0.here hx rfl (hb hby own_d4_14) k) ?_
  show own_Goes p e below _ (s₁.setTop (mkF m 16 #[.val (.ref r0), .val (.int x1), .val (.int (4 : Int32)), .val (.int (((((((0 : Int32) * (10 : Int32)) + ((F x1) - (48 : Int32))) * (10 : Int32)) + ((F (x1 + (1 : Int32))) - (48 : Int32))) * (10 : Int32)) + ((F ((x1 + (1 : Int32)) + (1 : Int32))) - (48 : Int32)))), .val (.int (((x1 + (1 : Int32)) + (1 : Int32)) + (1 : Int32)))] [(.int (10 : Int32)), (.int (((((((0 : Int32) * (10 : Int32)) + ((F x1) - (48 : Int32))) * (10 : Int32)) + ((F (x1 + (1 : Int32))) - (48 : Int32))) * (10 : Int32)) + ((F ((x1 + (1 : Int32)) + (1 : Int32))) - (48 : Int32))))]))
  refine own_go (fun t k => XS.imul X0.here hx rfl (hb hby own_d4_16) rfl k) ?_
  show own_Goes p e below _ (s₁.setTop (mkF m 17 #[.val (.ref r0), .val (.int x1), .val (.int (4 : Int32)), .val (.int (((((((0 : Int32) * (10 : Int32)) + ((F x1) - (48 : Int32))) * (10 : Int32)) + ((F (x1 + (1 : Int32))) - (48 : Int32))) * (10 : Int32)) + ((F ((x1 + (1 : Int32)) + (1 : Int32))) - (48 : Int32)))), .val (.int (((x1 + (1 : Int32)) + (1 : Int32)) + (1 : Int32)))] [(.int ((((((((0 : Int32) * (10 : Int32)) + ((F x1) - (48 : Int32))) * (10 : Int32)) + ((F (x1 + (1 : Int32))) - (48 : Int32))) * (10 : Int32)) + ((F ((x1 + (1 : Int32)) + (1 : Int32))) - (48 : Int32))) * (10 : Int32)))]))
  refine own_go (fun t k => XS.aloadN X0.here hx rfl (hb hby own_d4_17) rfl rfl k) ?_
  show own_Goes p e below _ (s₁.setTop (mkF m 18 #[.val (.ref r0), .val (.int x1), .val (.int (4 : Int32)), .val (.int (((((((0 : Int32) * (10 : Int32)) + ((F x1) - (48 : Int32))) * (10 : Int32)) + ((F (x1 + (1 : Int32))) - (48 : Int32))) * (10 : Int32)) + ((F ((x1 + (1 : Int32)) + (1 : Int32))) - (48 : Int32)))), .val (.int (((x1 + (1 : Int32)) + (1 : Int32)) + (1 : Int32)))] [(.ref r0), (.int ((((((((0 : Int32) * (10 : Int32)) + ((F x1) - (48 : Int32))) * (10 : Int32)) + ((F (x1 + (1 : Int32))) - (48 : Int32))) * (10 : Int32)) + ((F ((x1 + (1 : Int32)) + (1 : Int32))) - (48 : Int32))) * (10 : Int32)))]))
  refine own_go (fun t k => XS.iload X0.here hx rfl (hb hby own_d4_18) rfl k) ?_
  show own_Goes p e below _ (s₁.setTop (mkF m 20 #[.val (.ref r0), .val (.int x1), .val (.int (4 : Int32)), .val (.int (((((((0 : Int32) * (10 : Int32)) + ((F x1) - (48 : Int32))) * (10 : Int32)) + ((F (x1 + (1 : Int32))) - (48 : Int32))) * (10 : Int32)) + ((F ((x1 + (1 : Int32)) + (1 : Int32))) - (48 : Int32)))), .val (.int (((x1 + (1 : Int32)) + (1 : Int32)) + (1 : Int32)))] [(.int (((x1 + (1 : Int32)) + (1 : Int32)) + (1 : Int32))), (.ref r0), (.int ((((((((0 : Int32) * (10 : Int32)) + ((F x1) - (48 : Int32))) * (10 : Int32)) + ((F (x1 + (1 : Int32))) - (48 : Int32))) * (10 : Int32)) + ((F ((x1 + (1 : Int32)) + (1 : Int32))) - (48 : Int32))) * (10 : Int32)))]))
  refine own_go (fun t k => X0.caload hx (j := (((x1 + (1 : Int32)) + (1 : Int32)) + (1 : Int32))) (v := (.int (F (((x1 + (1 : Int32)) + (1 : Int32)) + (1 : Int32))))) (by rw [e0]; exact A_t.1) (State.isArrayOf_alike hZ.alike A_t.2.1) A_t.2.2 (inb_of z_t (own_bd (n := 32) (by rw [show (32 : Int32).toInt = 32 from rfl]; omega))) (t_t _ (own_bd (n := 32) (by rw [show (32 : Int32).toInt = 32 from rfl]; omega)).1 (own_bd (n := 32) (by rw [show (32 : Int32).toInt = 32 from rfl]; omega)).2) (g := (mkF m 20 #[.val (.ref r0), .val (.int x1), .val (.int (4 : Int32)), .val (.int (((((((0 : Int32) * (10 : Int32)) + ((F x1) - (48 : Int32))) * (10 : Int32)) + ((F (x1 + (1 : Int32))) - (48 : Int32))) * (10 : Int32)) + ((F ((x1 + (1 : Int32)) + (1 : Int32))) - (48 : Int32)))), .val (.int (((x1 + (1 : Int32)) + (1 : Int32)) + (1 : Int32)))] [(.int (((x1 + (1 : Int32)) + (1 : Int32)) + (1 : Int32))), (.ref r0), (.int ((((((((0 : Int32) * (10 : Int32)) + ((F x1) - (48 : Int32))) * (10 : Int32)) + ((F (x1 + (1 : Int32))) - (48 : Int32))) * (10 : Int32)) + ((F ((x1 + (1 : Int32)) + (1 : Int32))) - (48 : Int32))) * (10 : Int32)))])) rfl rfl (hb hby own_d4_20) t k) ?_
  show own_Goes p e below _ (s₁.setTop (mkF m 21 #[.val (.ref r0), .val (.int x1), .val (.int (4 : Int32)), .val (.int (((((((0 : Int32) * (10 : Int32)) + ((F x1) - (48 : Int32))) * (10 : Int32)) + ((F (x1 + (1 : Int32))) - (48 : Int32))) * (10 : Int32)) + ((F ((x1 + (1 : Int32)) + (1 : Int32))) - (48 : Int32)))), .val (.int (((x1 + (1 : Int32)) + (1 : Int32)) + (1 : Int32)))] [(.int (F (((x1 + (1 : Int32)) + (1 : Int32)) + (1 : Int32)))), (.int ((((((((0 : Int32) * (10 : Int32)) + ((F x1) - (48 : Int32))) * (10 : Int32)) + ((F (x1 + (1 : Int32))) - (48 : Int32))) * (10 : Int32)) + ((F ((x1 + (1 : Int32)) + (1 : Int32))) - (48 : Int32))) * (10 : Int32)))]))
  refine own_go (fun t k => XS.bipush X0.here hx rfl (hb hby own_d4_21) k) ?_
  show own_Goes p e below _ (s₁.setTop (mkF m 23 #[.val (.ref r0), .val (.int x1), .val (.int (4 : Int32)), .val (.int (((((((0 : Int32) * (10 : Int32)) + ((F x1) - (48 : Int32))) * (10 : Int32)) + ((F (x1 + (1 : Int32))) - (48 : Int32))) * (10 : Int32)) + ((F ((x1 + (1 : Int32)) + (1 : Int32))) - (48 : Int32)))), .val (.int (((x1 + (1 : Int32)) + (1 : Int32)) + (1 : Int32)))] [(.int (48 : Int32)), (.int (F (((x1 + (1 : Int32)) + (1 : Int32)) + (1 : Int32)))), (.int ((((((((0 : Int32) * (10 : Int32)) + ((F x1) - (48 : Int32))) * (10 : Int32)) + ((F (x1 + (1 : Int32))) - (48 : Int32))) * (10 : Int32)) + ((F ((x1 + (1 : Int32)) + (1 : Int32))) - (48 : Int32))) * (10 : Int32)))]))
  refine own_go (fun t k => XS.isub X0.here hx rfl (hb hby own_d4_23) rfl k) ?_
  show own_Goes p e below _ (s₁.setTop (mkF m 24 #[.val (.ref r0), .val (.int x1), .val (.int (4 : Int32)), .val (.int (((((((0 : Int32) * (10 : Int32)) + ((F x1) - (48 : Int32))) * (10 : Int32)) + ((F (x1 + (1 : Int32))) - (48 : Int32))) * (10 : Int32)) + ((F ((x1 + (1 : Int32)) + (1 : Int32))) - (48 : Int32)))), .val (.int (((x1 + (1 : Int32)) + (1 : Int32)) + (1 : Int32)))] [(.int ((F (((x1 + (1 : Int32)) + (1 : Int32)) + (1 : Int32))) - (48 : Int32))), (.int ((((((((0 : Int32) * (10 : Int32)) + ((F x1) - (48 : Int32))) * (10 : Int32)) + ((F (x1 + (1 : Int32))) - (48 : Int32))) * (10 : Int32)) + ((F ((x1 + (1 : Int32)) + (1 : Int32))) - (48 : Int32))) * (10 : Int32)))]))
  refine own_go (fun t k => XS.iadd X0.here hx rfl (hb hby own_d4_24) rfl k) ?_
  show own_Goes p e below _ (s₁.setTop (mkF m 25 #[.val (.ref r0), .val (.int x1), .val (.int (4 : Int32)), .val (.int (((((((0 : Int32) * (10 : Int32)) + ((F x1) - (48 : Int32))) * (10 : Int32)) + ((F (x1 + (1 : Int32))) - (48 : Int32))) * (10 : Int32)) + ((F ((x1 + (1 : Int32)) + (1 : Int32))) - (48 : Int32)))), .val (.int (((x1 + (1 : Int32)) + (1 : Int32)) + (1 : Int32)))] [(.int (((((((((0 : Int32) * (10 : Int32)) + ((F x1) - (48 : Int32))) * (10 : Int32)) + ((F (x1 + (1 : Int32))) - (48 : Int32))) * (10 : Int32)) + ((F ((x1 + (1 : Int32)) + (1 : Int32))) - (48 : Int32))) * (10 : Int32)) + ((F (((x1 + (1 : Int32)) + (1 : Int32)) + (1 : Int32))) - (48 : Int32))))]))
  refine own_go (fun t k => XS.istoreN X0.here hx rfl (hb hby own_d4_25) rfl (l' := #[.val (.ref r0), .val (.int x1), .val (.int (4 : Int32)), .val (.int (((((((((0 : Int32) * (10 : Int32)) + ((F x1) - (48 : Int32))) * (10 : Int32)) + ((F (x1 + (1 : Int32))) - (48 : Int32))) * (10 : Int32)) + ((F ((x1 + (1 : Int32)) + (1 : Int32))) - (48 : Int32))) * (10 : Int32)) + ((F (((x1 + (1 : Int32)) + (1 : Int32)) + (1 : Int32))) - (48 : Int32)))), .val (.int (((x1 + (1 : Int32)) + (1 : Int32)) + (1 : Int32)))]) rfl k) ?_
  show own_Goes p e below _ (s₁.setTop (mkF m 26 #[.val (.ref r0), .val (.int x1), .val (.int (4 : Int32)), .val (.int (((((((((0 : Int32) * (10 : Int32)) + ((F x1) - (48 : Int32))) * (10 : Int32)) + ((F (x1 + (1 : Int32))) - (48 : Int32))) * (10 : Int32)) + ((F ((x1 + (1 : Int32)) + (1 : Int32))) - (48 : Int32))) * (10 : Int32)) + ((F (((x1 + (1 : Int32)) + (1 : Int32)) + (1 : Int32))) - (48 : Int32)))), .val (.int (((x1 + (1 : Int32)) + (1 : Int32)) + (1 : Int32)))] []))
  refine own_go (fun t k => XS.iinc X0.here hx rfl (hb hby own_d4_26) rfl (l' := #[.val (.ref r0), .val (.int x1), .val (.int (4 : Int32)), .val (.int (((((((((0 : Int32) * (10 : Int32)) + ((F x1) - (48 : Int32))) * (10 : Int32)) + ((F (x1 + (1 : Int32))) - (48 : Int32))) * (10 : Int32)) + ((F ((x1 + (1 : Int32)) + (1 : Int32))) - (48 : Int32))) * (10 : Int32)) + ((F (((x1 + (1 : Int32)) + (1 : Int32)) + (1 : Int32))) - (48 : Int32)))), .val (.int ((((x1 + (1 : Int32)) + (1 : Int32)) + (1 : Int32)) + (1 : Int32)))]) rfl k) ?_
  show own_Goes p e below _ (s₁.setTop (mkF m 29 #[.val (.ref r0), .val (.int x1), .val (.int (4 : Int32)), .val (.int (((((((((0 : Int32) * (10 : Int32)) + ((F x1) - (48 : Int32))) * (10 : Int32)) + ((F (x1 + (1 : Int32))) - (48 : Int32))) * (10 : Int32)) + ((F ((x1 + (1 : Int32)) + (1 : Int32))) - (48 : Int32))) * (10 : Int32)) + ((F (((x1 + (1 : Int32)) + (1 : Int32)) + (1 : Int32))) - (48 : Int32)))), .val (.int ((((x1 + (1 : Int32)) + (1 : Int32)) + (1 : Int32)) + (1 : Int32)))] []))
  refine own_go (fun t k => XS.goto X0.here hx rfl (pc0 := 29) (pc' := 5) rfl (hb hby own_d4_29) (by decide) (by decide) k) ?_
  show own_Goes p e below _ (s₁.setTop (mkF m 5 #[.val (.ref r0), .val (.int x1), .val (.int (4 : Int32)), .val (.int (((((((((0 : Int32) * (10 : Int32)) + ((F x1) - (48 : Int32))) * (10 : Int32)) + ((F (x1 + (1 : Int32))) - (48 : Int32))) * (10 : Int32)) + ((F ((x1 + (1 : Int32)) + (1 : Int32))) - (48 : Int32))) * (10 : Int32)) + ((F (((x1 + (1 : Int32)) + (1 : Int32)) + (1 : Int32))) - (48 : Int32)))), .val (.int ((((x1 + (1 : Int32)) + (1 : Int32)) + (1 : Int32)) + (1 : Int32)))] []))
  refine own_go (fun t k => XS.iload X0.here hx rfl (hb hby own_d4_5) rfl k) ?_
  show own_Goes p e below _ (s₁.setTop (mkF m 7 #[.val (.ref r0), .val (.int x1), .val (.int (4 : Int32)), .val (.int (((((((((0 : Int32) * (10 : Int32)) + ((F x1) - (48 : Int32))) * (10 : Int32)) + ((F (x1 + (1 : Int32))) - (48 : Int32))) * (10 : Int32)) + ((F ((x1 + (1 : Int32)) + (1 : Int32))) - (48 : Int32))) * (10 : Int32)) + ((F (((x1 + (1 : Int32)) + (1 : Int32)) + (1 : Int32))) - (48 : Int32)))), .val (.int ((((x1 + (1 : Int32)) + (1 : Int32)) + (1 : Int32)) + (1 : Int32)))] [(.int ((((x1 + (1 : Int32)) + (1 : Int32)) + (1 : Int32)) + (1 : Int32)))]))
  refine own_go (fun t k => XS.iloadN X0.here hx rfl (hb hby own_d4_7) rfl k) ?_
  show own_Goes p e below _ (s₁.setTop (mkF m 8 #[.val (.ref r0), .val (.int x1), .val (.int (4 : Int32)), .val (.int (((((((((0 : Int32) * (10 : Int32)) + ((F x1) - (48 : Int32))) * (10 : Int32)) + ((F (x1 + (1 : Int32))) - (48 : Int32))) * (10 : Int32)) + ((F ((x1 + (1 : Int32)) + (1 : Int32))) - (48 : Int32))) * (10 : Int32)) + ((F (((x1 + (1 : Int32)) + (1 : Int32)) + (1 : Int32))) - (48 : Int32)))), .val (.int ((((x1 + (1 : Int32)) + (1 : Int32)) + (1 : Int32)) + (1 : Int32)))] [(.int x1), (.int ((((x1 + (1 : Int32)) + (1 : Int32)) + (1 : Int32)) + (1 : Int32)))]))
  refine own_go (fun t k => XS.iloadN X0.here hx rfl (hb hby own_d4_8) rfl k) ?_
  show own_Goes p e below _ (s₁.setTop (mkF m 9 #[.val (.ref r0), .val (.int x1), .val (.int (4 : Int32)), .val (.int (((((((((0 : Int32) * (10 : Int32)) + ((F x1) - (48 : Int32))) * (10 : Int32)) + ((F (x1 + (1 : Int32))) - (48 : Int32))) * (10 : Int32)) + ((F ((x1 + (1 : Int32)) + (1 : Int32))) - (48 : Int32))) * (10 : Int32)) + ((F (((x1 + (1 : Int32)) + (1 : Int32)) + (1 : Int32))) - (48 : Int32)))), .val (.int ((((x1 + (1 : Int32)) + (1 : Int32)) + (1 : Int32)) + (1 : Int32)))] [(.int (4 : Int32)), (.int x1), (.int ((((x1 + (1 : Int32)) + (1 : Int32)) + (1 : Int32)) + (1 : Int32)))]))
  refine own_go (fun t k => XS.iadd X0.here hx rfl (hb hby own_d4_9) rfl k) ?_
  show own_Goes p e below _ (s₁.setTop (mkF m 10 #[.val (.ref r0), .val (.int x1), .val (.int (4 : Int32)), .val (.int (((((((((0 : Int32) * (10 : Int32)) + ((F x1) - (48 : Int32))) * (10 : Int32)) + ((F (x1 + (1 : Int32))) - (48 : Int32))) * (10 : Int32)) + ((F ((x1 + (1 : Int32)) + (1 : Int32))) - (48 : Int32))) * (10 : Int32)) + ((F (((x1 + (1 : Int32)) + (1 : Int32)) + (1 : Int32))) - (48 : Int32)))), .val (.int ((((x1 + (1 : Int32)) + (1 : Int32)) + (1 : Int32)) + (1 : Int32)))] [(.int (x1 + (4 : Int32))), (.int ((((x1 + (1 : Int32)) + (1 : Int32)) + (1 : Int32)) + (1 : Int32)))]))
  have hd42 : ¬ (((((x1 + (1 : Int32)) + (1 : Int32)) + (1 : Int32)) + (1 : Int32)) < (x1 + (4 : Int32))) := (by rw [Int32.lt_iff_toInt_lt]; omega)
  refine own_go (fun t k => XS.icmpYes X0.here hx rfl (pc0 := 10) (pc' := 32) rfl (hb hby own_d4_10) rfl (flt hd42).2.1 (by decide) (by decide) k) ?_
  show own_Goes p e below _ (s₁.setTop (mkF m 32 #[.val (.ref r0), .val (.int x1), .val (.int (4 : Int32)), .val (.int (((((((((0 : Int32) * (10 : Int32)) + ((F x1) - (48 : Int32))) * (10 : Int32)) + ((F (x1 + (1 : Int32))) - (48 : Int32))) * (10 : Int32)) + ((F ((x1 + (1 : Int32)) + (1 : Int32))) - (48 : Int32))) * (10 : Int32)) + ((F (((x1 + (1 : Int32)) + (1 : Int32)) + (1 : Int32))) - (48 : Int32)))), .val (.int ((((x1 + (1 : Int32)) + (1 : Int32)) + (1 : Int32)) + (1 : Int32)))] []))
  refine own_go (fun t k => XS.iloadN X0.here hx rfl (hb hby own_d4_32) rfl k) ?_
  show own_Goes p e below _ (s₁.setTop (mkF m 33 #[.val (.ref r0), .val (.int x1), .val (.int (4 : Int32)), .val (.int (((((((((0 : Int32) * (10 : Int32)) + ((F x1) - (48 : Int32))) * (10 : Int32)) + ((F (x1 + (1 : Int32))) - (48 : Int32))) * (10 : Int32)) + ((F ((x1 + (1 : Int32)) + (1 : Int32))) - (48 : Int32))) * (10 : Int32)) + ((F (((x1 + (1 : Int32)) + (1 : Int32)) + (1 : Int32))) - (48 : Int32)))), .val (.int ((((x1 + (1 : Int32)) + (1 : Int32)) + (1 : Int32)) + (1 : Int32)))] [(.int (((((((((0 : Int32) * (10 : Int32)) + ((F x1) - (48 : Int32))) * (10 : Int32)) + ((F (x1 + (1 : Int32))) - (48 : Int32))) * (10 : Int32)) + ((F ((x1 + (1 : Int32)) + (1 : Int32))) - (48 : Int32))) * (10 : Int32)) + ((F (((x1 + (1 : Int32)) + (1 : Int32)) + (1 : Int32))) - (48 : Int32))))]))
  exact own_retI X0 hx hlk hret (hb hby own_d4_33) (by decide) (by decide) ⟨by rw [own_f4_4], N0, e0⟩
theorem own_db0 (x : Int32) (h : 0 ≤ x.toInt ∧ x.toInt ≤ 3) : 0 ≤ x.toInt ∧ x.toInt ≤ 28 := by omega
theorem own_db (x : Int32) (h : 0 ≤ x.toInt ∧ x.toInt ≤ 3) (k : Int32) (hk : 0 ≤ k.toInt ∧ k.toInt ≤ 25 := by decide) : 0 ≤ (x + k).toInt ∧ (x + k).toInt ≤ 28 := by
  rw [own_add _ _ (by omega)]; omega
theorem own_d3_91 : decode prog_25_method_4_code 91 = .ok (.aload_n 0, 1) := by decide +kernel
theorem own_d3_92 : decode prog_25_method_4_code 92 = .ok (.iload_n 1, 1) := by decide +kernel
theorem own_d3_93 : decode prog_25_method_4_code 93 = .ok (.iconst 4, 1) := by decide +kernel
theorem own_d3_94 : decode prog_25_method_4_code 94 = .ok (.invokestatic 157, 3) := by decide +kernel
theorem own_t23 : (Jvm.Cond.methodLink "com/example/kleio/kleio/RecordTime" (157 : Nat) ({ cls := "com/example/kleio/kleio/RecordTime", name := "digits", desc := "([CII)I" } : Jvm.MethodName)) ∈ tables_1 := List.mem_of_getElem? (i := 23) rfl
theorem own_pd0 : parseMethodDescriptor "([CII)I" = some ⟨[(.array .char), .int, .int], some .int⟩ := by decide +kernel
theorem own_t24 : (Jvm.Cond.static ({ cls := "com/example/kleio/kleio/RecordTime", name := "digits", desc := "([CII)I" } : Jvm.MethodName)) ∈ tables_1 := List.mem_of_getElem? (i := 24) rfl
theorem own_t25 : (Jvm.Cond.code ({ cls := "com/example/kleio/kleio/RecordTime", name := "digits", desc := "([CII)I" } : Jvm.MethodName) prog_25_method_5_code (5 : Nat) (Option.some Jvm.ClassFile.FieldType.int)) ∈ tables_1 := List.mem_of_getElem? (i := 25) rfl
theorem own_d3_97 : decode prog_25_method_4_code 97 = .ok (.istore_n 3, 1) := by decide +kernel
theorem own_d3_98 : decode prog_25_method_4_code 98 = .ok (.aload_n 0, 1) := by decide +kernel
theorem own_d3_99 : decode prog_25_method_4_code 99 = .ok (.iload_n 1, 1) := by decide +kernel
theorem own_d3_100 : decode prog_25_method_4_code 100 = .ok (.iconst 5, 1) := by decide +kernel
theorem own_d3_101 : decode prog_25_method_4_code 101 = .ok (.iadd, 1) := by decide +kernel
theorem own_d3_102 : decode prog_25_method_4_code 102 = .ok (.iconst 2, 1) := by decide +kernel
theorem own_d3_103 : decode prog_25_method_4_code 103 = .ok (.invokestatic 157, 3) := by decide +kernel
theorem own_d3_106 : decode prog_25_method_4_code 106 = .ok (.istore 4, 2) := by decide +kernel
theorem own_d3_108 : decode prog_25_method_4_code 108 = .ok (.aload_n 0, 1) := by decide +kernel
theorem own_d3_109 : decode prog_25_method_4_code 109 = .ok (.iload_n 1, 1) := by decide +kernel
theorem own_d3_110 : decode prog_25_method_4_code 110 = .ok (.bipush 8, 2) := by decide +kernel
theorem own_d3_112 : decode prog_25_method_4_code 112 = .ok (.iadd, 1) := by decide +kernel
theorem own_d3_113 : decode prog_25_method_4_code 113 = .ok (.iconst 2, 1) := by decide +kernel
theorem own_d3_114 : decode prog_25_method_4_code 114 = .ok (.invokestatic 157, 3) := by decide +kernel
theorem own_d3_117 : decode prog_25_method_4_code 117 = .ok (.istore 5, 2) := by decide +kernel
theorem own_d3_119 : decode prog_25_method_4_code 119 = .ok (.iload 4, 2) := by decide +kernel
theorem own_d3_121 : decode prog_25_method_4_code 121 = .ok (.iconst 1, 1) := by decide +kernel
theorem own_d3_122 : decode prog_25_method_4_code 122 = .ok (.if_icmp .lt 73, 3) := by decide +kernel
theorem own_d3_195 : decode prog_25_method_4_code 195 = .ok (.iconst 0, 1) := by decide +kernel
theorem own_d3_125 : decode prog_25_method_4_code 125 = .ok (.iload 4, 2) := by decide +kernel
theorem own_d3_127 : decode prog_25_method_4_code 127 = .ok (.bipush 12, 2) := by decide +kernel
theorem own_d3_129 : decode prog_25_method_4_code 129 = .ok (.if_icmp .gt 66, 3) := by decide +kernel
theorem own_d3_132 : decode prog_25_method_4_code 132 = .ok (.iload 5, 2) := by decide +kernel
theorem own_d3_134 : decode prog_25_method_4_code 134 = .ok (.iconst 1, 1) := by decide +kernel
theorem own_d3_135 : decode prog_25_method_4_code 135 = .ok (.if_icmp .lt 60, 3) := by decide +kernel
theorem own_d3_138 : decode prog_25_method_4_code 138 = .ok (.iload 5, 2) := by decide +kernel
theorem own_d3_140 : decode prog_25_method_4_code 140 = .ok (.iload 4, 2) := by decide +kernel
theorem own_d3_142 : decode prog_25_method_4_code 142 = .ok (.iload_n 3, 1) := by decide +kernel
theorem own_d3_143 : decode prog_25_method_4_code 143 = .ok (.invokestatic 161, 3) := by decide +kernel
theorem own_t29 : (Jvm.Cond.methodLink "com/example/kleio/kleio/RecordTime" (161 : Nat) ({ cls := "com/example/kleio/kleio/RecordTime", name := "daysIn", desc := "(II)I" } : Jvm.MethodName)) ∈ tables_1 := List.mem_of_getElem? (i := 29) rfl
theorem own_pd1 : parseMethodDescriptor "(II)I" = some ⟨[.int, .int], some .int⟩ := by decide +kernel
theorem own_t30 : (Jvm.Cond.static ({ cls := "com/example/kleio/kleio/RecordTime", name := "daysIn", desc := "(II)I" } : Jvm.MethodName)) ∈ tables_1 := List.mem_of_getElem? (i := 30) rfl
theorem own_t31 : (Jvm.Cond.code ({ cls := "com/example/kleio/kleio/RecordTime", name := "daysIn", desc := "(II)I" } : Jvm.MethodName) prog_25_method_6_code (3 : Nat) (Option.some Jvm.ClassFile.FieldType.int)) ∈ tables_1 := List.mem_of_getElem? (i := 31) rfl
theorem own_d3_146 : decode prog_25_method_4_code 146 = .ok (.if_icmp .gt 49, 3) := by decide +kernel
theorem own_d3_149 : decode prog_25_method_4_code 149 = .ok (.aload_n 0, 1) := by decide +kernel
theorem own_d3_150 : decode prog_25_method_4_code 150 = .ok (.iload_n 1, 1) := by decide +kernel
theorem own_d3_151 : decode prog_25_method_4_code 151 = .ok (.bipush 11, 2) := by decide +kernel
theorem own_d3_153 : decode prog_25_method_4_code 153 = .ok (.iadd, 1) := by decide +kernel
theorem own_d3_154 : decode prog_25_method_4_code 154 = .ok (.iconst 2, 1) := by decide +kernel
theorem own_d3_155 : decode prog_25_method_4_code 155 = .ok (.invokestatic 157, 3) := by decide +kernel
theorem own_d3_158 : decode prog_25_method_4_code 158 = .ok (.bipush 23, 2) := by decide +kernel
theorem own_d3_160 : decode prog_25_method_4_code 160 = .ok (.if_icmp .gt 35, 3) := by decide +kernel
theorem own_d3_163 : decode prog_25_method_4_code 163 = .ok (.aload_n 0, 1) := by decide +kernel
theorem own_d3_164 : decode prog_25_method_4_code 164 = .ok (.iload_n 1, 1) := by decide +kernel
theorem own_d3_165 : decode prog_25_method_4_code 165 = .ok (.bipush 14, 2) := by decide +kernel
theorem own_d3_167 : decode prog_25_method_4_code 167 = .ok (.iadd, 1) := by decide +kernel
theorem own_d3_168 : decode prog_25_method_4_code 168 = .ok (.iconst 2, 1) := by decide +kernel
theorem own_d3_169 : decode prog_25_method_4_code 169 = .ok (.invokestatic 157, 3) := by decide +kernel
theorem own_d3_172 : decode prog_25_method_4_code 172 = .ok (.bipush 59, 2) := by decide +kernel
theorem own_d3_174 : decode prog_25_method_4_code 174 = .ok (.if_icmp .gt 21, 3) := by decide +kernel
theorem own_d3_177 : decode prog_25_method_4_code 177 = .ok (.aload_n 0, 1) := by decide +kernel
theorem own_d3_178 : decode prog_25_method_4_code 178 = .ok (.iload_n 1, 1) := by decide +kernel
theorem own_d3_179 : decode prog_25_method_4_code 179 = .ok (.bipush 17, 2) := by decide +kernel
theorem own_d3_181 : decode prog_25_method_4_code 181 = .ok (.iadd, 1) := by decide +kernel
theorem own_d3_182 : decode prog_25_method_4_code 182 = .ok (.iconst 2, 1) := by decide +kernel
theorem own_d3_183 : decode prog_25_method_4_code 183 = .ok (.invokestatic 157, 3) := by decide +kernel
theorem own_d3_186 : decode prog_25_method_4_code 186 = .ok (.bipush 59, 2) := by decide +kernel
theorem own_d3_188 : decode prog_25_method_4_code 188 = .ok (.if_icmp .gt 7, 3) := by decide +kernel
theorem own_d3_191 : decode prog_25_method_4_code 191 = .ok (.iconst 1, 1) := by decide +kernel
theorem own_d3_192 : decode prog_25_method_4_code 192 = .ok (.goto 4, 3) := by decide +kernel
theorem own_d3_14 : decode prog_25_method_4_code 14 = .ok (.iload_n 3, 1) := by decide +kernel
theorem own_d3_15 : decode prog_25_method_4_code 15 = .ok (.getstatic 153, 3) := by decide +kernel
theorem own_t21 : (Jvm.Cond.fieldLink "com/example/kleio/kleio/RecordTime" (153 : Nat) "com/example/kleio/kleio/RecordTime" "FORM" "[C") ∈ tables_1 := List.mem_of_getElem? (i := 21) rfl
theorem own_d3_18 : decode prog_25_method_4_code 18 = .ok (.arraylength, 1) := by decide +kernel
theorem own_d3_19 : decode prog_25_method_4_code 19 = .ok (.if_icmp .ge 72, 3) := by decide +kernel
theorem own_d3_22 : decode prog_25_method_4_code 22 = .ok (.aload_n 0, 1) := by decide +kernel
theorem own_d3_23 : decode prog_25_method_4_code 23 = .ok (.iload_n 1, 1) := by decide +kernel
theorem own_d3_24 : decode prog_25_method_4_code 24 = .ok (.iload_n 3, 1) := by decide +kernel
theorem own_d3_25 : decode prog_25_method_4_code 25 = .ok (.iadd, 1) := by decide +kernel
theorem own_d3_26 : decode prog_25_method_4_code 26 = .ok (.caload, 1) := by decide +kernel
theorem own_d3_27 : decode prog_25_method_4_code 27 = .ok (.istore 4, 2) := by decide +kernel
theorem own_d3_29 : decode prog_25_method_4_code 29 = .ok (.getstatic 153, 3) := by decide +kernel
theorem own_d3_32 : decode prog_25_method_4_code 32 = .ok (.iload_n 3, 1) := by decide +kernel
theorem own_d3_33 : decode prog_25_method_4_code 33 = .ok (.caload, 1) := by decide +kernel
theorem own_d3_34 : decode prog_25_method_4_code 34 = .ok (.bipush 48, 2) := by decide +kernel
theorem own_d3_36 : decode prog_25_method_4_code 36 = .ok (.if_icmp .ne 25, 3) := by decide +kernel
theorem own_d3_39 : decode prog_25_method_4_code 39 = .ok (.iload 4, 2) := by decide +kernel
theorem own_d3_41 : decode prog_25_method_4_code 41 = .ok (.bipush 48, 2) := by decide +kernel
theorem own_d3_43 : decode prog_25_method_4_code 43 = .ok (.if_icmp .lt 14, 3) := by decide +kernel
theorem own_d3_57 : decode prog_25_method_4_code 57 = .ok (.iconst 0, 1) := by decide +kernel
theorem own_d3_58 : decode prog_25_method_4_code 58 = .ok (.goto 18, 3) := by decide +kernel
theorem own_d3_46 : decode prog_25_method_4_code 46 = .ok (.iload 4, 2) := by decide +kernel
theorem own_d3_48 : decode prog_25_method_4_code 48 = .ok (.bipush 57, 2) := by decide +kernel
theorem own_d3_50 : decode prog_25_method_4_code 50 = .ok (.if_icmp .gt 7, 3) := by decide +kernel
theorem own_d3_53 : decode prog_25_method_4_code 53 = .ok (.iconst 1, 1) := by decide +kernel
theorem own_d3_54 : decode prog_25_method_4_code 54 = .ok (.goto 22, 3) := by decide +kernel
theorem own_d3_61 : decode prog_25_method_4_code 61 = .ok (.iload 4, 2) := by decide +kernel
theorem own_d3_63 : decode prog_25_method_4_code 63 = .ok (.getstatic 153, 3) := by decide +kernel
theorem own_d3_66 : decode prog_25_method_4_code 66 = .ok (.iload_n 3, 1) := by decide +kernel
theorem own_d3_67 : decode prog_25_method_4_code 67 = .ok (.caload, 1) := by decide +kernel
theorem own_d3_68 : decode prog_25_method_4_code 68 = .ok (.if_icmp .ne 7, 3) := by decide +kernel
theorem own_d3_71 : decode prog_25_method_4_code 71 = .ok (.iconst 1, 1) := by decide +kernel
theorem own_d3_72 : decode prog_25_method_4_code 72 = .ok (.goto 4, 3) := by decide +kernel
theorem own_d3_75 : decode prog_25_method_4_code 75 = .ok (.iconst 0, 1) := by decide +kernel
theorem own_d3_76 : decode prog_25_method_4_code 76 = .ok (.istore 5, 2) := by decide +kernel
theorem own_d3_78 : decode prog_25_method_4_code 78 = .ok (.iload 5, 2) := by decide +kernel
theorem own_d3_80 : decode prog_25_method_4_code 80 = .ok (.ifCond .ne 5, 3) := by decide +kernel
theorem own_d3_83 : decode prog_25_method_4_code 83 = .ok (.iconst 0, 1) := by decide +kernel
theorem own_d3_85 : decode prog_25_method_4_code 85 = .ok (.iinc 3 1, 3) := by decide +kernel
theorem own_d3_88 : decode prog_25_method_4_code 88 = .ok (.goto (-74), 3) := by decide +kernel
def own_j3_1 (x1 : Int32) (F : Int32 → Int32) : Int32 := (if (own_f4_2 (x1 + (5 : Int32)) F) < (1 : Int32) then (0 : Int32) else (if (12 : Int32) < (own_f4_2 (x1 + (5 : Int32)) F) then (0 : Int32) else (if (own_f4_2 (x1 + (8 : Int32)) F) < (1 : Int32) then (0 : Int32) else (if (own_f6 (own_f4_2 (x1 + (5 : Int32)) F) (own_f4_4 x1 F)) < (own_f4_2 (x1 + (8 : Int32)) F) then (0 : Int32) else (if (23 : Int32) < (own_f4_2 (x1 + (11 : Int32)) F) then (0 : Int32) else (if (59 : Int32) < (own_f4_2 (x1 + (14 : Int32)) F) then (0 : Int32) else (if (59 : Int32) < (own_f4_2 (x1 + (17 : Int32)) F) then (0 : Int32) else (1 : Int32))))))))
def own_f3t (x1 : Int32) (F : Int32 → Int32) : Int32 := ((own_j3_1 x1 F) &&& 1)
def own_j3_2 (x1 : Int32) (F : Int32 → Int32) (i : Int32) : Int32 := (if (own_tab i) = (48 : Int32) then (if (F (x1 + i)) < (48 : Int32) then (0 : Int32) else (if (57 : Int32) < (F (x1 + i)) then (0 : Int32) else (1 : Int32))) else (if (F (x1 + i)) = (own_tab i) then (1 : Int32) else (0 : Int32)))
def own_chk : Nat → Int32 → Int32 → (Int32 → Int32) → Bool
  | 0, _, _, _ => true
  | k + 1, i, x1, F => if (own_j3_2 x1 F i) = 0 then false else own_chk k (i + 1) x1 F
def own_rt (x1 x2 : Int32) (F : Int32 → Int32) : Int32 := if x2 - x1 = 27 then (if own_chk 27 0 x1 F = true then (own_f3t x1 F) else 0) else 0
def own_Q3 (r0 : Addr) (x1 : Int32) (x2 : Int32) (F : Int32 → Int32) (s_F : Addr) (h0 : Heap) (n0 : Nat) (v : Option Value) (h : Heap) (L : List Loc) : Prop := v = some (.int (own_rt x1 x2 F)) ∧ Fr n0 L ∧ h = h0
abbrev own_R3 : Room := { frames := 1, cells := 0, slots := 0, locals := 16 }
theorem own_d3_196 : decode prog_25_method_4_code 196 = .ok (.ireturn, 1) := by decide +kernel
set_option maxRecDepth 65536 in
set_option maxHeartbeats 40000000 in
theorem own_tail3 (l : Launch) (Z : State) (a0 : Array Value) (hw : ∀ d ∈ tables_1, d.before a0 Z = true) (r0 : Addr) (x1 : Int32) (x2 : Int32) (F : Int32 → Int32) (cl_t : Cell) (cl_F : Cell) (s_F : Addr) (h0 : Heap) (n0 : Nat) (A_t : Arr Z h0 r0 cl_t .char) (z_t : cl_t.slots.size = (32 : Int32).toNatClampNeg) (t_t : ∀ j : Int32, ¬ j < 0 → j < 32 → cl_t.slots[j.toNatClampNeg]? = some (.int (F j))) (A_F : Arr Z h0 s_F cl_F .char) (z_F : cl_F.slots.size = (27 : Int32).toNatClampNeg) (t_F : ∀ j : Int32, ¬ j < 0 → j < 27 → cl_F.slots[j.toNatClampNeg]? = some (.int (own_tab j))) (hx1 : 0 ≤ x1.toInt ∧ x1.toInt ≤ 3) (S_s_F : Sta Z h0 "com/example/kleio/kleio/RecordTime" "FORM" "[C" (.ref s_F)) (p : Program) (e : Env) (s : State) (m : MethodId) (below : List Frame) (meth : Method) (c : Code) (hx : p.tables.exec = Jvm.exec) (hby : c.code = prog_25_method_4_code) (hml : c.maxLocals = 6) (hown : s.vm.findClass "com/example/kleio/kleio/RecordTime" = some m.cls) (hret : meth.sig.returnType = (some .boolean)) (hlk : meth.locks = false) (hZ : Z.Warmed39 s.vm) (i : Int32) (T0 : State) (L0 : List Loc) (X0 : Stand p l e own_R3 s m #[(.ref r0), (.int x1), (.int x2)] below meth c T0 L0 0 0) (e0 : T0.heap = h0) (N0 : Fr n0 L0) (s4 s5 : Slot) (hs4 : One s4) (hs5 : One s5) (hv : own_rt x1 x2 F = (own_f3t x1 F)) : own_Goes p e below (own_End s own_R3 (own_Q3 r0 x1 x2 F s_F h0 n0)) (T0.setTop (mkF m 91 #[.val (.ref r0), .val (.int x1), .val (.int x2), .val (.int i), s4, s5] [])) := by
  show own_Goes p e below _ (T0.setTop (mkF m 91 #[.val (.ref r0), .val (.int x1), .val (.int x2), .val (.int i), s4, s5] []))
  refine own_go (fun t k => XS.aloadN X0.here hx rfl (hb hby own_d3_91) rfl rfl k) ?_
  show own_Goes p e below _ (T0.setTop (mkF m 92 #[.val (.ref r0), .val (.int x1), .val (.int x2), .val (.int i), s4, s5] [(.ref r0)]))
  refine own_go (fun t k => XS.iloadN X0.here hx rfl (hb hby own_d3_92) rfl k) ?_
  show own_Goes p e below _ (T0.setTop (mkF m 93 #[.val (.ref r0), .val (.int x1), .val (.int x2), .val (.int i), s4, s5] [(.int x1), (.ref r0)]))
  refine own_go (fun t k => XS.iconst X0.here hx rfl (hb hby own_d3_93) k) ?_
  show own_Goes p e below _ (T0.setTop (mkF m 94 #[.val (.ref r0), .val (.int x1), .val (.int x2), .val (.int i), s4, s5] [(.int (4 : Int32)), (.int x1), (.ref r0)]))
  obtain ⟨_, T43, L43, X43, ⟨rfl, N43q, e43⟩, st43⟩ := own_callS X0 hx hZ hown (hw _ own_t23) (hw _ own_t24) (hw _ own_t19) (hw _ own_t25) (by decide) (as := [(.ref r0), (.int x1), (.int (4 : Int32))]) (rm4_4 l Z a0 hw [] r0 x1 F cl_t h0 n0 A_t z_t t_t (own_db0 x1 hx1)) e0 own_pd0 rfl (pc := 94) (Ls := #[.val (.ref r0), .val (.int x1), .val (.int x2), .val (.int i), s4, s5]) (rest := []) (W := 0) (by rw [hml]; rfl) (Nat.le_of_eq rfl) (by decide) (by decide) (hb hby own_d3_94) (by decide) (by decide)
  have N43 := Fr.app N0 N43q
  refine own_go st43 ?_
  show own_Goes p e below _ (T43.setTop (mkF m 97 #[.val (.ref r0), .val (.int x1), .val (.int x2), .val (.int i), s4, s5] [(.int (own_f4_4 x1 F))]))
  refine own_go (fun t k => XS.istoreN X43.here hx rfl (hb hby own_d3_97) rfl (l' := #[.val (.ref r0), .val (.int x1), .val (.int x2), .val (.int (own_f4_4 x1 F)), s4, s5]) rfl k) ?_
  show own_Goes p e below _ (T43.setTop (mkF m 98 #[.val (.ref r0), .val (.int x1), .val (.int x2), .val (.int (own_f4_4 x1 F)), s4, s5] []))
  refine own_go (fun t k => XS.aloadN X43.here hx rfl (hb hby own_d3_98) rfl rfl k) ?_
  show own_Goes p e below _ (T43.setTop (mkF m 99 #[.val (.ref r0), .val (.int x1), .val (.int x2), .val (.int (own_f4_4 x1 F)), s4, s5] [(.ref r0)]))
  refine own_go (fun t k => XS.iloadN X43.here hx rfl (hb hby own_d3_99) rfl k) ?_
  show own_Goes p e below _ (T43.setTop (mkF m 100 #[.val (.ref r0), .val (.int x1), .val (.int x2), .val (.int (own_f4_4 x1 F)), s4, s5] [(.int x1), (.ref r0)]))
  refine own_go (fun t k => XS.iconst X43.here hx rfl (hb hby own_d3_100) k) ?_
  show own_Goes p e below _ (T43.setTop (mkF m 101 #[.val (.ref r0), .val (.int x1), .val (.int x2), .val (.int (own_f4_4 x1 F)), s4, s5] [(.int (5 : Int32)), (.int x1), (.ref r0)]))
  refine own_go (fun t k => XS.iadd X43.here hx rfl (hb hby own_d3_101) rfl k) ?_
  show own_Goes p e below _ (T43.setTop (mkF m 102 #[.val (.ref r0), .val (.int x1), .val (.int x2), .val (.int (own_f4_4 x1 F)), s4, s5] [(.int (x1 + (5 : Int32))), (.ref r0)]))
  refine own_go (fun t k => XS.iconst X43.here hx rfl (hb hby own_d3_102) k) ?_
  show own_Goes p e below _ (T43.setTop (mkF m 103 #[.val (.ref r0), .val (.int x1), .val (.int x2), .val (.int (own_f4_4 x1 F)), s4, s5] [(.int (2 : Int32)), (.int (x1 + (5 : Int32))), (.ref r0)]))
  obtain ⟨_, T44, L44, X44, ⟨rfl, N44q, e44⟩, st44⟩ := own_callS X43 hx hZ hown (hw _ own_t23) (hw _ own_t24) (hw _ own_t19) (hw _ own_t25) (by decide) (as := [(.ref r0), (.int (x1 + (5 : Int32))), (.int (2 : Int32))]) (rm4_2 l Z a0 hw [] r0 (x1 + (5 : Int32)) F cl_t h0 n0 A_t z_t t_t (own_db x1 hx1 5)) e43 own_pd0 rfl (pc := 103) (Ls := #[.val (.ref r0), .val (.int x1), .val (.int x2), .val (.int (own_f4_4 x1 F)), s4, s5]) (rest := []) (W := 0) (by rw [hml]; rfl) (Nat.le_of_eq rfl) (by decide) (by decide) (hb hby own_d3_103) (by decide) (by decide)
  have N44 := Fr.app N43 N44q
  refine own_go st44 ?_
  show own_Goes p e below _ (T44.setTop (mkF m 106 #[.val (.ref r0), .val (.int x1), .val (.int x2), .val (.int (own_f4_4 x1 F)), s4, s5] [(.int (own_f4_2 (x1 + (5 : Int32)) F))]))
  refine own_go (fun t k => XS.istore X44.here hx rfl (hb hby own_d3_106) rfl (l' := #[.val (.ref r0), .val (.int x1), .val (.int x2), .val (.int (own_f4_4 x1 F)), .val (.int (own_f4_2 (x1 + (5 : Int32)) F)), s5]) (XS.store1 (o := s4) rfl hs4 rfl) k) ?_
  show own_Goes p e below _ (T44.setTop (mkF m 108 #[.val (.ref r0), .val (.int x1), .val (.int x2), .val (.int (own_f4_4 x1 F)), .val (.int (own_f4_2 (x1 + (5 : Int32)) F)), s5] []))
  refine own_go (fun t k => XS.aloadN X44.here hx rfl (hb hby own_d3_108) rfl rfl k) ?_
  show own_Goes p e below _ (T44.setTop (mkF m 109 #[.val (.ref r0), .val (.int x1), .val (.int x2), .val (.int (own_f4_4 x1 F)), .val (.int (own_f4_2 (x1 + (5 : Int32)) F)), s5] [(.ref r0)]))
  refine own_go (fun t k => XS.iloadN X44.here hx rfl (hb hby own_d3_109) rfl k) ?_
  show own_Goes p e below _ (T44.setTop (mkF m 110 #[.val (.ref r0), .val (.int x1), .val (.int x2), .val (.int (own_f4_4 x1 F)), .val (.int (own_f4_2 (x1 + (5 : Int32)) F)), s5] [(.int x1), (.ref r0)]))
  refine own_go (fun t k => XS.bipush X44.here hx rfl (hb hby own_d3_110) k) ?_
  show own_Goes p e below _ (T44.setTop (mkF m 112 #[.val (.ref r0), .val (.int x1), .val (.int x2), .val (.int (own_f4_4 x1 F)), .val (.int (own_f4_2 (x1 + (5 : Int32)) F)), s5] [(.int (8 : Int32)), (.int x1), (.ref r0)]))
  refine own_go (fun t k => XS.iadd X44.here hx rfl (hb hby own_d3_112) rfl k) ?_
  show own_Goes p e below _ (T44.setTop (mkF m 113 #[.val (.ref r0), .val (.int x1), .val (.int x2), .val (.int (own_f4_4 x1 F)), .val (.int (own_f4_2 (x1 + (5 : Int32)) F)), s5] [(.int (x1 + (8 : Int32))), (.ref r0)]))
  refine own_go (fun t k => XS.iconst X44.here hx rfl (hb hby own_d3_113) k) ?_
  show own_Goes p e below _ (T44.setTop (mkF m 114 #[.val (.ref r0), .val (.int x1), .val (.int x2), .val (.int (own_f4_4 x1 F)), .val (.int (own_f4_2 (x1 + (5 : Int32)) F)), s5] [(.int (2 : Int32)), (.int (x1 + (8 : Int32))), (.ref r0)]))
  obtain ⟨_, T45, L45, X45, ⟨rfl, N45q, e45⟩, st45⟩ := own_callS X44 hx hZ hown (hw _ own_t23) (hw _ own_t24) (hw _ own_t19) (hw _ own_t25) (by decide) (as := [(.ref r0), (.int (x1 + (8 : Int32))), (.int (2 : Int32))]) (rm4_2 l Z a0 hw [] r0 (x1 + (8 : Int32)) F cl_t h0 n0 A_t z_t t_t (own_db x1 hx1 8)) e44 own_pd0 rfl (pc := 114) (Ls := #[.val (.ref r0), .val (.int x1), .val (.int x2), .val (.int (own_f4_4 x1 F)), .val (.int (own_f4_2 (x1 + (5 : Int32)) F)), s5]) (rest := []) (W := 0) (by rw [hml]; rfl) (Nat.le_of_eq rfl) (by decide) (by decide) (hb hby own_d3_114) (by decide) (by decide)
  have N45 := Fr.app N44 N45q
  refine own_go st45 ?_
  show own_Goes p e below _ (T45.setTop (mkF m 117 #[.val (.ref r0), .val (.int x1), .val (.int x2), .val (.int (own_f4_4 x1 F)), .val (.int (own_f4_2 (x1 + (5 : Int32)) F)), s5] [(.int (own_f4_2 (x1 + (8 : Int32)) F))]))
  refine own_go (fun t k => XS.istore X45.here hx rfl (hb hby own_d3_117) rfl (l' := #[.val (.ref r0), .val (.int x1), .val (.int x2), .val (.int (own_f4_4 x1 F)), .val (.int (own_f4_2 (x1 + (5 : Int32)) F)), .val (.int (own_f4_2 (x1 + (8 : Int32)) F))]) (XS.store1 (o := s5) rfl hs5 rfl) k) ?_
  show own_Goes p e below _ (T45.setTop (mkF m 119 #[.val (.ref r0), .val (.int x1), .val (.int x2), .val (.int (own_f4_4 x1 F)), .val (.int (own_f4_2 (x1 + (5 : Int32)) F)), .val (.int (own_f4_2 (x1 + (8 : Int32)) F))] []))
  refine own_go (fun t k => XS.iload X45.here hx rfl (hb hby own_d3_119) rfl k) ?_
  show own_Goes p e below _ (T45.setTop (mkF m 121 #[.val (.ref r0), .val (.int x1), .val (.int x2), .val (.int (own_f4_4 x1 F)), .val (.int (own_f4_2 (x1 + (5 : Int32)) F)), .val (.int (own_f4_2 (x1 + (8 : Int32)) F))] [(.int (own_f4_2 (x1 + (5 : Int32)) F))]))
  refine own_go (fun t k => XS.iconst X45.here hx rfl (hb hby own_d3_121) k) ?_
  show own_Goes p e below _ (T45.setTop (mkF m 122 #[.val (.ref r0), .val (.int x1), .val (.int x2), .val (.int (own_f4_4 x1 F)), .val (.int (own_f4_2 (x1 + (5 : Int32)) F)), .val (.int (own_f4_2 (x1 + (8 : Int32)) F))] [(.int (1 : Int32)), (.int (own_f4_2 (x1 + (5 : Int32)) F))]))
  suffices HH57 : ∀ (T57 : State) (L57 : List Loc) (X57 : Stand p l e own_R3 s m #[(.ref r0), (.int x1), (.int x2)] below meth c T57 L57 0 0) (e57 : T57.heap = h0) (N57 : Fr n0 L57), own_Goes p e below (own_End s own_R3 (own_Q3 r0 x1 x2 F s_F h0 n0)) (T57.setTop (mkF m 196 #[.val (.ref r0), .val (.int x1), .val (.int x2), .val (.int (own_f4_4 x1 F)), .val (.int (own_f4_2 (x1 + (5 : Int32)) F)), .val (.int (own_f4_2 (x1 + (8 : Int32)) F))] [(.int (own_j3_1 x1 F))])) by
    by_cases hc46 : (own_f4_2 (x1 + (5 : Int32)) F) < (1 : Int32)
    · refine own_go (fun t k => XS.icmpYes X45.here hx rfl (pc0 := 122) (pc' := 195) rfl (hb hby own_d3_122) rfl (tlt hc46).1 (by decide) (by decide) k) ?_
      show own_Goes p e below _ (T45.setTop (mkF m 195 #[.val (.ref r0), .val (.int x1), .val (.int x2), .val (.int (own_f4_4 x1 F)), .val (.int (own_f4_2 (x1 + (5 : Int32)) F)), .val (.int (own_f4_2 (x1 + (8 : Int32)) F))] []))
      refine own_go (fun t k => XS.iconst X45.here hx rfl (hb hby own_d3_195) k) ?_
      rw [show (own_j3_1 x1 F) = (0 : Int32) from by rw [own_j3_1, if_pos hc46]] at HH57
      exact HH57 _ _ X45 e45 N45
    · refine own_go (fun t k => XS.icmpNo X45.here hx rfl (hb hby own_d3_122) rfl (flt hc46).1 k) ?_
      show own_Goes p e below _ (T45.setTop (mkF m 125 #[.val (.ref r0), .val (.int x1), .val (.int x2), .val (.int (own_f4_4 x1 F)), .val (.int (own_f4_2 (x1 + (5 : Int32)) F)), .val (.int (own_f4_2 (x1 + (8 : Int32)) F))] []))
      refine own_go (fun t k => XS.iload X45.here hx rfl (hb hby own_d3_125) rfl k) ?_
      show own_Goes p e below _ (T45.setTop (mkF m 127 #[.val (.ref r0), .val (.int x1), .val (.int x2), .val (.int (own_f4_4 x1 F)), .val (.int (own_f4_2 (x1 + (5 : Int32)) F)), .val (.int (own_f4_2 (x1 + (8 : Int32)) F))] [(.int (own_f4_2 (x1 + (5 : Int32)) F))]))
      refine own_go (fun t k => XS.bipush X45.here hx rfl (hb hby own_d3_127) k) ?_
      show own_Goes p e below _ (T45.setTop (mkF m 129 #[.val (.ref r0), .val (.int x1), .val (.int x2), .val (.int (own_f4_4 x1 F)), .val (.int (own_f4_2 (x1 + (5 : Int32)) F)), .val (.int (own_f4_2 (x1 + (8 : Int32)) F))] [(.int (12 : Int32)), (.int (own_f4_2 (x1 + (5 : Int32)) F))]))
      by_cases hc47 : (12 : Int32) < (own_f4_2 (x1 + (5 : Int32)) F)
      · refine own_go (fun t k => XS.icmpYes X45.here hx rfl (pc0 := 129) (pc' := 195) rfl (hb hby own_d3_129) rfl (tlt hc47).2.2.1 (by decide) (by decide) k) ?_
        show own_Goes p e below _ (T45.setTop (mkF m 195 #[.val (.ref r0), .val (.int x1), .val (.int x2), .val (.int (own_f4_4 x1 F)), .val (.int (own_f4_2 (x1 + (5 : Int32)) F)), .val (.int (own_f4_2 (x1 + (8 : Int32)) F))] []))
        refine own_go (fun t k => XS.iconst X45.here hx rfl (hb hby own_d3_195) k) ?_
        rw [show (own_j3_1 x1 F) = (0 : Int32) from by rw [own_j3_1, if_neg hc46, if_pos hc47]] at HH57
        exact HH57 _ _ X45 e45 N45
      · refine own_go (fun t k => XS.icmpNo X45.here hx rfl (hb hby own_d3_129) rfl (flt hc47).2.2.1 k) ?_
        show own_Goes p e below _ (T45.setTop (mkF m 132 #[.val (.ref r0), .val (.int x1), .val (.int x2), .val (.int (own_f4_4 x1 F)), .val (.int (own_f4_2 (x1 + (5 : Int32)) F)), .val (.int (own_f4_2 (x1 + (8 : Int32)) F))] []))
        refine own_go (fun t k => XS.iload X45.here hx rfl (hb hby own_d3_132) rfl k) ?_
        show own_Goes p e below _ (T45.setTop (mkF m 134 #[.val (.ref r0), .val (.int x1), .val (.int x2), .val (.int (own_f4_4 x1 F)), .val (.int (own_f4_2 (x1 + (5 : Int32)) F)), .val (.int (own_f4_2 (x1 + (8 : Int32)) F))] [(.int (own_f4_2 (x1 + (8 : Int32)) F))]))
        refine own_go (fun t k => XS.iconst X45.here hx rfl (hb hby own_d3_134) k) ?_
        show own_Goes p e below _ (T45.setTop (mkF m 135 #[.val (.ref r0), .val (.int x1), .val (.int x2), .val (.int (own_f4_4 x1 F)), .val (.int (own_f4_2 (x1 + (5 : Int32)) F)), .val (.int (own_f4_2 (x1 + (8 : Int32)) F))] [(.int (1 : Int32)), (.int (own_f4_2 (x1 + (8 : Int32)) F))]))
        by_cases hc48 : (own_f4_2 (x1 + (8 : Int32)) F) < (1 : Int32)
        · refine own_go (fun t k => XS.icmpYes X45.here hx rfl (pc0 := 135) (pc' := 195) rfl (hb hby own_d3_135) rfl (tlt hc48).1 (by decide) (by decide) k) ?_
          show own_Goes p e below _ (T45.setTop (mkF m 195 #[.val (.ref r0), .val (.int x1), .val (.int x2), .val (.int (own_f4_4 x1 F)), .val (.int (own_f4_2 (x1 + (5 : Int32)) F)), .val (.int (own_f4_2 (x1 + (8 : Int32)) F))] []))
          refine own_go (fun t k => XS.iconst X45.here hx rfl (hb hby own_d3_195) k) ?_
          rw [show (own_j3_1 x1 F) = (0 : Int32) from by rw [own_j3_1, if_neg hc46, if_neg hc47, if_pos hc48]] at HH57
          exact HH57 _ _ X45 e45 N45
        · refine own_go (fun t k => XS.icmpNo X45.here hx rfl (hb hby own_d3_135) rfl (flt hc48).1 k) ?_
          show own_Goes p e below _ (T45.setTop (mkF m 138 #[.val (.ref r0), .val (.int x1), .val (.int x2), .val (.int (own_f4_4 x1 F)), .val (.int (own_f4_2 (x1 + (5 : Int32)) F)), .val (.int (own_f4_2 (x1 + (8 : Int32)) F))] []))
          refine own_go (fun t k => XS.iload X45.here hx rfl (hb hby own_d3_138) rfl k) ?_
          show own_Goes p e below _ (T45.setTop (mkF m 140 #[.val (.ref r0), .val (.int x1), .val (.int x2), .val (.int (own_f4_4 x1 F)), .val (.int (own_f4_2 (x1 + (5 : Int32)) F)), .val (.int (own_f4_2 (x1 + (8 : Int32)) F))] [(.int (own_f4_2 (x1 + (8 : Int32)) F))]))
          refine own_go (fun t k => XS.iload X45.here hx rfl (hb hby own_d3_140) rfl k) ?_
          show own_Goes p e below _ (T45.setTop (mkF m 142 #[.val (.ref r0), .val (.int x1), .val (.int x2), .val (.int (own_f4_4 x1 F)), .val (.int (own_f4_2 (x1 + (5 : Int32)) F)), .val (.int (own_f4_2 (x1 + (8 : Int32)) F))] [(.int (own_f4_2 (x1 + (5 : Int32)) F)), (.int (own_f4_2 (x1 + (8 : Int32)) F))]))
          refine own_go (fun t k => XS.iloadN X45.here hx rfl (hb hby own_d3_142) rfl k) ?_
          show own_Goes p e below _ (T45.setTop (mkF m 143 #[.val (.ref r0), .val (.int x1), .val (.int x2), .val (.int (own_f4_4 x1 F)), .val (.int (own_f4_2 (x1 + (5 : Int32)) F)), .val (.int (own_f4_2 (x1 + (8 : Int32)) F))] [(.int (own_f4_4 x1 F)), (.int (own_f4_2 (x1 + (5 : Int32)) F)), (.int (own_f4_2 (x1 + (8 : Int32)) F))]))
          obtain ⟨_, T49, L49, X49, ⟨rfl, N49q, e49⟩, st49⟩ := own_callS X45 hx hZ hown (hw _ own_t29) (hw _ own_t30) (hw _ own_t19) (hw _ own_t31) (by decide) (as := [(.int (own_f4_2 (x1 + (5 : Int32)) F)), (.int (own_f4_4 x1 F))]) (rm6 l Z a0 hw [] (own_f4_2 (x1 + (5 : Int32)) F) (own_f4_4 x1 F) h0 n0) e45 own_pd1 rfl (pc := 143) (Ls := #[.val (.ref r0), .val (.int x1), .val (.int x2), .val (.int (own_f4_4 x1 F)), .val (.int (own_f4_2 (x1 + (5 : Int32)) F)), .val (.int (own_f4_2 (x1 + (8 : Int32)) F))]) (rest := [(.int (own_f4_2 (x1 + (8 : Int32)) F))]) (W := 1) (by rw [hml]; rfl) (Nat.le_of_eq rfl) (by decide) (by decide) (hb hby own_d3_143) (by decide) (by decide)
          have N49 := Fr.app N45 N49q
          refine own_go st49 ?_
          show own_Goes p e below _ (T49.setTop (mkF m 146 #[.val (.ref r0), .val (.int x1), .val (.int x2), .val (.int (own_f4_4 x1 F)), .val (.int (own_f4_2 (x1 + (5 : Int32)) F)), .val (.int (own_f4_2 (x1 + (8 : Int32)) F))] [(.int (own_f6 (own_f4_2 (x1 + (5 : Int32)) F) (own_f4_4 x1 F))), (.int (own_f4_2 (x1 + (8 : Int32)) F))]))
          by_cases hc50 : (own_f6 (own_f4_2 (x1 + (5 : Int32)) F) (own_f4_4 x1 F)) < (own_f4_2 (x1 + (8 : Int32)) F)
          · refine own_go (fun t k => XS.icmpYes X49.here hx rfl (pc0 := 146) (pc' := 195) rfl (hb hby own_d3_146) rfl (tlt hc50).2.2.1 (by decide) (by decide) k) ?_
            show own_Goes p e below _ (T49.setTop (mkF m 195 #[.val (.ref r0), .val (.int x1), .val (.int x2), .val (.int (own_f4_4 x1 F)), .val (.int (own_f4_2 (x1 + (5 : Int32)) F)), .val (.int (own_f4_2 (x1 + (8 : Int32)) F))] []))
            refine own_go (fun t k => XS.iconst X49.here hx rfl (hb hby own_d3_195) k) ?_
            rw [show (own_j3_1 x1 F) = (0 : Int32) from by rw [own_j3_1, if_neg hc46, if_neg hc47, if_neg hc48, if_pos hc50]] at HH57
            exact HH57 _ _ X49 e49 N49
          · refine own_go (fun t k => XS.icmpNo X49.here hx rfl (hb hby own_d3_146) rfl (flt hc50).2.2.1 k) ?_
            show own_Goes p e below _ (T49.setTop (mkF m 149 #[.val (.ref r0), .val (.int x1), .val (.int x2), .val (.int (own_f4_4 x1 F)), .val (.int (own_f4_2 (x1 + (5 : Int32)) F)), .val (.int (own_f4_2 (x1 + (8 : Int32)) F))] []))
            refine own_go (fun t k => XS.aloadN X49.here hx rfl (hb hby own_d3_149) rfl rfl k) ?_
            show own_Goes p e below _ (T49.setTop (mkF m 150 #[.val (.ref r0), .val (.int x1), .val (.int x2), .val (.int (own_f4_4 x1 F)), .val (.int (own_f4_2 (x1 + (5 : Int32)) F)), .val (.int (own_f4_2 (x1 + (8 : Int32)) F))] [(.ref r0)]))
            refine own_go (fun t k => XS.iloadN X49.here hx rfl (hb hby own_d3_150) rfl k) ?_
            show own_Goes p e below _ (T49.setTop (mkF m 151 #[.val (.ref r0), .val (.int x1), .val (.int x2), .val (.int (own_f4_4 x1 F)), .val (.int (own_f4_2 (x1 + (5 : Int32)) F)), .val (.int (own_f4_2 (x1 + (8 : Int32)) F))] [(.int x1), (.ref r0)]))
            refine own_go (fun t k => XS.bipush X49.here hx rfl (hb hby own_d3_151) k) ?_
            show own_Goes p e below _ (T49.setTop (mkF m 153 #[.val (.ref r0), .val (.int x1), .val (.int x2), .val (.int (own_f4_4 x1 F)), .val (.int (own_f4_2 (x1 + (5 : Int32)) F)), .val (.int (own_f4_2 (x1 + (8 : Int32)) F))] [(.int (11 : Int32)), (.int x1), (.ref r0)]))
            refine own_go (fun t k => XS.iadd X49.here hx rfl (hb hby own_d3_153) rfl k) ?_
            show own_Goes p e below _ (T49.setTop (mkF m 154 #[.val (.ref r0), .val (.int x1), .val (.int x2), .val (.int (own_f4_4 x1 F)), .val (.int (own_f4_2 (x1 + (5 : Int32)) F)), .val (.int (own_f4_2 (x1 + (8 : Int32)) F))] [(.int (x1 + (11 : Int32))), (.ref r0)]))
            refine own_go (fun t k => XS.iconst X49.here hx rfl (hb hby own_d3_154) k) ?_
            show own_Goes p e below _ (T49.setTop (mkF m 155 #[.val (.ref r0), .val (.int x1), .val (.int x2), .val (.int (own_f4_4 x1 F)), .val (.int (own_f4_2 (x1 + (5 : Int32)) F)), .val (.int (own_f4_2 (x1 + (8 : Int32)) F))] [(.int (2 : Int32)), (.int (x1 + (11 : Int32))), (.ref r0)]))
            obtain ⟨_, T51, L51, X51, ⟨rfl, N51q, e51⟩, st51⟩ := own_callS X49 hx hZ hown (hw _ own_t23) (hw _ own_t24) (hw _ own_t19) (hw _ own_t25) (by decide) (as := [(.ref r0), (.int (x1 + (11 : Int32))), (.int (2 : Int32))]) (rm4_2 l Z a0 hw [] r0 (x1 + (11 : Int32)) F cl_t h0 n0 A_t z_t t_t (own_db x1 hx1 11)) e49 own_pd0 rfl (pc := 155) (Ls := #[.val (.ref r0), .val (.int x1), .val (.int x2), .val (.int (own_f4_4 x1 F)), .val (.int (own_f4_2 (x1 + (5 : Int32)) F)), .val (.int (own_f4_2 (x1 + (8 : Int32)) F))]) (rest := []) (W := 0) (by rw [hml]; rfl) (Nat.le_of_eq rfl) (by decide) (by decide) (hb hby own_d3_155) (by decide) (by decide)
            have N51 := Fr.app N49 N51q
            refine own_go st51 ?_
            show own_Goes p e below _ (T51.setTop (mkF m 158 #[.val (.ref r0), .val (.int x1), .val (.int x2), .val (.int (own_f4_4 x1 F)), .val (.int (own_f4_2 (x1 + (5 : Int32)) F)), .val (.int (own_f4_2 (x1 + (8 : Int32)) F))] [(.int (own_f4_2 (x1 + (11 : Int32)) F))]))
            refine own_go (fun t k => XS.bipush X51.here hx rfl (hb hby own_d3_158) k) ?_
            show own_Goes p e below _ (T51.setTop (mkF m 160 #[.val (.ref r0), .val (.int x1), .val (.int x2), .val (.int (own_f4_4 x1 F)), .val (.int (own_f4_2 (x1 + (5 : Int32)) F)), .val (.int (own_f4_2 (x1 + (8 : Int32)) F))] [(.int (23 : Int32)), (.int (own_f4_2 (x1 + (11 : Int32)) F))]))
            by_cases hc52 : (23 : Int32) < (own_f4_2 (x1 + (11 : Int32)) F)
            · refine own_go (fun t k => XS.icmpYes X51.here hx rfl (pc0 := 160) (pc' := 195) rfl (hb hby own_d3_160) rfl (tlt hc52).2.2.1 (by decide) (by decide) k) ?_
              show own_Goes p e below _ (T51.setTop (mkF m 195 #[.val (.ref r0), .val (.int x1), .val (.int x2), .val (.int (own_f4_4 x1 F)), .val (.int (own_f4_2 (x1 + (5 : Int32)) F)), .val (.int (own_f4_2 (x1 + (8 : Int32)) F))] []))
              refine own_go (fun t k => XS.iconst X51.here hx rfl (hb hby own_d3_195) k) ?_
              rw [show (own_j3_1 x1 F) = (0 : Int32) from by rw [own_j3_1, if_neg hc46, if_neg hc47, if_neg hc48, if_neg hc50, if_pos hc52]] at HH57
              exact HH57 _ _ X51 e51 N51
            · refine own_go (fun t k => XS.icmpNo X51.here hx rfl (hb hby own_d3_160) rfl (flt hc52).2.2.1 k) ?_
              show own_Goes p e below _ (T51.setTop (mkF m 163 #[.val (.ref r0), .val (.int x1), .val (.int x2), .val (.int (own_f4_4 x1 F)), .val (.int (own_f4_2 (x1 + (5 : Int32)) F)), .val (.int (own_f4_2 (x1 + (8 : Int32)) F))] []))
              refine own_go (fun t k => XS.aloadN X51.here hx rfl (hb hby own_d3_163) rfl rfl k) ?_
              show own_Goes p e below _ (T51.setTop (mkF m 164 #[.val (.ref r0), .val (.int x1), .val (.int x2), .val (.int (own_f4_4 x1 F)), .val (.int (own_f4_2 (x1 + (5 : Int32)) F)), .val (.int (own_f4_2 (x1 + (8 : Int32)) F))] [(.ref r0)]))
              refine own_go (fun t k => XS.iloadN X51.here hx rfl (hb hby own_d3_164) rfl k) ?_
              show own_Goes p e below _ (T51.setTop (mkF m 165 #[.val (.ref r0), .val (.int x1), .val (.int x2), .val (.int (own_f4_4 x1 F)), .val (.int (own_f4_2 (x1 + (5 : Int32)) F)), .val (.int (own_f4_2 (x1 + (8 : Int32)) F))] [(.int x1), (.ref r0)]))
              refine own_go (fun t k => XS.bipush X51.here hx rfl (hb hby own_d3_165) k) ?_
              show own_Goes p e below _ (T51.setTop (mkF m 167 #[.val (.ref r0), .val (.int x1), .val (.int x2), .val (.int (own_f4_4 x1 F)), .val (.int (own_f4_2 (x1 + (5 : Int32)) F)), .val (.int (own_f4_2 (x1 + (8 : Int32)) F))] [(.int (14 : Int32)), (.int x1), (.ref r0)]))
              refine own_go (fun t k => XS.iadd X51.here hx rfl (hb hby own_d3_167) rfl k) ?_
              show own_Goes p e below _ (T51.setTop (mkF m 168 #[.val (.ref r0), .val (.int x1), .val (.int x2), .val (.int (own_f4_4 x1 F)), .val (.int (own_f4_2 (x1 + (5 : Int32)) F)), .val (.int (own_f4_2 (x1 + (8 : Int32)) F))] [(.int (x1 + (14 : Int32))), (.ref r0)]))
              refine own_go (fun t k => XS.iconst X51.here hx rfl (hb hby own_d3_168) k) ?_
              show own_Goes p e below _ (T51.setTop (mkF m 169 #[.val (.ref r0), .val (.int x1), .val (.int x2), .val (.int (own_f4_4 x1 F)), .val (.int (own_f4_2 (x1 + (5 : Int32)) F)), .val (.int (own_f4_2 (x1 + (8 : Int32)) F))] [(.int (2 : Int32)), (.int (x1 + (14 : Int32))), (.ref r0)]))
              obtain ⟨_, T53, L53, X53, ⟨rfl, N53q, e53⟩, st53⟩ := own_callS X51 hx hZ hown (hw _ own_t23) (hw _ own_t24) (hw _ own_t19) (hw _ own_t25) (by decide) (as := [(.ref r0), (.int (x1 + (14 : Int32))), (.int (2 : Int32))]) (rm4_2 l Z a0 hw [] r0 (x1 + (14 : Int32)) F cl_t h0 n0 A_t z_t t_t (own_db x1 hx1 14)) e51 own_pd0 rfl (pc := 169) (Ls := #[.val (.ref r0), .val (.int x1), .val (.int x2), .val (.int (own_f4_4 x1 F)), .val (.int (own_f4_2 (x1 + (5 : Int32)) F)), .val (.int (own_f4_2 (x1 + (8 : Int32)) F))]) (rest := []) (W := 0) (by rw [hml]; rfl) (Nat.le_of_eq rfl) (by decide) (by decide) (hb hby own_d3_169) (by decide) (by decide)
              have N53 := Fr.app N51 N53q
              refine own_go st53 ?_
              show own_Goes p e below _ (T53.setTop (mkF m 172 #[.val (.ref r0), .val (.int x1), .val (.int x2), .val (.int (own_f4_4 x1 F)), .val (.int (own_f4_2 (x1 + (5 : Int32)) F)), .val (.int (own_f4_2 (x1 + (8 : Int32)) F))] [(.int (own_f4_2 (x1 + (14 : Int32)) F))]))
              refine own_go (fun t k => XS.bipush X53.here hx rfl (hb hby own_d3_172) k) ?_
              show own_Goes p e below _ (T53.setTop (mkF m 174 #[.val (.ref r0), .val (.int x1), .val (.int x2), .val (.int (own_f4_4 x1 F)), .val (.int (own_f4_2 (x1 + (5 : Int32)) F)), .val (.int (own_f4_2 (x1 + (8 : Int32)) F))] [(.int (59 : Int32)), (.int (own_f4_2 (x1 + (14 : Int32)) F))]))
              by_cases hc54 : (59 : Int32) < (own_f4_2 (x1 + (14 : Int32)) F)
              · refine own_go (fun t k => XS.icmpYes X53.here hx rfl (pc0 := 174) (pc' := 195) rfl (hb hby own_d3_174) rfl (tlt hc54).2.2.1 (by decide) (by decide) k) ?_
                show own_Goes p e below _ (T53.setTop (mkF m 195 #[.val (.ref r0), .val (.int x1), .val (.int x2), .val (.int (own_f4_4 x1 F)), .val (.int (own_f4_2 (x1 + (5 : Int32)) F)), .val (.int (own_f4_2 (x1 + (8 : Int32)) F))] []))
                refine own_go (fun t k => XS.iconst X53.here hx rfl (hb hby own_d3_195) k) ?_
                rw [show (own_j3_1 x1 F) = (0 : Int32) from by rw [own_j3_1, if_neg hc46, if_neg hc47, if_neg hc48, if_neg hc50, if_neg hc52, if_pos hc54]] at HH57
                exact HH57 _ _ X53 e53 N53
              · refine own_go (fun t k => XS.icmpNo X53.here hx rfl (hb hby own_d3_174) rfl (flt hc54).2.2.1 k) ?_
                show own_Goes p e below _ (T53.setTop (mkF m 177 #[.val (.ref r0), .val (.int x1), .val (.int x2), .val (.int (own_f4_4 x1 F)), .val (.int (own_f4_2 (x1 + (5 : Int32)) F)), .val (.int (own_f4_2 (x1 + (8 : Int32)) F))] []))
                refine own_go (fun t k => XS.aloadN X53.here hx rfl (hb hby own_d3_177) rfl rfl k) ?_
                show own_Goes p e below _ (T53.setTop (mkF m 178 #[.val (.ref r0), .val (.int x1), .val (.int x2), .val (.int (own_f4_4 x1 F)), .val (.int (own_f4_2 (x1 + (5 : Int32)) F)), .val (.int (own_f4_2 (x1 + (8 : Int32)) F))] [(.ref r0)]))
                refine own_go (fun t k => XS.iloadN X53.here hx rfl (hb hby own_d3_178) rfl k) ?_
                show own_Goes p e below _ (T53.setTop (mkF m 179 #[.val (.ref r0), .val (.int x1), .val (.int x2), .val (.int (own_f4_4 x1 F)), .val (.int (own_f4_2 (x1 + (5 : Int32)) F)), .val (.int (own_f4_2 (x1 + (8 : Int32)) F))] [(.int x1), (.ref r0)]))
                refine own_go (fun t k => XS.bipush X53.here hx rfl (hb hby own_d3_179) k) ?_
                show own_Goes p e below _ (T53.setTop (mkF m 181 #[.val (.ref r0), .val (.int x1), .val (.int x2), .val (.int (own_f4_4 x1 F)), .val (.int (own_f4_2 (x1 + (5 : Int32)) F)), .val (.int (own_f4_2 (x1 + (8 : Int32)) F))] [(.int (17 : Int32)), (.int x1), (.ref r0)]))
                refine own_go (fun t k => XS.iadd X53.here hx rfl (hb hby own_d3_181) rfl k) ?_
                show own_Goes p e below _ (T53.setTop (mkF m 182 #[.val (.ref r0), .val (.int x1), .val (.int x2), .val (.int (own_f4_4 x1 F)), .val (.int (own_f4_2 (x1 + (5 : Int32)) F)), .val (.int (own_f4_2 (x1 + (8 : Int32)) F))] [(.int (x1 + (17 : Int32))), (.ref r0)]))
                refine own_go (fun t k => XS.iconst X53.here hx rfl (hb hby own_d3_182) k) ?_
                show own_Goes p e below _ (T53.setTop (mkF m 183 #[.val (.ref r0), .val (.int x1), .val (.int x2), .val (.int (own_f4_4 x1 F)), .val (.int (own_f4_2 (x1 + (5 : Int32)) F)), .val (.int (own_f4_2 (x1 + (8 : Int32)) F))] [(.int (2 : Int32)), (.int (x1 + (17 : Int32))), (.ref r0)]))
                obtain ⟨_, T55, L55, X55, ⟨rfl, N55q, e55⟩, st55⟩ := own_callS X53 hx hZ hown (hw _ own_t23) (hw _ own_t24) (hw _ own_t19) (hw _ own_t25) (by decide) (as := [(.ref r0), (.int (x1 + (17 : Int32))), (.int (2 : Int32))]) (rm4_2 l Z a0 hw [] r0 (x1 + (17 : Int32)) F cl_t h0 n0 A_t z_t t_t (own_db x1 hx1 17)) e53 own_pd0 rfl (pc := 183) (Ls := #[.val (.ref r0), .val (.int x1), .val (.int x2), .val (.int (own_f4_4 x1 F)), .val (.int (own_f4_2 (x1 + (5 : Int32)) F)), .val (.int (own_f4_2 (x1 + (8 : Int32)) F))]) (rest := []) (W := 0) (by rw [hml]; rfl) (Nat.le_of_eq rfl) (by decide) (by decide) (hb hby own_d3_183) (by decide) (by decide)
                have N55 := Fr.app N53 N55q
                refine own_go st55 ?_
                show own_Goes p e below _ (T55.setTop (mkF m 186 #[.val (.ref r0), .val (.int x1), .val (.int x2), .val (.int (own_f4_4 x1 F)), .val (.int (own_f4_2 (x1 + (5 : Int32)) F)), .val (.int (own_f4_2 (x1 + (8 : Int32)) F))] [(.int (own_f4_2 (x1 + (17 : Int32)) F))]))
                refine own_go (fun t k => XS.bipush X55.here hx rfl (hb hby own_d3_186) k) ?_
                show own_Goes p e below _ (T55.setTop (mkF m 188 #[.val (.ref r0), .val (.int x1), .val (.int x2), .val (.int (own_f4_4 x1 F)), .val (.int (own_f4_2 (x1 + (5 : Int32)) F)), .val (.int (own_f4_2 (x1 + (8 : Int32)) F))] [(.int (59 : Int32)), (.int (own_f4_2 (x1 + (17 : Int32)) F))]))
                by_cases hc56 : (59 : Int32) < (own_f4_2 (x1 + (17 : Int32)) F)
                · refine own_go (fun t k => XS.icmpYes X55.here hx rfl (pc0 := 188) (pc' := 195) rfl (hb hby own_d3_188) rfl (tlt hc56).2.2.1 (by decide) (by decide) k) ?_
                  show own_Goes p e below _ (T55.setTop (mkF m 195 #[.val (.ref r0), .val (.int x1), .val (.int x2), .val (.int (own_f4_4 x1 F)), .val (.int (own_f4_2 (x1 + (5 : Int32)) F)), .val (.int (own_f4_2 (x1 + (8 : Int32)) F))] []))
                  refine own_go (fun t k => XS.iconst X55.here hx rfl (hb hby own_d3_195) k) ?_
                  rw [show (own_j3_1 x1 F) = (0 : Int32) from by rw [own_j3_1, if_neg hc46, if_neg hc47, if_neg hc48, if_neg hc50, if_neg hc52, if_neg hc54, if_pos hc56]] at HH57
                  exact HH57 _ _ X55 e55 N55
                · refine own_go (fun t k => XS.icmpNo X55.here hx rfl (hb hby own_d3_188) rfl (flt hc56).2.2.1 k) ?_
                  show own_Goes p e below _ (T55.setTop (mkF m 191 #[.val (.ref r0), .val (.int x1), .val (.int x2), .val (.int (own_f4_4 x1 F)), .val (.int (own_f4_2 (x1 + (5 : Int32)) F)), .val (.int (own_f4_2 (x1 + (8 : Int32)) F))] []))
                  refine own_go (fun t k => XS.iconst X55.here hx rfl (hb hby own_d3_191) k) ?_
                  show own_Goes p e below _ (T55.setTop (mkF m 192 #[.val (.ref r0), .val (.int x1), .val (.int x2), .val (.int (own_f4_4 x1 F)), .val (.int (own_f4_2 (x1 + (5 : Int32)) F)), .val (.int (own_f4_2 (x1 + (8 : Int32)) F))] [(.int (1 : Int32))]))
                  refine own_go (fun t k => XS.goto X55.here hx rfl (pc0 := 192) (pc' := 196) rfl (hb hby own_d3_192) (by decide) (by decide) k) ?_
                  rw [show (own_j3_1 x1 F) = (1 : Int32) from by rw [own_j3_1, if_neg hc46, if_neg hc47, if_neg hc48, if_neg hc50, if_neg hc52, if_neg hc54, if_neg hc56]] at HH57
                  exact HH57 _ _ X55 e55 N55
  intro T57 L57 X57 e57 N57
  show own_Goes p e below _ (T57.setTop (mkF m 196 #[.val (.ref r0), .val (.int x1), .val (.int x2), .val (.int (own_f4_4 x1 F)), .val (.int (own_f4_2 (x1 + (5 : Int32)) F)), .val (.int (own_f4_2 (x1 + (8 : Int32)) F))] [(.int (own_j3_1 x1 F))]))
  exact own_retN X57 hx hlk hret (by simp) (z' := ((own_j3_1 x1 F) &&& 1)) rfl (hb hby own_d3_196) (by decide) (by decide) ⟨by rw [hv, own_f3t], N57, e57⟩
theorem own_d3_84 : decode prog_25_method_4_code 84 = .ok (.ireturn, 1) := by decide +kernel
set_option maxRecDepth 65536 in
set_option maxHeartbeats 40000000 in
theorem own_loop3 (l : Launch) (Z : State) (a0 : Array Value) (hw : ∀ d ∈ tables_1, d.before a0 Z = true) (r0 : Addr) (x1 : Int32) (x2 : Int32) (F : Int32 → Int32) (cl_t : Cell) (cl_F : Cell) (s_F : Addr) (h0 : Heap) (n0 : Nat) (A_t : Arr Z h0 r0 cl_t .char) (z_t : cl_t.slots.size = (32 : Int32).toNatClampNeg) (t_t : ∀ j : Int32, ¬ j < 0 → j < 32 → cl_t.slots[j.toNatClampNeg]? = some (.int (F j))) (A_F : Arr Z h0 s_F cl_F .char) (z_F : cl_F.slots.size = (27 : Int32).toNatClampNeg) (t_F : ∀ j : Int32, ¬ j < 0 → j < 27 → cl_F.slots[j.toNatClampNeg]? = some (.int (own_tab j))) (hx1 : 0 ≤ x1.toInt ∧ x1.toInt ≤ 3) (S_s_F : Sta Z h0 "com/example/kleio/kleio/RecordTime" "FORM" "[C" (.ref s_F)) (p : Program) (e : Env) (s : State) (m : MethodId) (below : List Frame) (meth : Method) (c : Code) (hx : p.tables.exec = Jvm.exec) (hby : c.code = prog_25_method_4_code) (hml : c.maxLocals = 6) (hown : s.vm.findClass "com/example/kleio/kleio/RecordTime" = some m.cls) (hret : meth.sig.returnType = (some .boolean)) (hlk : meth.locks = false) (hZ : Z.Warmed39 s.vm)  : ∀ (k : Nat) (i : Int32), 0 ≤ i.toInt → i.toInt + k = 27 → own_rt x1 x2 F = (if own_chk k i x1 F = true then (own_f3t x1 F) else 0) → ∀ (T0 : State) (L0 : List Loc) (X0 : Stand p l e own_R3 s m #[(.ref r0), (.int x1), (.int x2)] below meth c T0 L0 0 0) (e0 : T0.heap = h0) (N0 : Fr n0 L0) (s4 s5 : Slot) (hs4 : One s4) (hs5 : One s5), own_Goes p e below (own_End s own_R3 (own_Q3 r0 x1 x2 F s_F h0 n0)) (T0.setTop (mkF m 14 #[.val (.ref r0), .val (.int x1), .val (.int x2), .val (.int i), s4, s5] [])) := by
  intro k
  induction k with
  | zero =>
    intro i hi hk hv T0 L0 X0 e0 N0 s4 s5 hs4 hs5
    have hi27 : ¬ (i < (27 : Int32)) := fun q => by rw [Int32.lt_iff_toInt_lt, show (27 : Int32).toInt = 27 from rfl] at q; omega
    show own_Goes p e below _ (T0.setTop (mkF m 14 #[.val (.ref r0), .val (.int x1), .val (.int x2), .val (.int i), s4, s5] []))
    refine own_go (fun t k => XS.iloadN X0.here hx rfl (hb hby own_d3_14) rfl k) ?_
    show own_Goes p e below _ (T0.setTop (mkF m 15 #[.val (.ref r0), .val (.int x1), .val (.int x2), .val (.int i), s4, s5] [(.int i)]))
    obtain ⟨T68, X68, e68, st68⟩ := getS2 X0 hx hZ hown (host := "") (Or.inl (hw _ own_t21)) Via.refl e0 S_s_F (g := (mkF m 15 #[.val (.ref r0), .val (.int x1), .val (.int x2), .val (.int i), s4, s5] [(.int i)])) rfl (hb hby own_d3_15)
    refine own_go st68 ?_
    show own_Goes p e below _ (T68.setTop (mkF m 18 #[.val (.ref r0), .val (.int x1), .val (.int x2), .val (.int i), s4, s5] [(.ref s_F), (.int i)]))
    refine own_go (fun t k => X68.arraylength hx (by rw [e68]; exact A_F.1) (State.isArrayOf_alike hZ.alike A_F.2.1) (g := (mkF m 18 #[.val (.ref r0), .val (.int x1), .val (.int x2), .val (.int i), s4, s5] [(.ref s_F), (.int i)])) rfl rfl (hb hby own_d3_18) t k) ?_
    rw [len_of z_F (by decide)]
    show own_Goes p e below _ (T68.setTop (mkF m 19 #[.val (.ref r0), .val (.int x1), .val (.int x2), .val (.int i), s4, s5] [(.int (27 : Int32)), (.int i)]))
    have hd69 : ¬ (i < (27 : Int32)) := hi27
    refine own_go (fun t k => XS.icmpYes X68.here hx rfl (pc0 := 19) (pc' := 91) rfl (hb hby own_d3_19) rfl (flt hd69).2.1 (by decide) (by decide) k) ?_
    exact own_tail3 l Z a0 hw r0 x1 x2 F cl_t cl_F s_F h0 n0 A_t z_t t_t A_F z_F t_F hx1 S_s_F p e s m below meth c hx hby hml hown hret hlk hZ i _ _ X68 e68 N0 _ _ hs4 hs5 (by rw [hv]; rfl)
  | succ k ih =>
    intro i hi hk hv T0 L0 X0 e0 N0 s4 s5 hs4 hs5
    have hi27 : i < (27 : Int32) := by rw [Int32.lt_iff_toInt_lt, show (27 : Int32).toInt = 27 from rfl]; omega
    have hbi : ¬ i < 0 ∧ i < 27 := own_bd (by rw [show (27 : Int32).toInt = 27 from rfl]; omega)
    have hbt : ¬ (x1 + i) < 0 ∧ (x1 + i) < 32 := own_bd (by rw [own_add _ _ (by omega), show (32 : Int32).toInt = 32 from rfl]; omega)
    show own_Goes p e below _ (T0.setTop (mkF m 14 #[.val (.ref r0), .val (.int x1), .val (.int x2), .val (.int i), s4, s5] []))
    refine own_go (fun t k => XS.iloadN X0.here hx rfl (hb hby own_d3_14) rfl k) ?_
    show own_Goes p e below _ (T0.setTop (mkF m 15 #[.val (.ref r0), .val (.int x1), .val (.int x2), .val (.int i), s4, s5] [(.int i)]))
    obtain ⟨T58, X58, e58, st58⟩ := getS2 X0 hx hZ hown (host := "") (Or.inl (hw _ own_t21)) Via.refl e0 S_s_F (g := (mkF m 15 #[.val (.ref r0), .val (.int x1), .val (.int x2), .val (.int i), s4, s5] [(.int i)])) rfl (hb hby own_d3_15)
    refine own_go st58 ?_
    show own_Goes p e below _ (T58.setTop (mkF m 18 #[.val (.ref r0), .val (.int x1), .val (.int x2), .val (.int i), s4, s5] [(.ref s_F), (.int i)]))
    refine own_go (fun t k => X58.arraylength hx (by rw [e58]; exact A_F.1) (State.isArrayOf_alike hZ.alike A_F.2.1) (g := (mkF m 18 #[.val (.ref r0), .val (.int x1), .val (.int x2), .val (.int i), s4, s5] [(.ref s_F), (.int i)])) rfl rfl (hb hby own_d3_18) t k) ?_
    rw [len_of z_F (by decide)]
    show own_Goes p e below _ (T58.setTop (mkF m 19 #[.val (.ref r0), .val (.int x1), .val (.int x2), .val (.int i), s4, s5] [(.int (27 : Int32)), (.int i)]))
    have hd59 : i < (27 : Int32) := hi27
    refine own_go (fun t k => XS.icmpNo X58.here hx rfl (hb hby own_d3_19) rfl (tlt hd59).2.1 k) ?_
    show own_Goes p e below _ (T58.setTop (mkF m 22 #[.val (.ref r0), .val (.int x1), .val (.int x2), .val (.int i), s4, s5] []))
    refine own_go (fun t k => XS.aloadN X58.here hx rfl (hb hby own_d3_22) rfl rfl k) ?_
    show own_Goes p e below _ (T58.setTop (mkF m 23 #[.val (.ref r0), .val (.int x1), .val (.int x2), .val (.int i), s4, s5] [(.ref r0)]))
    refine own_go (fun t k => XS.iloadN X58.here hx rfl (hb hby own_d3_23) rfl k) ?_
    show own_Goes p e below _ (T58.setTop (mkF m 24 #[.val (.ref r0), .val (.int x1), .val (.int x2), .val (.int i), s4, s5] [(.int x1), (.ref r0)]))
    refine own_go (fun t k => XS.iloadN X58.here hx rfl (hb hby own_d3_24) rfl k) ?_
    show own_Goes p e below _ (T58.setTop (mkF m 25 #[.val (.ref r0), .val (.int x1), .val (.int x2), .val (.int i), s4, s5] [(.int i), (.int x1), (.ref r0)]))
    refine own_go (fun t k => XS.iadd X58.here hx rfl (hb hby own_d3_25) rfl k) ?_
    show own_Goes p e below _ (T58.setTop (mkF m 26 #[.val (.ref r0), .val (.int x1), .val (.int x2), .val (.int i), s4, s5] [(.int (x1 + i)), (.ref r0)]))
    refine own_go (fun t k => X58.caload hx (j := (x1 + i)) (v := (.int (F (x1 + i)))) (by rw [e58]; exact A_t.1) (State.isArrayOf_alike hZ.alike A_t.2.1) A_t.2.2 (inb_of z_t hbt) (t_t _ hbt.1 hbt.2) (g := (mkF m 26 #[.val (.ref r0), .val (.int x1), .val (.int x2), .val (.int i), s4, s5] [(.int (x1 + i)), (.ref r0)])) rfl rfl (hb hby own_d3_26) t k) ?_
    show own_Goes p e below _ (T58.setTop (mkF m 27 #[.val (.ref r0), .val (.int x1), .val (.int x2), .val (.int i), s4, s5] [(.int (F (x1 + i)))]))
    refine own_go (fun t k => XS.istore X58.here hx rfl (hb hby own_d3_27) rfl (l' := #[.val (.ref r0), .val (.int x1), .val (.int x2), .val (.int i), .val (.int (F (x1 + i))), s5]) (XS.store1 (o := s4) rfl hs4 rfl) k) ?_
    show own_Goes p e below _ (T58.setTop (mkF m 29 #[.val (.ref r0), .val (.int x1), .val (.int x2), .val (.int i), .val (.int (F (x1 + i))), s5] []))
    obtain ⟨T60, X60, e60, st60⟩ := getS2 X58 hx hZ hown (host := "") (Or.inl (hw _ own_t21)) Via.refl e58 S_s_F (g := (mkF m 29 #[.val (.ref r0), .val (.int x1), .val (.int x2), .val (.int i), .val (.int (F (x1 + i))), s5] [])) rfl (hb hby own_d3_29)
    refine own_go st60 ?_
    show own_Goes p e below _ (T60.setTop (mkF m 32 #[.val (.ref r0), .val (.int x1), .val (.int x2), .val (.int i), .val (.int (F (x1 + i))), s5] [(.ref s_F)]))
    refine own_go (fun t k => XS.iloadN X60.here hx rfl (hb hby own_d3_32) rfl k) ?_
    show own_Goes p e below _ (T60.setTop (mkF m 33 #[.val (.ref r0), .val (.int x1), .val (.int x2), .val (.int i), .val (.int (F (x1 + i))), s5] [(.int i), (.ref s_F)]))
    refine own_go (fun t k => X60.caload hx (j := i) (v := (.int (own_tab i))) (by rw [e60]; exact A_F.1) (State.isArrayOf_alike hZ.alike A_F.2.1) A_F.2.2 (inb_of z_F hbi) (t_F _ hbi.1 hbi.2) (g := (mkF m 33 #[.val (.ref r0), .val (.int x1), .val (.int x2), .val (.int i), .val (.int (F (x1 + i))), s5] [(.int i), (.ref s_F)])) rfl rfl (hb hby own_d3_33) t k) ?_
    show own_Goes p e below _ (T60.setTop (mkF m 34 #[.val (.ref r0), .val (.int x1), .val (.int x2), .val (.int i), .val (.int (F (x1 + i))), s5] [(.int (own_tab i))]))
    refine own_go (fun t k => XS.bipush X60.here hx rfl (hb hby own_d3_34) k) ?_
    show own_Goes p e below _ (T60.setTop (mkF m 36 #[.val (.ref r0), .val (.int x1), .val (.int x2), .val (.int i), .val (.int (F (x1 + i))), s5] [(.int (48 : Int32)), (.int (own_tab i))]))
    suffices HH66 : ∀ (T66 : State) (L66 : List Loc) (X66 : Stand p l e own_R3 s m #[(.ref r0), (.int x1), (.int x2)] below meth c T66 L66 0 0) (e66 : T66.heap = h0) (N66 : Fr n0 L66), own_Goes p e below (own_End s own_R3 (own_Q3 r0 x1 x2 F s_F h0 n0)) (T66.setTop (mkF m 76 #[.val (.ref r0), .val (.int x1), .val (.int x2), .val (.int i), .val (.int (F (x1 + i))), s5] [(.int (own_j3_2 x1 F i))])) by
      by_cases hc61 : (own_tab i) = (48 : Int32)
      · refine own_go (fun t k => XS.icmpNo X60.here hx rfl (hb hby own_d3_36) rfl (teq hc61).2 k) ?_
        show own_Goes p e below _ (T60.setTop (mkF m 39 #[.val (.ref r0), .val (.int x1), .val (.int x2), .val (.int i), .val (.int (F (x1 + i))), s5] []))
        refine own_go (fun t k => XS.iload X60.here hx rfl (hb hby own_d3_39) rfl k) ?_
        show own_Goes p e below _ (T60.setTop (mkF m 41 #[.val (.ref r0), .val (.int x1), .val (.int x2), .val (.int i), .val (.int (F (x1 + i))), s5] [(.int (F (x1 + i)))]))
        refine own_go (fun t k => XS.bipush X60.here hx rfl (hb hby own_d3_41) k) ?_
        show own_Goes p e below _ (T60.setTop (mkF m 43 #[.val (.ref r0), .val (.int x1), .val (.int x2), .val (.int i), .val (.int (F (x1 + i))), s5] [(.int (48 : Int32)), (.int (F (x1 + i)))]))
        by_cases hc62 : (F (x1 + i)) < (48 : Int32)
        · refine own_go (fun t k => XS.icmpYes X60.here hx rfl (pc0 := 43) (pc' := 57) rfl (hb hby own_d3_43) rfl (tlt hc62).1 (by decide) (by decide) k) ?_
          show own_Goes p e below _ (T60.setTop (mkF m 57 #[.val (.ref r0), .val (.int x1), .val (.int x2), .val (.int i), .val (.int (F (x1 + i))), s5] []))
          refine own_go (fun t k => XS.iconst X60.here hx rfl (hb hby own_d3_57) k) ?_
          show own_Goes p e below _ (T60.setTop (mkF m 58 #[.val (.ref r0), .val (.int x1), .val (.int x2), .val (.int i), .val (.int (F (x1 + i))), s5] [(.int (0 : Int32))]))
          refine own_go (fun t k => XS.goto X60.here hx rfl (pc0 := 58) (pc' := 76) rfl (hb hby own_d3_58) (by decide) (by decide) k) ?_
          rw [show (own_j3_2 x1 F i) = (0 : Int32) from by rw [own_j3_2, if_pos hc61, if_pos hc62]] at HH66
          exact HH66 _ _ X60 e60 N0
        · refine own_go (fun t k => XS.icmpNo X60.here hx rfl (hb hby own_d3_43) rfl (flt hc62).1 k) ?_
          show own_Goes p e below _ (T60.setTop (mkF m 46 #[.val (.ref r0), .val (.int x1), .val (.int x2), .val (.int i), .val (.int (F (x1 + i))), s5] []))
          refine own_go (fun t k => XS.iload X60.here hx rfl (hb hby own_d3_46) rfl k) ?_
          show own_Goes p e below _ (T60.setTop (mkF m 48 #[.val (.ref r0), .val (.int x1), .val (.int x2), .val (.int i), .val (.int (F (x1 + i))), s5] [(.int (F (x1 + i)))]))
          refine own_go (fun t k => XS.bipush X60.here hx rfl (hb hby own_d3_48) k) ?_
          show own_Goes p e below _ (T60.setTop (mkF m 50 #[.val (.ref r0), .val (.int x1), .val (.int x2), .val (.int i), .val (.int (F (x1 + i))), s5] [(.int (57 : Int32)), (.int (F (x1 + i)))]))
          by_cases hc63 : (57 : Int32) < (F (x1 + i))
          · refine own_go (fun t k => XS.icmpYes X60.here hx rfl (pc0 := 50) (pc' := 57) rfl (hb hby own_d3_50) rfl (tlt hc63).2.2.1 (by decide) (by decide) k) ?_
            show own_Goes p e below _ (T60.setTop (mkF m 57 #[.val (.ref r0), .val (.int x1), .val (.int x2), .val (.int i), .val (.int (F (x1 + i))), s5] []))
            refine own_go (fun t k => XS.iconst X60.here hx rfl (hb hby own_d3_57) k) ?_
            show own_Goes p e below _ (T60.setTop (mkF m 58 #[.val (.ref r0), .val (.int x1), .val (.int x2), .val (.int i), .val (.int (F (x1 + i))), s5] [(.int (0 : Int32))]))
            refine own_go (fun t k => XS.goto X60.here hx rfl (pc0 := 58) (pc' := 76) rfl (hb hby own_d3_58) (by decide) (by decide) k) ?_
            rw [show (own_j3_2 x1 F i) = (0 : Int32) from by rw [own_j3_2, if_pos hc61, if_neg hc62, if_pos hc63]] at HH66
            exact HH66 _ _ X60 e60 N0
          · refine own_go (fun t k => XS.icmpNo X60.here hx rfl (hb hby own_d3_50) rfl (flt hc63).2.2.1 k) ?_
            show own_Goes p e below _ (T60.setTop (mkF m 53 #[.val (.ref r0), .val (.int x1), .val (.int x2), .val (.int i), .val (.int (F (x1 + i))), s5] []))
            refine own_go (fun t k => XS.iconst X60.here hx rfl (hb hby own_d3_53) k) ?_
            show own_Goes p e below _ (T60.setTop (mkF m 54 #[.val (.ref r0), .val (.int x1), .val (.int x2), .val (.int i), .val (.int (F (x1 + i))), s5] [(.int (1 : Int32))]))
            refine own_go (fun t k => XS.goto X60.here hx rfl (pc0 := 54) (pc' := 76) rfl (hb hby own_d3_54) (by decide) (by decide) k) ?_
            rw [show (own_j3_2 x1 F i) = (1 : Int32) from by rw [own_j3_2, if_pos hc61, if_neg hc62, if_neg hc63]] at HH66
            exact HH66 _ _ X60 e60 N0
      · refine own_go (fun t k => XS.icmpYes X60.here hx rfl (pc0 := 36) (pc' := 61) rfl (hb hby own_d3_36) rfl (feq hc61).2 (by decide) (by decide) k) ?_
        show own_Goes p e below _ (T60.setTop (mkF m 61 #[.val (.ref r0), .val (.int x1), .val (.int x2), .val (.int i), .val (.int (F (x1 + i))), s5] []))
        refine own_go (fun t k => XS.iload X60.here hx rfl (hb hby own_d3_61) rfl k) ?_
        show own_Goes p e below _ (T60.setTop (mkF m 63 #[.val (.ref r0), .val (.int x1), .val (.int x2), .val (.int i), .val (.int (F (x1 + i))), s5] [(.int (F (x1 + i)))]))
        obtain ⟨T64, X64, e64, st64⟩ := getS2 X60 hx hZ hown (host := "") (Or.inl (hw _ own_t21)) Via.refl e60 S_s_F (g := (mkF m 63 #[.val (.ref r0), .val (.int x1), .val (.int x2), .val (.int i), .val (.int (F (x1 + i))), s5] [(.int (F (x1 + i)))])) rfl (hb hby own_d3_63)
        refine own_go st64 ?_
        show own_Goes p e below _ (T64.setTop (mkF m 66 #[.val (.ref r0), .val (.int x1), .val (.int x2), .val (.int i), .val (.int (F (x1 + i))), s5] [(.ref s_F), (.int (F (x1 + i)))]))
        refine own_go (fun t k => XS.iloadN X64.here hx rfl (hb hby own_d3_66) rfl k) ?_
        show own_Goes p e below _ (T64.setTop (mkF m 67 #[.val (.ref r0), .val (.int x1), .val (.int x2), .val (.int i), .val (.int (F (x1 + i))), s5] [(.int i), (.ref s_F), (.int (F (x1 + i)))]))
        refine own_go (fun t k => X64.caload hx (j := i) (v := (.int (own_tab i))) (by rw [e64]; exact A_F.1) (State.isArrayOf_alike hZ.alike A_F.2.1) A_F.2.2 (inb_of z_F hbi) (t_F _ hbi.1 hbi.2) (g := (mkF m 67 #[.val (.ref r0), .val (.int x1), .val (.int x2), .val (.int i), .val (.int (F (x1 + i))), s5] [(.int i), (.ref s_F), (.int (F (x1 + i)))])) rfl rfl (hb hby own_d3_67) t k) ?_
        show own_Goes p e below _ (T64.setTop (mkF m 68 #[.val (.ref r0), .val (.int x1), .val (.int x2), .val (.int i), .val (.int (F (x1 + i))), s5] [(.int (own_tab i)), (.int (F (x1 + i)))]))
        by_cases hc65 : (F (x1 + i)) = (own_tab i)
        · refine own_go (fun t k => XS.icmpNo X64.here hx rfl (hb hby own_d3_68) rfl (teq hc65).2 k) ?_
          show own_Goes p e below _ (T64.setTop (mkF m 71 #[.val (.ref r0), .val (.int x1), .val (.int x2), .val (.int i), .val (.int (F (x1 + i))), s5] []))
          refine own_go (fun t k => XS.iconst X64.here hx rfl (hb hby own_d3_71) k) ?_
          show own_Goes p e below _ (T64.setTop (mkF m 72 #[.val (.ref r0), .val (.int x1), .val (.int x2), .val (.int i), .val (.int (F (x1 + i))), s5] [(.int (1 : Int32))]))
          refine own_go (fun t k => XS.goto X64.here hx rfl (pc0 := 72) (pc' := 76) rfl (hb hby own_d3_72) (by decide) (by decide) k) ?_
          rw [show (own_j3_2 x1 F i) = (1 : Int32) from by rw [own_j3_2, if_neg hc61, if_pos hc65]] at HH66
          exact HH66 _ _ X64 e64 N0
        · refine own_go (fun t k => XS.icmpYes X64.here hx rfl (pc0 := 68) (pc' := 75) rfl (hb hby own_d3_68) rfl (feq hc65).2 (by decide) (by decide) k) ?_
          show own_Goes p e below _ (T64.setTop (mkF m 75 #[.val (.ref r0), .val (.int x1), .val (.int x2), .val (.int i), .val (.int (F (x1 + i))), s5] []))
          refine own_go (fun t k => XS.iconst X64.here hx rfl (hb hby own_d3_75) k) ?_
          rw [show (own_j3_2 x1 F i) = (0 : Int32) from by rw [own_j3_2, if_neg hc61, if_neg hc65]] at HH66
          exact HH66 _ _ X64 e64 N0
    intro T66 L66 X66 e66 N66
    show own_Goes p e below _ (T66.setTop (mkF m 76 #[.val (.ref r0), .val (.int x1), .val (.int x2), .val (.int i), .val (.int (F (x1 + i))), s5] [(.int (own_j3_2 x1 F i))]))
    refine own_go (fun t k => XS.istore X66.here hx rfl (hb hby own_d3_76) rfl (l' := #[.val (.ref r0), .val (.int x1), .val (.int x2), .val (.int i), .val (.int (F (x1 + i))), .val (.int (own_j3_2 x1 F i))]) (XS.store1 (o := s5) rfl hs5 rfl) k) ?_
    show own_Goes p e below _ (T66.setTop (mkF m 78 #[.val (.ref r0), .val (.int x1), .val (.int x2), .val (.int i), .val (.int (F (x1 + i))), .val (.int (own_j3_2 x1 F i))] []))
    refine own_go (fun t k => XS.iload X66.here hx rfl (hb hby own_d3_78) rfl k) ?_
    show own_Goes p e below _ (T66.setTop (mkF m 80 #[.val (.ref r0), .val (.int x1), .val (.int x2), .val (.int i), .val (.int (F (x1 + i))), .val (.int (own_j3_2 x1 F i))] [(.int (own_j3_2 x1 F i))]))
    by_cases hc67 : (own_j3_2 x1 F i) = (0 : Int32)
    · refine own_go (fun t k => XS.ifNo X66.here hx rfl (hb hby own_d3_80) rfl ((if0 _ _).trans (teq hc67).2) k) ?_
      show own_Goes p e below _ (T66.setTop (mkF m 83 #[.val (.ref r0), .val (.int x1), .val (.int x2), .val (.int i), .val (.int (F (x1 + i))), .val (.int (own_j3_2 x1 F i))] []))
      refine own_go (fun t k => XS.iconst X66.here hx rfl (hb hby own_d3_83) k) ?_
      show own_Goes p e below _ (T66.setTop (mkF m 84 #[.val (.ref r0), .val (.int x1), .val (.int x2), .val (.int i), .val (.int (F (x1 + i))), .val (.int (own_j3_2 x1 F i))] [(.int (0 : Int32))]))
      exact own_retN X66 hx hlk hret (by simp) (z' := (0 : Int32)) rfl (hb hby own_d3_84) (by decide) (by decide) ⟨by rw [hv, own_chk, if_pos hc67]; rfl, N66, e66⟩
    · refine own_go (fun t k => XS.ifYes X66.here hx rfl (pc0 := 80) (pc' := 85) rfl (hb hby own_d3_80) rfl ((if0 _ _).trans (feq hc67).2) (by decide) (by decide) k) ?_
      show own_Goes p e below _ (T66.setTop (mkF m 85 #[.val (.ref r0), .val (.int x1), .val (.int x2), .val (.int i), .val (.int (F (x1 + i))), .val (.int (own_j3_2 x1 F i))] []))
      refine own_go (fun t k => XS.iinc X66.here hx rfl (hb hby own_d3_85) rfl (l' := #[.val (.ref r0), .val (.int x1), .val (.int x2), .val (.int (i + (1 : Int32))), .val (.int (F (x1 + i))), .val (.int (own_j3_2 x1 F i))]) rfl k) ?_
      show own_Goes p e below _ (T66.setTop (mkF m 88 #[.val (.ref r0), .val (.int x1), .val (.int x2), .val (.int (i + (1 : Int32))), .val (.int (F (x1 + i))), .val (.int (own_j3_2 x1 F i))] []))
      refine own_go (fun t k => XS.goto X66.here hx rfl (pc0 := 88) (pc' := 14) rfl (hb hby own_d3_88) (by decide) (by decide) k) ?_
      exact ih (i + 1) (by rw [own_add _ _ (by rw [show (1 : Int32).toInt = 1 from rfl]; omega), show (1 : Int32).toInt = 1 from rfl]; omega) (by rw [own_add _ _ (by rw [show (1 : Int32).toInt = 1 from rfl]; omega), show (1 : Int32).toInt = 1 from rfl]; omega) (by rw [hv, own_chk, if_neg hc67]) _ _ X66 e66 N66 _ _ (One.val rfl) (One.val rfl)
theorem own_d3_0 : decode prog_25_method_4_code 0 = .ok (.iload_n 2, 1) := by decide +kernel
theorem own_d3_1 : decode prog_25_method_4_code 1 = .ok (.iload_n 1, 1) := by decide +kernel
theorem own_d3_2 : decode prog_25_method_4_code 2 = .ok (.isub, 1) := by decide +kernel
theorem own_d3_3 : decode prog_25_method_4_code 3 = .ok (.getstatic 153, 3) := by decide +kernel
theorem own_d3_6 : decode prog_25_method_4_code 6 = .ok (.arraylength, 1) := by decide +kernel
theorem own_d3_7 : decode prog_25_method_4_code 7 = .ok (.if_icmp .eq 5, 3) := by decide +kernel
theorem own_d3_12 : decode prog_25_method_4_code 12 = .ok (.iconst 0, 1) := by decide +kernel
theorem own_d3_13 : decode prog_25_method_4_code 13 = .ok (.istore_n 3, 1) := by decide +kernel
theorem own_d3_10 : decode prog_25_method_4_code 10 = .ok (.iconst 0, 1) := by decide +kernel
theorem own_d3_11 : decode prog_25_method_4_code 11 = .ok (.ireturn, 1) := by decide +kernel
theorem own_ef3 (m : MethodId) (z0 : Addr) (z1 : Int32) (z2 : Int32) : entryFrame m #[(.ref z0), (.int z1), (.int z2)] 6 = mkF m 0 #[.val (.ref z0), .val (.int z1), .val (.int z2), .unset, .unset, .unset] [] := by first | (simp [entryFrame, mkF, argsToLocals, Value.category]; done) | rfl
set_option maxRecDepth 65536 in
set_option maxHeartbeats 40000000 in
theorem rm3 (l : Launch) (Z : State) (a0 : Array Value) (hw : ∀ d ∈ tables_1, d.before a0 Z = true) (ws : List Jvm.Cond) (r0 : Addr) (x1 : Int32) (x2 : Int32) (F : Int32 → Int32) (cl_t : Cell) (cl_F : Cell) (s_F : Addr) (h0 : Heap) (n0 : Nat) (A_t : Arr Z h0 r0 cl_t .char) (z_t : cl_t.slots.size = (32 : Int32).toNatClampNeg) (t_t : ∀ j : Int32, ¬ j < 0 → j < 32 → cl_t.slots[j.toNatClampNeg]? = some (.int (F j))) (A_F : Arr Z h0 s_F cl_F .char) (z_F : cl_F.slots.size = (27 : Int32).toNatClampNeg) (t_F : ∀ j : Int32, ¬ j < 0 → j < 27 → cl_F.slots[j.toNatClampNeg]? = some (.int (own_tab j))) (hx1 : 0 ≤ x1.toInt ∧ x1.toInt ≤ 3) (S_s_F : Sta Z h0 "com/example/kleio/kleio/RecordTime" "FORM" "[C" (.ref s_F)) : own_Met l Z (⟨"com/example/kleio/kleio/RecordTime", "isRecordTime", "([CII)Z"⟩ : MethodName) prog_25_method_4_code 6 (some .boolean) ws own_R3 #[(.ref r0), (.int x1), (.int x2)] h0 (own_Q3 r0 x1 x2 F s_F h0 n0) := by
  refine own_met (plainFor_of_name own_pn1) ?_
  intro p e s m below meth c s₁ hx hby hml hown hnm hret hlk hZ e0 X0
  have N0 := Fr.nil n0
  have hml : c.maxLocals = 6 := hml
  have hown : s.vm.findClass "com/example/kleio/kleio/RecordTime" = some m.cls := hown
  have hret : meth.sig.returnType = (some .boolean) := hret
  have hby : c.code = prog_25_method_4_code := hby
  have hnm : meth.name = "isRecordTime" := hnm
  rw [own_ef3]
  show own_Goes p e below _ (s₁.setTop (mkF m 0 #[.val (.ref r0), .val (.int x1), .val (.int x2), .unset, .unset, .unset] []))
  refine own_go (fun t k => XS.iloadN X0.here hx rfl (hb hby own_d3_0) rfl k) ?_
  show own_Goes p e below _ (s₁.setTop (mkF m 1 #[.val (.ref r0), .val (.int x1), .val (.int x2), .unset, .unset, .unset] [(.int x2)]))
  refine own_go (fun t k => XS.iloadN X0.here hx rfl (hb hby own_d3_1) rfl k) ?_
  show own_Goes p e below _ (s₁.setTop (mkF m 2 #[.val (.ref r0), .val (.int x1), .val (.int x2), .unset, .unset, .unset] [(.int x1), (.int x2)]))
  refine own_go (fun t k => XS.isub X0.here hx rfl (hb hby own_d3_2) rfl k) ?_
  show own_Goes p e below _ (s₁.setTop (mkF m 3 #[.val (.ref r0), .val (.int x1), .val (.int x2), .unset, .unset, .unset] [(.int (x2 - x1))]))
  obtain ⟨T70, X70, e70, st70⟩ := getS2 X0 hx hZ hown (host := "") (Or.inl (hw _ own_t21)) Via.refl e0 S_s_F (g := (mkF m 3 #[.val (.ref r0), .val (.int x1), .val (.int x2), .unset, .unset, .unset] [(.int (x2 - x1))])) rfl (hb hby own_d3_3)
  refine own_go st70 ?_
  show own_Goes p e below _ (T70.setTop (mkF m 6 #[.val (.ref r0), .val (.int x1), .val (.int x2), .unset, .unset, .unset] [(.ref s_F), (.int (x2 - x1))]))
  refine own_go (fun t k => X70.arraylength hx (by rw [e70]; exact A_F.1) (State.isArrayOf_alike hZ.alike A_F.2.1) (g := (mkF m 6 #[.val (.ref r0), .val (.int x1), .val (.int x2), .unset, .unset, .unset] [(.ref s_F), (.int (x2 - x1))])) rfl rfl (hb hby own_d3_6) t k) ?_
  rw [len_of z_F (by decide)]
  show own_Goes p e below _ (T70.setTop (mkF m 7 #[.val (.ref r0), .val (.int x1), .val (.int x2), .unset, .unset, .unset] [(.int (27 : Int32)), (.int (x2 - x1))]))
  by_cases hc71 : (x2 - x1) = (27 : Int32)
  · refine own_go (fun t k => XS.icmpYes X70.here hx rfl (pc0 := 7) (pc' := 12) rfl (hb hby own_d3_7) rfl (teq hc71).1 (by decide) (by decide) k) ?_
    show own_Goes p e below _ (T70.setTop (mkF m 12 #[.val (.ref r0), .val (.int x1), .val (.int x2), .unset, .unset, .unset] []))
    refine own_go (fun t k => XS.iconst X70.here hx rfl (hb hby own_d3_12) k) ?_
    show own_Goes p e below _ (T70.setTop (mkF m 13 #[.val (.ref r0), .val (.int x1), .val (.int x2), .unset, .unset, .unset] [(.int (0 : Int32))]))
    refine own_go (fun t k => XS.istoreN X70.here hx rfl (hb hby own_d3_13) rfl (l' := #[.val (.ref r0), .val (.int x1), .val (.int x2), .val (.int (0 : Int32)), .unset, .unset]) rfl k) ?_
    exact own_loop3 l Z a0 hw r0 x1 x2 F cl_t cl_F s_F h0 n0 A_t z_t t_t A_F z_F t_F hx1 S_s_F p e s m below meth c hx hby hml hown hret hlk hZ 27 0 (by decide) (by decide) (by rw [own_rt, if_pos hc71]) _ _ X70 e70 N0 _ _ One.u One.u
  · refine own_go (fun t k => XS.icmpNo X70.here hx rfl (hb hby own_d3_7) rfl (feq hc71).1 k) ?_
    show own_Goes p e below _ (T70.setTop (mkF m 10 #[.val (.ref r0), .val (.int x1), .val (.int x2), .unset, .unset, .unset] []))
    refine own_go (fun t k => XS.iconst X70.here hx rfl (hb hby own_d3_10) k) ?_
    show own_Goes p e below _ (T70.setTop (mkF m 11 #[.val (.ref r0), .val (.int x1), .val (.int x2), .unset, .unset, .unset] [(.int (0 : Int32))]))
    exact own_retN X70 hx hlk hret (by simp) (z' := (0 : Int32)) rfl (hb hby own_d3_11) (by decide) (by decide) ⟨by rw [own_rt, if_neg hc71], N0, e70⟩
theorem own_fr (x : Int32) : 0 ≤ (x &&& 3).toInt ∧ (x &&& 3).toInt ≤ 3 := by
  have e : (x &&& 3).toInt = x.toInt % 2 ^ 2 := Jvm.Kit.i32_mask x 3 (k := 2) (by decide) (by decide)
  omega
theorem own_ix0 (x : Int32) : ¬ (x &&& 3) < 0 ∧ (x &&& 3) < 32 := own_bd (by have := own_fr x; rw [show (32 : Int32).toInt = 32 from rfl]; omega)
theorem own_ix (x k : Int32) (hk : 0 ≤ k.toInt ∧ k.toInt ≤ 27 := by decide) : ¬ ((x &&& 3) + k) < 0 ∧ ((x &&& 3) + k) < 32 := own_bd (by have := own_fr x; rw [own_add _ _ (by omega), show (32 : Int32).toInt = 32 from rfl]; omega)
theorem own_pb (x : Int32) (h : (x &&& 63) < 27) : 0 ≤ (x &&& 63).toInt ∧ (x &&& 63).toInt ≤ 27 := by
  have e : (x &&& 63).toInt = x.toInt % 2 ^ 6 := Jvm.Kit.i32_mask x 63 (k := 6) (by decide) (by decide)
  rw [Int32.lt_iff_toInt_lt, show (27 : Int32).toInt = 27 from rfl] at h
  omega
theorem own_t0 : (Jvm.Cond.constant "com/example/kleio/kleio/RecordTimeIsRecordTimePinLaw" (9 : Nat) (2147483647 : Int32)) ∈ tables_1 := List.mem_of_getElem? (i := 0) rfl
theorem own_t1 : (Jvm.Cond.constant "com/example/kleio/kleio/RecordTimeIsRecordTimePinLaw" (10 : Nat) (65535 : Int32)) ∈ tables_1 := List.mem_of_getElem? (i := 1) rfl
theorem own_t2 : (Jvm.Cond.constantLong "com/example/kleio/kleio/RecordTimeIsRecordTimePinLaw" (11 : Nat) (65535 : Int64)) ∈ tables_1 := List.mem_of_getElem? (i := 2) rfl
theorem own_t3 : (Jvm.Cond.constantLong "com/example/kleio/kleio/RecordTimeIsRecordTimePinLaw" (13 : Nat) (100 : Int64)) ∈ tables_1 := List.mem_of_getElem? (i := 3) rfl
theorem own_t4 : (Jvm.Cond.constantLong "com/example/kleio/kleio/RecordTimeIsRecordTimePinLaw" (15 : Nat) (1000000 : Int64)) ∈ tables_1 := List.mem_of_getElem? (i := 4) rfl
theorem own_t5 : (Jvm.Cond.arrayClass Jvm.ClassFile.FieldType.char) ∈ tables_1 := List.mem_of_getElem? (i := 5) rfl
theorem own_t6 : (Jvm.Cond.constantLong "com/example/kleio/kleio/RecordTimeIsRecordTimePinLaw" (17 : Nat) (1000 : Int64)) ∈ tables_1 := List.mem_of_getElem? (i := 6) rfl
theorem own_t7 : (Jvm.Cond.methodLink "com/example/kleio/kleio/RecordTimeIsRecordTimePinLaw" (19 : Nat) ({ cls := "com/example/kleio/kleio/RecordTimeIsRecordTimePinLaw", name := "dig", desc := "(JJ)C" } : Jvm.MethodName)) ∈ tables_1 := List.mem_of_getElem? (i := 7) rfl
theorem own_pd2 : parseMethodDescriptor "(JJ)C" = some ⟨[.long, .long], some .char⟩ := by decide +kernel
theorem own_t8 : (Jvm.Cond.static ({ cls := "com/example/kleio/kleio/RecordTimeIsRecordTimePinLaw", name := "dig", desc := "(JJ)C" } : Jvm.MethodName)) ∈ tables_1 := List.mem_of_getElem? (i := 8) rfl
theorem own_t9 : (Jvm.Cond.initialized "com/example/kleio/kleio/RecordTimeIsRecordTimePinLaw") ∈ tables_1 := List.mem_of_getElem? (i := 9) rfl
theorem own_t10 : (Jvm.Cond.code ({ cls := "com/example/kleio/kleio/RecordTimeIsRecordTimePinLaw", name := "dig", desc := "(JJ)C" } : Jvm.MethodName) method_2_code (4 : Nat) (Option.some Jvm.ClassFile.FieldType.char)) ∈ tables_1 := List.mem_of_getElem? (i := 10) rfl
theorem own_t12 : (Jvm.Cond.constantLong "com/example/kleio/kleio/RecordTimeIsRecordTimePinLaw" (25 : Nat) (100000 : Int64)) ∈ tables_1 := List.mem_of_getElem? (i := 12) rfl
theorem own_t13 : (Jvm.Cond.constantLong "com/example/kleio/kleio/RecordTimeIsRecordTimePinLaw" (27 : Nat) (10000 : Int64)) ∈ tables_1 := List.mem_of_getElem? (i := 13) rfl
theorem own_t14 : (Jvm.Cond.methodLink "com/example/kleio/kleio/RecordTimeIsRecordTimePinLaw" (29 : Nat) ({ cls := "com/example/kleio/kleio/RecordTimeIsRecordTimePinLaw", name := "sepAt", desc := "(I)C" } : Jvm.MethodName)) ∈ tables_1 := List.mem_of_getElem? (i := 14) rfl
theorem own_pd3 : parseMethodDescriptor "(I)C" = some ⟨[.int], some .char⟩ := by decide +kernel
theorem own_t15 : (Jvm.Cond.static ({ cls := "com/example/kleio/kleio/RecordTimeIsRecordTimePinLaw", name := "sepAt", desc := "(I)C" } : Jvm.MethodName)) ∈ tables_1 := List.mem_of_getElem? (i := 15) rfl
theorem own_t16 : (Jvm.Cond.code ({ cls := "com/example/kleio/kleio/RecordTimeIsRecordTimePinLaw", name := "sepAt", desc := "(I)C" } : Jvm.MethodName) method_3_code (1 : Nat) (Option.some Jvm.ClassFile.FieldType.char)) ∈ tables_1 := List.mem_of_getElem? (i := 16) rfl
theorem own_t26 : (Jvm.Cond.methodLink "com/example/kleio/kleio/RecordTimeIsRecordTimePinLaw" (33 : Nat) ({ cls := "com/example/kleio/kleio/RecordTimeIsRecordTimePinLaw", name := "daysOf", desc := "(II)I" } : Jvm.MethodName)) ∈ tables_1 := List.mem_of_getElem? (i := 26) rfl
theorem own_t27 : (Jvm.Cond.static ({ cls := "com/example/kleio/kleio/RecordTimeIsRecordTimePinLaw", name := "daysOf", desc := "(II)I" } : Jvm.MethodName)) ∈ tables_1 := List.mem_of_getElem? (i := 27) rfl
theorem own_t28 : (Jvm.Cond.code ({ cls := "com/example/kleio/kleio/RecordTimeIsRecordTimePinLaw", name := "daysOf", desc := "(II)I" } : Jvm.MethodName) method_4_code (3 : Nat) (Option.some Jvm.ClassFile.FieldType.int)) ∈ tables_1 := List.mem_of_getElem? (i := 28) rfl
theorem own_t17 : (Jvm.Cond.methodLink "com/example/kleio/kleio/RecordTimeIsRecordTimePinLaw" (37 : Nat) ({ cls := "com/example/kleio/kleio/RecordTime", name := "isRecordTime", desc := "([CII)Z" } : Jvm.MethodName)) ∈ tables_1 := List.mem_of_getElem? (i := 17) rfl
theorem own_pd4 : parseMethodDescriptor "([CII)Z" = some ⟨[(.array .char), .int, .int], some .boolean⟩ := by decide +kernel
theorem own_t18 : (Jvm.Cond.static ({ cls := "com/example/kleio/kleio/RecordTime", name := "isRecordTime", desc := "([CII)Z" } : Jvm.MethodName)) ∈ tables_1 := List.mem_of_getElem? (i := 18) rfl
theorem own_t20 : (Jvm.Cond.code ({ cls := "com/example/kleio/kleio/RecordTime", name := "isRecordTime", desc := "([CII)Z" } : Jvm.MethodName) prog_25_method_4_code (6 : Nat) (Option.some Jvm.ClassFile.FieldType.boolean)) ∈ tables_1 := List.mem_of_getElem? (i := 20) rfl
def own_v0_1 (x0 : Int32) : Int32 := ((x0 &&& (2147483647 : Int32)) % (10000 : Int32))
def own_v0_2 (x1 : Int32) : Int32 := ((x1 &&& (65535 : Int32)) % (100 : Int32))
def own_v0_3 (x1 : Int32) : Int32 := (((x1.toUInt32 >>> ((16 : Int32) &&& 31).toUInt32).toInt32) % (100 : Int32))
def own_v0_4 (x2 : Int32) : Int32 := ((x2 &&& (65535 : Int32)) % (100 : Int32))
def own_v0_5 (x2 : Int32) : Int32 := (((x2.toUInt32 >>> ((16 : Int32) &&& 31).toUInt32).toInt32) % (100 : Int32))
def own_v0_6 (y3 : Int64) : Int32 := (((y3 &&& (65535 : Int64)) - ((y3 &&& (65535 : Int64)) / (100 : Int64)) * (100 : Int64)).toInt32)
def own_v0_7 (y3 : Int64) : Int64 := (((y3.toUInt64 >>> ((16 : Int32) &&& 0x3f).toInt64.toUInt64).toInt64) - (((y3.toUInt64 >>> ((16 : Int32) &&& 0x3f).toInt64.toUInt64).toInt64) / (1000000 : Int64)) * (1000000 : Int64))
def own_v0_8 (x4 : Int32) : Int32 := ((((x4.toUInt32 >>> ((8 : Int32) &&& 31).toUInt32).toInt32) &&& (255 : Int32)).toUInt32.toUInt16.toUInt32.toInt32)
def own_v0_9 (x5 : Int32) : Int32 := (((x5.toUInt32 >>> ((2 : Int32) &&& 31).toUInt32).toInt32) &&& (7 : Int32))
def own_j0_1 (x5 : Int32) : Int32 := (if (own_v0_9 x5) = (5 : Int32) then (26 : Int32) else (if (own_v0_9 x5) = (6 : Int32) then (28 : Int32) else (if (own_v0_9 x5) = (7 : Int32) then (-1 : Int32) else (27 : Int32))))
def own_v0_10 (x5 : Int32) : Int32 := ((x5 &&& (3 : Int32)) + (own_j0_1 x5))
def own_G0_1 (x0 : Int32) (x5 : Int32) : Int32 → Int32 := fun k => if k = (x5 &&& (3 : Int32)) then (nar .char (own_f1 ((own_v0_1 x0).toInt64) (1000 : Int64))) else (fun _ => 0) k
def own_G0_2 (x0 : Int32) (x5 : Int32) : Int32 → Int32 := fun k => if k = ((x5 &&& (3 : Int32)) + (1 : Int32)) then (nar .char (own_f1 ((own_v0_1 x0).toInt64) (100 : Int64))) else (own_G0_1 x0 x5) k
def own_G0_3 (x0 : Int32) (x5 : Int32) : Int32 → Int32 := fun k => if k = ((x5 &&& (3 : Int32)) + (2 : Int32)) then (nar .char (own_f1 ((own_v0_1 x0).toInt64) (10 : Int64))) else (own_G0_2 x0 x5) k
def own_G0_4 (x0 : Int32) (x5 : Int32) : Int32 → Int32 := fun k => if k = ((x5 &&& (3 : Int32)) + (3 : Int32)) then (nar .char (own_f1 ((own_v0_1 x0).toInt64) (1 : Int64))) else (own_G0_3 x0 x5) k
def own_G0_5 (x0 : Int32) (x5 : Int32) : Int32 → Int32 := fun k => if k = ((x5 &&& (3 : Int32)) + (4 : Int32)) then (nar .char (45 : Int32)) else (own_G0_4 x0 x5) k
def own_G0_6 (x0 : Int32) (x1 : Int32) (x5 : Int32) : Int32 → Int32 := fun k => if k = ((x5 &&& (3 : Int32)) + (5 : Int32)) then (nar .char (own_f1 ((own_v0_2 x1).toInt64) (10 : Int64))) else (own_G0_5 x0 x5) k
def own_G0_7 (x0 : Int32) (x1 : Int32) (x5 : Int32) : Int32 → Int32 := fun k => if k = ((x5 &&& (3 : Int32)) + (6 : Int32)) then (nar .char (own_f1 ((own_v0_2 x1).toInt64) (1 : Int64))) else (own_G0_6 x0 x1 x5) k
def own_G0_8 (x0 : Int32) (x1 : Int32) (x5 : Int32) : Int32 → Int32 := fun k => if k = ((x5 &&& (3 : Int32)) + (7 : Int32)) then (nar .char (45 : Int32)) else (own_G0_7 x0 x1 x5) k
def own_G0_9 (x0 : Int32) (x1 : Int32) (x5 : Int32) : Int32 → Int32 := fun k => if k = ((x5 &&& (3 : Int32)) + (8 : Int32)) then (nar .char (own_f1 ((own_v0_3 x1).toInt64) (10 : Int64))) else (own_G0_8 x0 x1 x5) k
def own_G0_10 (x0 : Int32) (x1 : Int32) (x5 : Int32) : Int32 → Int32 := fun k => if k = ((x5 &&& (3 : Int32)) + (9 : Int32)) then (nar .char (own_f1 ((own_v0_3 x1).toInt64) (1 : Int64))) else (own_G0_9 x0 x1 x5) k
def own_G0_11 (x0 : Int32) (x1 : Int32) (x5 : Int32) : Int32 → Int32 := fun k => if k = ((x5 &&& (3 : Int32)) + (10 : Int32)) then (nar .char (84 : Int32)) else (own_G0_10 x0 x1 x5) k
def own_G0_12 (x0 : Int32) (x1 : Int32) (x2 : Int32) (x5 : Int32) : Int32 → Int32 := fun k => if k = ((x5 &&& (3 : Int32)) + (11 : Int32)) then (nar .char (own_f1 ((own_v0_4 x2).toInt64) (10 : Int64))) else (own_G0_11 x0 x1 x5) k
def own_G0_13 (x0 : Int32) (x1 : Int32) (x2 : Int32) (x5 : Int32) : Int32 → Int32 := fun k => if k = ((x5 &&& (3 : Int32)) + (12 : Int32)) then (nar .char (own_f1 ((own_v0_4 x2).toInt64) (1 : Int64))) else (own_G0_12 x0 x1 x2 x5) k
def own_G0_14 (x0 : Int32) (x1 : Int32) (x2 : Int32) (x5 : Int32) : Int32 → Int32 := fun k => if k = ((x5 &&& (3 : Int32)) + (13 : Int32)) then (nar .char (58 : Int32)) else (own_G0_13 x0 x1 x2 x5) k
def own_G0_15 (x0 : Int32) (x1 : Int32) (x2 : Int32) (x5 : Int32) : Int32 → Int32 := fun k => if k = ((x5 &&& (3 : Int32)) + (14 : Int32)) then (nar .char (own_f1 ((own_v0_5 x2).toInt64) (10 : Int64))) else (own_G0_14 x0 x1 x2 x5) k
def own_G0_16 (x0 : Int32) (x1 : Int32) (x2 : Int32) (x5 : Int32) : Int32 → Int32 := fun k => if k = ((x5 &&& (3 : Int32)) + (15 : Int32)) then (nar .char (own_f1 ((own_v0_5 x2).toInt64) (1 : Int64))) else (own_G0_15 x0 x1 x2 x5) k
def own_G0_17 (x0 : Int32) (x1 : Int32) (x2 : Int32) (x5 : Int32) : Int32 → Int32 := fun k => if k = ((x5 &&& (3 : Int32)) + (16 : Int32)) then (nar .char (58 : Int32)) else (own_G0_16 x0 x1 x2 x5) k
def own_G0_18 (x0 : Int32) (x1 : Int32) (x2 : Int32) (y3 : Int64) (x5 : Int32) : Int32 → Int32 := fun k => if k = ((x5 &&& (3 : Int32)) + (17 : Int32)) then (nar .char (own_f1 ((own_v0_6 y3).toInt64) (10 : Int64))) else (own_G0_17 x0 x1 x2 x5) k
def own_G0_19 (x0 : Int32) (x1 : Int32) (x2 : Int32) (y3 : Int64) (x5 : Int32) : Int32 → Int32 := fun k => if k = ((x5 &&& (3 : Int32)) + (18 : Int32)) then (nar .char (own_f1 ((own_v0_6 y3).toInt64) (1 : Int64))) else (own_G0_18 x0 x1 x2 y3 x5) k
def own_G0_20 (x0 : Int32) (x1 : Int32) (x2 : Int32) (y3 : Int64) (x5 : Int32) : Int32 → Int32 := fun k => if k = ((x5 &&& (3 : Int32)) + (19 : Int32)) then (nar .char (46 : Int32)) else (own_G0_19 x0 x1 x2 y3 x5) k
def own_G0_21 (x0 : Int32) (x1 : Int32) (x2 : Int32) (y3 : Int64) (x5 : Int32) : Int32 → Int32 := fun k => if k = ((x5 &&& (3 : Int32)) + (20 : Int32)) then (nar .char (own_f1 (own_v0_7 y3) (100000 : Int64))) else (own_G0_20 x0 x1 x2 y3 x5) k
def own_G0_22 (x0 : Int32) (x1 : Int32) (x2 : Int32) (y3 : Int64) (x5 : Int32) : Int32 → Int32 := fun k => if k = ((x5 &&& (3 : Int32)) + (21 : Int32)) then (nar .char (own_f1 (own_v0_7 y3) (10000 : Int64))) else (own_G0_21 x0 x1 x2 y3 x5) k
def own_G0_23 (x0 : Int32) (x1 : Int32) (x2 : Int32) (y3 : Int64) (x5 : Int32) : Int32 → Int32 := fun k => if k = ((x5 &&& (3 : Int32)) + (22 : Int32)) then (nar .char (own_f1 (own_v0_7 y3) (1000 : Int64))) else (own_G0_22 x0 x1 x2 y3 x5) k
def own_G0_24 (x0 : Int32) (x1 : Int32) (x2 : Int32) (y3 : Int64) (x5 : Int32) : Int32 → Int32 := fun k => if k = ((x5 &&& (3 : Int32)) + (23 : Int32)) then (nar .char (own_f1 (own_v0_7 y3) (100 : Int64))) else (own_G0_23 x0 x1 x2 y3 x5) k
def own_G0_25 (x0 : Int32) (x1 : Int32) (x2 : Int32) (y3 : Int64) (x5 : Int32) : Int32 → Int32 := fun k => if k = ((x5 &&& (3 : Int32)) + (24 : Int32)) then (nar .char (own_f1 (own_v0_7 y3) (10 : Int64))) else (own_G0_24 x0 x1 x2 y3 x5) k
def own_G0_26 (x0 : Int32) (x1 : Int32) (x2 : Int32) (y3 : Int64) (x5 : Int32) : Int32 → Int32 := fun k => if k = ((x5 &&& (3 : Int32)) + (25 : Int32)) then (nar .char (own_f1 (own_v0_7 y3) (1 : Int64))) else (own_G0_25 x0 x1 x2 y3 x5) k
def own_G0_27 (x0 : Int32) (x1 : Int32) (x2 : Int32) (y3 : Int64) (x5 : Int32) : Int32 → Int32 := fun k => if k = ((x5 &&& (3 : Int32)) + (26 : Int32)) then (nar .char (90 : Int32)) else (own_G0_26 x0 x1 x2 y3 x5) k
def own_j0_2 (x4 : Int32) : Int32 := (if (own_v0_8 x4) < (48 : Int32) then (0 : Int32) else (if (57 : Int32) < (own_v0_8 x4) then (0 : Int32) else (1 : Int32)))
def own_j0_3 (x4 : Int32) : Int32 := (if (own_f2 (x4 &&& (63 : Int32))) = (0 : Int32) then (0 : Int32) else (if (own_v0_8 x4) = (own_f2 (x4 &&& (63 : Int32))) then (1 : Int32) else (0 : Int32)))
def own_j0_4 (x4 : Int32) : Int32 := (if (own_f2 (x4 &&& (63 : Int32))) = (0 : Int32) then (0 : Int32) else (if (own_v0_8 x4) = (own_f2 (x4 &&& (63 : Int32))) then (1 : Int32) else (0 : Int32)))
def own_j0_5 (x4 : Int32) : Int32 := (if (own_f2 (x4 &&& (63 : Int32))) = (0 : Int32) then (if (own_j0_2 x4) = (0 : Int32) then (1 : Int32) else (0 : Int32)) else (1 : Int32))
def own_j0_6 (x4 : Int32) : Int32 := (if (own_f2 (x4 &&& (63 : Int32))) = (0 : Int32) then (if (own_j0_2 x4) = (0 : Int32) then (own_j0_3 x4) else (1 : Int32)) else (own_j0_4 x4))
def own_j0_7 (x0 : Int32) (x1 : Int32) (x2 : Int32) (y3 : Int64) (x4 : Int32) (x5 : Int32) : Int32 := (if (own_j0_1 x5) = (27 : Int32) then (if (own_j0_6 x4) = (0 : Int32) then (0 : Int32) else (if (own_v0_2 x1) < (1 : Int32) then (0 : Int32) else (if (12 : Int32) < (own_v0_2 x1) then (0 : Int32) else (if (own_v0_3 x1) < (1 : Int32) then (0 : Int32) else (if (own_f5 (own_v0_2 x1) (own_v0_1 x0)) < (own_v0_3 x1) then (0 : Int32) else (if (23 : Int32) < (own_v0_4 x2) then (0 : Int32) else (if (59 : Int32) < (own_v0_5 x2) then (0 : Int32) else (if (59 : Int32) < (own_v0_6 y3) then (0 : Int32) else (1 : Int32))))))))) else (0 : Int32))
def own_v0_11 (x0 : Int32) (x1 : Int32) (x2 : Int32) (y3 : Int64) (x5 : Int32) : Int32 := (own_rt (x5 &&& (3 : Int32)) (own_v0_10 x5) (own_G0_27 x0 x1 x2 y3 x5))
def own_j0_8 (x0 : Int32) (x1 : Int32) (x2 : Int32) (y3 : Int64) (x4 : Int32) (x5 : Int32) : Int32 := (if (own_v0_11 x0 x1 x2 y3 x5) = (own_j0_7 x0 x1 x2 y3 x4 x5) then (1 : Int32) else (0 : Int32))
def own_G0_28 (x0 : Int32) (x1 : Int32) (x2 : Int32) (y3 : Int64) (x4 : Int32) (x5 : Int32) : Int32 → Int32 := fun k => if k = ((x5 &&& (3 : Int32)) + (x4 &&& (63 : Int32))) then (nar .char (own_v0_8 x4)) else (own_G0_27 x0 x1 x2 y3 x5) k
def own_j0_9 (x0 : Int32) (x1 : Int32) (x2 : Int32) (y3 : Int64) (x4 : Int32) (x5 : Int32) : Int32 := (if (own_j0_1 x5) = (27 : Int32) then (if (own_j0_6 x4) = (0 : Int32) then (0 : Int32) else (if (own_v0_2 x1) < (1 : Int32) then (0 : Int32) else (if (12 : Int32) < (own_v0_2 x1) then (0 : Int32) else (if (own_v0_3 x1) < (1 : Int32) then (0 : Int32) else (if (own_f5 (own_v0_2 x1) (own_v0_1 x0)) < (own_v0_3 x1) then (0 : Int32) else (if (23 : Int32) < (own_v0_4 x2) then (0 : Int32) else (if (59 : Int32) < (own_v0_5 x2) then (0 : Int32) else (if (59 : Int32) < (own_v0_6 y3) then (0 : Int32) else (1 : Int32))))))))) else (0 : Int32))
def own_v0_12 (x0 : Int32) (x1 : Int32) (x2 : Int32) (y3 : Int64) (x4 : Int32) (x5 : Int32) : Int32 := (own_rt (x5 &&& (3 : Int32)) (own_v0_10 x5) (own_G0_28 x0 x1 x2 y3 x4 x5))
def own_j0_10 (x0 : Int32) (x1 : Int32) (x2 : Int32) (y3 : Int64) (x4 : Int32) (x5 : Int32) : Int32 := (if (own_v0_12 x0 x1 x2 y3 x4 x5) = (own_j0_9 x0 x1 x2 y3 x4 x5) then (1 : Int32) else (0 : Int32))
def own_j0_11 (x0 : Int32) (x1 : Int32) (x2 : Int32) (y3 : Int64) (x5 : Int32) : Int32 := (if (own_j0_1 x5) = (27 : Int32) then (if (own_v0_2 x1) < (1 : Int32) then (0 : Int32) else (if (12 : Int32) < (own_v0_2 x1) then (0 : Int32) else (if (own_v0_3 x1) < (1 : Int32) then (0 : Int32) else (if (own_f5 (own_v0_2 x1) (own_v0_1 x0)) < (own_v0_3 x1) then (0 : Int32) else (if (23 : Int32) < (own_v0_4 x2) then (0 : Int32) else (if (59 : Int32) < (own_v0_5 x2) then (0 : Int32) else (if (59 : Int32) < (own_v0_6 y3) then (0 : Int32) else (1 : Int32)))))))) else (0 : Int32))
def own_j0_12 (x0 : Int32) (x1 : Int32) (x2 : Int32) (y3 : Int64) (x5 : Int32) : Int32 := (if (own_v0_11 x0 x1 x2 y3 x5) = (own_j0_11 x0 x1 x2 y3 x5) then (1 : Int32) else (0 : Int32))
def own_f0 (x0 : Int32) (x1 : Int32) (x2 : Int32) (y3 : Int64) (x4 : Int32) (x5 : Int32) : Int32 := (if (x4 &&& (63 : Int32)) < (27 : Int32) then (if (own_j0_5 x4) = (0 : Int32) then ((own_j0_8 x0 x1 x2 y3 x4 x5) &&& 1) else ((own_j0_10 x0 x1 x2 y3 x4 x5) &&& 1)) else ((own_j0_12 x0 x1 x2 y3 x5) &&& 1))
def own_Q0 (x0 : Int32) (x1 : Int32) (x2 : Int32) (y3 : Int64) (x4 : Int32) (x5 : Int32) (s_F : Addr) (h0 : Heap) (n0 : Nat) (v : Option Value) (h : Heap) (L : List Loc) : Prop := v = some (.int (own_f0 x0 x1 x2 y3 x4 x5)) ∧ Fr n0 L ∧ True
theorem own_ef0 (m : MethodId) (z0 : Int32) (z1 : Int32) (z2 : Int32) (z3 : Int64) (z4 : Int32) (z5 : Int32) : entryFrame m #[(.int z0), (.int z1), (.int z2), (.long z3), (.int z4), (.int z5)] maxLocals = mkF m 0 #[.val (.int z0), .val (.int z1), .val (.int z2), .val (.long z3), .second, .val (.int z4), .val (.int z5), .unset, .unset, .unset, .unset, .unset, .unset, .unset, .unset, .unset, .unset, .unset, .unset, .unset, .unset, .unset, .unset, .unset, .unset, .unset, .unset] [] := by first | (simp [entryFrame, mkF, argsToLocals, Value.category, maxLocals]; done) | rfl
set_option maxRecDepth 65536 in
set_option maxHeartbeats 40000000 in
theorem rm0 (l : Launch) (Z : State) (a0 : Array Value) (hw : ∀ d ∈ tables_1, d.before a0 Z = true) (ws : List Jvm.Cond) (x0 : Int32) (x1 : Int32) (x2 : Int32) (y3 : Int64) (x4 : Int32) (x5 : Int32) (cl_F : Cell) (s_F : Addr) (h0 : Heap) (n0 : Nat) (Z0 : n0 ≤ h0.size) (O0 : Old Z n0 h0) (A_F : Arr Z Z.heap s_F cl_F .char) (z_F : cl_F.slots.size = (27 : Int32).toNatClampNeg) (t_F : ∀ j : Int32, ¬ j < 0 → j < 27 → cl_F.slots[j.toNatClampNeg]? = some (.int (own_tab j))) (S_s_F : Sta Z Z.heap "com/example/kleio/kleio/RecordTime" "FORM" "[C" (.ref s_F)) : own_Met l Z x code maxLocals ret ws room_1 #[(.int x0), (.int x1), (.int x2), (.long y3), (.int x4), (.int x5)] h0 (own_Q0 x0 x1 x2 y3 x4 x5 s_F h0 n0) := by
  refine own_met (plainFor_of_name own_pn0) ?_
  intro p e s m below meth c s₁ hx hby hml hown hnm hret hlk hZ e0 X0
  have N0 := Fr.nil n0
  have hml : c.maxLocals = 27 := hml
  have hown : s.vm.findClass "com/example/kleio/kleio/RecordTimeIsRecordTimePinLaw" = some m.cls := hown
  have hret : meth.sig.returnType = (some .boolean) := hret
  have hby : c.code = code := hby
  have hnm : meth.name = "law" := hnm
  rw [own_ef0]
  show own_Goes p e below _ (s₁.setTop (mkF m 0 #[.val (.int x0), .val (.int x1), .val (.int x2), .val (.long y3), .second, .val (.int x4), .val (.int x5), .unset, .unset, .unset, .unset, .unset, .unset, .unset, .unset, .unset, .unset, .unset, .unset, .unset, .unset, .unset, .unset, .unset, .unset, .unset, .unset] []))
  refine own_go (fun t k => XS.iloadN X0.here hx rfl (hb hby at_0) rfl k) ?_
  show own_Goes p e below _ (s₁.setTop (mkF m 1 #[.val (.int x0), .val (.int x1), .val (.int x2), .val (.long y3), .second, .val (.int x4), .val (.int x5), .unset, .unset, .unset, .unset, .unset, .unset, .unset, .unset, .unset, .unset, .unset, .unset, .unset, .unset, .unset, .unset, .unset, .unset, .unset, .unset] [(.int x0)]))
  refine own_go (fun t k => X0.ldcInt hx hown (mvT hZ (hw _ own_t0)) (g := (mkF m 1 #[.val (.int x0), .val (.int x1), .val (.int x2), .val (.long y3), .second, .val (.int x4), .val (.int x5), .unset, .unset, .unset, .unset, .unset, .unset, .unset, .unset, .unset, .unset, .unset, .unset, .unset, .unset, .unset, .unset, .unset, .unset, .unset, .unset] [(.int x0)])) rfl (hb hby at_1) t k) ?_
  show own_Goes p e below _ (s₁.setTop (mkF m 3 #[.val (.int x0), .val (.int x1), .val (.int x2), .val (.long y3), .second, .val (.int x4), .val (.int x5), .unset, .unset, .unset, .unset, .unset, .unset, .unset, .unset, .unset, .unset, .unset, .unset, .unset, .unset, .unset, .unset, .unset, .unset, .unset, .unset] [(.int (2147483647 : Int32)), (.int x0)]))
  refine own_go (fun t k => XS.iand X0.here hx rfl (hb hby at_3) rfl k) ?_
  show own_Goes p e below _ (s₁.setTop (mkF m 4 #[.val (.int x0), .val (.int x1), .val (.int x2), .val (.long y3), .second, .val (.int x4), .val (.int x5), .unset, .unset, .unset, .unset, .unset, .unset, .unset, .unset, .unset, .unset, .unset, .unset, .unset, .unset, .unset, .unset, .unset, .unset, .unset, .unset] [(.int (x0 &&& (2147483647 : Int32)))]))
  refine own_go (fun t k => XS.sipush X0.here hx rfl (hb hby at_4) k) ?_
  show own_Goes p e below _ (s₁.setTop (mkF m 7 #[.val (.int x0), .val (.int x1), .val (.int x2), .val (.long y3), .second, .val (.int x4), .val (.int x5), .unset, .unset, .unset, .unset, .unset, .unset, .unset, .unset, .unset, .unset, .unset, .unset, .unset, .unset, .unset, .unset, .unset, .unset, .unset, .unset] [(.int (10000 : Int32)), (.int (x0 &&& (2147483647 : Int32)))]))
  refine own_go (fun t k => iremM X0 hx rfl (hb hby at_7) rfl (by decide) k) ?_
  show own_Goes p e below _ (s₁.setTop (mkF m 8 #[.val (.int x0), .val (.int x1), .val (.int x2), .val (.long y3), .second, .val (.int x4), .val (.int x5), .unset, .unset, .unset, .unset, .unset, .unset, .unset, .unset, .unset, .unset, .unset, .unset, .unset, .unset, .unset, .unset, .unset, .unset, .unset, .unset] [(.int ((x0 &&& (2147483647 : Int32)) % (10000 : Int32)))]))
  refine own_go (fun t k => XS.istore X0.here hx rfl (hb hby at_8) rfl (l' := #[.val (.int x0), .val (.int x1), .val (.int x2), .val (.long y3), .second, .val (.int x4), .val (.int x5), .val (.int (own_v0_1 x0)), .unset, .unset, .unset, .unset, .unset, .unset, .unset, .unset, .unset, .unset, .unset, .unset, .unset, .unset, .unset, .unset, .unset, .unset, .unset]) rfl k) ?_
  show own_Goes p e below _ (s₁.setTop (mkF m 10 #[.val (.int x0), .val (.int x1), .val (.int x2), .val (.long y3), .second, .val (.int x4), .val (.int x5), .val (.int (own_v0_1 x0)), .unset, .unset, .unset, .unset, .unset, .unset, .unset, .unset, .unset, .unset, .unset, .unset, .unset, .unset, .unset, .unset, .unset, .unset, .unset] []))
  refine own_go (fun t k => XS.iloadN X0.here hx rfl (hb hby at_10) rfl k) ?_
  show own_Goes p e below _ (s₁.setTop (mkF m 11 #[.val (.int x0), .val (.int x1), .val (.int x2), .val (.long y3), .second, .val (.int x4), .val (.int x5), .val (.int (own_v0_1 x0)), .unset, .unset, .unset, .unset, .unset, .unset, .unset, .unset, .unset, .unset, .unset, .unset, .unset, .unset, .unset, .unset, .unset, .unset, .unset] [(.int x1)]))
  refine own_go (fun t k => X0.ldcInt hx hown (mvT hZ (hw _ own_t1)) (g := (mkF m 11 #[.val (.int x0), .val (.int x1), .val (.int x2), .val (.long y3), .second, .val (.int x4), .val (.int x5), .val (.int (own_v0_1 x0)), .unset, .unset, .unset, .unset, .unset, .unset, .unset, .unset, .unset, .unset, .unset, .unset, .unset, .unset, .unset, .unset, .unset, .unset, .unset] [(.int x1)])) rfl (hb hby at_11) t k) ?_
  show own_Goes p e below _ (s₁.setTop (mkF m 13 #[.val (.int x0), .val (.int x1), .val (.int x2), .val (.long y3), .second, .val (.int x4), .val (.int x5), .val (.int (own_v0_1 x0)), .unset, .unset, .unset, .unset, .unset, .unset, .unset, .unset, .unset, .unset, .unset, .unset, .unset, .unset, .unset, .unset, .unset, .unset, .unset] [(.int (65535 : Int32)), (.int x1)]))
  refine own_go (fun t k => XS.iand X0.here hx rfl (hb hby at_13) rfl k) ?_
  show own_Goes p e below _ (s₁.setTop (mkF m 14 #[.val (.int x0), .val (.int x1), .val (.int x2), .val (.long y3), .second, .val (.int x4), .val (.int x5), .val (.int (own_v0_1 x0)), .unset, .unset, .unset, .unset, .unset, .unset, .unset, .unset, .unset, .unset, .unset, .unset, .unset, .unset, .unset, .unset, .unset, .unset, .unset] [(.int (x1 &&& (65535 : Int32)))]))
  refine own_go (fun t k => XS.bipush X0.here hx rfl (hb hby at_14) k) ?_
  show own_Goes p e below _ (s₁.setTop (mkF m 16 #[.val (.int x0), .val (.int x1), .val (.int x2), .val (.long y3), .second, .val (.int x4), .val (.int x5), .val (.int (own_v0_1 x0)), .unset, .unset, .unset, .unset, .unset, .unset, .unset, .unset, .unset, .unset, .unset, .unset, .unset, .unset, .unset, .unset, .unset, .unset, .unset] [(.int (100 : Int32)), (.int (x1 &&& (65535 : Int32)))]))
  refine own_go (fun t k => iremM X0 hx rfl (hb hby at_16) rfl (by decide) k) ?_
  show own_Goes p e below _ (s₁.setTop (mkF m 17 #[.val (.int x0), .val (.int x1), .val (.int x2), .val (.long y3), .second, .val (.int x4), .val (.int x5), .val (.int (own_v0_1 x0)), .unset, .unset, .unset, .unset, .unset, .unset, .unset, .unset, .unset, .unset, .unset, .unset, .unset, .unset, .unset, .unset, .unset, .unset, .unset] [(.int ((x1 &&& (65535 : Int32)) % (100 : Int32)))]))
  refine own_go (fun t k => XS.istore X0.here hx rfl (hb hby at_17) rfl (l' := #[.val (.int x0), .val (.int x1), .val (.int x2), .val (.long y3), .second, .val (.int x4), .val (.int x5), .val (.int (own_v0_1 x0)), .val (.int (own_v0_2 x1)), .unset, .unset, .unset, .unset, .unset, .unset, .unset, .unset, .unset, .unset, .unset, .unset, .unset, .unset, .unset, .unset, .unset, .unset]) rfl k) ?_
  show own_Goes p e below _ (s₁.setTop (mkF m 19 #[.val (.int x0), .val (.int x1), .val (.int x2), .val (.long y3), .second, .val (.int x4), .val (.int x5), .val (.int (own_v0_1 x0)), .val (.int (own_v0_2 x1)), .unset, .unset, .unset, .unset, .unset, .unset, .unset, .unset, .unset, .unset, .unset, .unset, .unset, .unset, .unset, .unset, .unset, .unset] []))
  refine own_go (fun t k => XS.iloadN X0.here hx rfl (hb hby at_19) rfl k) ?_
  show own_Goes p e below _ (s₁.setTop (mkF m 20 #[.val (.int x0), .val (.int x1), .val (.int x2), .val (.long y3), .second, .val (.int x4), .val (.int x5), .val (.int (own_v0_1 x0)), .val (.int (own_v0_2 x1)), .unset, .unset, .unset, .unset, .unset, .unset, .unset, .unset, .unset, .unset, .unset, .unset, .unset, .unset, .unset, .unset, .unset, .unset] [(.int x1)]))
  refine own_go (fun t k => XS.bipush X0.here hx rfl (hb hby at_20) k) ?_
  show own_Goes p e below _ (s₁.setTop (mkF m 22 #[.val (.int x0), .val (.int x1), .val (.int x2), .val (.long y3), .second, .val (.int x4), .val (.int x5), .val (.int (own_v0_1 x0)), .val (.int (own_v0_2 x1)), .unset, .unset, .unset, .unset, .unset, .unset, .unset, .unset, .unset, .unset, .unset, .unset, .unset, .unset, .unset, .unset, .unset, .unset] [(.int (16 : Int32)), (.int x1)]))
  refine own_go (fun t k => XS.iushr X0.here hx rfl (hb hby at_22) rfl k) ?_
  show own_Goes p e below _ (s₁.setTop (mkF m 23 #[.val (.int x0), .val (.int x1), .val (.int x2), .val (.long y3), .second, .val (.int x4), .val (.int x5), .val (.int (own_v0_1 x0)), .val (.int (own_v0_2 x1)), .unset, .unset, .unset, .unset, .unset, .unset, .unset, .unset, .unset, .unset, .unset, .unset, .unset, .unset, .unset, .unset, .unset, .unset] [(.int ((x1.toUInt32 >>> ((16 : Int32) &&& 31).toUInt32).toInt32))]))
  refine own_go (fun t k => XS.bipush X0.here hx rfl (hb hby at_23) k) ?_
  show own_Goes p e below _ (s₁.setTop (mkF m 25 #[.val (.int x0), .val (.int x1), .val (.int x2), .val (.long y3), .second, .val (.int x4), .val (.int x5), .val (.int (own_v0_1 x0)), .val (.int (own_v0_2 x1)), .unset, .unset, .unset, .unset, .unset, .unset, .unset, .unset, .unset, .unset, .unset, .unset, .unset, .unset, .unset, .unset, .unset, .unset] [(.int (100 : Int32)), (.int ((x1.toUInt32 >>> ((16 : Int32) &&& 31).toUInt32).toInt32))]))
  refine own_go (fun t k => iremM X0 hx rfl (hb hby at_25) rfl (by decide) k) ?_
  show own_Goes p e below _ (s₁.setTop (mkF m 26 #[.val (.int x0), .val (.int x1), .val (.int x2), .val (.long y3), .second, .val (.int x4), .val (.int x5), .val (.int (own_v0_1 x0)), .val (.int (own_v0_2 x1)), .unset, .unset, .unset, .unset, .unset, .unset, .unset, .unset, .unset, .unset, .unset, .unset, .unset, .unset, .unset, .unset, .unset, .unset] [(.int (((x1.toUInt32 >>> ((16 : Int32) &&& 31).toUInt32).toInt32) % (100 : Int32)))]))
  refine own_go (fun t k => XS.istore X0.here hx rfl (hb hby at_26) rfl (l' := #[.val (.int x0), .val (.int x1), .val (.int x2), .val (.long y3), .second, .val (.int x4), .val (.int x5), .val (.int (own_v0_1 x0)), .val (.int (own_v0_2 x1)), .val (.int (own_v0_3 x1)), .unset, .unset, .unset, .unset, .unset, .unset, .unset, .unset, .unset, .unset, .unset, .unset, .unset, .unset, .unset, .unset, .unset]) rfl k) ?_
  show own_Goes p e below _ (s₁.setTop (mkF m 28 #[.val (.int x0), .val (.int x1), .val (.int x2), .val (.long y3), .second, .val (.int x4), .val (.int x5), .val (.int (own_v0_1 x0)), .val (.int (own_v0_2 x1)), .val (.int (own_v0_3 x1)), .unset, .unset, .unset, .unset, .unset, .unset, .unset, .unset, .unset, .unset, .unset, .unset, .unset, .unset, .unset, .unset, .unset] []))
  refine own_go (fun t k => XS.iloadN X0.here hx rfl (hb hby at_28) rfl k) ?_
  show own_Goes p e below _ (s₁.setTop (mkF m 29 #[.val (.int x0), .val (.int x1), .val (.int x2), .val (.long y3), .second, .val (.int x4), .val (.int x5), .val (.int (own_v0_1 x0)), .val (.int (own_v0_2 x1)), .val (.int (own_v0_3 x1)), .unset, .unset, .unset, .unset, .unset, .unset, .unset, .unset, .unset, .unset, .unset, .unset, .unset, .unset, .unset, .unset, .unset] [(.int x2)]))
  refine own_go (fun t k => X0.ldcInt hx hown (mvT hZ (hw _ own_t1)) (g := (mkF m 29 #[.val (.int x0), .val (.int x1), .val (.int x2), .val (.long y3), .second, .val (.int x4), .val (.int x5), .val (.int (own_v0_1 x0)), .val (.int (own_v0_2 x1)), .val (.int (own_v0_3 x1)), .unset, .unset, .unset, .unset, .unset, .unset, .unset, .unset, .unset, .unset, .unset, .unset, .unset, .unset, .unset, .unset, .unset] [(.int x2)])) rfl (hb hby at_29) t k) ?_
  show own_Goes p e below _ (s₁.setTop (mkF m 31 #[.val (.int x0), .val (.int x1), .val (.int x2), .val (.long y3), .second, .val (.int x4), .val (.int x5), .val (.int (own_v0_1 x0)), .val (.int (own_v0_2 x1)), .val (.int (own_v0_3 x1)), .unset, .unset, .unset, .unset, .unset, .unset, .unset, .unset, .unset, .unset, .unset, .unset, .unset, .unset, .unset, .unset, .unset] [(.int (65535 : Int32)), (.int x2)]))
  refine own_go (fun t k => XS.iand X0.here hx rfl (hb hby at_31) rfl k) ?_
  show own_Goes p e below _ (s₁.setTop (mkF m 32 #[.val (.int x0), .val (.int x1), .val (.int x2), .val (.long y3), .second, .val (.int x4), .val (.int x5), .val (.int (own_v0_1 x0)), .val (.int (own_v0_2 x1)), .val (.int (own_v0_3 x1)), .unset, .unset, .unset, .unset, .unset, .unset, .unset, .unset, .unset, .unset, .unset, .unset, .unset, .unset, .unset, .unset, .unset] [(.int (x2 &&& (65535 : Int32)))]))
  refine own_go (fun t k => XS.bipush X0.here hx rfl (hb hby at_32) k) ?_
  show own_Goes p e below _ (s₁.setTop (mkF m 34 #[.val (.int x0), .val (.int x1), .val (.int x2), .val (.long y3), .second, .val (.int x4), .val (.int x5), .val (.int (own_v0_1 x0)), .val (.int (own_v0_2 x1)), .val (.int (own_v0_3 x1)), .unset, .unset, .unset, .unset, .unset, .unset, .unset, .unset, .unset, .unset, .unset, .unset, .unset, .unset, .unset, .unset, .unset] [(.int (100 : Int32)), (.int (x2 &&& (65535 : Int32)))]))
  refine own_go (fun t k => iremM X0 hx rfl (hb hby at_34) rfl (by decide) k) ?_
  show own_Goes p e below _ (s₁.setTop (mkF m 35 #[.val (.int x0), .val (.int x1), .val (.int x2), .val (.long y3), .second, .val (.int x4), .val (.int x5), .val (.int (own_v0_1 x0)), .val (.int (own_v0_2 x1)), .val (.int (own_v0_3 x1)), .unset, .unset, .unset, .unset, .unset, .unset, .unset, .unset, .unset, .unset, .unset, .unset, .unset, .unset, .unset, .unset, .unset] [(.int ((x2 &&& (65535 : Int32)) % (100 : Int32)))]))
  refine own_go (fun t k => XS.istore X0.here hx rfl (hb hby at_35) rfl (l' := #[.val (.int x0), .val (.int x1), .val (.int x2), .val (.long y3), .second, .val (.int x4), .val (.int x5), .val (.int (own_v0_1 x0)), .val (.int (own_v0_2 x1)), .val (.int (own_v0_3 x1)), .val (.int (own_v0_4 x2)), .unset, .unset, .unset, .unset, .unset, .unset, .unset, .unset, .unset, .unset, .unset, .unset, .unset, .unset, .unset, .unset]) rfl k) ?_
  show own_Goes p e below _ (s₁.setTop (mkF m 37 #[.val (.int x0), .val (.int x1), .val (.int x2), .val (.long y3), .second, .val (.int x4), .val (.int x5), .val (.int (own_v0_1 x0)), .val (.int (own_v0_2 x1)), .val (.int (own_v0_3 x1)), .val (.int (own_v0_4 x2)), .unset, .unset, .unset, .unset, .unset, .unset, .unset, .unset, .unset, .unset, .unset, .unset, .unset, .unset, .unset, .unset] []))
  refine own_go (fun t k => XS.iloadN X0.here hx rfl (hb hby at_37) rfl k) ?_
  show own_Goes p e below _ (s₁.setTop (mkF m 38 #[.val (.int x0), .val (.int x1), .val (.int x2), .val (.long y3), .second, .val (.int x4), .val (.int x5), .val (.int (own_v0_1 x0)), .val (.int (own_v0_2 x1)), .val (.int (own_v0_3 x1)), .val (.int (own_v0_4 x2)), .unset, .unset, .unset, .unset, .unset, .unset, .unset, .unset, .unset, .unset, .unset, .unset, .unset, .unset, .unset, .unset] [(.int x2)]))
  refine own_go (fun t k => XS.bipush X0.here hx rfl (hb hby at_38) k) ?_
  show own_Goes p e below _ (s₁.setTop (mkF m 40 #[.val (.int x0), .val (.int x1), .val (.int x2), .val (.long y3), .second, .val (.int x4), .val (.int x5), .val (.int (own_v0_1 x0)), .val (.int (own_v0_2 x1)), .val (.int (own_v0_3 x1)), .val (.int (own_v0_4 x2)), .unset, .unset, .unset, .unset, .unset, .unset, .unset, .unset, .unset, .unset, .unset, .unset, .unset, .unset, .unset, .unset] [(.int (16 : Int32)), (.int x2)]))
  refine own_go (fun t k => XS.iushr X0.here hx rfl (hb hby at_40) rfl k) ?_
  show own_Goes p e below _ (s₁.setTop (mkF m 41 #[.val (.int x0), .val (.int x1), .val (.int x2), .val (.long y3), .second, .val (.int x4), .val (.int x5), .val (.int (own_v0_1 x0)), .val (.int (own_v0_2 x1)), .val (.int (own_v0_3 x1)), .val (.int (own_v0_4 x2)), .unset, .unset, .unset, .unset, .unset, .unset, .unset, .unset, .unset, .unset, .unset, .unset, .unset, .unset, .unset, .unset] [(.int ((x2.toUInt32 >>> ((16 : Int32) &&& 31).toUInt32).toInt32))]))
  refine own_go (fun t k => XS.bipush X0.here hx rfl (hb hby at_41) k) ?_
  show own_Goes p e below _ (s₁.setTop (mkF m 43 #[.val (.int x0), .val (.int x1), .val (.int x2), .val (.long y3), .second, .val (.int x4), .val (.int x5), .val (.int (own_v0_1 x0)), .val (.int (own_v0_2 x1)), .val (.int (own_v0_3 x1)), .val (.int (own_v0_4 x2)), .unset, .unset, .unset, .unset, .unset, .unset, .unset, .unset, .unset, .unset, .unset, .unset, .unset, .unset, .unset, .unset] [(.int (100 : Int32)), (.int ((x2.toUInt32 >>> ((16 : Int32) &&& 31).toUInt32).toInt32))]))
  refine own_go (fun t k => iremM X0 hx rfl (hb hby at_43) rfl (by decide) k) ?_
  show own_Goes p e below _ (s₁.setTop (mkF m 44 #[.val (.int x0), .val (.int x1), .val (.int x2), .val (.long y3), .second, .val (.int x4), .val (.int x5), .val (.int (own_v0_1 x0)), .val (.int (own_v0_2 x1)), .val (.int (own_v0_3 x1)), .val (.int (own_v0_4 x2)), .unset, .unset, .unset, .unset, .unset, .unset, .unset, .unset, .unset, .unset, .unset, .unset, .unset, .unset, .unset, .unset] [(.int (((x2.toUInt32 >>> ((16 : Int32) &&& 31).toUInt32).toInt32) % (100 : Int32)))]))
  refine own_go (fun t k => XS.istore X0.here hx rfl (hb hby at_44) rfl (l' := #[.val (.int x0), .val (.int x1), .val (.int x2), .val (.long y3), .second, .val (.int x4), .val (.int x5), .val (.int (own_v0_1 x0)), .val (.int (own_v0_2 x1)), .val (.int (own_v0_3 x1)), .val (.int (own_v0_4 x2)), .val (.int (own_v0_5 x2)), .unset, .unset, .unset, .unset, .unset, .unset, .unset, .unset, .unset, .unset, .unset, .unset, .unset, .unset, .unset]) rfl k) ?_
  show own_Goes p e below _ (s₁.setTop (mkF m 46 #[.val (.int x0), .val (.int x1), .val (.int x2), .val (.long y3), .second, .val (.int x4), .val (.int x5), .val (.int (own_v0_1 x0)), .val (.int (own_v0_2 x1)), .val (.int (own_v0_3 x1)), .val (.int (own_v0_4 x2)), .val (.int (own_v0_5 x2)), .unset, .unset, .unset, .unset, .unset, .unset, .unset, .unset, .unset, .unset, .unset, .unset, .unset, .unset, .unset] []))
  refine own_go (fun t k => XS.lloadN X0.here hx rfl (hb hby at_46) rfl k) ?_
  show own_Goes p e below _ (s₁.setTop (mkF m 47 #[.val (.int x0), .val (.int x1), .val (.int x2), .val (.long y3), .second, .val (.int x4), .val (.int x5), .val (.int (own_v0_1 x0)), .val (.int (own_v0_2 x1)), .val (.int (own_v0_3 x1)), .val (.int (own_v0_4 x2)), .val (.int (own_v0_5 x2)), .unset, .unset, .unset, .unset, .unset, .unset, .unset, .unset, .unset, .unset, .unset, .unset, .unset, .unset, .unset] [(.long y3)]))
  refine own_go (fun t k => X0.ldc2Long hx hown (mvT hZ (hw _ own_t2)) (g := (mkF m 47 #[.val (.int x0), .val (.int x1), .val (.int x2), .val (.long y3), .second, .val (.int x4), .val (.int x5), .val (.int (own_v0_1 x0)), .val (.int (own_v0_2 x1)), .val (.int (own_v0_3 x1)), .val (.int (own_v0_4 x2)), .val (.int (own_v0_5 x2)), .unset, .unset, .unset, .unset, .unset, .unset, .unset, .unset, .unset, .unset, .unset, .unset, .unset, .unset, .unset] [(.long y3)])) rfl (hb hby at_47) t k) ?_
  show own_Goes p e below _ (s₁.setTop (mkF m 50 #[.val (.int x0), .val (.int x1), .val (.int x2), .val (.long y3), .second, .val (.int x4), .val (.int x5), .val (.int (own_v0_1 x0)), .val (.int (own_v0_2 x1)), .val (.int (own_v0_3 x1)), .val (.int (own_v0_4 x2)), .val (.int (own_v0_5 x2)), .unset, .unset, .unset, .unset, .unset, .unset, .unset, .unset, .unset, .unset, .unset, .unset, .unset, .unset, .unset] [(.long (65535 : Int64)), (.long y3)]))
  refine own_go (fun t k => XS.land X0.here hx rfl (hb hby at_50) rfl k) ?_
  show own_Goes p e below _ (s₁.setTop (mkF m 51 #[.val (.int x0), .val (.int x1), .val (.int x2), .val (.long y3), .second, .val (.int x4), .val (.int x5), .val (.int (own_v0_1 x0)), .val (.int (own_v0_2 x1)), .val (.int (own_v0_3 x1)), .val (.int (own_v0_4 x2)), .val (.int (own_v0_5 x2)), .unset, .unset, .unset, .unset, .unset, .unset, .unset, .unset, .unset, .unset, .unset, .unset, .unset, .unset, .unset] [(.long (y3 &&& (65535 : Int64)))]))
  refine own_go (fun t k => X0.ldc2Long hx hown (mvT hZ (hw _ own_t3)) (g := (mkF m 51 #[.val (.int x0), .val (.int x1), .val (.int x2), .val (.long y3), .second, .val (.int x4), .val (.int x5), .val (.int (own_v0_1 x0)), .val (.int (own_v0_2 x1)), .val (.int (own_v0_3 x1)), .val (.int (own_v0_4 x2)), .val (.int (own_v0_5 x2)), .unset, .unset, .unset, .unset, .unset, .unset, .unset, .unset, .unset, .unset, .unset, .unset, .unset, .unset, .unset] [(.long (y3 &&& (65535 : Int64)))])) rfl (hb hby at_51) t k) ?_
  show own_Goes p e below _ (s₁.setTop (mkF m 54 #[.val (.int x0), .val (.int x1), .val (.int x2), .val (.long y3), .second, .val (.int x4), .val (.int x5), .val (.int (own_v0_1 x0)), .val (.int (own_v0_2 x1)), .val (.int (own_v0_3 x1)), .val (.int (own_v0_4 x2)), .val (.int (own_v0_5 x2)), .unset, .unset, .unset, .unset, .unset, .unset, .unset, .unset, .unset, .unset, .unset, .unset, .unset, .unset, .unset] [(.long (100 : Int64)), (.long (y3 &&& (65535 : Int64)))]))
  refine own_go (fun t k => XS.lrem X0.here hx rfl (hb hby at_54) rfl (by decide) k) ?_
  show own_Goes p e below _ (s₁.setTop (mkF m 55 #[.val (.int x0), .val (.int x1), .val (.int x2), .val (.long y3), .second, .val (.int x4), .val (.int x5), .val (.int (own_v0_1 x0)), .val (.int (own_v0_2 x1)), .val (.int (own_v0_3 x1)), .val (.int (own_v0_4 x2)), .val (.int (own_v0_5 x2)), .unset, .unset, .unset, .unset, .unset, .unset, .unset, .unset, .unset, .unset, .unset, .unset, .unset, .unset, .unset] [(.long ((y3 &&& (65535 : Int64)) - ((y3 &&& (65535 : Int64)) / (100 : Int64)) * (100 : Int64)))]))
  refine own_go (fun t k => XS.l2i X0.here hx rfl (hb hby at_55) rfl k) ?_
  show own_Goes p e below _ (s₁.setTop (mkF m 56 #[.val (.int x0), .val (.int x1), .val (.int x2), .val (.long y3), .second, .val (.int x4), .val (.int x5), .val (.int (own_v0_1 x0)), .val (.int (own_v0_2 x1)), .val (.int (own_v0_3 x1)), .val (.int (own_v0_4 x2)), .val (.int (own_v0_5 x2)), .unset, .unset, .unset, .unset, .unset, .unset, .unset, .unset, .unset, .unset, .unset, .unset, .unset, .unset, .unset] [(.int (((y3 &&& (65535 : Int64)) - ((y3 &&& (65535 : Int64)) / (100 : Int64)) * (100 : Int64)).toInt32))]))
  refine own_go (fun t k => XS.istore X0.here hx rfl (hb hby at_56) rfl (l' := #[.val (.int x0), .val (.int x1), .val (.int x2), .val (.long y3), .second, .val (.int x4), .val (.int x5), .val (.int (own_v0_1 x0)), .val (.int (own_v0_2 x1)), .val (.int (own_v0_3 x1)), .val (.int (own_v0_4 x2)), .val (.int (own_v0_5 x2)), .val (.int (own_v0_6 y3)), .unset, .unset, .unset, .unset, .unset, .unset, .unset, .unset, .unset, .unset, .unset, .unset, .unset, .unset]) rfl k) ?_
  show own_Goes p e below _ (s₁.setTop (mkF m 58 #[.val (.int x0), .val (.int x1), .val (.int x2), .val (.long y3), .second, .val (.int x4), .val (.int x5), .val (.int (own_v0_1 x0)), .val (.int (own_v0_2 x1)), .val (.int (own_v0_3 x1)), .val (.int (own_v0_4 x2)), .val (.int (own_v0_5 x2)), .val (.int (own_v0_6 y3)), .unset, .unset, .unset, .unset, .unset, .unset, .unset, .unset, .unset, .unset, .unset, .unset, .unset, .unset] []))
  refine own_go (fun t k => XS.lloadN X0.here hx rfl (hb hby at_58) rfl k) ?_
  show own_Goes p e below _ (s₁.setTop (mkF m 59 #[.val (.int x0), .val (.int x1), .val (.int x2), .val (.long y3), .second, .val (.int x4), .val (.int x5), .val (.int (own_v0_1 x0)), .val (.int (own_v0_2 x1)), .val (.int (own_v0_3 x1)), .val (.int (own_v0_4 x2)), .val (.int (own_v0_5 x2)), .val (.int (own_v0_6 y3)), .unset, .unset, .unset, .unset, .unset, .unset, .unset, .unset, .unset, .unset, .unset, .unset, .unset, .unset] [(.long y3)]))
  refine own_go (fun t k => XS.bipush X0.here hx rfl (hb hby at_59) k) ?_
  show own_Goes p e below _ (s₁.setTop (mkF m 61 #[.val (.int x0), .val (.int x1), .val (.int x2), .val (.long y3), .second, .val (.int x4), .val (.int x5), .val (.int (own_v0_1 x0)), .val (.int (own_v0_2 x1)), .val (.int (own_v0_3 x1)), .val (.int (own_v0_4 x2)), .val (.int (own_v0_5 x2)), .val (.int (own_v0_6 y3)), .unset, .unset, .unset, .unset, .unset, .unset, .unset, .unset, .unset, .unset, .unset, .unset, .unset, .unset] [(.int (16 : Int32)), (.long y3)]))
  refine own_go (fun t k => XS.lushr X0.here hx rfl (hb hby at_61) rfl k) ?_
  show own_Goes p e below _ (s₁.setTop (mkF m 62 #[.val (.int x0), .val (.int x1), .val (.int x2), .val (.long y3), .second, .val (.int x4), .val (.int x5), .val (.int (own_v0_1 x0)), .val (.int (own_v0_2 x1)), .val (.int (own_v0_3 x1)), .val (.int (own_v0_4 x2)), .val (.int (own_v0_5 x2)), .val (.int (own_v0_6 y3)), .unset, .unset, .unset, .unset, .unset, .unset, .unset, .unset, .unset, .unset, .unset, .unset, .unset, .unset] [(.long ((y3.toUInt64 >>> ((16 : Int32) &&& 0x3f).toInt64.toUInt64).toInt64))]))
  refine own_go (fun t k => X0.ldc2Long hx hown (mvT hZ (hw _ own_t4)) (g := (mkF m 62 #[.val (.int x0), .val (.int x1), .val (.int x2), .val (.long y3), .second, .val (.int x4), .val (.int x5), .val (.int (own_v0_1 x0)), .val (.int (own_v0_2 x1)), .val (.int (own_v0_3 x1)), .val (.int (own_v0_4 x2)), .val (.int (own_v0_5 x2)), .val (.int (own_v0_6 y3)), .unset, .unset, .unset, .unset, .unset, .unset, .unset, .unset, .unset, .unset, .unset, .unset, .unset, .unset] [(.long ((y3.toUInt64 >>> ((16 : Int32) &&& 0x3f).toInt64.toUInt64).toInt64))])) rfl (hb hby at_62) t k) ?_
  show own_Goes p e below _ (s₁.setTop (mkF m 65 #[.val (.int x0), .val (.int x1), .val (.int x2), .val (.long y3), .second, .val (.int x4), .val (.int x5), .val (.int (own_v0_1 x0)), .val (.int (own_v0_2 x1)), .val (.int (own_v0_3 x1)), .val (.int (own_v0_4 x2)), .val (.int (own_v0_5 x2)), .val (.int (own_v0_6 y3)), .unset, .unset, .unset, .unset, .unset, .unset, .unset, .unset, .unset, .unset, .unset, .unset, .unset, .unset] [(.long (1000000 : Int64)), (.long ((y3.toUInt64 >>> ((16 : Int32) &&& 0x3f).toInt64.toUInt64).toInt64))]))
  refine own_go (fun t k => XS.lrem X0.here hx rfl (hb hby at_65) rfl (by decide) k) ?_
  show own_Goes p e below _ (s₁.setTop (mkF m 66 #[.val (.int x0), .val (.int x1), .val (.int x2), .val (.long y3), .second, .val (.int x4), .val (.int x5), .val (.int (own_v0_1 x0)), .val (.int (own_v0_2 x1)), .val (.int (own_v0_3 x1)), .val (.int (own_v0_4 x2)), .val (.int (own_v0_5 x2)), .val (.int (own_v0_6 y3)), .unset, .unset, .unset, .unset, .unset, .unset, .unset, .unset, .unset, .unset, .unset, .unset, .unset, .unset] [(.long (((y3.toUInt64 >>> ((16 : Int32) &&& 0x3f).toInt64.toUInt64).toInt64) - (((y3.toUInt64 >>> ((16 : Int32) &&& 0x3f).toInt64.toUInt64).toInt64) / (1000000 : Int64)) * (1000000 : Int64)))]))
  refine own_go (fun t k => XS.lstore X0.here hx rfl (hb hby at_66) rfl (l' := #[.val (.int x0), .val (.int x1), .val (.int x2), .val (.long y3), .second, .val (.int x4), .val (.int x5), .val (.int (own_v0_1 x0)), .val (.int (own_v0_2 x1)), .val (.int (own_v0_3 x1)), .val (.int (own_v0_4 x2)), .val (.int (own_v0_5 x2)), .val (.int (own_v0_6 y3)), .val (.long (own_v0_7 y3)), .second, .unset, .unset, .unset, .unset, .unset, .unset, .unset, .unset, .unset, .unset, .unset, .unset]) rfl k) ?_
  show own_Goes p e below _ (s₁.setTop (mkF m 68 #[.val (.int x0), .val (.int x1), .val (.int x2), .val (.long y3), .second, .val (.int x4), .val (.int x5), .val (.int (own_v0_1 x0)), .val (.int (own_v0_2 x1)), .val (.int (own_v0_3 x1)), .val (.int (own_v0_4 x2)), .val (.int (own_v0_5 x2)), .val (.int (own_v0_6 y3)), .val (.long (own_v0_7 y3)), .second, .unset, .unset, .unset, .unset, .unset, .unset, .unset, .unset, .unset, .unset, .unset, .unset] []))
  refine own_go (fun t k => XS.iload X0.here hx rfl (hb hby at_68) rfl k) ?_
  show own_Goes p e below _ (s₁.setTop (mkF m 70 #[.val (.int x0), .val (.int x1), .val (.int x2), .val (.long y3), .second, .val (.int x4), .val (.int x5), .val (.int (own_v0_1 x0)), .val (.int (own_v0_2 x1)), .val (.int (own_v0_3 x1)), .val (.int (own_v0_4 x2)), .val (.int (own_v0_5 x2)), .val (.int (own_v0_6 y3)), .val (.long (own_v0_7 y3)), .second, .unset, .unset, .unset, .unset, .unset, .unset, .unset, .unset, .unset, .unset, .unset, .unset] [(.int x4)]))
  refine own_go (fun t k => XS.bipush X0.here hx rfl (hb hby at_70) k) ?_
  show own_Goes p e below _ (s₁.setTop (mkF m 72 #[.val (.int x0), .val (.int x1), .val (.int x2), .val (.long y3), .second, .val (.int x4), .val (.int x5), .val (.int (own_v0_1 x0)), .val (.int (own_v0_2 x1)), .val (.int (own_v0_3 x1)), .val (.int (own_v0_4 x2)), .val (.int (own_v0_5 x2)), .val (.int (own_v0_6 y3)), .val (.long (own_v0_7 y3)), .second, .unset, .unset, .unset, .unset, .unset, .unset, .unset, .unset, .unset, .unset, .unset, .unset] [(.int (63 : Int32)), (.int x4)]))
  refine own_go (fun t k => XS.iand X0.here hx rfl (hb hby at_72) rfl k) ?_
  show own_Goes p e below _ (s₁.setTop (mkF m 73 #[.val (.int x0), .val (.int x1), .val (.int x2), .val (.long y3), .second, .val (.int x4), .val (.int x5), .val (.int (own_v0_1 x0)), .val (.int (own_v0_2 x1)), .val (.int (own_v0_3 x1)), .val (.int (own_v0_4 x2)), .val (.int (own_v0_5 x2)), .val (.int (own_v0_6 y3)), .val (.long (own_v0_7 y3)), .second, .unset, .unset, .unset, .unset, .unset, .unset, .unset, .unset, .unset, .unset, .unset, .unset] [(.int (x4 &&& (63 : Int32)))]))
  refine own_go (fun t k => XS.istore X0.here hx rfl (hb hby at_73) rfl (l' := #[.val (.int x0), .val (.int x1), .val (.int x2), .val (.long y3), .second, .val (.int x4), .val (.int x5), .val (.int (own_v0_1 x0)), .val (.int (own_v0_2 x1)), .val (.int (own_v0_3 x1)), .val (.int (own_v0_4 x2)), .val (.int (own_v0_5 x2)), .val (.int (own_v0_6 y3)), .val (.long (own_v0_7 y3)), .second, .val (.int (x4 &&& (63 : Int32))), .unset, .unset, .unset, .unset, .unset, .unset, .unset, .unset, .unset, .unset, .unset]) rfl k) ?_
  show own_Goes p e below _ (s₁.setTop (mkF m 75 #[.val (.int x0), .val (.int x1), .val (.int x2), .val (.long y3), .second, .val (.int x4), .val (.int x5), .val (.int (own_v0_1 x0)), .val (.int (own_v0_2 x1)), .val (.int (own_v0_3 x1)), .val (.int (own_v0_4 x2)), .val (.int (own_v0_5 x2)), .val (.int (own_v0_6 y3)), .val (.long (own_v0_7 y3)), .second, .val (.int (x4 &&& (63 : Int32))), .unset, .unset, .unset, .unset, .unset, .unset, .unset, .unset, .unset, .unset, .unset] []))
  refine own_go (fun t k => XS.iload X0.here hx rfl (hb hby at_75) rfl k) ?_
  show own_Goes p e below _ (s₁.setTop (mkF m 77 #[.val (.int x0), .val (.int x1), .val (.int x2), .val (.long y3), .second, .val (.int x4), .val (.int x5), .val (.int (own_v0_1 x0)), .val (.int (own_v0_2 x1)), .val (.int (own_v0_3 x1)), .val (.int (own_v0_4 x2)), .val (.int (own_v0_5 x2)), .val (.int (own_v0_6 y3)), .val (.long (own_v0_7 y3)), .second, .val (.int (x4 &&& (63 : Int32))), .unset, .unset, .unset, .unset, .unset, .unset, .unset, .unset, .unset, .unset, .unset] [(.int x4)]))
  refine own_go (fun t k => XS.bipush X0.here hx rfl (hb hby at_77) k) ?_
  show own_Goes p e below _ (s₁.setTop (mkF m 79 #[.val (.int x0), .val (.int x1), .val (.int x2), .val (.long y3), .second, .val (.int x4), .val (.int x5), .val (.int (own_v0_1 x0)), .val (.int (own_v0_2 x1)), .val (.int (own_v0_3 x1)), .val (.int (own_v0_4 x2)), .val (.int (own_v0_5 x2)), .val (.int (own_v0_6 y3)), .val (.long (own_v0_7 y3)), .second, .val (.int (x4 &&& (63 : Int32))), .unset, .unset, .unset, .unset, .unset, .unset, .unset, .unset, .unset, .unset, .unset] [(.int (8 : Int32)), (.int x4)]))
  refine own_go (fun t k => XS.iushr X0.here hx rfl (hb hby at_79) rfl k) ?_
  show own_Goes p e below _ (s₁.setTop (mkF m 80 #[.val (.int x0), .val (.int x1), .val (.int x2), .val (.long y3), .second, .val (.int x4), .val (.int x5), .val (.int (own_v0_1 x0)), .val (.int (own_v0_2 x1)), .val (.int (own_v0_3 x1)), .val (.int (own_v0_4 x2)), .val (.int (own_v0_5 x2)), .val (.int (own_v0_6 y3)), .val (.long (own_v0_7 y3)), .second, .val (.int (x4 &&& (63 : Int32))), .unset, .unset, .unset, .unset, .unset, .unset, .unset, .unset, .unset, .unset, .unset] [(.int ((x4.toUInt32 >>> ((8 : Int32) &&& 31).toUInt32).toInt32))]))
  refine own_go (fun t k => XS.sipush X0.here hx rfl (hb hby at_80) k) ?_
  show own_Goes p e below _ (s₁.setTop (mkF m 83 #[.val (.int x0), .val (.int x1), .val (.int x2), .val (.long y3), .second, .val (.int x4), .val (.int x5), .val (.int (own_v0_1 x0)), .val (.int (own_v0_2 x1)), .val (.int (own_v0_3 x1)), .val (.int (own_v0_4 x2)), .val (.int (own_v0_5 x2)), .val (.int (own_v0_6 y3)), .val (.long (own_v0_7 y3)), .second, .val (.int (x4 &&& (63 : Int32))), .unset, .unset, .unset, .unset, .unset, .unset, .unset, .unset, .unset, .unset, .unset] [(.int (255 : Int32)), (.int ((x4.toUInt32 >>> ((8 : Int32) &&& 31).toUInt32).toInt32))]))
  refine own_go (fun t k => XS.iand X0.here hx rfl (hb hby at_83) rfl k) ?_
  show own_Goes p e below _ (s₁.setTop (mkF m 84 #[.val (.int x0), .val (.int x1), .val (.int x2), .val (.long y3), .second, .val (.int x4), .val (.int x5), .val (.int (own_v0_1 x0)), .val (.int (own_v0_2 x1)), .val (.int (own_v0_3 x1)), .val (.int (own_v0_4 x2)), .val (.int (own_v0_5 x2)), .val (.int (own_v0_6 y3)), .val (.long (own_v0_7 y3)), .second, .val (.int (x4 &&& (63 : Int32))), .unset, .unset, .unset, .unset, .unset, .unset, .unset, .unset, .unset, .unset, .unset] [(.int (((x4.toUInt32 >>> ((8 : Int32) &&& 31).toUInt32).toInt32) &&& (255 : Int32)))]))
  refine own_go (fun t k => XS.i2c X0.here hx rfl (hb hby at_84) rfl k) ?_
  show own_Goes p e below _ (s₁.setTop (mkF m 85 #[.val (.int x0), .val (.int x1), .val (.int x2), .val (.long y3), .second, .val (.int x4), .val (.int x5), .val (.int (own_v0_1 x0)), .val (.int (own_v0_2 x1)), .val (.int (own_v0_3 x1)), .val (.int (own_v0_4 x2)), .val (.int (own_v0_5 x2)), .val (.int (own_v0_6 y3)), .val (.long (own_v0_7 y3)), .second, .val (.int (x4 &&& (63 : Int32))), .unset, .unset, .unset, .unset, .unset, .unset, .unset, .unset, .unset, .unset, .unset] [(.int ((((x4.toUInt32 >>> ((8 : Int32) &&& 31).toUInt32).toInt32) &&& (255 : Int32)).toUInt32.toUInt16.toUInt32.toInt32))]))
  refine own_go (fun t k => XS.istore X0.here hx rfl (hb hby at_85) rfl (l' := #[.val (.int x0), .val (.int x1), .val (.int x2), .val (.long y3), .second, .val (.int x4), .val (.int x5), .val (.int (own_v0_1 x0)), .val (.int (own_v0_2 x1)), .val (.int (own_v0_3 x1)), .val (.int (own_v0_4 x2)), .val (.int (own_v0_5 x2)), .val (.int (own_v0_6 y3)), .val (.long (own_v0_7 y3)), .second, .val (.int (x4 &&& (63 : Int32))), .val (.int (own_v0_8 x4)), .unset, .unset, .unset, .unset, .unset, .unset, .unset, .unset, .unset, .unset]) rfl k) ?_
  show own_Goes p e below _ (s₁.setTop (mkF m 87 #[.val (.int x0), .val (.int x1), .val (.int x2), .val (.long y3), .second, .val (.int x4), .val (.int x5), .val (.int (own_v0_1 x0)), .val (.int (own_v0_2 x1)), .val (.int (own_v0_3 x1)), .val (.int (own_v0_4 x2)), .val (.int (own_v0_5 x2)), .val (.int (own_v0_6 y3)), .val (.long (own_v0_7 y3)), .second, .val (.int (x4 &&& (63 : Int32))), .val (.int (own_v0_8 x4)), .unset, .unset, .unset, .unset, .unset, .unset, .unset, .unset, .unset, .unset] []))
  refine own_go (fun t k => XS.iload X0.here hx rfl (hb hby at_87) rfl k) ?_
  show own_Goes p e below _ (s₁.setTop (mkF m 89 #[.val (.int x0), .val (.int x1), .val (.int x2), .val (.long y3), .second, .val (.int x4), .val (.int x5), .val (.int (own_v0_1 x0)), .val (.int (own_v0_2 x1)), .val (.int (own_v0_3 x1)), .val (.int (own_v0_4 x2)), .val (.int (own_v0_5 x2)), .val (.int (own_v0_6 y3)), .val (.long (own_v0_7 y3)), .second, .val (.int (x4 &&& (63 : Int32))), .val (.int (own_v0_8 x4)), .unset, .unset, .unset, .unset, .unset, .unset, .unset, .unset, .unset, .unset] [(.int x5)]))
  refine own_go (fun t k => XS.iconst X0.here hx rfl (hb hby at_89) k) ?_
  show own_Goes p e below _ (s₁.setTop (mkF m 90 #[.val (.int x0), .val (.int x1), .val (.int x2), .val (.long y3), .second, .val (.int x4), .val (.int x5), .val (.int (own_v0_1 x0)), .val (.int (own_v0_2 x1)), .val (.int (own_v0_3 x1)), .val (.int (own_v0_4 x2)), .val (.int (own_v0_5 x2)), .val (.int (own_v0_6 y3)), .val (.long (own_v0_7 y3)), .second, .val (.int (x4 &&& (63 : Int32))), .val (.int (own_v0_8 x4)), .unset, .unset, .unset, .unset, .unset, .unset, .unset, .unset, .unset, .unset] [(.int (3 : Int32)), (.int x5)]))
  refine own_go (fun t k => XS.iand X0.here hx rfl (hb hby at_90) rfl k) ?_
  show own_Goes p e below _ (s₁.setTop (mkF m 91 #[.val (.int x0), .val (.int x1), .val (.int x2), .val (.long y3), .second, .val (.int x4), .val (.int x5), .val (.int (own_v0_1 x0)), .val (.int (own_v0_2 x1)), .val (.int (own_v0_3 x1)), .val (.int (own_v0_4 x2)), .val (.int (own_v0_5 x2)), .val (.int (own_v0_6 y3)), .val (.long (own_v0_7 y3)), .second, .val (.int (x4 &&& (63 : Int32))), .val (.int (own_v0_8 x4)), .unset, .unset, .unset, .unset, .unset, .unset, .unset, .unset, .unset, .unset] [(.int (x5 &&& (3 : Int32)))]))
  refine own_go (fun t k => XS.istore X0.here hx rfl (hb hby at_91) rfl (l' := #[.val (.int x0), .val (.int x1), .val (.int x2), .val (.long y3), .second, .val (.int x4), .val (.int x5), .val (.int (own_v0_1 x0)), .val (.int (own_v0_2 x1)), .val (.int (own_v0_3 x1)), .val (.int (own_v0_4 x2)), .val (.int (own_v0_5 x2)), .val (.int (own_v0_6 y3)), .val (.long (own_v0_7 y3)), .second, .val (.int (x4 &&& (63 : Int32))), .val (.int (own_v0_8 x4)), .val (.int (x5 &&& (3 : Int32))), .unset, .unset, .unset, .unset, .unset, .unset, .unset, .unset, .unset]) rfl k) ?_
  show own_Goes p e below _ (s₁.setTop (mkF m 93 #[.val (.int x0), .val (.int x1), .val (.int x2), .val (.long y3), .second, .val (.int x4), .val (.int x5), .val (.int (own_v0_1 x0)), .val (.int (own_v0_2 x1)), .val (.int (own_v0_3 x1)), .val (.int (own_v0_4 x2)), .val (.int (own_v0_5 x2)), .val (.int (own_v0_6 y3)), .val (.long (own_v0_7 y3)), .second, .val (.int (x4 &&& (63 : Int32))), .val (.int (own_v0_8 x4)), .val (.int (x5 &&& (3 : Int32))), .unset, .unset, .unset, .unset, .unset, .unset, .unset, .unset, .unset] []))
  refine own_go (fun t k => XS.iload X0.here hx rfl (hb hby at_93) rfl k) ?_
  show own_Goes p e below _ (s₁.setTop (mkF m 95 #[.val (.int x0), .val (.int x1), .val (.int x2), .val (.long y3), .second, .val (.int x4), .val (.int x5), .val (.int (own_v0_1 x0)), .val (.int (own_v0_2 x1)), .val (.int (own_v0_3 x1)), .val (.int (own_v0_4 x2)), .val (.int (own_v0_5 x2)), .val (.int (own_v0_6 y3)), .val (.long (own_v0_7 y3)), .second, .val (.int (x4 &&& (63 : Int32))), .val (.int (own_v0_8 x4)), .val (.int (x5 &&& (3 : Int32))), .unset, .unset, .unset, .unset, .unset, .unset, .unset, .unset, .unset] [(.int x5)]))
  refine own_go (fun t k => XS.iconst X0.here hx rfl (hb hby at_95) k) ?_
  show own_Goes p e below _ (s₁.setTop (mkF m 96 #[.val (.int x0), .val (.int x1), .val (.int x2), .val (.long y3), .second, .val (.int x4), .val (.int x5), .val (.int (own_v0_1 x0)), .val (.int (own_v0_2 x1)), .val (.int (own_v0_3 x1)), .val (.int (own_v0_4 x2)), .val (.int (own_v0_5 x2)), .val (.int (own_v0_6 y3)), .val (.long (own_v0_7 y3)), .second, .val (.int (x4 &&& (63 : Int32))), .val (.int (own_v0_8 x4)), .val (.int (x5 &&& (3 : Int32))), .unset, .unset, .unset, .unset, .unset, .unset, .unset, .unset, .unset] [(.int (2 : Int32)), (.int x5)]))
  refine own_go (fun t k => XS.iushr X0.here hx rfl (hb hby at_96) rfl k) ?_
  show own_Goes p e below _ (s₁.setTop (mkF m 97 #[.val (.int x0), .val (.int x1), .val (.int x2), .val (.long y3), .second, .val (.int x4), .val (.int x5), .val (.int (own_v0_1 x0)), .val (.int (own_v0_2 x1)), .val (.int (own_v0_3 x1)), .val (.int (own_v0_4 x2)), .val (.int (own_v0_5 x2)), .val (.int (own_v0_6 y3)), .val (.long (own_v0_7 y3)), .second, .val (.int (x4 &&& (63 : Int32))), .val (.int (own_v0_8 x4)), .val (.int (x5 &&& (3 : Int32))), .unset, .unset, .unset, .unset, .unset, .unset, .unset, .unset, .unset] [(.int ((x5.toUInt32 >>> ((2 : Int32) &&& 31).toUInt32).toInt32))]))
  refine own_go (fun t k => XS.bipush X0.here hx rfl (hb hby at_97) k) ?_
  show own_Goes p e below _ (s₁.setTop (mkF m 99 #[.val (.int x0), .val (.int x1), .val (.int x2), .val (.long y3), .second, .val (.int x4), .val (.int x5), .val (.int (own_v0_1 x0)), .val (.int (own_v0_2 x1)), .val (.int (own_v0_3 x1)), .val (.int (own_v0_4 x2)), .val (.int (own_v0_5 x2)), .val (.int (own_v0_6 y3)), .val (.long (own_v0_7 y3)), .second, .val (.int (x4 &&& (63 : Int32))), .val (.int (own_v0_8 x4)), .val (.int (x5 &&& (3 : Int32))), .unset, .unset, .unset, .unset, .unset, .unset, .unset, .unset, .unset] [(.int (7 : Int32)), (.int ((x5.toUInt32 >>> ((2 : Int32) &&& 31).toUInt32).toInt32))]))
  refine own_go (fun t k => XS.iand X0.here hx rfl (hb hby at_99) rfl k) ?_
  show own_Goes p e below _ (s₁.setTop (mkF m 100 #[.val (.int x0), .val (.int x1), .val (.int x2), .val (.long y3), .second, .val (.int x4), .val (.int x5), .val (.int (own_v0_1 x0)), .val (.int (own_v0_2 x1)), .val (.int (own_v0_3 x1)), .val (.int (own_v0_4 x2)), .val (.int (own_v0_5 x2)), .val (.int (own_v0_6 y3)), .val (.long (own_v0_7 y3)), .second, .val (.int (x4 &&& (63 : Int32))), .val (.int (own_v0_8 x4)), .val (.int (x5 &&& (3 : Int32))), .unset, .unset, .unset, .unset, .unset, .unset, .unset, .unset, .unset] [(.int (((x5.toUInt32 >>> ((2 : Int32) &&& 31).toUInt32).toInt32) &&& (7 : Int32)))]))
  refine own_go (fun t k => XS.istore X0.here hx rfl (hb hby at_100) rfl (l' := #[.val (.int x0), .val (.int x1), .val (.int x2), .val (.long y3), .second, .val (.int x4), .val (.int x5), .val (.int (own_v0_1 x0)), .val (.int (own_v0_2 x1)), .val (.int (own_v0_3 x1)), .val (.int (own_v0_4 x2)), .val (.int (own_v0_5 x2)), .val (.int (own_v0_6 y3)), .val (.long (own_v0_7 y3)), .second, .val (.int (x4 &&& (63 : Int32))), .val (.int (own_v0_8 x4)), .val (.int (x5 &&& (3 : Int32))), .val (.int (own_v0_9 x5)), .unset, .unset, .unset, .unset, .unset, .unset, .unset, .unset]) rfl k) ?_
  show own_Goes p e below _ (s₁.setTop (mkF m 102 #[.val (.int x0), .val (.int x1), .val (.int x2), .val (.long y3), .second, .val (.int x4), .val (.int x5), .val (.int (own_v0_1 x0)), .val (.int (own_v0_2 x1)), .val (.int (own_v0_3 x1)), .val (.int (own_v0_4 x2)), .val (.int (own_v0_5 x2)), .val (.int (own_v0_6 y3)), .val (.long (own_v0_7 y3)), .second, .val (.int (x4 &&& (63 : Int32))), .val (.int (own_v0_8 x4)), .val (.int (x5 &&& (3 : Int32))), .val (.int (own_v0_9 x5)), .unset, .unset, .unset, .unset, .unset, .unset, .unset, .unset] []))
  refine own_go (fun t k => XS.bipush X0.here hx rfl (hb hby at_102) k) ?_
  show own_Goes p e below _ (s₁.setTop (mkF m 104 #[.val (.int x0), .val (.int x1), .val (.int x2), .val (.long y3), .second, .val (.int x4), .val (.int x5), .val (.int (own_v0_1 x0)), .val (.int (own_v0_2 x1)), .val (.int (own_v0_3 x1)), .val (.int (own_v0_4 x2)), .val (.int (own_v0_5 x2)), .val (.int (own_v0_6 y3)), .val (.long (own_v0_7 y3)), .second, .val (.int (x4 &&& (63 : Int32))), .val (.int (own_v0_8 x4)), .val (.int (x5 &&& (3 : Int32))), .val (.int (own_v0_9 x5)), .unset, .unset, .unset, .unset, .unset, .unset, .unset, .unset] [(.int (27 : Int32))]))
  refine own_go (fun t k => XS.istore X0.here hx rfl (hb hby at_104) rfl (l' := #[.val (.int x0), .val (.int x1), .val (.int x2), .val (.long y3), .second, .val (.int x4), .val (.int x5), .val (.int (own_v0_1 x0)), .val (.int (own_v0_2 x1)), .val (.int (own_v0_3 x1)), .val (.int (own_v0_4 x2)), .val (.int (own_v0_5 x2)), .val (.int (own_v0_6 y3)), .val (.long (own_v0_7 y3)), .second, .val (.int (x4 &&& (63 : Int32))), .val (.int (own_v0_8 x4)), .val (.int (x5 &&& (3 : Int32))), .val (.int (own_v0_9 x5)), .val (.int (27 : Int32)), .unset, .unset, .unset, .unset, .unset, .unset, .unset]) rfl k) ?_
  show own_Goes p e below _ (s₁.setTop (mkF m 106 #[.val (.int x0), .val (.int x1), .val (.int x2), .val (.long y3), .second, .val (.int x4), .val (.int x5), .val (.int (own_v0_1 x0)), .val (.int (own_v0_2 x1)), .val (.int (own_v0_3 x1)), .val (.int (own_v0_4 x2)), .val (.int (own_v0_5 x2)), .val (.int (own_v0_6 y3)), .val (.long (own_v0_7 y3)), .second, .val (.int (x4 &&& (63 : Int32))), .val (.int (own_v0_8 x4)), .val (.int (x5 &&& (3 : Int32))), .val (.int (own_v0_9 x5)), .val (.int (27 : Int32)), .unset, .unset, .unset, .unset, .unset, .unset, .unset] []))
  refine own_go (fun t k => XS.iload X0.here hx rfl (hb hby at_106) rfl k) ?_
  show own_Goes p e below _ (s₁.setTop (mkF m 108 #[.val (.int x0), .val (.int x1), .val (.int x2), .val (.long y3), .second, .val (.int x4), .val (.int x5), .val (.int (own_v0_1 x0)), .val (.int (own_v0_2 x1)), .val (.int (own_v0_3 x1)), .val (.int (own_v0_4 x2)), .val (.int (own_v0_5 x2)), .val (.int (own_v0_6 y3)), .val (.long (own_v0_7 y3)), .second, .val (.int (x4 &&& (63 : Int32))), .val (.int (own_v0_8 x4)), .val (.int (x5 &&& (3 : Int32))), .val (.int (own_v0_9 x5)), .val (.int (27 : Int32)), .unset, .unset, .unset, .unset, .unset, .unset, .unset] [(.int (own_v0_9 x5))]))
  refine own_go (fun t k => XS.iconst X0.here hx rfl (hb hby at_108) k) ?_
  show own_Goes p e below _ (s₁.setTop (mkF m 109 #[.val (.int x0), .val (.int x1), .val (.int x2), .val (.long y3), .second, .val (.int x4), .val (.int x5), .val (.int (own_v0_1 x0)), .val (.int (own_v0_2 x1)), .val (.int (own_v0_3 x1)), .val (.int (own_v0_4 x2)), .val (.int (own_v0_5 x2)), .val (.int (own_v0_6 y3)), .val (.long (own_v0_7 y3)), .second, .val (.int (x4 &&& (63 : Int32))), .val (.int (own_v0_8 x4)), .val (.int (x5 &&& (3 : Int32))), .val (.int (own_v0_9 x5)), .val (.int (27 : Int32)), .unset, .unset, .unset, .unset, .unset, .unset, .unset] [(.int (5 : Int32)), (.int (own_v0_9 x5))]))
  suffices HH75 : own_Goes p e below (own_End s room_1 (own_Q0 x0 x1 x2 y3 x4 x5 s_F h0 n0)) (s₁.setTop (mkF m 143 #[.val (.int x0), .val (.int x1), .val (.int x2), .val (.long y3), .second, .val (.int x4), .val (.int x5), .val (.int (own_v0_1 x0)), .val (.int (own_v0_2 x1)), .val (.int (own_v0_3 x1)), .val (.int (own_v0_4 x2)), .val (.int (own_v0_5 x2)), .val (.int (own_v0_6 y3)), .val (.long (own_v0_7 y3)), .second, .val (.int (x4 &&& (63 : Int32))), .val (.int (own_v0_8 x4)), .val (.int (x5 &&& (3 : Int32))), .val (.int (own_v0_9 x5)), .val (.int (own_j0_1 x5)), .unset, .unset, .unset, .unset, .unset, .unset, .unset] [])) by
    by_cases hc72 : (own_v0_9 x5) = (5 : Int32)
    · refine own_go (fun t k => XS.icmpNo X0.here hx rfl (hb hby at_109) rfl (teq hc72).2 k) ?_
      show own_Goes p e below _ (s₁.setTop (mkF m 112 #[.val (.int x0), .val (.int x1), .val (.int x2), .val (.long y3), .second, .val (.int x4), .val (.int x5), .val (.int (own_v0_1 x0)), .val (.int (own_v0_2 x1)), .val (.int (own_v0_3 x1)), .val (.int (own_v0_4 x2)), .val (.int (own_v0_5 x2)), .val (.int (own_v0_6 y3)), .val (.long (own_v0_7 y3)), .second, .val (.int (x4 &&& (63 : Int32))), .val (.int (own_v0_8 x4)), .val (.int (x5 &&& (3 : Int32))), .val (.int (own_v0_9 x5)), .val (.int (27 : Int32)), .unset, .unset, .unset, .unset, .unset, .unset, .unset] []))
      refine own_go (fun t k => XS.bipush X0.here hx rfl (hb hby at_112) k) ?_
      show own_Goes p e below _ (s₁.setTop (mkF m 114 #[.val (.int x0), .val (.int x1), .val (.int x2), .val (.long y3), .second, .val (.int x4), .val (.int x5), .val (.int (own_v0_1 x0)), .val (.int (own_v0_2 x1)), .val (.int (own_v0_3 x1)), .val (.int (own_v0_4 x2)), .val (.int (own_v0_5 x2)), .val (.int (own_v0_6 y3)), .val (.long (own_v0_7 y3)), .second, .val (.int (x4 &&& (63 : Int32))), .val (.int (own_v0_8 x4)), .val (.int (x5 &&& (3 : Int32))), .val (.int (own_v0_9 x5)), .val (.int (27 : Int32)), .unset, .unset, .unset, .unset, .unset, .unset, .unset] [(.int (26 : Int32))]))
      refine own_go (fun t k => XS.istore X0.here hx rfl (hb hby at_114) rfl (l' := #[.val (.int x0), .val (.int x1), .val (.int x2), .val (.long y3), .second, .val (.int x4), .val (.int x5), .val (.int (own_v0_1 x0)), .val (.int (own_v0_2 x1)), .val (.int (own_v0_3 x1)), .val (.int (own_v0_4 x2)), .val (.int (own_v0_5 x2)), .val (.int (own_v0_6 y3)), .val (.long (own_v0_7 y3)), .second, .val (.int (x4 &&& (63 : Int32))), .val (.int (own_v0_8 x4)), .val (.int (x5 &&& (3 : Int32))), .val (.int (own_v0_9 x5)), .val (.int (26 : Int32)), .unset, .unset, .unset, .unset, .unset, .unset, .unset]) rfl k) ?_
      show own_Goes p e below _ (s₁.setTop (mkF m 116 #[.val (.int x0), .val (.int x1), .val (.int x2), .val (.long y3), .second, .val (.int x4), .val (.int x5), .val (.int (own_v0_1 x0)), .val (.int (own_v0_2 x1)), .val (.int (own_v0_3 x1)), .val (.int (own_v0_4 x2)), .val (.int (own_v0_5 x2)), .val (.int (own_v0_6 y3)), .val (.long (own_v0_7 y3)), .second, .val (.int (x4 &&& (63 : Int32))), .val (.int (own_v0_8 x4)), .val (.int (x5 &&& (3 : Int32))), .val (.int (own_v0_9 x5)), .val (.int (26 : Int32)), .unset, .unset, .unset, .unset, .unset, .unset, .unset] []))
      refine own_go (fun t k => XS.goto X0.here hx rfl (pc0 := 116) (pc' := 143) rfl (hb hby at_116) (by decide) (by decide) k) ?_
      rw [show (own_j0_1 x5) = (26 : Int32) from by rw [own_j0_1, if_pos hc72]] at HH75
      exact HH75
    · refine own_go (fun t k => XS.icmpYes X0.here hx rfl (pc0 := 109) (pc' := 119) rfl (hb hby at_109) rfl (feq hc72).2 (by decide) (by decide) k) ?_
      show own_Goes p e below _ (s₁.setTop (mkF m 119 #[.val (.int x0), .val (.int x1), .val (.int x2), .val (.long y3), .second, .val (.int x4), .val (.int x5), .val (.int (own_v0_1 x0)), .val (.int (own_v0_2 x1)), .val (.int (own_v0_3 x1)), .val (.int (own_v0_4 x2)), .val (.int (own_v0_5 x2)), .val (.int (own_v0_6 y3)), .val (.long (own_v0_7 y3)), .second, .val (.int (x4 &&& (63 : Int32))), .val (.int (own_v0_8 x4)), .val (.int (x5 &&& (3 : Int32))), .val (.int (own_v0_9 x5)), .val (.int (27 : Int32)), .unset, .unset, .unset, .unset, .unset, .unset, .unset] []))
      refine own_go (fun t k => XS.iload X0.here hx rfl (hb hby at_119) rfl k) ?_
      show own_Goes p e below _ (s₁.setTop (mkF m 121 #[.val (.int x0), .val (.int x1), .val (.int x2), .val (.long y3), .second, .val (.int x4), .val (.int x5), .val (.int (own_v0_1 x0)), .val (.int (own_v0_2 x1)), .val (.int (own_v0_3 x1)), .val (.int (own_v0_4 x2)), .val (.int (own_v0_5 x2)), .val (.int (own_v0_6 y3)), .val (.long (own_v0_7 y3)), .second, .val (.int (x4 &&& (63 : Int32))), .val (.int (own_v0_8 x4)), .val (.int (x5 &&& (3 : Int32))), .val (.int (own_v0_9 x5)), .val (.int (27 : Int32)), .unset, .unset, .unset, .unset, .unset, .unset, .unset] [(.int (own_v0_9 x5))]))
      refine own_go (fun t k => XS.bipush X0.here hx rfl (hb hby at_121) k) ?_
      show own_Goes p e below _ (s₁.setTop (mkF m 123 #[.val (.int x0), .val (.int x1), .val (.int x2), .val (.long y3), .second, .val (.int x4), .val (.int x5), .val (.int (own_v0_1 x0)), .val (.int (own_v0_2 x1)), .val (.int (own_v0_3 x1)), .val (.int (own_v0_4 x2)), .val (.int (own_v0_5 x2)), .val (.int (own_v0_6 y3)), .val (.long (own_v0_7 y3)), .second, .val (.int (x4 &&& (63 : Int32))), .val (.int (own_v0_8 x4)), .val (.int (x5 &&& (3 : Int32))), .val (.int (own_v0_9 x5)), .val (.int (27 : Int32)), .unset, .unset, .unset, .unset, .unset, .unset, .unset] [(.int (6 : Int32)), (.int (own_v0_9 x5))]))
      by_cases hc73 : (own_v0_9 x5) = (6 : Int32)
      · refine own_go (fun t k => XS.icmpNo X0.here hx rfl (hb hby at_123) rfl (teq hc73).2 k) ?_
        show own_Goes p e below _ (s₁.setTop (mkF m 126 #[.val (.int x0), .val (.int x1), .val (.int x2), .val (.long y3), .second, .val (.int x4), .val (.int x5), .val (.int (own_v0_1 x0)), .val (.int (own_v0_2 x1)), .val (.int (own_v0_3 x1)), .val (.int (own_v0_4 x2)), .val (.int (own_v0_5 x2)), .val (.int (own_v0_6 y3)), .val (.long (own_v0_7 y3)), .second, .val (.int (x4 &&& (63 : Int32))), .val (.int (own_v0_8 x4)), .val (.int (x5 &&& (3 : Int32))), .val (.int (own_v0_9 x5)), .val (.int (27 : Int32)), .unset, .unset, .unset, .unset, .unset, .unset, .unset] []))
        refine own_go (fun t k => XS.bipush X0.here hx rfl (hb hby at_126) k) ?_
        show own_Goes p e below _ (s₁.setTop (mkF m 128 #[.val (.int x0), .val (.int x1), .val (.int x2), .val (.long y3), .second, .val (.int x4), .val (.int x5), .val (.int (own_v0_1 x0)), .val (.int (own_v0_2 x1)), .val (.int (own_v0_3 x1)), .val (.int (own_v0_4 x2)), .val (.int (own_v0_5 x2)), .val (.int (own_v0_6 y3)), .val (.long (own_v0_7 y3)), .second, .val (.int (x4 &&& (63 : Int32))), .val (.int (own_v0_8 x4)), .val (.int (x5 &&& (3 : Int32))), .val (.int (own_v0_9 x5)), .val (.int (27 : Int32)), .unset, .unset, .unset, .unset, .unset, .unset, .unset] [(.int (28 : Int32))]))
        refine own_go (fun t k => XS.istore X0.here hx rfl (hb hby at_128) rfl (l' := #[.val (.int x0), .val (.int x1), .val (.int x2), .val (.long y3), .second, .val (.int x4), .val (.int x5), .val (.int (own_v0_1 x0)), .val (.int (own_v0_2 x1)), .val (.int (own_v0_3 x1)), .val (.int (own_v0_4 x2)), .val (.int (own_v0_5 x2)), .val (.int (own_v0_6 y3)), .val (.long (own_v0_7 y3)), .second, .val (.int (x4 &&& (63 : Int32))), .val (.int (own_v0_8 x4)), .val (.int (x5 &&& (3 : Int32))), .val (.int (own_v0_9 x5)), .val (.int (28 : Int32)), .unset, .unset, .unset, .unset, .unset, .unset, .unset]) rfl k) ?_
        show own_Goes p e below _ (s₁.setTop (mkF m 130 #[.val (.int x0), .val (.int x1), .val (.int x2), .val (.long y3), .second, .val (.int x4), .val (.int x5), .val (.int (own_v0_1 x0)), .val (.int (own_v0_2 x1)), .val (.int (own_v0_3 x1)), .val (.int (own_v0_4 x2)), .val (.int (own_v0_5 x2)), .val (.int (own_v0_6 y3)), .val (.long (own_v0_7 y3)), .second, .val (.int (x4 &&& (63 : Int32))), .val (.int (own_v0_8 x4)), .val (.int (x5 &&& (3 : Int32))), .val (.int (own_v0_9 x5)), .val (.int (28 : Int32)), .unset, .unset, .unset, .unset, .unset, .unset, .unset] []))
        refine own_go (fun t k => XS.goto X0.here hx rfl (pc0 := 130) (pc' := 143) rfl (hb hby at_130) (by decide) (by decide) k) ?_
        rw [show (own_j0_1 x5) = (28 : Int32) from by rw [own_j0_1, if_neg hc72, if_pos hc73]] at HH75
        exact HH75
      · refine own_go (fun t k => XS.icmpYes X0.here hx rfl (pc0 := 123) (pc' := 133) rfl (hb hby at_123) rfl (feq hc73).2 (by decide) (by decide) k) ?_
        show own_Goes p e below _ (s₁.setTop (mkF m 133 #[.val (.int x0), .val (.int x1), .val (.int x2), .val (.long y3), .second, .val (.int x4), .val (.int x5), .val (.int (own_v0_1 x0)), .val (.int (own_v0_2 x1)), .val (.int (own_v0_3 x1)), .val (.int (own_v0_4 x2)), .val (.int (own_v0_5 x2)), .val (.int (own_v0_6 y3)), .val (.long (own_v0_7 y3)), .second, .val (.int (x4 &&& (63 : Int32))), .val (.int (own_v0_8 x4)), .val (.int (x5 &&& (3 : Int32))), .val (.int (own_v0_9 x5)), .val (.int (27 : Int32)), .unset, .unset, .unset, .unset, .unset, .unset, .unset] []))
        refine own_go (fun t k => XS.iload X0.here hx rfl (hb hby at_133) rfl k) ?_
        show own_Goes p e below _ (s₁.setTop (mkF m 135 #[.val (.int x0), .val (.int x1), .val (.int x2), .val (.long y3), .second, .val (.int x4), .val (.int x5), .val (.int (own_v0_1 x0)), .val (.int (own_v0_2 x1)), .val (.int (own_v0_3 x1)), .val (.int (own_v0_4 x2)), .val (.int (own_v0_5 x2)), .val (.int (own_v0_6 y3)), .val (.long (own_v0_7 y3)), .second, .val (.int (x4 &&& (63 : Int32))), .val (.int (own_v0_8 x4)), .val (.int (x5 &&& (3 : Int32))), .val (.int (own_v0_9 x5)), .val (.int (27 : Int32)), .unset, .unset, .unset, .unset, .unset, .unset, .unset] [(.int (own_v0_9 x5))]))
        refine own_go (fun t k => XS.bipush X0.here hx rfl (hb hby at_135) k) ?_
        show own_Goes p e below _ (s₁.setTop (mkF m 137 #[.val (.int x0), .val (.int x1), .val (.int x2), .val (.long y3), .second, .val (.int x4), .val (.int x5), .val (.int (own_v0_1 x0)), .val (.int (own_v0_2 x1)), .val (.int (own_v0_3 x1)), .val (.int (own_v0_4 x2)), .val (.int (own_v0_5 x2)), .val (.int (own_v0_6 y3)), .val (.long (own_v0_7 y3)), .second, .val (.int (x4 &&& (63 : Int32))), .val (.int (own_v0_8 x4)), .val (.int (x5 &&& (3 : Int32))), .val (.int (own_v0_9 x5)), .val (.int (27 : Int32)), .unset, .unset, .unset, .unset, .unset, .unset, .unset] [(.int (7 : Int32)), (.int (own_v0_9 x5))]))
        by_cases hc74 : (own_v0_9 x5) = (7 : Int32)
        · refine own_go (fun t k => XS.icmpNo X0.here hx rfl (hb hby at_137) rfl (teq hc74).2 k) ?_
          show own_Goes p e below _ (s₁.setTop (mkF m 140 #[.val (.int x0), .val (.int x1), .val (.int x2), .val (.long y3), .second, .val (.int x4), .val (.int x5), .val (.int (own_v0_1 x0)), .val (.int (own_v0_2 x1)), .val (.int (own_v0_3 x1)), .val (.int (own_v0_4 x2)), .val (.int (own_v0_5 x2)), .val (.int (own_v0_6 y3)), .val (.long (own_v0_7 y3)), .second, .val (.int (x4 &&& (63 : Int32))), .val (.int (own_v0_8 x4)), .val (.int (x5 &&& (3 : Int32))), .val (.int (own_v0_9 x5)), .val (.int (27 : Int32)), .unset, .unset, .unset, .unset, .unset, .unset, .unset] []))
          refine own_go (fun t k => XS.iconst X0.here hx rfl (hb hby at_140) k) ?_
          show own_Goes p e below _ (s₁.setTop (mkF m 141 #[.val (.int x0), .val (.int x1), .val (.int x2), .val (.long y3), .second, .val (.int x4), .val (.int x5), .val (.int (own_v0_1 x0)), .val (.int (own_v0_2 x1)), .val (.int (own_v0_3 x1)), .val (.int (own_v0_4 x2)), .val (.int (own_v0_5 x2)), .val (.int (own_v0_6 y3)), .val (.long (own_v0_7 y3)), .second, .val (.int (x4 &&& (63 : Int32))), .val (.int (own_v0_8 x4)), .val (.int (x5 &&& (3 : Int32))), .val (.int (own_v0_9 x5)), .val (.int (27 : Int32)), .unset, .unset, .unset, .unset, .unset, .unset, .unset] [(.int (-1 : Int32))]))
          refine own_go (fun t k => XS.istore X0.here hx rfl (hb hby at_141) rfl (l' := #[.val (.int x0), .val (.int x1), .val (.int x2), .val (.long y3), .second, .val (.int x4), .val (.int x5), .val (.int (own_v0_1 x0)), .val (.int (own_v0_2 x1)), .val (.int (own_v0_3 x1)), .val (.int (own_v0_4 x2)), .val (.int (own_v0_5 x2)), .val (.int (own_v0_6 y3)), .val (.long (own_v0_7 y3)), .second, .val (.int (x4 &&& (63 : Int32))), .val (.int (own_v0_8 x4)), .val (.int (x5 &&& (3 : Int32))), .val (.int (own_v0_9 x5)), .val (.int (-1 : Int32)), .unset, .unset, .unset, .unset, .unset, .unset, .unset]) rfl k) ?_
          rw [show (own_j0_1 x5) = (-1 : Int32) from by rw [own_j0_1, if_neg hc72, if_neg hc73, if_pos hc74]] at HH75
          exact HH75
        · refine own_go (fun t k => XS.icmpYes X0.here hx rfl (pc0 := 137) (pc' := 143) rfl (hb hby at_137) rfl (feq hc74).2 (by decide) (by decide) k) ?_
          rw [show (own_j0_1 x5) = (27 : Int32) from by rw [own_j0_1, if_neg hc72, if_neg hc73, if_neg hc74]] at HH75
          exact HH75
  show own_Goes p e below _ (s₁.setTop (mkF m 143 #[.val (.int x0), .val (.int x1), .val (.int x2), .val (.long y3), .second, .val (.int x4), .val (.int x5), .val (.int (own_v0_1 x0)), .val (.int (own_v0_2 x1)), .val (.int (own_v0_3 x1)), .val (.int (own_v0_4 x2)), .val (.int (own_v0_5 x2)), .val (.int (own_v0_6 y3)), .val (.long (own_v0_7 y3)), .second, .val (.int (x4 &&& (63 : Int32))), .val (.int (own_v0_8 x4)), .val (.int (x5 &&& (3 : Int32))), .val (.int (own_v0_9 x5)), .val (.int (own_j0_1 x5)), .unset, .unset, .unset, .unset, .unset, .unset, .unset] []))
  refine own_go (fun t k => XS.iload X0.here hx rfl (hb hby at_143) rfl k) ?_
  show own_Goes p e below _ (s₁.setTop (mkF m 145 #[.val (.int x0), .val (.int x1), .val (.int x2), .val (.long y3), .second, .val (.int x4), .val (.int x5), .val (.int (own_v0_1 x0)), .val (.int (own_v0_2 x1)), .val (.int (own_v0_3 x1)), .val (.int (own_v0_4 x2)), .val (.int (own_v0_5 x2)), .val (.int (own_v0_6 y3)), .val (.long (own_v0_7 y3)), .second, .val (.int (x4 &&& (63 : Int32))), .val (.int (own_v0_8 x4)), .val (.int (x5 &&& (3 : Int32))), .val (.int (own_v0_9 x5)), .val (.int (own_j0_1 x5)), .unset, .unset, .unset, .unset, .unset, .unset, .unset] [(.int (x5 &&& (3 : Int32)))]))
  refine own_go (fun t k => XS.iload X0.here hx rfl (hb hby at_145) rfl k) ?_
  show own_Goes p e below _ (s₁.setTop (mkF m 147 #[.val (.int x0), .val (.int x1), .val (.int x2), .val (.long y3), .second, .val (.int x4), .val (.int x5), .val (.int (own_v0_1 x0)), .val (.int (own_v0_2 x1)), .val (.int (own_v0_3 x1)), .val (.int (own_v0_4 x2)), .val (.int (own_v0_5 x2)), .val (.int (own_v0_6 y3)), .val (.long (own_v0_7 y3)), .second, .val (.int (x4 &&& (63 : Int32))), .val (.int (own_v0_8 x4)), .val (.int (x5 &&& (3 : Int32))), .val (.int (own_v0_9 x5)), .val (.int (own_j0_1 x5)), .unset, .unset, .unset, .unset, .unset, .unset, .unset] [(.int (own_j0_1 x5)), (.int (x5 &&& (3 : Int32)))]))
  refine own_go (fun t k => XS.iadd X0.here hx rfl (hb hby at_147) rfl k) ?_
  show own_Goes p e below _ (s₁.setTop (mkF m 148 #[.val (.int x0), .val (.int x1), .val (.int x2), .val (.long y3), .second, .val (.int x4), .val (.int x5), .val (.int (own_v0_1 x0)), .val (.int (own_v0_2 x1)), .val (.int (own_v0_3 x1)), .val (.int (own_v0_4 x2)), .val (.int (own_v0_5 x2)), .val (.int (own_v0_6 y3)), .val (.long (own_v0_7 y3)), .second, .val (.int (x4 &&& (63 : Int32))), .val (.int (own_v0_8 x4)), .val (.int (x5 &&& (3 : Int32))), .val (.int (own_v0_9 x5)), .val (.int (own_j0_1 x5)), .unset, .unset, .unset, .unset, .unset, .unset, .unset] [(.int ((x5 &&& (3 : Int32)) + (own_j0_1 x5)))]))
  refine own_go (fun t k => XS.istore X0.here hx rfl (hb hby at_148) rfl (l' := #[.val (.int x0), .val (.int x1), .val (.int x2), .val (.long y3), .second, .val (.int x4), .val (.int x5), .val (.int (own_v0_1 x0)), .val (.int (own_v0_2 x1)), .val (.int (own_v0_3 x1)), .val (.int (own_v0_4 x2)), .val (.int (own_v0_5 x2)), .val (.int (own_v0_6 y3)), .val (.long (own_v0_7 y3)), .second, .val (.int (x4 &&& (63 : Int32))), .val (.int (own_v0_8 x4)), .val (.int (x5 &&& (3 : Int32))), .val (.int (own_v0_9 x5)), .val (.int (own_j0_1 x5)), .val (.int (own_v0_10 x5)), .unset, .unset, .unset, .unset, .unset, .unset]) rfl k) ?_
  show own_Goes p e below _ (s₁.setTop (mkF m 150 #[.val (.int x0), .val (.int x1), .val (.int x2), .val (.long y3), .second, .val (.int x4), .val (.int x5), .val (.int (own_v0_1 x0)), .val (.int (own_v0_2 x1)), .val (.int (own_v0_3 x1)), .val (.int (own_v0_4 x2)), .val (.int (own_v0_5 x2)), .val (.int (own_v0_6 y3)), .val (.long (own_v0_7 y3)), .second, .val (.int (x4 &&& (63 : Int32))), .val (.int (own_v0_8 x4)), .val (.int (x5 &&& (3 : Int32))), .val (.int (own_v0_9 x5)), .val (.int (own_j0_1 x5)), .val (.int (own_v0_10 x5)), .unset, .unset, .unset, .unset, .unset, .unset] []))
  refine own_go (fun t k => XS.bipush X0.here hx rfl (hb hby at_150) k) ?_
  show own_Goes p e below _ (s₁.setTop (mkF m 152 #[.val (.int x0), .val (.int x1), .val (.int x2), .val (.long y3), .second, .val (.int x4), .val (.int x5), .val (.int (own_v0_1 x0)), .val (.int (own_v0_2 x1)), .val (.int (own_v0_3 x1)), .val (.int (own_v0_4 x2)), .val (.int (own_v0_5 x2)), .val (.int (own_v0_6 y3)), .val (.long (own_v0_7 y3)), .second, .val (.int (x4 &&& (63 : Int32))), .val (.int (own_v0_8 x4)), .val (.int (x5 &&& (3 : Int32))), .val (.int (own_v0_9 x5)), .val (.int (own_j0_1 x5)), .val (.int (own_v0_10 x5)), .unset, .unset, .unset, .unset, .unset, .unset] [(.int (32 : Int32))]))
  obtain ⟨T76, h76, k76, X76, e76, E76, A76, st76⟩ := newP X0 hx hZ (aty := .char) (hw _ own_t5) e0 (g := (mkF m 152 #[.val (.int x0), .val (.int x1), .val (.int x2), .val (.long y3), .second, .val (.int x4), .val (.int x5), .val (.int (own_v0_1 x0)), .val (.int (own_v0_2 x1)), .val (.int (own_v0_3 x1)), .val (.int (own_v0_4 x2)), .val (.int (own_v0_5 x2)), .val (.int (own_v0_6 y3)), .val (.long (own_v0_7 y3)), .second, .val (.int (x4 &&& (63 : Int32))), .val (.int (own_v0_8 x4)), .val (.int (x5 &&& (3 : Int32))), .val (.int (own_v0_9 x5)), .val (.int (own_j0_1 x5)), .val (.int (own_v0_10 x5)), .unset, .unset, .unset, .unset, .unset, .unset] [(.int (32 : Int32))])) rfl (hb hby at_152) rfl (by decide) (cap := 32) (by decide) (by decide) (by decide) (by decide)
  obtain ⟨b76, q76⟩ : ∃ z, z = h0.size := ⟨_, rfl⟩
  rw [← q76] at A76 st76
  have lt_b76 : h0.size ≤ b76 := Nat.le_of_eq q76.symm
  have g_b76 : n0 ≤ b76 := Nat.le_trans Z0 lt_b76
  have V76 : own_Tab Z h76 b76 (32 : Int32) (fun _ => 0) := own_Tab.new A76 (by decide)
  refine own_go st76 ?_
  show own_Goes p e below _ (T76.setTop (mkF m 154 #[.val (.int x0), .val (.int x1), .val (.int x2), .val (.long y3), .second, .val (.int x4), .val (.int x5), .val (.int (own_v0_1 x0)), .val (.int (own_v0_2 x1)), .val (.int (own_v0_3 x1)), .val (.int (own_v0_4 x2)), .val (.int (own_v0_5 x2)), .val (.int (own_v0_6 y3)), .val (.long (own_v0_7 y3)), .second, .val (.int (x4 &&& (63 : Int32))), .val (.int (own_v0_8 x4)), .val (.int (x5 &&& (3 : Int32))), .val (.int (own_v0_9 x5)), .val (.int (own_j0_1 x5)), .val (.int (own_v0_10 x5)), .unset, .unset, .unset, .unset, .unset, .unset] [(.ref b76)]))
  refine own_go (fun t k => XS.astore X76.here hx rfl (hb hby at_154) rfl rfl (l' := #[.val (.int x0), .val (.int x1), .val (.int x2), .val (.long y3), .second, .val (.int x4), .val (.int x5), .val (.int (own_v0_1 x0)), .val (.int (own_v0_2 x1)), .val (.int (own_v0_3 x1)), .val (.int (own_v0_4 x2)), .val (.int (own_v0_5 x2)), .val (.int (own_v0_6 y3)), .val (.long (own_v0_7 y3)), .second, .val (.int (x4 &&& (63 : Int32))), .val (.int (own_v0_8 x4)), .val (.int (x5 &&& (3 : Int32))), .val (.int (own_v0_9 x5)), .val (.int (own_j0_1 x5)), .val (.int (own_v0_10 x5)), .val (.ref b76), .unset, .unset, .unset, .unset, .unset]) rfl k) ?_
  show own_Goes p e below _ (T76.setTop (mkF m 156 #[.val (.int x0), .val (.int x1), .val (.int x2), .val (.long y3), .second, .val (.int x4), .val (.int x5), .val (.int (own_v0_1 x0)), .val (.int (own_v0_2 x1)), .val (.int (own_v0_3 x1)), .val (.int (own_v0_4 x2)), .val (.int (own_v0_5 x2)), .val (.int (own_v0_6 y3)), .val (.long (own_v0_7 y3)), .second, .val (.int (x4 &&& (63 : Int32))), .val (.int (own_v0_8 x4)), .val (.int (x5 &&& (3 : Int32))), .val (.int (own_v0_9 x5)), .val (.int (own_j0_1 x5)), .val (.int (own_v0_10 x5)), .val (.ref b76), .unset, .unset, .unset, .unset, .unset] []))
  refine own_go (fun t k => XS.iload X76.here hx rfl (hb hby at_156) rfl k) ?_
  show own_Goes p e below _ (T76.setTop (mkF m 158 #[.val (.int x0), .val (.int x1), .val (.int x2), .val (.long y3), .second, .val (.int x4), .val (.int x5), .val (.int (own_v0_1 x0)), .val (.int (own_v0_2 x1)), .val (.int (own_v0_3 x1)), .val (.int (own_v0_4 x2)), .val (.int (own_v0_5 x2)), .val (.int (own_v0_6 y3)), .val (.long (own_v0_7 y3)), .second, .val (.int (x4 &&& (63 : Int32))), .val (.int (own_v0_8 x4)), .val (.int (x5 &&& (3 : Int32))), .val (.int (own_v0_9 x5)), .val (.int (own_j0_1 x5)), .val (.int (own_v0_10 x5)), .val (.ref b76), .unset, .unset, .unset, .unset, .unset] [(.int (x5 &&& (3 : Int32)))]))
  refine own_go (fun t k => XS.istore X76.here hx rfl (hb hby at_158) rfl (l' := #[.val (.int x0), .val (.int x1), .val (.int x2), .val (.long y3), .second, .val (.int x4), .val (.int x5), .val (.int (own_v0_1 x0)), .val (.int (own_v0_2 x1)), .val (.int (own_v0_3 x1)), .val (.int (own_v0_4 x2)), .val (.int (own_v0_5 x2)), .val (.int (own_v0_6 y3)), .val (.long (own_v0_7 y3)), .second, .val (.int (x4 &&& (63 : Int32))), .val (.int (own_v0_8 x4)), .val (.int (x5 &&& (3 : Int32))), .val (.int (own_v0_9 x5)), .val (.int (own_j0_1 x5)), .val (.int (own_v0_10 x5)), .val (.ref b76), .val (.int (x5 &&& (3 : Int32))), .unset, .unset, .unset, .unset]) rfl k) ?_
  show own_Goes p e below _ (T76.setTop (mkF m 160 #[.val (.int x0), .val (.int x1), .val (.int x2), .val (.long y3), .second, .val (.int x4), .val (.int x5), .val (.int (own_v0_1 x0)), .val (.int (own_v0_2 x1)), .val (.int (own_v0_3 x1)), .val (.int (own_v0_4 x2)), .val (.int (own_v0_5 x2)), .val (.int (own_v0_6 y3)), .val (.long (own_v0_7 y3)), .second, .val (.int (x4 &&& (63 : Int32))), .val (.int (own_v0_8 x4)), .val (.int (x5 &&& (3 : Int32))), .val (.int (own_v0_9 x5)), .val (.int (own_j0_1 x5)), .val (.int (own_v0_10 x5)), .val (.ref b76), .val (.int (x5 &&& (3 : Int32))), .unset, .unset, .unset, .unset] []))
  refine own_go (fun t k => XS.aload X76.here hx rfl (hb hby at_160) rfl rfl k) ?_
  show own_Goes p e below _ (T76.setTop (mkF m 162 #[.val (.int x0), .val (.int x1), .val (.int x2), .val (.long y3), .second, .val (.int x4), .val (.int x5), .val (.int (own_v0_1 x0)), .val (.int (own_v0_2 x1)), .val (.int (own_v0_3 x1)), .val (.int (own_v0_4 x2)), .val (.int (own_v0_5 x2)), .val (.int (own_v0_6 y3)), .val (.long (own_v0_7 y3)), .second, .val (.int (x4 &&& (63 : Int32))), .val (.int (own_v0_8 x4)), .val (.int (x5 &&& (3 : Int32))), .val (.int (own_v0_9 x5)), .val (.int (own_j0_1 x5)), .val (.int (own_v0_10 x5)), .val (.ref b76), .val (.int (x5 &&& (3 : Int32))), .unset, .unset, .unset, .unset] [(.ref b76)]))
  refine own_go (fun t k => XS.iload X76.here hx rfl (hb hby at_162) rfl k) ?_
  show own_Goes p e below _ (T76.setTop (mkF m 164 #[.val (.int x0), .val (.int x1), .val (.int x2), .val (.long y3), .second, .val (.int x4), .val (.int x5), .val (.int (own_v0_1 x0)), .val (.int (own_v0_2 x1)), .val (.int (own_v0_3 x1)), .val (.int (own_v0_4 x2)), .val (.int (own_v0_5 x2)), .val (.int (own_v0_6 y3)), .val (.long (own_v0_7 y3)), .second, .val (.int (x4 &&& (63 : Int32))), .val (.int (own_v0_8 x4)), .val (.int (x5 &&& (3 : Int32))), .val (.int (own_v0_9 x5)), .val (.int (own_j0_1 x5)), .val (.int (own_v0_10 x5)), .val (.ref b76), .val (.int (x5 &&& (3 : Int32))), .unset, .unset, .unset, .unset] [(.int (x5 &&& (3 : Int32))), (.ref b76)]))
  refine own_go (fun t k => XS.iload X76.here hx rfl (hb hby at_164) rfl k) ?_
  show own_Goes p e below _ (T76.setTop (mkF m 166 #[.val (.int x0), .val (.int x1), .val (.int x2), .val (.long y3), .second, .val (.int x4), .val (.int x5), .val (.int (own_v0_1 x0)), .val (.int (own_v0_2 x1)), .val (.int (own_v0_3 x1)), .val (.int (own_v0_4 x2)), .val (.int (own_v0_5 x2)), .val (.int (own_v0_6 y3)), .val (.long (own_v0_7 y3)), .second, .val (.int (x4 &&& (63 : Int32))), .val (.int (own_v0_8 x4)), .val (.int (x5 &&& (3 : Int32))), .val (.int (own_v0_9 x5)), .val (.int (own_j0_1 x5)), .val (.int (own_v0_10 x5)), .val (.ref b76), .val (.int (x5 &&& (3 : Int32))), .unset, .unset, .unset, .unset] [(.int (own_v0_1 x0)), (.int (x5 &&& (3 : Int32))), (.ref b76)]))
  refine own_go (fun t k => XS.i2l X76.here hx rfl (hb hby at_166) rfl k) ?_
  show own_Goes p e below _ (T76.setTop (mkF m 167 #[.val (.int x0), .val (.int x1), .val (.int x2), .val (.long y3), .second, .val (.int x4), .val (.int x5), .val (.int (own_v0_1 x0)), .val (.int (own_v0_2 x1)), .val (.int (own_v0_3 x1)), .val (.int (own_v0_4 x2)), .val (.int (own_v0_5 x2)), .val (.int (own_v0_6 y3)), .val (.long (own_v0_7 y3)), .second, .val (.int (x4 &&& (63 : Int32))), .val (.int (own_v0_8 x4)), .val (.int (x5 &&& (3 : Int32))), .val (.int (own_v0_9 x5)), .val (.int (own_j0_1 x5)), .val (.int (own_v0_10 x5)), .val (.ref b76), .val (.int (x5 &&& (3 : Int32))), .unset, .unset, .unset, .unset] [(.long ((own_v0_1 x0).toInt64)), (.int (x5 &&& (3 : Int32))), (.ref b76)]))
  refine own_go (fun t k => X76.ldc2Long hx hown (mvT hZ (hw _ own_t6)) (g := (mkF m 167 #[.val (.int x0), .val (.int x1), .val (.int x2), .val (.long y3), .second, .val (.int x4), .val (.int x5), .val (.int (own_v0_1 x0)), .val (.int (own_v0_2 x1)), .val (.int (own_v0_3 x1)), .val (.int (own_v0_4 x2)), .val (.int (own_v0_5 x2)), .val (.int (own_v0_6 y3)), .val (.long (own_v0_7 y3)), .second, .val (.int (x4 &&& (63 : Int32))), .val (.int (own_v0_8 x4)), .val (.int (x5 &&& (3 : Int32))), .val (.int (own_v0_9 x5)), .val (.int (own_j0_1 x5)), .val (.int (own_v0_10 x5)), .val (.ref b76), .val (.int (x5 &&& (3 : Int32))), .unset, .unset, .unset, .unset] [(.long ((own_v0_1 x0).toInt64)), (.int (x5 &&& (3 : Int32))), (.ref b76)])) rfl (hb hby at_167) t k) ?_
  show own_Goes p e below _ (T76.setTop (mkF m 170 #[.val (.int x0), .val (.int x1), .val (.int x2), .val (.long y3), .second, .val (.int x4), .val (.int x5), .val (.int (own_v0_1 x0)), .val (.int (own_v0_2 x1)), .val (.int (own_v0_3 x1)), .val (.int (own_v0_4 x2)), .val (.int (own_v0_5 x2)), .val (.int (own_v0_6 y3)), .val (.long (own_v0_7 y3)), .second, .val (.int (x4 &&& (63 : Int32))), .val (.int (own_v0_8 x4)), .val (.int (x5 &&& (3 : Int32))), .val (.int (own_v0_9 x5)), .val (.int (own_j0_1 x5)), .val (.int (own_v0_10 x5)), .val (.ref b76), .val (.int (x5 &&& (3 : Int32))), .unset, .unset, .unset, .unset] [(.long (1000 : Int64)), (.long ((own_v0_1 x0).toInt64)), (.int (x5 &&& (3 : Int32))), (.ref b76)]))
  obtain ⟨_, T77, L77, X77, ⟨rfl, N77q, e77⟩, st77⟩ := own_callS X76 hx hZ hown (hw _ own_t7) (hw _ own_t8) (hw _ own_t9) (hw _ own_t10) (by decide) (as := [(.long ((own_v0_1 x0).toInt64)), (.long (1000 : Int64))]) (rm1 l Z a0 hw [] ((own_v0_1 x0).toInt64) (1000 : Int64) h76 n0 (by decide)) e76 own_pd2 rfl (pc := 170) (Ls := #[.val (.int x0), .val (.int x1), .val (.int x2), .val (.long y3), .second, .val (.int x4), .val (.int x5), .val (.int (own_v0_1 x0)), .val (.int (own_v0_2 x1)), .val (.int (own_v0_3 x1)), .val (.int (own_v0_4 x2)), .val (.int (own_v0_5 x2)), .val (.int (own_v0_6 y3)), .val (.long (own_v0_7 y3)), .second, .val (.int (x4 &&& (63 : Int32))), .val (.int (own_v0_8 x4)), .val (.int (x5 &&& (3 : Int32))), .val (.int (own_v0_9 x5)), .val (.int (own_j0_1 x5)), .val (.int (own_v0_10 x5)), .val (.ref b76), .val (.int (x5 &&& (3 : Int32))), .unset, .unset, .unset, .unset]) (rest := [(.int (x5 &&& (3 : Int32))), (.ref b76)]) (W := 2) (by rw [hml]; rfl) (Nat.le_of_eq rfl) (by decide) (by decide) (hb hby at_170) (by decide) (by decide)
  have N77 := Fr.app N0 N77q
  refine own_go st77 ?_
  show own_Goes p e below _ (T77.setTop (mkF m 173 #[.val (.int x0), .val (.int x1), .val (.int x2), .val (.long y3), .second, .val (.int x4), .val (.int x5), .val (.int (own_v0_1 x0)), .val (.int (own_v0_2 x1)), .val (.int (own_v0_3 x1)), .val (.int (own_v0_4 x2)), .val (.int (own_v0_5 x2)), .val (.int (own_v0_6 y3)), .val (.long (own_v0_7 y3)), .second, .val (.int (x4 &&& (63 : Int32))), .val (.int (own_v0_8 x4)), .val (.int (x5 &&& (3 : Int32))), .val (.int (own_v0_9 x5)), .val (.int (own_j0_1 x5)), .val (.int (own_v0_10 x5)), .val (.ref b76), .val (.int (x5 &&& (3 : Int32))), .unset, .unset, .unset, .unset] [(.int (own_f1 ((own_v0_1 x0).toInt64) (1000 : Int64))), (.int (x5 &&& (3 : Int32))), (.ref b76)]))
  obtain ⟨cl78, Ar78, sa78, ha78⟩ := id V76
  obtain ⟨T78, h78, X78, e78, W78, st78⟩ := stC X77 hx hZ e77 Ar78 (j := (x5 &&& (3 : Int32))) (inb_of sa78 (own_ix0 x5)) (g := (mkF m 173 #[.val (.int x0), .val (.int x1), .val (.int x2), .val (.long y3), .second, .val (.int x4), .val (.int x5), .val (.int (own_v0_1 x0)), .val (.int (own_v0_2 x1)), .val (.int (own_v0_3 x1)), .val (.int (own_v0_4 x2)), .val (.int (own_v0_5 x2)), .val (.int (own_v0_6 y3)), .val (.long (own_v0_7 y3)), .second, .val (.int (x4 &&& (63 : Int32))), .val (.int (own_v0_8 x4)), .val (.int (x5 &&& (3 : Int32))), .val (.int (own_v0_9 x5)), .val (.int (own_j0_1 x5)), .val (.int (own_v0_10 x5)), .val (.ref b76), .val (.int (x5 &&& (3 : Int32))), .unset, .unset, .unset, .unset] [(.int (own_f1 ((own_v0_1 x0).toInt64) (1000 : Int64))), (.int (x5 &&& (3 : Int32))), (.ref b76)])) rfl rfl (hb hby at_173)
  have V78 : own_Tab Z h78 b76 (32 : Int32) (own_G0_1 x0 x5) := own_Tab.set Ar78 sa78 ha78 W78 (own_ix0 x5)
  have N78 := Fr.snoc X78 N77 g_b76
  refine own_go st78 ?_
  show own_Goes p e below _ (T78.setTop (mkF m 174 #[.val (.int x0), .val (.int x1), .val (.int x2), .val (.long y3), .second, .val (.int x4), .val (.int x5), .val (.int (own_v0_1 x0)), .val (.int (own_v0_2 x1)), .val (.int (own_v0_3 x1)), .val (.int (own_v0_4 x2)), .val (.int (own_v0_5 x2)), .val (.int (own_v0_6 y3)), .val (.long (own_v0_7 y3)), .second, .val (.int (x4 &&& (63 : Int32))), .val (.int (own_v0_8 x4)), .val (.int (x5 &&& (3 : Int32))), .val (.int (own_v0_9 x5)), .val (.int (own_j0_1 x5)), .val (.int (own_v0_10 x5)), .val (.ref b76), .val (.int (x5 &&& (3 : Int32))), .unset, .unset, .unset, .unset] []))
  refine own_go (fun t k => XS.aload X78.here hx rfl (hb hby at_174) rfl rfl k) ?_
  show own_Goes p e below _ (T78.setTop (mkF m 176 #[.val (.int x0), .val (.int x1), .val (.int x2), .val (.long y3), .second, .val (.int x4), .val (.int x5), .val (.int (own_v0_1 x0)), .val (.int (own_v0_2 x1)), .val (.int (own_v0_3 x1)), .val (.int (own_v0_4 x2)), .val (.int (own_v0_5 x2)), .val (.int (own_v0_6 y3)), .val (.long (own_v0_7 y3)), .second, .val (.int (x4 &&& (63 : Int32))), .val (.int (own_v0_8 x4)), .val (.int (x5 &&& (3 : Int32))), .val (.int (own_v0_9 x5)), .val (.int (own_j0_1 x5)), .val (.int (own_v0_10 x5)), .val (.ref b76), .val (.int (x5 &&& (3 : Int32))), .unset, .unset, .unset, .unset] [(.ref b76)]))
  refine own_go (fun t k => XS.iload X78.here hx rfl (hb hby at_176) rfl k) ?_
  show own_Goes p e below _ (T78.setTop (mkF m 178 #[.val (.int x0), .val (.int x1), .val (.int x2), .val (.long y3), .second, .val (.int x4), .val (.int x5), .val (.int (own_v0_1 x0)), .val (.int (own_v0_2 x1)), .val (.int (own_v0_3 x1)), .val (.int (own_v0_4 x2)), .val (.int (own_v0_5 x2)), .val (.int (own_v0_6 y3)), .val (.long (own_v0_7 y3)), .second, .val (.int (x4 &&& (63 : Int32))), .val (.int (own_v0_8 x4)), .val (.int (x5 &&& (3 : Int32))), .val (.int (own_v0_9 x5)), .val (.int (own_j0_1 x5)), .val (.int (own_v0_10 x5)), .val (.ref b76), .val (.int (x5 &&& (3 : Int32))), .unset, .unset, .unset, .unset] [(.int (x5 &&& (3 : Int32))), (.ref b76)]))
  refine own_go (fun t k => XS.iconst X78.here hx rfl (hb hby at_178) k) ?_
  show own_Goes p e below _ (T78.setTop (mkF m 179 #[.val (.int x0), .val (.int x1), .val (.int x2), .val (.long y3), .second, .val (.int x4), .val (.int x5), .val (.int (own_v0_1 x0)), .val (.int (own_v0_2 x1)), .val (.int (own_v0_3 x1)), .val (.int (own_v0_4 x2)), .val (.int (own_v0_5 x2)), .val (.int (own_v0_6 y3)), .val (.long (own_v0_7 y3)), .second, .val (.int (x4 &&& (63 : Int32))), .val (.int (own_v0_8 x4)), .val (.int (x5 &&& (3 : Int32))), .val (.int (own_v0_9 x5)), .val (.int (own_j0_1 x5)), .val (.int (own_v0_10 x5)), .val (.ref b76), .val (.int (x5 &&& (3 : Int32))), .unset, .unset, .unset, .unset] [(.int (1 : Int32)), (.int (x5 &&& (3 : Int32))), (.ref b76)]))
  refine own_go (fun t k => XS.iadd X78.here hx rfl (hb hby at_179) rfl k) ?_
  show own_Goes p e below _ (T78.setTop (mkF m 180 #[.val (.int x0), .val (.int x1), .val (.int x2), .val (.long y3), .second, .val (.int x4), .val (.int x5), .val (.int (own_v0_1 x0)), .val (.int (own_v0_2 x1)), .val (.int (own_v0_3 x1)), .val (.int (own_v0_4 x2)), .val (.int (own_v0_5 x2)), .val (.int (own_v0_6 y3)), .val (.long (own_v0_7 y3)), .second, .val (.int (x4 &&& (63 : Int32))), .val (.int (own_v0_8 x4)), .val (.int (x5 &&& (3 : Int32))), .val (.int (own_v0_9 x5)), .val (.int (own_j0_1 x5)), .val (.int (own_v0_10 x5)), .val (.ref b76), .val (.int (x5 &&& (3 : Int32))), .unset, .unset, .unset, .unset] [(.int ((x5 &&& (3 : Int32)) + (1 : Int32))), (.ref b76)]))
  refine own_go (fun t k => XS.iload X78.here hx rfl (hb hby at_180) rfl k) ?_
  show own_Goes p e below _ (T78.setTop (mkF m 182 #[.val (.int x0), .val (.int x1), .val (.int x2), .val (.long y3), .second, .val (.int x4), .val (.int x5), .val (.int (own_v0_1 x0)), .val (.int (own_v0_2 x1)), .val (.int (own_v0_3 x1)), .val (.int (own_v0_4 x2)), .val (.int (own_v0_5 x2)), .val (.int (own_v0_6 y3)), .val (.long (own_v0_7 y3)), .second, .val (.int (x4 &&& (63 : Int32))), .val (.int (own_v0_8 x4)), .val (.int (x5 &&& (3 : Int32))), .val (.int (own_v0_9 x5)), .val (.int (own_j0_1 x5)), .val (.int (own_v0_10 x5)), .val (.ref b76), .val (.int (x5 &&& (3 : Int32))), .unset, .unset, .unset, .unset] [(.int (own_v0_1 x0)), (.int ((x5 &&& (3 : Int32)) + (1 : Int32))), (.ref b76)]))
  refine own_go (fun t k => XS.i2l X78.here hx rfl (hb hby at_182) rfl k) ?_
  show own_Goes p e below _ (T78.setTop (mkF m 183 #[.val (.int x0), .val (.int x1), .val (.int x2), .val (.long y3), .second, .val (.int x4), .val (.int x5), .val (.int (own_v0_1 x0)), .val (.int (own_v0_2 x1)), .val (.int (own_v0_3 x1)), .val (.int (own_v0_4 x2)), .val (.int (own_v0_5 x2)), .val (.int (own_v0_6 y3)), .val (.long (own_v0_7 y3)), .second, .val (.int (x4 &&& (63 : Int32))), .val (.int (own_v0_8 x4)), .val (.int (x5 &&& (3 : Int32))), .val (.int (own_v0_9 x5)), .val (.int (own_j0_1 x5)), .val (.int (own_v0_10 x5)), .val (.ref b76), .val (.int (x5 &&& (3 : Int32))), .unset, .unset, .unset, .unset] [(.long ((own_v0_1 x0).toInt64)), (.int ((x5 &&& (3 : Int32)) + (1 : Int32))), (.ref b76)]))
  refine own_go (fun t k => X78.ldc2Long hx hown (mvT hZ (hw _ own_t3)) (g := (mkF m 183 #[.val (.int x0), .val (.int x1), .val (.int x2), .val (.long y3), .second, .val (.int x4), .val (.int x5), .val (.int (own_v0_1 x0)), .val (.int (own_v0_2 x1)), .val (.int (own_v0_3 x1)), .val (.int (own_v0_4 x2)), .val (.int (own_v0_5 x2)), .val (.int (own_v0_6 y3)), .val (.long (own_v0_7 y3)), .second, .val (.int (x4 &&& (63 : Int32))), .val (.int (own_v0_8 x4)), .val (.int (x5 &&& (3 : Int32))), .val (.int (own_v0_9 x5)), .val (.int (own_j0_1 x5)), .val (.int (own_v0_10 x5)), .val (.ref b76), .val (.int (x5 &&& (3 : Int32))), .unset, .unset, .unset, .unset] [(.long ((own_v0_1 x0).toInt64)), (.int ((x5 &&& (3 : Int32)) + (1 : Int32))), (.ref b76)])) rfl (hb hby at_183) t k) ?_
  show own_Goes p e below _ (T78.setTop (mkF m 186 #[.val (.int x0), .val (.int x1), .val (.int x2), .val (.long y3), .second, .val (.int x4), .val (.int x5), .val (.int (own_v0_1 x0)), .val (.int (own_v0_2 x1)), .val (.int (own_v0_3 x1)), .val (.int (own_v0_4 x2)), .val (.int (own_v0_5 x2)), .val (.int (own_v0_6 y3)), .val (.long (own_v0_7 y3)), .second, .val (.int (x4 &&& (63 : Int32))), .val (.int (own_v0_8 x4)), .val (.int (x5 &&& (3 : Int32))), .val (.int (own_v0_9 x5)), .val (.int (own_j0_1 x5)), .val (.int (own_v0_10 x5)), .val (.ref b76), .val (.int (x5 &&& (3 : Int32))), .unset, .unset, .unset, .unset] [(.long (100 : Int64)), (.long ((own_v0_1 x0).toInt64)), (.int ((x5 &&& (3 : Int32)) + (1 : Int32))), (.ref b76)]))
  obtain ⟨_, T79, L79, X79, ⟨rfl, N79q, e79⟩, st79⟩ := own_callS X78 hx hZ hown (hw _ own_t7) (hw _ own_t8) (hw _ own_t9) (hw _ own_t10) (by decide) (as := [(.long ((own_v0_1 x0).toInt64)), (.long (100 : Int64))]) (rm1 l Z a0 hw [] ((own_v0_1 x0).toInt64) (100 : Int64) h78 n0 (by decide)) e78 own_pd2 rfl (pc := 186) (Ls := #[.val (.int x0), .val (.int x1), .val (.int x2), .val (.long y3), .second, .val (.int x4), .val (.int x5), .val (.int (own_v0_1 x0)), .val (.int (own_v0_2 x1)), .val (.int (own_v0_3 x1)), .val (.int (own_v0_4 x2)), .val (.int (own_v0_5 x2)), .val (.int (own_v0_6 y3)), .val (.long (own_v0_7 y3)), .second, .val (.int (x4 &&& (63 : Int32))), .val (.int (own_v0_8 x4)), .val (.int (x5 &&& (3 : Int32))), .val (.int (own_v0_9 x5)), .val (.int (own_j0_1 x5)), .val (.int (own_v0_10 x5)), .val (.ref b76), .val (.int (x5 &&& (3 : Int32))), .unset, .unset, .unset, .unset]) (rest := [(.int ((x5 &&& (3 : Int32)) + (1 : Int32))), (.ref b76)]) (W := 2) (by rw [hml]; rfl) (Nat.le_of_eq rfl) (by decide) (by decide) (hb hby at_186) (by decide) (by decide)
  have N79 := Fr.app N78 N79q
  refine own_go st79 ?_
  show own_Goes p e below _ (T79.setTop (mkF m 189 #[.val (.int x0), .val (.int x1), .val (.int x2), .val (.long y3), .second, .val (.int x4), .val (.int x5), .val (.int (own_v0_1 x0)), .val (.int (own_v0_2 x1)), .val (.int (own_v0_3 x1)), .val (.int (own_v0_4 x2)), .val (.int (own_v0_5 x2)), .val (.int (own_v0_6 y3)), .val (.long (own_v0_7 y3)), .second, .val (.int (x4 &&& (63 : Int32))), .val (.int (own_v0_8 x4)), .val (.int (x5 &&& (3 : Int32))), .val (.int (own_v0_9 x5)), .val (.int (own_j0_1 x5)), .val (.int (own_v0_10 x5)), .val (.ref b76), .val (.int (x5 &&& (3 : Int32))), .unset, .unset, .unset, .unset] [(.int (own_f1 ((own_v0_1 x0).toInt64) (100 : Int64))), (.int ((x5 &&& (3 : Int32)) + (1 : Int32))), (.ref b76)]))
  obtain ⟨cl80, Ar80, sa80, ha80⟩ := id V78
  obtain ⟨T80, h80, X80, e80, W80, st80⟩ := stC X79 hx hZ e79 Ar80 (j := ((x5 &&& (3 : Int32)) + (1 : Int32))) (inb_of sa80 (own_ix x5 1)) (g := (mkF m 189 #[.val (.int x0), .val (.int x1), .val (.int x2), .val (.long y3), .second, .val (.int x4), .val (.int x5), .val (.int (own_v0_1 x0)), .val (.int (own_v0_2 x1)), .val (.int (own_v0_3 x1)), .val (.int (own_v0_4 x2)), .val (.int (own_v0_5 x2)), .val (.int (own_v0_6 y3)), .val (.long (own_v0_7 y3)), .second, .val (.int (x4 &&& (63 : Int32))), .val (.int (own_v0_8 x4)), .val (.int (x5 &&& (3 : Int32))), .val (.int (own_v0_9 x5)), .val (.int (own_j0_1 x5)), .val (.int (own_v0_10 x5)), .val (.ref b76), .val (.int (x5 &&& (3 : Int32))), .unset, .unset, .unset, .unset] [(.int (own_f1 ((own_v0_1 x0).toInt64) (100 : Int64))), (.int ((x5 &&& (3 : Int32)) + (1 : Int32))), (.ref b76)])) rfl rfl (hb hby at_189)
  have V80 : own_Tab Z h80 b76 (32 : Int32) (own_G0_2 x0 x5) := own_Tab.set Ar80 sa80 ha80 W80 (own_ix x5 1)
  have N80 := Fr.snoc X80 N79 g_b76
  refine own_go st80 ?_
  show own_Goes p e below _ (T80.setTop (mkF m 190 #[.val (.int x0), .val (.int x1), .val (.int x2), .val (.long y3), .second, .val (.int x4), .val (.int x5), .val (.int (own_v0_1 x0)), .val (.int (own_v0_2 x1)), .val (.int (own_v0_3 x1)), .val (.int (own_v0_4 x2)), .val (.int (own_v0_5 x2)), .val (.int (own_v0_6 y3)), .val (.long (own_v0_7 y3)), .second, .val (.int (x4 &&& (63 : Int32))), .val (.int (own_v0_8 x4)), .val (.int (x5 &&& (3 : Int32))), .val (.int (own_v0_9 x5)), .val (.int (own_j0_1 x5)), .val (.int (own_v0_10 x5)), .val (.ref b76), .val (.int (x5 &&& (3 : Int32))), .unset, .unset, .unset, .unset] []))
  refine own_go (fun t k => XS.aload X80.here hx rfl (hb hby at_190) rfl rfl k) ?_
  show own_Goes p e below _ (T80.setTop (mkF m 192 #[.val (.int x0), .val (.int x1), .val (.int x2), .val (.long y3), .second, .val (.int x4), .val (.int x5), .val (.int (own_v0_1 x0)), .val (.int (own_v0_2 x1)), .val (.int (own_v0_3 x1)), .val (.int (own_v0_4 x2)), .val (.int (own_v0_5 x2)), .val (.int (own_v0_6 y3)), .val (.long (own_v0_7 y3)), .second, .val (.int (x4 &&& (63 : Int32))), .val (.int (own_v0_8 x4)), .val (.int (x5 &&& (3 : Int32))), .val (.int (own_v0_9 x5)), .val (.int (own_j0_1 x5)), .val (.int (own_v0_10 x5)), .val (.ref b76), .val (.int (x5 &&& (3 : Int32))), .unset, .unset, .unset, .unset] [(.ref b76)]))
  refine own_go (fun t k => XS.iload X80.here hx rfl (hb hby at_192) rfl k) ?_
  show own_Goes p e below _ (T80.setTop (mkF m 194 #[.val (.int x0), .val (.int x1), .val (.int x2), .val (.long y3), .second, .val (.int x4), .val (.int x5), .val (.int (own_v0_1 x0)), .val (.int (own_v0_2 x1)), .val (.int (own_v0_3 x1)), .val (.int (own_v0_4 x2)), .val (.int (own_v0_5 x2)), .val (.int (own_v0_6 y3)), .val (.long (own_v0_7 y3)), .second, .val (.int (x4 &&& (63 : Int32))), .val (.int (own_v0_8 x4)), .val (.int (x5 &&& (3 : Int32))), .val (.int (own_v0_9 x5)), .val (.int (own_j0_1 x5)), .val (.int (own_v0_10 x5)), .val (.ref b76), .val (.int (x5 &&& (3 : Int32))), .unset, .unset, .unset, .unset] [(.int (x5 &&& (3 : Int32))), (.ref b76)]))
  refine own_go (fun t k => XS.iconst X80.here hx rfl (hb hby at_194) k) ?_
  show own_Goes p e below _ (T80.setTop (mkF m 195 #[.val (.int x0), .val (.int x1), .val (.int x2), .val (.long y3), .second, .val (.int x4), .val (.int x5), .val (.int (own_v0_1 x0)), .val (.int (own_v0_2 x1)), .val (.int (own_v0_3 x1)), .val (.int (own_v0_4 x2)), .val (.int (own_v0_5 x2)), .val (.int (own_v0_6 y3)), .val (.long (own_v0_7 y3)), .second, .val (.int (x4 &&& (63 : Int32))), .val (.int (own_v0_8 x4)), .val (.int (x5 &&& (3 : Int32))), .val (.int (own_v0_9 x5)), .val (.int (own_j0_1 x5)), .val (.int (own_v0_10 x5)), .val (.ref b76), .val (.int (x5 &&& (3 : Int32))), .unset, .unset, .unset, .unset] [(.int (2 : Int32)), (.int (x5 &&& (3 : Int32))), (.ref b76)]))
  refine own_go (fun t k => XS.iadd X80.here hx rfl (hb hby at_195) rfl k) ?_
  show own_Goes p e below _ (T80.setTop (mkF m 196 #[.val (.int x0), .val (.int x1), .val (.int x2), .val (.long y3), .second, .val (.int x4), .val (.int x5), .val (.int (own_v0_1 x0)), .val (.int (own_v0_2 x1)), .val (.int (own_v0_3 x1)), .val (.int (own_v0_4 x2)), .val (.int (own_v0_5 x2)), .val (.int (own_v0_6 y3)), .val (.long (own_v0_7 y3)), .second, .val (.int (x4 &&& (63 : Int32))), .val (.int (own_v0_8 x4)), .val (.int (x5 &&& (3 : Int32))), .val (.int (own_v0_9 x5)), .val (.int (own_j0_1 x5)), .val (.int (own_v0_10 x5)), .val (.ref b76), .val (.int (x5 &&& (3 : Int32))), .unset, .unset, .unset, .unset] [(.int ((x5 &&& (3 : Int32)) + (2 : Int32))), (.ref b76)]))
  refine own_go (fun t k => XS.iload X80.here hx rfl (hb hby at_196) rfl k) ?_
  show own_Goes p e below _ (T80.setTop (mkF m 198 #[.val (.int x0), .val (.int x1), .val (.int x2), .val (.long y3), .second, .val (.int x4), .val (.int x5), .val (.int (own_v0_1 x0)), .val (.int (own_v0_2 x1)), .val (.int (own_v0_3 x1)), .val (.int (own_v0_4 x2)), .val (.int (own_v0_5 x2)), .val (.int (own_v0_6 y3)), .val (.long (own_v0_7 y3)), .second, .val (.int (x4 &&& (63 : Int32))), .val (.int (own_v0_8 x4)), .val (.int (x5 &&& (3 : Int32))), .val (.int (own_v0_9 x5)), .val (.int (own_j0_1 x5)), .val (.int (own_v0_10 x5)), .val (.ref b76), .val (.int (x5 &&& (3 : Int32))), .unset, .unset, .unset, .unset] [(.int (own_v0_1 x0)), (.int ((x5 &&& (3 : Int32)) + (2 : Int32))), (.ref b76)]))
  refine own_go (fun t k => XS.i2l X80.here hx rfl (hb hby at_198) rfl k) ?_
  show own_Goes p e below _ (T80.setTop (mkF m 199 #[.val (.int x0), .val (.int x1), .val (.int x2), .val (.long y3), .second, .val (.int x4), .val (.int x5), .val (.int (own_v0_1 x0)), .val (.int (own_v0_2 x1)), .val (.int (own_v0_3 x1)), .val (.int (own_v0_4 x2)), .val (.int (own_v0_5 x2)), .val (.int (own_v0_6 y3)), .val (.long (own_v0_7 y3)), .second, .val (.int (x4 &&& (63 : Int32))), .val (.int (own_v0_8 x4)), .val (.int (x5 &&& (3 : Int32))), .val (.int (own_v0_9 x5)), .val (.int (own_j0_1 x5)), .val (.int (own_v0_10 x5)), .val (.ref b76), .val (.int (x5 &&& (3 : Int32))), .unset, .unset, .unset, .unset] [(.long ((own_v0_1 x0).toInt64)), (.int ((x5 &&& (3 : Int32)) + (2 : Int32))), (.ref b76)]))
  refine own_go (fun t k => X80.ldc2Long hx hown (mvT hZ (hw _ own_t11)) (g := (mkF m 199 #[.val (.int x0), .val (.int x1), .val (.int x2), .val (.long y3), .second, .val (.int x4), .val (.int x5), .val (.int (own_v0_1 x0)), .val (.int (own_v0_2 x1)), .val (.int (own_v0_3 x1)), .val (.int (own_v0_4 x2)), .val (.int (own_v0_5 x2)), .val (.int (own_v0_6 y3)), .val (.long (own_v0_7 y3)), .second, .val (.int (x4 &&& (63 : Int32))), .val (.int (own_v0_8 x4)), .val (.int (x5 &&& (3 : Int32))), .val (.int (own_v0_9 x5)), .val (.int (own_j0_1 x5)), .val (.int (own_v0_10 x5)), .val (.ref b76), .val (.int (x5 &&& (3 : Int32))), .unset, .unset, .unset, .unset] [(.long ((own_v0_1 x0).toInt64)), (.int ((x5 &&& (3 : Int32)) + (2 : Int32))), (.ref b76)])) rfl (hb hby at_199) t k) ?_
  show own_Goes p e below _ (T80.setTop (mkF m 202 #[.val (.int x0), .val (.int x1), .val (.int x2), .val (.long y3), .second, .val (.int x4), .val (.int x5), .val (.int (own_v0_1 x0)), .val (.int (own_v0_2 x1)), .val (.int (own_v0_3 x1)), .val (.int (own_v0_4 x2)), .val (.int (own_v0_5 x2)), .val (.int (own_v0_6 y3)), .val (.long (own_v0_7 y3)), .second, .val (.int (x4 &&& (63 : Int32))), .val (.int (own_v0_8 x4)), .val (.int (x5 &&& (3 : Int32))), .val (.int (own_v0_9 x5)), .val (.int (own_j0_1 x5)), .val (.int (own_v0_10 x5)), .val (.ref b76), .val (.int (x5 &&& (3 : Int32))), .unset, .unset, .unset, .unset] [(.long (10 : Int64)), (.long ((own_v0_1 x0).toInt64)), (.int ((x5 &&& (3 : Int32)) + (2 : Int32))), (.ref b76)]))
  obtain ⟨_, T81, L81, X81, ⟨rfl, N81q, e81⟩, st81⟩ := own_callS X80 hx hZ hown (hw _ own_t7) (hw _ own_t8) (hw _ own_t9) (hw _ own_t10) (by decide) (as := [(.long ((own_v0_1 x0).toInt64)), (.long (10 : Int64))]) (rm1 l Z a0 hw [] ((own_v0_1 x0).toInt64) (10 : Int64) h80 n0 (by decide)) e80 own_pd2 rfl (pc := 202) (Ls := #[.val (.int x0), .val (.int x1), .val (.int x2), .val (.long y3), .second, .val (.int x4), .val (.int x5), .val (.int (own_v0_1 x0)), .val (.int (own_v0_2 x1)), .val (.int (own_v0_3 x1)), .val (.int (own_v0_4 x2)), .val (.int (own_v0_5 x2)), .val (.int (own_v0_6 y3)), .val (.long (own_v0_7 y3)), .second, .val (.int (x4 &&& (63 : Int32))), .val (.int (own_v0_8 x4)), .val (.int (x5 &&& (3 : Int32))), .val (.int (own_v0_9 x5)), .val (.int (own_j0_1 x5)), .val (.int (own_v0_10 x5)), .val (.ref b76), .val (.int (x5 &&& (3 : Int32))), .unset, .unset, .unset, .unset]) (rest := [(.int ((x5 &&& (3 : Int32)) + (2 : Int32))), (.ref b76)]) (W := 2) (by rw [hml]; rfl) (Nat.le_of_eq rfl) (by decide) (by decide) (hb hby at_202) (by decide) (by decide)
  have N81 := Fr.app N80 N81q
  refine own_go st81 ?_
  show own_Goes p e below _ (T81.setTop (mkF m 205 #[.val (.int x0), .val (.int x1), .val (.int x2), .val (.long y3), .second, .val (.int x4), .val (.int x5), .val (.int (own_v0_1 x0)), .val (.int (own_v0_2 x1)), .val (.int (own_v0_3 x1)), .val (.int (own_v0_4 x2)), .val (.int (own_v0_5 x2)), .val (.int (own_v0_6 y3)), .val (.long (own_v0_7 y3)), .second, .val (.int (x4 &&& (63 : Int32))), .val (.int (own_v0_8 x4)), .val (.int (x5 &&& (3 : Int32))), .val (.int (own_v0_9 x5)), .val (.int (own_j0_1 x5)), .val (.int (own_v0_10 x5)), .val (.ref b76), .val (.int (x5 &&& (3 : Int32))), .unset, .unset, .unset, .unset] [(.int (own_f1 ((own_v0_1 x0).toInt64) (10 : Int64))), (.int ((x5 &&& (3 : Int32)) + (2 : Int32))), (.ref b76)]))
  obtain ⟨cl82, Ar82, sa82, ha82⟩ := id V80
  obtain ⟨T82, h82, X82, e82, W82, st82⟩ := stC X81 hx hZ e81 Ar82 (j := ((x5 &&& (3 : Int32)) + (2 : Int32))) (inb_of sa82 (own_ix x5 2)) (g := (mkF m 205 #[.val (.int x0), .val (.int x1), .val (.int x2), .val (.long y3), .second, .val (.int x4), .val (.int x5), .val (.int (own_v0_1 x0)), .val (.int (own_v0_2 x1)), .val (.int (own_v0_3 x1)), .val (.int (own_v0_4 x2)), .val (.int (own_v0_5 x2)), .val (.int (own_v0_6 y3)), .val (.long (own_v0_7 y3)), .second, .val (.int (x4 &&& (63 : Int32))), .val (.int (own_v0_8 x4)), .val (.int (x5 &&& (3 : Int32))), .val (.int (own_v0_9 x5)), .val (.int (own_j0_1 x5)), .val (.int (own_v0_10 x5)), .val (.ref b76), .val (.int (x5 &&& (3 : Int32))), .unset, .unset, .unset, .unset] [(.int (own_f1 ((own_v0_1 x0).toInt64) (10 : Int64))), (.int ((x5 &&& (3 : Int32)) + (2 : Int32))), (.ref b76)])) rfl rfl (hb hby at_205)
  have V82 : own_Tab Z h82 b76 (32 : Int32) (own_G0_3 x0 x5) := own_Tab.set Ar82 sa82 ha82 W82 (own_ix x5 2)
  have N82 := Fr.snoc X82 N81 g_b76
  refine own_go st82 ?_
  show own_Goes p e below _ (T82.setTop (mkF m 206 #[.val (.int x0), .val (.int x1), .val (.int x2), .val (.long y3), .second, .val (.int x4), .val (.int x5), .val (.int (own_v0_1 x0)), .val (.int (own_v0_2 x1)), .val (.int (own_v0_3 x1)), .val (.int (own_v0_4 x2)), .val (.int (own_v0_5 x2)), .val (.int (own_v0_6 y3)), .val (.long (own_v0_7 y3)), .second, .val (.int (x4 &&& (63 : Int32))), .val (.int (own_v0_8 x4)), .val (.int (x5 &&& (3 : Int32))), .val (.int (own_v0_9 x5)), .val (.int (own_j0_1 x5)), .val (.int (own_v0_10 x5)), .val (.ref b76), .val (.int (x5 &&& (3 : Int32))), .unset, .unset, .unset, .unset] []))
  refine own_go (fun t k => XS.aload X82.here hx rfl (hb hby at_206) rfl rfl k) ?_
  show own_Goes p e below _ (T82.setTop (mkF m 208 #[.val (.int x0), .val (.int x1), .val (.int x2), .val (.long y3), .second, .val (.int x4), .val (.int x5), .val (.int (own_v0_1 x0)), .val (.int (own_v0_2 x1)), .val (.int (own_v0_3 x1)), .val (.int (own_v0_4 x2)), .val (.int (own_v0_5 x2)), .val (.int (own_v0_6 y3)), .val (.long (own_v0_7 y3)), .second, .val (.int (x4 &&& (63 : Int32))), .val (.int (own_v0_8 x4)), .val (.int (x5 &&& (3 : Int32))), .val (.int (own_v0_9 x5)), .val (.int (own_j0_1 x5)), .val (.int (own_v0_10 x5)), .val (.ref b76), .val (.int (x5 &&& (3 : Int32))), .unset, .unset, .unset, .unset] [(.ref b76)]))
  refine own_go (fun t k => XS.iload X82.here hx rfl (hb hby at_208) rfl k) ?_
  show own_Goes p e below _ (T82.setTop (mkF m 210 #[.val (.int x0), .val (.int x1), .val (.int x2), .val (.long y3), .second, .val (.int x4), .val (.int x5), .val (.int (own_v0_1 x0)), .val (.int (own_v0_2 x1)), .val (.int (own_v0_3 x1)), .val (.int (own_v0_4 x2)), .val (.int (own_v0_5 x2)), .val (.int (own_v0_6 y3)), .val (.long (own_v0_7 y3)), .second, .val (.int (x4 &&& (63 : Int32))), .val (.int (own_v0_8 x4)), .val (.int (x5 &&& (3 : Int32))), .val (.int (own_v0_9 x5)), .val (.int (own_j0_1 x5)), .val (.int (own_v0_10 x5)), .val (.ref b76), .val (.int (x5 &&& (3 : Int32))), .unset, .unset, .unset, .unset] [(.int (x5 &&& (3 : Int32))), (.ref b76)]))
  refine own_go (fun t k => XS.iconst X82.here hx rfl (hb hby at_210) k) ?_
  show own_Goes p e below _ (T82.setTop (mkF m 211 #[.val (.int x0), .val (.int x1), .val (.int x2), .val (.long y3), .second, .val (.int x4), .val (.int x5), .val (.int (own_v0_1 x0)), .val (.int (own_v0_2 x1)), .val (.int (own_v0_3 x1)), .val (.int (own_v0_4 x2)), .val (.int (own_v0_5 x2)), .val (.int (own_v0_6 y3)), .val (.long (own_v0_7 y3)), .second, .val (.int (x4 &&& (63 : Int32))), .val (.int (own_v0_8 x4)), .val (.int (x5 &&& (3 : Int32))), .val (.int (own_v0_9 x5)), .val (.int (own_j0_1 x5)), .val (.int (own_v0_10 x5)), .val (.ref b76), .val (.int (x5 &&& (3 : Int32))), .unset, .unset, .unset, .unset] [(.int (3 : Int32)), (.int (x5 &&& (3 : Int32))), (.ref b76)]))
  refine own_go (fun t k => XS.iadd X82.here hx rfl (hb hby at_211) rfl k) ?_
  show own_Goes p e below _ (T82.setTop (mkF m 212 #[.val (.int x0), .val (.int x1), .val (.int x2), .val (.long y3), .second, .val (.int x4), .val (.int x5), .val (.int (own_v0_1 x0)), .val (.int (own_v0_2 x1)), .val (.int (own_v0_3 x1)), .val (.int (own_v0_4 x2)), .val (.int (own_v0_5 x2)), .val (.int (own_v0_6 y3)), .val (.long (own_v0_7 y3)), .second, .val (.int (x4 &&& (63 : Int32))), .val (.int (own_v0_8 x4)), .val (.int (x5 &&& (3 : Int32))), .val (.int (own_v0_9 x5)), .val (.int (own_j0_1 x5)), .val (.int (own_v0_10 x5)), .val (.ref b76), .val (.int (x5 &&& (3 : Int32))), .unset, .unset, .unset, .unset] [(.int ((x5 &&& (3 : Int32)) + (3 : Int32))), (.ref b76)]))
  refine own_go (fun t k => XS.iload X82.here hx rfl (hb hby at_212) rfl k) ?_
  show own_Goes p e below _ (T82.setTop (mkF m 214 #[.val (.int x0), .val (.int x1), .val (.int x2), .val (.long y3), .second, .val (.int x4), .val (.int x5), .val (.int (own_v0_1 x0)), .val (.int (own_v0_2 x1)), .val (.int (own_v0_3 x1)), .val (.int (own_v0_4 x2)), .val (.int (own_v0_5 x2)), .val (.int (own_v0_6 y3)), .val (.long (own_v0_7 y3)), .second, .val (.int (x4 &&& (63 : Int32))), .val (.int (own_v0_8 x4)), .val (.int (x5 &&& (3 : Int32))), .val (.int (own_v0_9 x5)), .val (.int (own_j0_1 x5)), .val (.int (own_v0_10 x5)), .val (.ref b76), .val (.int (x5 &&& (3 : Int32))), .unset, .unset, .unset, .unset] [(.int (own_v0_1 x0)), (.int ((x5 &&& (3 : Int32)) + (3 : Int32))), (.ref b76)]))
  refine own_go (fun t k => XS.i2l X82.here hx rfl (hb hby at_214) rfl k) ?_
  show own_Goes p e below _ (T82.setTop (mkF m 215 #[.val (.int x0), .val (.int x1), .val (.int x2), .val (.long y3), .second, .val (.int x4), .val (.int x5), .val (.int (own_v0_1 x0)), .val (.int (own_v0_2 x1)), .val (.int (own_v0_3 x1)), .val (.int (own_v0_4 x2)), .val (.int (own_v0_5 x2)), .val (.int (own_v0_6 y3)), .val (.long (own_v0_7 y3)), .second, .val (.int (x4 &&& (63 : Int32))), .val (.int (own_v0_8 x4)), .val (.int (x5 &&& (3 : Int32))), .val (.int (own_v0_9 x5)), .val (.int (own_j0_1 x5)), .val (.int (own_v0_10 x5)), .val (.ref b76), .val (.int (x5 &&& (3 : Int32))), .unset, .unset, .unset, .unset] [(.long ((own_v0_1 x0).toInt64)), (.int ((x5 &&& (3 : Int32)) + (3 : Int32))), (.ref b76)]))
  refine own_go (fun t k => XS.lconst X82.here hx rfl (hb hby at_215) k) ?_
  show own_Goes p e below _ (T82.setTop (mkF m 216 #[.val (.int x0), .val (.int x1), .val (.int x2), .val (.long y3), .second, .val (.int x4), .val (.int x5), .val (.int (own_v0_1 x0)), .val (.int (own_v0_2 x1)), .val (.int (own_v0_3 x1)), .val (.int (own_v0_4 x2)), .val (.int (own_v0_5 x2)), .val (.int (own_v0_6 y3)), .val (.long (own_v0_7 y3)), .second, .val (.int (x4 &&& (63 : Int32))), .val (.int (own_v0_8 x4)), .val (.int (x5 &&& (3 : Int32))), .val (.int (own_v0_9 x5)), .val (.int (own_j0_1 x5)), .val (.int (own_v0_10 x5)), .val (.ref b76), .val (.int (x5 &&& (3 : Int32))), .unset, .unset, .unset, .unset] [(.long (1 : Int64)), (.long ((own_v0_1 x0).toInt64)), (.int ((x5 &&& (3 : Int32)) + (3 : Int32))), (.ref b76)]))
  obtain ⟨_, T83, L83, X83, ⟨rfl, N83q, e83⟩, st83⟩ := own_callS X82 hx hZ hown (hw _ own_t7) (hw _ own_t8) (hw _ own_t9) (hw _ own_t10) (by decide) (as := [(.long ((own_v0_1 x0).toInt64)), (.long (1 : Int64))]) (rm1 l Z a0 hw [] ((own_v0_1 x0).toInt64) (1 : Int64) h82 n0 (by decide)) e82 own_pd2 rfl (pc := 216) (Ls := #[.val (.int x0), .val (.int x1), .val (.int x2), .val (.long y3), .second, .val (.int x4), .val (.int x5), .val (.int (own_v0_1 x0)), .val (.int (own_v0_2 x1)), .val (.int (own_v0_3 x1)), .val (.int (own_v0_4 x2)), .val (.int (own_v0_5 x2)), .val (.int (own_v0_6 y3)), .val (.long (own_v0_7 y3)), .second, .val (.int (x4 &&& (63 : Int32))), .val (.int (own_v0_8 x4)), .val (.int (x5 &&& (3 : Int32))), .val (.int (own_v0_9 x5)), .val (.int (own_j0_1 x5)), .val (.int (own_v0_10 x5)), .val (.ref b76), .val (.int (x5 &&& (3 : Int32))), .unset, .unset, .unset, .unset]) (rest := [(.int ((x5 &&& (3 : Int32)) + (3 : Int32))), (.ref b76)]) (W := 2) (by rw [hml]; rfl) (Nat.le_of_eq rfl) (by decide) (by decide) (hb hby at_216) (by decide) (by decide)
  have N83 := Fr.app N82 N83q
  refine own_go st83 ?_
  show own_Goes p e below _ (T83.setTop (mkF m 219 #[.val (.int x0), .val (.int x1), .val (.int x2), .val (.long y3), .second, .val (.int x4), .val (.int x5), .val (.int (own_v0_1 x0)), .val (.int (own_v0_2 x1)), .val (.int (own_v0_3 x1)), .val (.int (own_v0_4 x2)), .val (.int (own_v0_5 x2)), .val (.int (own_v0_6 y3)), .val (.long (own_v0_7 y3)), .second, .val (.int (x4 &&& (63 : Int32))), .val (.int (own_v0_8 x4)), .val (.int (x5 &&& (3 : Int32))), .val (.int (own_v0_9 x5)), .val (.int (own_j0_1 x5)), .val (.int (own_v0_10 x5)), .val (.ref b76), .val (.int (x5 &&& (3 : Int32))), .unset, .unset, .unset, .unset] [(.int (own_f1 ((own_v0_1 x0).toInt64) (1 : Int64))), (.int ((x5 &&& (3 : Int32)) + (3 : Int32))), (.ref b76)]))
  obtain ⟨cl84, Ar84, sa84, ha84⟩ := id V82
  obtain ⟨T84, h84, X84, e84, W84, st84⟩ := stC X83 hx hZ e83 Ar84 (j := ((x5 &&& (3 : Int32)) + (3 : Int32))) (inb_of sa84 (own_ix x5 3)) (g := (mkF m 219 #[.val (.int x0), .val (.int x1), .val (.int x2), .val (.long y3), .second, .val (.int x4), .val (.int x5), .val (.int (own_v0_1 x0)), .val (.int (own_v0_2 x1)), .val (.int (own_v0_3 x1)), .val (.int (own_v0_4 x2)), .val (.int (own_v0_5 x2)), .val (.int (own_v0_6 y3)), .val (.long (own_v0_7 y3)), .second, .val (.int (x4 &&& (63 : Int32))), .val (.int (own_v0_8 x4)), .val (.int (x5 &&& (3 : Int32))), .val (.int (own_v0_9 x5)), .val (.int (own_j0_1 x5)), .val (.int (own_v0_10 x5)), .val (.ref b76), .val (.int (x5 &&& (3 : Int32))), .unset, .unset, .unset, .unset] [(.int (own_f1 ((own_v0_1 x0).toInt64) (1 : Int64))), (.int ((x5 &&& (3 : Int32)) + (3 : Int32))), (.ref b76)])) rfl rfl (hb hby at_219)
  have V84 : own_Tab Z h84 b76 (32 : Int32) (own_G0_4 x0 x5) := own_Tab.set Ar84 sa84 ha84 W84 (own_ix x5 3)
  have N84 := Fr.snoc X84 N83 g_b76
  refine own_go st84 ?_
  show own_Goes p e below _ (T84.setTop (mkF m 220 #[.val (.int x0), .val (.int x1), .val (.int x2), .val (.long y3), .second, .val (.int x4), .val (.int x5), .val (.int (own_v0_1 x0)), .val (.int (own_v0_2 x1)), .val (.int (own_v0_3 x1)), .val (.int (own_v0_4 x2)), .val (.int (own_v0_5 x2)), .val (.int (own_v0_6 y3)), .val (.long (own_v0_7 y3)), .second, .val (.int (x4 &&& (63 : Int32))), .val (.int (own_v0_8 x4)), .val (.int (x5 &&& (3 : Int32))), .val (.int (own_v0_9 x5)), .val (.int (own_j0_1 x5)), .val (.int (own_v0_10 x5)), .val (.ref b76), .val (.int (x5 &&& (3 : Int32))), .unset, .unset, .unset, .unset] []))
  refine own_go (fun t k => XS.aload X84.here hx rfl (hb hby at_220) rfl rfl k) ?_
  show own_Goes p e below _ (T84.setTop (mkF m 222 #[.val (.int x0), .val (.int x1), .val (.int x2), .val (.long y3), .second, .val (.int x4), .val (.int x5), .val (.int (own_v0_1 x0)), .val (.int (own_v0_2 x1)), .val (.int (own_v0_3 x1)), .val (.int (own_v0_4 x2)), .val (.int (own_v0_5 x2)), .val (.int (own_v0_6 y3)), .val (.long (own_v0_7 y3)), .second, .val (.int (x4 &&& (63 : Int32))), .val (.int (own_v0_8 x4)), .val (.int (x5 &&& (3 : Int32))), .val (.int (own_v0_9 x5)), .val (.int (own_j0_1 x5)), .val (.int (own_v0_10 x5)), .val (.ref b76), .val (.int (x5 &&& (3 : Int32))), .unset, .unset, .unset, .unset] [(.ref b76)]))
  refine own_go (fun t k => XS.iload X84.here hx rfl (hb hby at_222) rfl k) ?_
  show own_Goes p e below _ (T84.setTop (mkF m 224 #[.val (.int x0), .val (.int x1), .val (.int x2), .val (.long y3), .second, .val (.int x4), .val (.int x5), .val (.int (own_v0_1 x0)), .val (.int (own_v0_2 x1)), .val (.int (own_v0_3 x1)), .val (.int (own_v0_4 x2)), .val (.int (own_v0_5 x2)), .val (.int (own_v0_6 y3)), .val (.long (own_v0_7 y3)), .second, .val (.int (x4 &&& (63 : Int32))), .val (.int (own_v0_8 x4)), .val (.int (x5 &&& (3 : Int32))), .val (.int (own_v0_9 x5)), .val (.int (own_j0_1 x5)), .val (.int (own_v0_10 x5)), .val (.ref b76), .val (.int (x5 &&& (3 : Int32))), .unset, .unset, .unset, .unset] [(.int (x5 &&& (3 : Int32))), (.ref b76)]))
  refine own_go (fun t k => XS.iconst X84.here hx rfl (hb hby at_224) k) ?_
  show own_Goes p e below _ (T84.setTop (mkF m 225 #[.val (.int x0), .val (.int x1), .val (.int x2), .val (.long y3), .second, .val (.int x4), .val (.int x5), .val (.int (own_v0_1 x0)), .val (.int (own_v0_2 x1)), .val (.int (own_v0_3 x1)), .val (.int (own_v0_4 x2)), .val (.int (own_v0_5 x2)), .val (.int (own_v0_6 y3)), .val (.long (own_v0_7 y3)), .second, .val (.int (x4 &&& (63 : Int32))), .val (.int (own_v0_8 x4)), .val (.int (x5 &&& (3 : Int32))), .val (.int (own_v0_9 x5)), .val (.int (own_j0_1 x5)), .val (.int (own_v0_10 x5)), .val (.ref b76), .val (.int (x5 &&& (3 : Int32))), .unset, .unset, .unset, .unset] [(.int (4 : Int32)), (.int (x5 &&& (3 : Int32))), (.ref b76)]))
  refine own_go (fun t k => XS.iadd X84.here hx rfl (hb hby at_225) rfl k) ?_
  show own_Goes p e below _ (T84.setTop (mkF m 226 #[.val (.int x0), .val (.int x1), .val (.int x2), .val (.long y3), .second, .val (.int x4), .val (.int x5), .val (.int (own_v0_1 x0)), .val (.int (own_v0_2 x1)), .val (.int (own_v0_3 x1)), .val (.int (own_v0_4 x2)), .val (.int (own_v0_5 x2)), .val (.int (own_v0_6 y3)), .val (.long (own_v0_7 y3)), .second, .val (.int (x4 &&& (63 : Int32))), .val (.int (own_v0_8 x4)), .val (.int (x5 &&& (3 : Int32))), .val (.int (own_v0_9 x5)), .val (.int (own_j0_1 x5)), .val (.int (own_v0_10 x5)), .val (.ref b76), .val (.int (x5 &&& (3 : Int32))), .unset, .unset, .unset, .unset] [(.int ((x5 &&& (3 : Int32)) + (4 : Int32))), (.ref b76)]))
  refine own_go (fun t k => XS.bipush X84.here hx rfl (hb hby at_226) k) ?_
  show own_Goes p e below _ (T84.setTop (mkF m 228 #[.val (.int x0), .val (.int x1), .val (.int x2), .val (.long y3), .second, .val (.int x4), .val (.int x5), .val (.int (own_v0_1 x0)), .val (.int (own_v0_2 x1)), .val (.int (own_v0_3 x1)), .val (.int (own_v0_4 x2)), .val (.int (own_v0_5 x2)), .val (.int (own_v0_6 y3)), .val (.long (own_v0_7 y3)), .second, .val (.int (x4 &&& (63 : Int32))), .val (.int (own_v0_8 x4)), .val (.int (x5 &&& (3 : Int32))), .val (.int (own_v0_9 x5)), .val (.int (own_j0_1 x5)), .val (.int (own_v0_10 x5)), .val (.ref b76), .val (.int (x5 &&& (3 : Int32))), .unset, .unset, .unset, .unset] [(.int (45 : Int32)), (.int ((x5 &&& (3 : Int32)) + (4 : Int32))), (.ref b76)]))
  obtain ⟨cl85, Ar85, sa85, ha85⟩ := id V84
  obtain ⟨T85, h85, X85, e85, W85, st85⟩ := stC X84 hx hZ e84 Ar85 (j := ((x5 &&& (3 : Int32)) + (4 : Int32))) (inb_of sa85 (own_ix x5 4)) (g := (mkF m 228 #[.val (.int x0), .val (.int x1), .val (.int x2), .val (.long y3), .second, .val (.int x4), .val (.int x5), .val (.int (own_v0_1 x0)), .val (.int (own_v0_2 x1)), .val (.int (own_v0_3 x1)), .val (.int (own_v0_4 x2)), .val (.int (own_v0_5 x2)), .val (.int (own_v0_6 y3)), .val (.long (own_v0_7 y3)), .second, .val (.int (x4 &&& (63 : Int32))), .val (.int (own_v0_8 x4)), .val (.int (x5 &&& (3 : Int32))), .val (.int (own_v0_9 x5)), .val (.int (own_j0_1 x5)), .val (.int (own_v0_10 x5)), .val (.ref b76), .val (.int (x5 &&& (3 : Int32))), .unset, .unset, .unset, .unset] [(.int (45 : Int32)), (.int ((x5 &&& (3 : Int32)) + (4 : Int32))), (.ref b76)])) rfl rfl (hb hby at_228)
  have V85 : own_Tab Z h85 b76 (32 : Int32) (own_G0_5 x0 x5) := own_Tab.set Ar85 sa85 ha85 W85 (own_ix x5 4)
  have N85 := Fr.snoc X85 N84 g_b76
  refine own_go st85 ?_
  show own_Goes p e below _ (T85.setTop (mkF m 229 #[.val (.int x0), .val (.int x1), .val (.int x2), .val (.long y3), .second, .val (.int x4), .val (.int x5), .val (.int (own_v0_1 x0)), .val (.int (own_v0_2 x1)), .val (.int (own_v0_3 x1)), .val (.int (own_v0_4 x2)), .val (.int (own_v0_5 x2)), .val (.int (own_v0_6 y3)), .val (.long (own_v0_7 y3)), .second, .val (.int (x4 &&& (63 : Int32))), .val (.int (own_v0_8 x4)), .val (.int (x5 &&& (3 : Int32))), .val (.int (own_v0_9 x5)), .val (.int (own_j0_1 x5)), .val (.int (own_v0_10 x5)), .val (.ref b76), .val (.int (x5 &&& (3 : Int32))), .unset, .unset, .unset, .unset] []))
  refine own_go (fun t k => XS.aload X85.here hx rfl (hb hby at_229) rfl rfl k) ?_
  show own_Goes p e below _ (T85.setTop (mkF m 231 #[.val (.int x0), .val (.int x1), .val (.int x2), .val (.long y3), .second, .val (.int x4), .val (.int x5), .val (.int (own_v0_1 x0)), .val (.int (own_v0_2 x1)), .val (.int (own_v0_3 x1)), .val (.int (own_v0_4 x2)), .val (.int (own_v0_5 x2)), .val (.int (own_v0_6 y3)), .val (.long (own_v0_7 y3)), .second, .val (.int (x4 &&& (63 : Int32))), .val (.int (own_v0_8 x4)), .val (.int (x5 &&& (3 : Int32))), .val (.int (own_v0_9 x5)), .val (.int (own_j0_1 x5)), .val (.int (own_v0_10 x5)), .val (.ref b76), .val (.int (x5 &&& (3 : Int32))), .unset, .unset, .unset, .unset] [(.ref b76)]))
  refine own_go (fun t k => XS.iload X85.here hx rfl (hb hby at_231) rfl k) ?_
  show own_Goes p e below _ (T85.setTop (mkF m 233 #[.val (.int x0), .val (.int x1), .val (.int x2), .val (.long y3), .second, .val (.int x4), .val (.int x5), .val (.int (own_v0_1 x0)), .val (.int (own_v0_2 x1)), .val (.int (own_v0_3 x1)), .val (.int (own_v0_4 x2)), .val (.int (own_v0_5 x2)), .val (.int (own_v0_6 y3)), .val (.long (own_v0_7 y3)), .second, .val (.int (x4 &&& (63 : Int32))), .val (.int (own_v0_8 x4)), .val (.int (x5 &&& (3 : Int32))), .val (.int (own_v0_9 x5)), .val (.int (own_j0_1 x5)), .val (.int (own_v0_10 x5)), .val (.ref b76), .val (.int (x5 &&& (3 : Int32))), .unset, .unset, .unset, .unset] [(.int (x5 &&& (3 : Int32))), (.ref b76)]))
  refine own_go (fun t k => XS.iconst X85.here hx rfl (hb hby at_233) k) ?_
  show own_Goes p e below _ (T85.setTop (mkF m 234 #[.val (.int x0), .val (.int x1), .val (.int x2), .val (.long y3), .second, .val (.int x4), .val (.int x5), .val (.int (own_v0_1 x0)), .val (.int (own_v0_2 x1)), .val (.int (own_v0_3 x1)), .val (.int (own_v0_4 x2)), .val (.int (own_v0_5 x2)), .val (.int (own_v0_6 y3)), .val (.long (own_v0_7 y3)), .second, .val (.int (x4 &&& (63 : Int32))), .val (.int (own_v0_8 x4)), .val (.int (x5 &&& (3 : Int32))), .val (.int (own_v0_9 x5)), .val (.int (own_j0_1 x5)), .val (.int (own_v0_10 x5)), .val (.ref b76), .val (.int (x5 &&& (3 : Int32))), .unset, .unset, .unset, .unset] [(.int (5 : Int32)), (.int (x5 &&& (3 : Int32))), (.ref b76)]))
  refine own_go (fun t k => XS.iadd X85.here hx rfl (hb hby at_234) rfl k) ?_
  show own_Goes p e below _ (T85.setTop (mkF m 235 #[.val (.int x0), .val (.int x1), .val (.int x2), .val (.long y3), .second, .val (.int x4), .val (.int x5), .val (.int (own_v0_1 x0)), .val (.int (own_v0_2 x1)), .val (.int (own_v0_3 x1)), .val (.int (own_v0_4 x2)), .val (.int (own_v0_5 x2)), .val (.int (own_v0_6 y3)), .val (.long (own_v0_7 y3)), .second, .val (.int (x4 &&& (63 : Int32))), .val (.int (own_v0_8 x4)), .val (.int (x5 &&& (3 : Int32))), .val (.int (own_v0_9 x5)), .val (.int (own_j0_1 x5)), .val (.int (own_v0_10 x5)), .val (.ref b76), .val (.int (x5 &&& (3 : Int32))), .unset, .unset, .unset, .unset] [(.int ((x5 &&& (3 : Int32)) + (5 : Int32))), (.ref b76)]))
  refine own_go (fun t k => XS.iload X85.here hx rfl (hb hby at_235) rfl k) ?_
  show own_Goes p e below _ (T85.setTop (mkF m 237 #[.val (.int x0), .val (.int x1), .val (.int x2), .val (.long y3), .second, .val (.int x4), .val (.int x5), .val (.int (own_v0_1 x0)), .val (.int (own_v0_2 x1)), .val (.int (own_v0_3 x1)), .val (.int (own_v0_4 x2)), .val (.int (own_v0_5 x2)), .val (.int (own_v0_6 y3)), .val (.long (own_v0_7 y3)), .second, .val (.int (x4 &&& (63 : Int32))), .val (.int (own_v0_8 x4)), .val (.int (x5 &&& (3 : Int32))), .val (.int (own_v0_9 x5)), .val (.int (own_j0_1 x5)), .val (.int (own_v0_10 x5)), .val (.ref b76), .val (.int (x5 &&& (3 : Int32))), .unset, .unset, .unset, .unset] [(.int (own_v0_2 x1)), (.int ((x5 &&& (3 : Int32)) + (5 : Int32))), (.ref b76)]))
  refine own_go (fun t k => XS.i2l X85.here hx rfl (hb hby at_237) rfl k) ?_
  show own_Goes p e below _ (T85.setTop (mkF m 238 #[.val (.int x0), .val (.int x1), .val (.int x2), .val (.long y3), .second, .val (.int x4), .val (.int x5), .val (.int (own_v0_1 x0)), .val (.int (own_v0_2 x1)), .val (.int (own_v0_3 x1)), .val (.int (own_v0_4 x2)), .val (.int (own_v0_5 x2)), .val (.int (own_v0_6 y3)), .val (.long (own_v0_7 y3)), .second, .val (.int (x4 &&& (63 : Int32))), .val (.int (own_v0_8 x4)), .val (.int (x5 &&& (3 : Int32))), .val (.int (own_v0_9 x5)), .val (.int (own_j0_1 x5)), .val (.int (own_v0_10 x5)), .val (.ref b76), .val (.int (x5 &&& (3 : Int32))), .unset, .unset, .unset, .unset] [(.long ((own_v0_2 x1).toInt64)), (.int ((x5 &&& (3 : Int32)) + (5 : Int32))), (.ref b76)]))
  refine own_go (fun t k => X85.ldc2Long hx hown (mvT hZ (hw _ own_t11)) (g := (mkF m 238 #[.val (.int x0), .val (.int x1), .val (.int x2), .val (.long y3), .second, .val (.int x4), .val (.int x5), .val (.int (own_v0_1 x0)), .val (.int (own_v0_2 x1)), .val (.int (own_v0_3 x1)), .val (.int (own_v0_4 x2)), .val (.int (own_v0_5 x2)), .val (.int (own_v0_6 y3)), .val (.long (own_v0_7 y3)), .second, .val (.int (x4 &&& (63 : Int32))), .val (.int (own_v0_8 x4)), .val (.int (x5 &&& (3 : Int32))), .val (.int (own_v0_9 x5)), .val (.int (own_j0_1 x5)), .val (.int (own_v0_10 x5)), .val (.ref b76), .val (.int (x5 &&& (3 : Int32))), .unset, .unset, .unset, .unset] [(.long ((own_v0_2 x1).toInt64)), (.int ((x5 &&& (3 : Int32)) + (5 : Int32))), (.ref b76)])) rfl (hb hby at_238) t k) ?_
  show own_Goes p e below _ (T85.setTop (mkF m 241 #[.val (.int x0), .val (.int x1), .val (.int x2), .val (.long y3), .second, .val (.int x4), .val (.int x5), .val (.int (own_v0_1 x0)), .val (.int (own_v0_2 x1)), .val (.int (own_v0_3 x1)), .val (.int (own_v0_4 x2)), .val (.int (own_v0_5 x2)), .val (.int (own_v0_6 y3)), .val (.long (own_v0_7 y3)), .second, .val (.int (x4 &&& (63 : Int32))), .val (.int (own_v0_8 x4)), .val (.int (x5 &&& (3 : Int32))), .val (.int (own_v0_9 x5)), .val (.int (own_j0_1 x5)), .val (.int (own_v0_10 x5)), .val (.ref b76), .val (.int (x5 &&& (3 : Int32))), .unset, .unset, .unset, .unset] [(.long (10 : Int64)), (.long ((own_v0_2 x1).toInt64)), (.int ((x5 &&& (3 : Int32)) + (5 : Int32))), (.ref b76)]))
  obtain ⟨_, T86, L86, X86, ⟨rfl, N86q, e86⟩, st86⟩ := own_callS X85 hx hZ hown (hw _ own_t7) (hw _ own_t8) (hw _ own_t9) (hw _ own_t10) (by decide) (as := [(.long ((own_v0_2 x1).toInt64)), (.long (10 : Int64))]) (rm1 l Z a0 hw [] ((own_v0_2 x1).toInt64) (10 : Int64) h85 n0 (by decide)) e85 own_pd2 rfl (pc := 241) (Ls := #[.val (.int x0), .val (.int x1), .val (.int x2), .val (.long y3), .second, .val (.int x4), .val (.int x5), .val (.int (own_v0_1 x0)), .val (.int (own_v0_2 x1)), .val (.int (own_v0_3 x1)), .val (.int (own_v0_4 x2)), .val (.int (own_v0_5 x2)), .val (.int (own_v0_6 y3)), .val (.long (own_v0_7 y3)), .second, .val (.int (x4 &&& (63 : Int32))), .val (.int (own_v0_8 x4)), .val (.int (x5 &&& (3 : Int32))), .val (.int (own_v0_9 x5)), .val (.int (own_j0_1 x5)), .val (.int (own_v0_10 x5)), .val (.ref b76), .val (.int (x5 &&& (3 : Int32))), .unset, .unset, .unset, .unset]) (rest := [(.int ((x5 &&& (3 : Int32)) + (5 : Int32))), (.ref b76)]) (W := 2) (by rw [hml]; rfl) (Nat.le_of_eq rfl) (by decide) (by decide) (hb hby at_241) (by decide) (by decide)
  have N86 := Fr.app N85 N86q
  refine own_go st86 ?_
  show own_Goes p e below _ (T86.setTop (mkF m 244 #[.val (.int x0), .val (.int x1), .val (.int x2), .val (.long y3), .second, .val (.int x4), .val (.int x5), .val (.int (own_v0_1 x0)), .val (.int (own_v0_2 x1)), .val (.int (own_v0_3 x1)), .val (.int (own_v0_4 x2)), .val (.int (own_v0_5 x2)), .val (.int (own_v0_6 y3)), .val (.long (own_v0_7 y3)), .second, .val (.int (x4 &&& (63 : Int32))), .val (.int (own_v0_8 x4)), .val (.int (x5 &&& (3 : Int32))), .val (.int (own_v0_9 x5)), .val (.int (own_j0_1 x5)), .val (.int (own_v0_10 x5)), .val (.ref b76), .val (.int (x5 &&& (3 : Int32))), .unset, .unset, .unset, .unset] [(.int (own_f1 ((own_v0_2 x1).toInt64) (10 : Int64))), (.int ((x5 &&& (3 : Int32)) + (5 : Int32))), (.ref b76)]))
  obtain ⟨cl87, Ar87, sa87, ha87⟩ := id V85
  obtain ⟨T87, h87, X87, e87, W87, st87⟩ := stC X86 hx hZ e86 Ar87 (j := ((x5 &&& (3 : Int32)) + (5 : Int32))) (inb_of sa87 (own_ix x5 5)) (g := (mkF m 244 #[.val (.int x0), .val (.int x1), .val (.int x2), .val (.long y3), .second, .val (.int x4), .val (.int x5), .val (.int (own_v0_1 x0)), .val (.int (own_v0_2 x1)), .val (.int (own_v0_3 x1)), .val (.int (own_v0_4 x2)), .val (.int (own_v0_5 x2)), .val (.int (own_v0_6 y3)), .val (.long (own_v0_7 y3)), .second, .val (.int (x4 &&& (63 : Int32))), .val (.int (own_v0_8 x4)), .val (.int (x5 &&& (3 : Int32))), .val (.int (own_v0_9 x5)), .val (.int (own_j0_1 x5)), .val (.int (own_v0_10 x5)), .val (.ref b76), .val (.int (x5 &&& (3 : Int32))), .unset, .unset, .unset, .unset] [(.int (own_f1 ((own_v0_2 x1).toInt64) (10 : Int64))), (.int ((x5 &&& (3 : Int32)) + (5 : Int32))), (.ref b76)])) rfl rfl (hb hby at_244)
  have V87 : own_Tab Z h87 b76 (32 : Int32) (own_G0_6 x0 x1 x5) := own_Tab.set Ar87 sa87 ha87 W87 (own_ix x5 5)
  have N87 := Fr.snoc X87 N86 g_b76
  refine own_go st87 ?_
  show own_Goes p e below _ (T87.setTop (mkF m 245 #[.val (.int x0), .val (.int x1), .val (.int x2), .val (.long y3), .second, .val (.int x4), .val (.int x5), .val (.int (own_v0_1 x0)), .val (.int (own_v0_2 x1)), .val (.int (own_v0_3 x1)), .val (.int (own_v0_4 x2)), .val (.int (own_v0_5 x2)), .val (.int (own_v0_6 y3)), .val (.long (own_v0_7 y3)), .second, .val (.int (x4 &&& (63 : Int32))), .val (.int (own_v0_8 x4)), .val (.int (x5 &&& (3 : Int32))), .val (.int (own_v0_9 x5)), .val (.int (own_j0_1 x5)), .val (.int (own_v0_10 x5)), .val (.ref b76), .val (.int (x5 &&& (3 : Int32))), .unset, .unset, .unset, .unset] []))
  refine own_go (fun t k => XS.aload X87.here hx rfl (hb hby at_245) rfl rfl k) ?_
  show own_Goes p e below _ (T87.setTop (mkF m 247 #[.val (.int x0), .val (.int x1), .val (.int x2), .val (.long y3), .second, .val (.int x4), .val (.int x5), .val (.int (own_v0_1 x0)), .val (.int (own_v0_2 x1)), .val (.int (own_v0_3 x1)), .val (.int (own_v0_4 x2)), .val (.int (own_v0_5 x2)), .val (.int (own_v0_6 y3)), .val (.long (own_v0_7 y3)), .second, .val (.int (x4 &&& (63 : Int32))), .val (.int (own_v0_8 x4)), .val (.int (x5 &&& (3 : Int32))), .val (.int (own_v0_9 x5)), .val (.int (own_j0_1 x5)), .val (.int (own_v0_10 x5)), .val (.ref b76), .val (.int (x5 &&& (3 : Int32))), .unset, .unset, .unset, .unset] [(.ref b76)]))
  refine own_go (fun t k => XS.iload X87.here hx rfl (hb hby at_247) rfl k) ?_
  show own_Goes p e below _ (T87.setTop (mkF m 249 #[.val (.int x0), .val (.int x1), .val (.int x2), .val (.long y3), .second, .val (.int x4), .val (.int x5), .val (.int (own_v0_1 x0)), .val (.int (own_v0_2 x1)), .val (.int (own_v0_3 x1)), .val (.int (own_v0_4 x2)), .val (.int (own_v0_5 x2)), .val (.int (own_v0_6 y3)), .val (.long (own_v0_7 y3)), .second, .val (.int (x4 &&& (63 : Int32))), .val (.int (own_v0_8 x4)), .val (.int (x5 &&& (3 : Int32))), .val (.int (own_v0_9 x5)), .val (.int (own_j0_1 x5)), .val (.int (own_v0_10 x5)), .val (.ref b76), .val (.int (x5 &&& (3 : Int32))), .unset, .unset, .unset, .unset] [(.int (x5 &&& (3 : Int32))), (.ref b76)]))
  refine own_go (fun t k => XS.bipush X87.here hx rfl (hb hby at_249) k) ?_
  show own_Goes p e below _ (T87.setTop (mkF m 251 #[.val (.int x0), .val (.int x1), .val (.int x2), .val (.long y3), .second, .val (.int x4), .val (.int x5), .val (.int (own_v0_1 x0)), .val (.int (own_v0_2 x1)), .val (.int (own_v0_3 x1)), .val (.int (own_v0_4 x2)), .val (.int (own_v0_5 x2)), .val (.int (own_v0_6 y3)), .val (.long (own_v0_7 y3)), .second, .val (.int (x4 &&& (63 : Int32))), .val (.int (own_v0_8 x4)), .val (.int (x5 &&& (3 : Int32))), .val (.int (own_v0_9 x5)), .val (.int (own_j0_1 x5)), .val (.int (own_v0_10 x5)), .val (.ref b76), .val (.int (x5 &&& (3 : Int32))), .unset, .unset, .unset, .unset] [(.int (6 : Int32)), (.int (x5 &&& (3 : Int32))), (.ref b76)]))
  refine own_go (fun t k => XS.iadd X87.here hx rfl (hb hby at_251) rfl k) ?_
  show own_Goes p e below _ (T87.setTop (mkF m 252 #[.val (.int x0), .val (.int x1), .val (.int x2), .val (.long y3), .second, .val (.int x4), .val (.int x5), .val (.int (own_v0_1 x0)), .val (.int (own_v0_2 x1)), .val (.int (own_v0_3 x1)), .val (.int (own_v0_4 x2)), .val (.int (own_v0_5 x2)), .val (.int (own_v0_6 y3)), .val (.long (own_v0_7 y3)), .second, .val (.int (x4 &&& (63 : Int32))), .val (.int (own_v0_8 x4)), .val (.int (x5 &&& (3 : Int32))), .val (.int (own_v0_9 x5)), .val (.int (own_j0_1 x5)), .val (.int (own_v0_10 x5)), .val (.ref b76), .val (.int (x5 &&& (3 : Int32))), .unset, .unset, .unset, .unset] [(.int ((x5 &&& (3 : Int32)) + (6 : Int32))), (.ref b76)]))
  refine own_go (fun t k => XS.iload X87.here hx rfl (hb hby at_252) rfl k) ?_
  show own_Goes p e below _ (T87.setTop (mkF m 254 #[.val (.int x0), .val (.int x1), .val (.int x2), .val (.long y3), .second, .val (.int x4), .val (.int x5), .val (.int (own_v0_1 x0)), .val (.int (own_v0_2 x1)), .val (.int (own_v0_3 x1)), .val (.int (own_v0_4 x2)), .val (.int (own_v0_5 x2)), .val (.int (own_v0_6 y3)), .val (.long (own_v0_7 y3)), .second, .val (.int (x4 &&& (63 : Int32))), .val (.int (own_v0_8 x4)), .val (.int (x5 &&& (3 : Int32))), .val (.int (own_v0_9 x5)), .val (.int (own_j0_1 x5)), .val (.int (own_v0_10 x5)), .val (.ref b76), .val (.int (x5 &&& (3 : Int32))), .unset, .unset, .unset, .unset] [(.int (own_v0_2 x1)), (.int ((x5 &&& (3 : Int32)) + (6 : Int32))), (.ref b76)]))
  refine own_go (fun t k => XS.i2l X87.here hx rfl (hb hby at_254) rfl k) ?_
  show own_Goes p e below _ (T87.setTop (mkF m 255 #[.val (.int x0), .val (.int x1), .val (.int x2), .val (.long y3), .second, .val (.int x4), .val (.int x5), .val (.int (own_v0_1 x0)), .val (.int (own_v0_2 x1)), .val (.int (own_v0_3 x1)), .val (.int (own_v0_4 x2)), .val (.int (own_v0_5 x2)), .val (.int (own_v0_6 y3)), .val (.long (own_v0_7 y3)), .second, .val (.int (x4 &&& (63 : Int32))), .val (.int (own_v0_8 x4)), .val (.int (x5 &&& (3 : Int32))), .val (.int (own_v0_9 x5)), .val (.int (own_j0_1 x5)), .val (.int (own_v0_10 x5)), .val (.ref b76), .val (.int (x5 &&& (3 : Int32))), .unset, .unset, .unset, .unset] [(.long ((own_v0_2 x1).toInt64)), (.int ((x5 &&& (3 : Int32)) + (6 : Int32))), (.ref b76)]))
  refine own_go (fun t k => XS.lconst X87.here hx rfl (hb hby at_255) k) ?_
  show own_Goes p e below _ (T87.setTop (mkF m 256 #[.val (.int x0), .val (.int x1), .val (.int x2), .val (.long y3), .second, .val (.int x4), .val (.int x5), .val (.int (own_v0_1 x0)), .val (.int (own_v0_2 x1)), .val (.int (own_v0_3 x1)), .val (.int (own_v0_4 x2)), .val (.int (own_v0_5 x2)), .val (.int (own_v0_6 y3)), .val (.long (own_v0_7 y3)), .second, .val (.int (x4 &&& (63 : Int32))), .val (.int (own_v0_8 x4)), .val (.int (x5 &&& (3 : Int32))), .val (.int (own_v0_9 x5)), .val (.int (own_j0_1 x5)), .val (.int (own_v0_10 x5)), .val (.ref b76), .val (.int (x5 &&& (3 : Int32))), .unset, .unset, .unset, .unset] [(.long (1 : Int64)), (.long ((own_v0_2 x1).toInt64)), (.int ((x5 &&& (3 : Int32)) + (6 : Int32))), (.ref b76)]))
  obtain ⟨_, T88, L88, X88, ⟨rfl, N88q, e88⟩, st88⟩ := own_callS X87 hx hZ hown (hw _ own_t7) (hw _ own_t8) (hw _ own_t9) (hw _ own_t10) (by decide) (as := [(.long ((own_v0_2 x1).toInt64)), (.long (1 : Int64))]) (rm1 l Z a0 hw [] ((own_v0_2 x1).toInt64) (1 : Int64) h87 n0 (by decide)) e87 own_pd2 rfl (pc := 256) (Ls := #[.val (.int x0), .val (.int x1), .val (.int x2), .val (.long y3), .second, .val (.int x4), .val (.int x5), .val (.int (own_v0_1 x0)), .val (.int (own_v0_2 x1)), .val (.int (own_v0_3 x1)), .val (.int (own_v0_4 x2)), .val (.int (own_v0_5 x2)), .val (.int (own_v0_6 y3)), .val (.long (own_v0_7 y3)), .second, .val (.int (x4 &&& (63 : Int32))), .val (.int (own_v0_8 x4)), .val (.int (x5 &&& (3 : Int32))), .val (.int (own_v0_9 x5)), .val (.int (own_j0_1 x5)), .val (.int (own_v0_10 x5)), .val (.ref b76), .val (.int (x5 &&& (3 : Int32))), .unset, .unset, .unset, .unset]) (rest := [(.int ((x5 &&& (3 : Int32)) + (6 : Int32))), (.ref b76)]) (W := 2) (by rw [hml]; rfl) (Nat.le_of_eq rfl) (by decide) (by decide) (hb hby at_256) (by decide) (by decide)
  have N88 := Fr.app N87 N88q
  refine own_go st88 ?_
  show own_Goes p e below _ (T88.setTop (mkF m 259 #[.val (.int x0), .val (.int x1), .val (.int x2), .val (.long y3), .second, .val (.int x4), .val (.int x5), .val (.int (own_v0_1 x0)), .val (.int (own_v0_2 x1)), .val (.int (own_v0_3 x1)), .val (.int (own_v0_4 x2)), .val (.int (own_v0_5 x2)), .val (.int (own_v0_6 y3)), .val (.long (own_v0_7 y3)), .second, .val (.int (x4 &&& (63 : Int32))), .val (.int (own_v0_8 x4)), .val (.int (x5 &&& (3 : Int32))), .val (.int (own_v0_9 x5)), .val (.int (own_j0_1 x5)), .val (.int (own_v0_10 x5)), .val (.ref b76), .val (.int (x5 &&& (3 : Int32))), .unset, .unset, .unset, .unset] [(.int (own_f1 ((own_v0_2 x1).toInt64) (1 : Int64))), (.int ((x5 &&& (3 : Int32)) + (6 : Int32))), (.ref b76)]))
  obtain ⟨cl89, Ar89, sa89, ha89⟩ := id V87
  obtain ⟨T89, h89, X89, e89, W89, st89⟩ := stC X88 hx hZ e88 Ar89 (j := ((x5 &&& (3 : Int32)) + (6 : Int32))) (inb_of sa89 (own_ix x5 6)) (g := (mkF m 259 #[.val (.int x0), .val (.int x1), .val (.int x2), .val (.long y3), .second, .val (.int x4), .val (.int x5), .val (.int (own_v0_1 x0)), .val (.int (own_v0_2 x1)), .val (.int (own_v0_3 x1)), .val (.int (own_v0_4 x2)), .val (.int (own_v0_5 x2)), .val (.int (own_v0_6 y3)), .val (.long (own_v0_7 y3)), .second, .val (.int (x4 &&& (63 : Int32))), .val (.int (own_v0_8 x4)), .val (.int (x5 &&& (3 : Int32))), .val (.int (own_v0_9 x5)), .val (.int (own_j0_1 x5)), .val (.int (own_v0_10 x5)), .val (.ref b76), .val (.int (x5 &&& (3 : Int32))), .unset, .unset, .unset, .unset] [(.int (own_f1 ((own_v0_2 x1).toInt64) (1 : Int64))), (.int ((x5 &&& (3 : Int32)) + (6 : Int32))), (.ref b76)])) rfl rfl (hb hby at_259)
  have V89 : own_Tab Z h89 b76 (32 : Int32) (own_G0_7 x0 x1 x5) := own_Tab.set Ar89 sa89 ha89 W89 (own_ix x5 6)
  have N89 := Fr.snoc X89 N88 g_b76
  refine own_go st89 ?_
  show own_Goes p e below _ (T89.setTop (mkF m 260 #[.val (.int x0), .val (.int x1), .val (.int x2), .val (.long y3), .second, .val (.int x4), .val (.int x5), .val (.int (own_v0_1 x0)), .val (.int (own_v0_2 x1)), .val (.int (own_v0_3 x1)), .val (.int (own_v0_4 x2)), .val (.int (own_v0_5 x2)), .val (.int (own_v0_6 y3)), .val (.long (own_v0_7 y3)), .second, .val (.int (x4 &&& (63 : Int32))), .val (.int (own_v0_8 x4)), .val (.int (x5 &&& (3 : Int32))), .val (.int (own_v0_9 x5)), .val (.int (own_j0_1 x5)), .val (.int (own_v0_10 x5)), .val (.ref b76), .val (.int (x5 &&& (3 : Int32))), .unset, .unset, .unset, .unset] []))
  refine own_go (fun t k => XS.aload X89.here hx rfl (hb hby at_260) rfl rfl k) ?_
  show own_Goes p e below _ (T89.setTop (mkF m 262 #[.val (.int x0), .val (.int x1), .val (.int x2), .val (.long y3), .second, .val (.int x4), .val (.int x5), .val (.int (own_v0_1 x0)), .val (.int (own_v0_2 x1)), .val (.int (own_v0_3 x1)), .val (.int (own_v0_4 x2)), .val (.int (own_v0_5 x2)), .val (.int (own_v0_6 y3)), .val (.long (own_v0_7 y3)), .second, .val (.int (x4 &&& (63 : Int32))), .val (.int (own_v0_8 x4)), .val (.int (x5 &&& (3 : Int32))), .val (.int (own_v0_9 x5)), .val (.int (own_j0_1 x5)), .val (.int (own_v0_10 x5)), .val (.ref b76), .val (.int (x5 &&& (3 : Int32))), .unset, .unset, .unset, .unset] [(.ref b76)]))
  refine own_go (fun t k => XS.iload X89.here hx rfl (hb hby at_262) rfl k) ?_
  show own_Goes p e below _ (T89.setTop (mkF m 264 #[.val (.int x0), .val (.int x1), .val (.int x2), .val (.long y3), .second, .val (.int x4), .val (.int x5), .val (.int (own_v0_1 x0)), .val (.int (own_v0_2 x1)), .val (.int (own_v0_3 x1)), .val (.int (own_v0_4 x2)), .val (.int (own_v0_5 x2)), .val (.int (own_v0_6 y3)), .val (.long (own_v0_7 y3)), .second, .val (.int (x4 &&& (63 : Int32))), .val (.int (own_v0_8 x4)), .val (.int (x5 &&& (3 : Int32))), .val (.int (own_v0_9 x5)), .val (.int (own_j0_1 x5)), .val (.int (own_v0_10 x5)), .val (.ref b76), .val (.int (x5 &&& (3 : Int32))), .unset, .unset, .unset, .unset] [(.int (x5 &&& (3 : Int32))), (.ref b76)]))
  refine own_go (fun t k => XS.bipush X89.here hx rfl (hb hby at_264) k) ?_
  show own_Goes p e below _ (T89.setTop (mkF m 266 #[.val (.int x0), .val (.int x1), .val (.int x2), .val (.long y3), .second, .val (.int x4), .val (.int x5), .val (.int (own_v0_1 x0)), .val (.int (own_v0_2 x1)), .val (.int (own_v0_3 x1)), .val (.int (own_v0_4 x2)), .val (.int (own_v0_5 x2)), .val (.int (own_v0_6 y3)), .val (.long (own_v0_7 y3)), .second, .val (.int (x4 &&& (63 : Int32))), .val (.int (own_v0_8 x4)), .val (.int (x5 &&& (3 : Int32))), .val (.int (own_v0_9 x5)), .val (.int (own_j0_1 x5)), .val (.int (own_v0_10 x5)), .val (.ref b76), .val (.int (x5 &&& (3 : Int32))), .unset, .unset, .unset, .unset] [(.int (7 : Int32)), (.int (x5 &&& (3 : Int32))), (.ref b76)]))
  refine own_go (fun t k => XS.iadd X89.here hx rfl (hb hby at_266) rfl k) ?_
  show own_Goes p e below _ (T89.setTop (mkF m 267 #[.val (.int x0), .val (.int x1), .val (.int x2), .val (.long y3), .second, .val (.int x4), .val (.int x5), .val (.int (own_v0_1 x0)), .val (.int (own_v0_2 x1)), .val (.int (own_v0_3 x1)), .val (.int (own_v0_4 x2)), .val (.int (own_v0_5 x2)), .val (.int (own_v0_6 y3)), .val (.long (own_v0_7 y3)), .second, .val (.int (x4 &&& (63 : Int32))), .val (.int (own_v0_8 x4)), .val (.int (x5 &&& (3 : Int32))), .val (.int (own_v0_9 x5)), .val (.int (own_j0_1 x5)), .val (.int (own_v0_10 x5)), .val (.ref b76), .val (.int (x5 &&& (3 : Int32))), .unset, .unset, .unset, .unset] [(.int ((x5 &&& (3 : Int32)) + (7 : Int32))), (.ref b76)]))
  refine own_go (fun t k => XS.bipush X89.here hx rfl (hb hby at_267) k) ?_
  show own_Goes p e below _ (T89.setTop (mkF m 269 #[.val (.int x0), .val (.int x1), .val (.int x2), .val (.long y3), .second, .val (.int x4), .val (.int x5), .val (.int (own_v0_1 x0)), .val (.int (own_v0_2 x1)), .val (.int (own_v0_3 x1)), .val (.int (own_v0_4 x2)), .val (.int (own_v0_5 x2)), .val (.int (own_v0_6 y3)), .val (.long (own_v0_7 y3)), .second, .val (.int (x4 &&& (63 : Int32))), .val (.int (own_v0_8 x4)), .val (.int (x5 &&& (3 : Int32))), .val (.int (own_v0_9 x5)), .val (.int (own_j0_1 x5)), .val (.int (own_v0_10 x5)), .val (.ref b76), .val (.int (x5 &&& (3 : Int32))), .unset, .unset, .unset, .unset] [(.int (45 : Int32)), (.int ((x5 &&& (3 : Int32)) + (7 : Int32))), (.ref b76)]))
  obtain ⟨cl90, Ar90, sa90, ha90⟩ := id V89
  obtain ⟨T90, h90, X90, e90, W90, st90⟩ := stC X89 hx hZ e89 Ar90 (j := ((x5 &&& (3 : Int32)) + (7 : Int32))) (inb_of sa90 (own_ix x5 7)) (g := (mkF m 269 #[.val (.int x0), .val (.int x1), .val (.int x2), .val (.long y3), .second, .val (.int x4), .val (.int x5), .val (.int (own_v0_1 x0)), .val (.int (own_v0_2 x1)), .val (.int (own_v0_3 x1)), .val (.int (own_v0_4 x2)), .val (.int (own_v0_5 x2)), .val (.int (own_v0_6 y3)), .val (.long (own_v0_7 y3)), .second, .val (.int (x4 &&& (63 : Int32))), .val (.int (own_v0_8 x4)), .val (.int (x5 &&& (3 : Int32))), .val (.int (own_v0_9 x5)), .val (.int (own_j0_1 x5)), .val (.int (own_v0_10 x5)), .val (.ref b76), .val (.int (x5 &&& (3 : Int32))), .unset, .unset, .unset, .unset] [(.int (45 : Int32)), (.int ((x5 &&& (3 : Int32)) + (7 : Int32))), (.ref b76)])) rfl rfl (hb hby at_269)
  have V90 : own_Tab Z h90 b76 (32 : Int32) (own_G0_8 x0 x1 x5) := own_Tab.set Ar90 sa90 ha90 W90 (own_ix x5 7)
  have N90 := Fr.snoc X90 N89 g_b76
  refine own_go st90 ?_
  show own_Goes p e below _ (T90.setTop (mkF m 270 #[.val (.int x0), .val (.int x1), .val (.int x2), .val (.long y3), .second, .val (.int x4), .val (.int x5), .val (.int (own_v0_1 x0)), .val (.int (own_v0_2 x1)), .val (.int (own_v0_3 x1)), .val (.int (own_v0_4 x2)), .val (.int (own_v0_5 x2)), .val (.int (own_v0_6 y3)), .val (.long (own_v0_7 y3)), .second, .val (.int (x4 &&& (63 : Int32))), .val (.int (own_v0_8 x4)), .val (.int (x5 &&& (3 : Int32))), .val (.int (own_v0_9 x5)), .val (.int (own_j0_1 x5)), .val (.int (own_v0_10 x5)), .val (.ref b76), .val (.int (x5 &&& (3 : Int32))), .unset, .unset, .unset, .unset] []))
  refine own_go (fun t k => XS.aload X90.here hx rfl (hb hby at_270) rfl rfl k) ?_
  show own_Goes p e below _ (T90.setTop (mkF m 272 #[.val (.int x0), .val (.int x1), .val (.int x2), .val (.long y3), .second, .val (.int x4), .val (.int x5), .val (.int (own_v0_1 x0)), .val (.int (own_v0_2 x1)), .val (.int (own_v0_3 x1)), .val (.int (own_v0_4 x2)), .val (.int (own_v0_5 x2)), .val (.int (own_v0_6 y3)), .val (.long (own_v0_7 y3)), .second, .val (.int (x4 &&& (63 : Int32))), .val (.int (own_v0_8 x4)), .val (.int (x5 &&& (3 : Int32))), .val (.int (own_v0_9 x5)), .val (.int (own_j0_1 x5)), .val (.int (own_v0_10 x5)), .val (.ref b76), .val (.int (x5 &&& (3 : Int32))), .unset, .unset, .unset, .unset] [(.ref b76)]))
  refine own_go (fun t k => XS.iload X90.here hx rfl (hb hby at_272) rfl k) ?_
  show own_Goes p e below _ (T90.setTop (mkF m 274 #[.val (.int x0), .val (.int x1), .val (.int x2), .val (.long y3), .second, .val (.int x4), .val (.int x5), .val (.int (own_v0_1 x0)), .val (.int (own_v0_2 x1)), .val (.int (own_v0_3 x1)), .val (.int (own_v0_4 x2)), .val (.int (own_v0_5 x2)), .val (.int (own_v0_6 y3)), .val (.long (own_v0_7 y3)), .second, .val (.int (x4 &&& (63 : Int32))), .val (.int (own_v0_8 x4)), .val (.int (x5 &&& (3 : Int32))), .val (.int (own_v0_9 x5)), .val (.int (own_j0_1 x5)), .val (.int (own_v0_10 x5)), .val (.ref b76), .val (.int (x5 &&& (3 : Int32))), .unset, .unset, .unset, .unset] [(.int (x5 &&& (3 : Int32))), (.ref b76)]))
  refine own_go (fun t k => XS.bipush X90.here hx rfl (hb hby at_274) k) ?_
  show own_Goes p e below _ (T90.setTop (mkF m 276 #[.val (.int x0), .val (.int x1), .val (.int x2), .val (.long y3), .second, .val (.int x4), .val (.int x5), .val (.int (own_v0_1 x0)), .val (.int (own_v0_2 x1)), .val (.int (own_v0_3 x1)), .val (.int (own_v0_4 x2)), .val (.int (own_v0_5 x2)), .val (.int (own_v0_6 y3)), .val (.long (own_v0_7 y3)), .second, .val (.int (x4 &&& (63 : Int32))), .val (.int (own_v0_8 x4)), .val (.int (x5 &&& (3 : Int32))), .val (.int (own_v0_9 x5)), .val (.int (own_j0_1 x5)), .val (.int (own_v0_10 x5)), .val (.ref b76), .val (.int (x5 &&& (3 : Int32))), .unset, .unset, .unset, .unset] [(.int (8 : Int32)), (.int (x5 &&& (3 : Int32))), (.ref b76)]))
  refine own_go (fun t k => XS.iadd X90.here hx rfl (hb hby at_276) rfl k) ?_
  show own_Goes p e below _ (T90.setTop (mkF m 277 #[.val (.int x0), .val (.int x1), .val (.int x2), .val (.long y3), .second, .val (.int x4), .val (.int x5), .val (.int (own_v0_1 x0)), .val (.int (own_v0_2 x1)), .val (.int (own_v0_3 x1)), .val (.int (own_v0_4 x2)), .val (.int (own_v0_5 x2)), .val (.int (own_v0_6 y3)), .val (.long (own_v0_7 y3)), .second, .val (.int (x4 &&& (63 : Int32))), .val (.int (own_v0_8 x4)), .val (.int (x5 &&& (3 : Int32))), .val (.int (own_v0_9 x5)), .val (.int (own_j0_1 x5)), .val (.int (own_v0_10 x5)), .val (.ref b76), .val (.int (x5 &&& (3 : Int32))), .unset, .unset, .unset, .unset] [(.int ((x5 &&& (3 : Int32)) + (8 : Int32))), (.ref b76)]))
  refine own_go (fun t k => XS.iload X90.here hx rfl (hb hby at_277) rfl k) ?_
  show own_Goes p e below _ (T90.setTop (mkF m 279 #[.val (.int x0), .val (.int x1), .val (.int x2), .val (.long y3), .second, .val (.int x4), .val (.int x5), .val (.int (own_v0_1 x0)), .val (.int (own_v0_2 x1)), .val (.int (own_v0_3 x1)), .val (.int (own_v0_4 x2)), .val (.int (own_v0_5 x2)), .val (.int (own_v0_6 y3)), .val (.long (own_v0_7 y3)), .second, .val (.int (x4 &&& (63 : Int32))), .val (.int (own_v0_8 x4)), .val (.int (x5 &&& (3 : Int32))), .val (.int (own_v0_9 x5)), .val (.int (own_j0_1 x5)), .val (.int (own_v0_10 x5)), .val (.ref b76), .val (.int (x5 &&& (3 : Int32))), .unset, .unset, .unset, .unset] [(.int (own_v0_3 x1)), (.int ((x5 &&& (3 : Int32)) + (8 : Int32))), (.ref b76)]))
  refine own_go (fun t k => XS.i2l X90.here hx rfl (hb hby at_279) rfl k) ?_
  show own_Goes p e below _ (T90.setTop (mkF m 280 #[.val (.int x0), .val (.int x1), .val (.int x2), .val (.long y3), .second, .val (.int x4), .val (.int x5), .val (.int (own_v0_1 x0)), .val (.int (own_v0_2 x1)), .val (.int (own_v0_3 x1)), .val (.int (own_v0_4 x2)), .val (.int (own_v0_5 x2)), .val (.int (own_v0_6 y3)), .val (.long (own_v0_7 y3)), .second, .val (.int (x4 &&& (63 : Int32))), .val (.int (own_v0_8 x4)), .val (.int (x5 &&& (3 : Int32))), .val (.int (own_v0_9 x5)), .val (.int (own_j0_1 x5)), .val (.int (own_v0_10 x5)), .val (.ref b76), .val (.int (x5 &&& (3 : Int32))), .unset, .unset, .unset, .unset] [(.long ((own_v0_3 x1).toInt64)), (.int ((x5 &&& (3 : Int32)) + (8 : Int32))), (.ref b76)]))
  refine own_go (fun t k => X90.ldc2Long hx hown (mvT hZ (hw _ own_t11)) (g := (mkF m 280 #[.val (.int x0), .val (.int x1), .val (.int x2), .val (.long y3), .second, .val (.int x4), .val (.int x5), .val (.int (own_v0_1 x0)), .val (.int (own_v0_2 x1)), .val (.int (own_v0_3 x1)), .val (.int (own_v0_4 x2)), .val (.int (own_v0_5 x2)), .val (.int (own_v0_6 y3)), .val (.long (own_v0_7 y3)), .second, .val (.int (x4 &&& (63 : Int32))), .val (.int (own_v0_8 x4)), .val (.int (x5 &&& (3 : Int32))), .val (.int (own_v0_9 x5)), .val (.int (own_j0_1 x5)), .val (.int (own_v0_10 x5)), .val (.ref b76), .val (.int (x5 &&& (3 : Int32))), .unset, .unset, .unset, .unset] [(.long ((own_v0_3 x1).toInt64)), (.int ((x5 &&& (3 : Int32)) + (8 : Int32))), (.ref b76)])) rfl (hb hby at_280) t k) ?_
  show own_Goes p e below _ (T90.setTop (mkF m 283 #[.val (.int x0), .val (.int x1), .val (.int x2), .val (.long y3), .second, .val (.int x4), .val (.int x5), .val (.int (own_v0_1 x0)), .val (.int (own_v0_2 x1)), .val (.int (own_v0_3 x1)), .val (.int (own_v0_4 x2)), .val (.int (own_v0_5 x2)), .val (.int (own_v0_6 y3)), .val (.long (own_v0_7 y3)), .second, .val (.int (x4 &&& (63 : Int32))), .val (.int (own_v0_8 x4)), .val (.int (x5 &&& (3 : Int32))), .val (.int (own_v0_9 x5)), .val (.int (own_j0_1 x5)), .val (.int (own_v0_10 x5)), .val (.ref b76), .val (.int (x5 &&& (3 : Int32))), .unset, .unset, .unset, .unset] [(.long (10 : Int64)), (.long ((own_v0_3 x1).toInt64)), (.int ((x5 &&& (3 : Int32)) + (8 : Int32))), (.ref b76)]))
  obtain ⟨_, T91, L91, X91, ⟨rfl, N91q, e91⟩, st91⟩ := own_callS X90 hx hZ hown (hw _ own_t7) (hw _ own_t8) (hw _ own_t9) (hw _ own_t10) (by decide) (as := [(.long ((own_v0_3 x1).toInt64)), (.long (10 : Int64))]) (rm1 l Z a0 hw [] ((own_v0_3 x1).toInt64) (10 : Int64) h90 n0 (by decide)) e90 own_pd2 rfl (pc := 283) (Ls := #[.val (.int x0), .val (.int x1), .val (.int x2), .val (.long y3), .second, .val (.int x4), .val (.int x5), .val (.int (own_v0_1 x0)), .val (.int (own_v0_2 x1)), .val (.int (own_v0_3 x1)), .val (.int (own_v0_4 x2)), .val (.int (own_v0_5 x2)), .val (.int (own_v0_6 y3)), .val (.long (own_v0_7 y3)), .second, .val (.int (x4 &&& (63 : Int32))), .val (.int (own_v0_8 x4)), .val (.int (x5 &&& (3 : Int32))), .val (.int (own_v0_9 x5)), .val (.int (own_j0_1 x5)), .val (.int (own_v0_10 x5)), .val (.ref b76), .val (.int (x5 &&& (3 : Int32))), .unset, .unset, .unset, .unset]) (rest := [(.int ((x5 &&& (3 : Int32)) + (8 : Int32))), (.ref b76)]) (W := 2) (by rw [hml]; rfl) (Nat.le_of_eq rfl) (by decide) (by decide) (hb hby at_283) (by decide) (by decide)
  have N91 := Fr.app N90 N91q
  refine own_go st91 ?_
  show own_Goes p e below _ (T91.setTop (mkF m 286 #[.val (.int x0), .val (.int x1), .val (.int x2), .val (.long y3), .second, .val (.int x4), .val (.int x5), .val (.int (own_v0_1 x0)), .val (.int (own_v0_2 x1)), .val (.int (own_v0_3 x1)), .val (.int (own_v0_4 x2)), .val (.int (own_v0_5 x2)), .val (.int (own_v0_6 y3)), .val (.long (own_v0_7 y3)), .second, .val (.int (x4 &&& (63 : Int32))), .val (.int (own_v0_8 x4)), .val (.int (x5 &&& (3 : Int32))), .val (.int (own_v0_9 x5)), .val (.int (own_j0_1 x5)), .val (.int (own_v0_10 x5)), .val (.ref b76), .val (.int (x5 &&& (3 : Int32))), .unset, .unset, .unset, .unset] [(.int (own_f1 ((own_v0_3 x1).toInt64) (10 : Int64))), (.int ((x5 &&& (3 : Int32)) + (8 : Int32))), (.ref b76)]))
  obtain ⟨cl92, Ar92, sa92, ha92⟩ := id V90
  obtain ⟨T92, h92, X92, e92, W92, st92⟩ := stC X91 hx hZ e91 Ar92 (j := ((x5 &&& (3 : Int32)) + (8 : Int32))) (inb_of sa92 (own_ix x5 8)) (g := (mkF m 286 #[.val (.int x0), .val (.int x1), .val (.int x2), .val (.long y3), .second, .val (.int x4), .val (.int x5), .val (.int (own_v0_1 x0)), .val (.int (own_v0_2 x1)), .val (.int (own_v0_3 x1)), .val (.int (own_v0_4 x2)), .val (.int (own_v0_5 x2)), .val (.int (own_v0_6 y3)), .val (.long (own_v0_7 y3)), .second, .val (.int (x4 &&& (63 : Int32))), .val (.int (own_v0_8 x4)), .val (.int (x5 &&& (3 : Int32))), .val (.int (own_v0_9 x5)), .val (.int (own_j0_1 x5)), .val (.int (own_v0_10 x5)), .val (.ref b76), .val (.int (x5 &&& (3 : Int32))), .unset, .unset, .unset, .unset] [(.int (own_f1 ((own_v0_3 x1).toInt64) (10 : Int64))), (.int ((x5 &&& (3 : Int32)) + (8 : Int32))), (.ref b76)])) rfl rfl (hb hby at_286)
  have V92 : own_Tab Z h92 b76 (32 : Int32) (own_G0_9 x0 x1 x5) := own_Tab.set Ar92 sa92 ha92 W92 (own_ix x5 8)
  have N92 := Fr.snoc X92 N91 g_b76
  refine own_go st92 ?_
  show own_Goes p e below _ (T92.setTop (mkF m 287 #[.val (.int x0), .val (.int x1), .val (.int x2), .val (.long y3), .second, .val (.int x4), .val (.int x5), .val (.int (own_v0_1 x0)), .val (.int (own_v0_2 x1)), .val (.int (own_v0_3 x1)), .val (.int (own_v0_4 x2)), .val (.int (own_v0_5 x2)), .val (.int (own_v0_6 y3)), .val (.long (own_v0_7 y3)), .second, .val (.int (x4 &&& (63 : Int32))), .val (.int (own_v0_8 x4)), .val (.int (x5 &&& (3 : Int32))), .val (.int (own_v0_9 x5)), .val (.int (own_j0_1 x5)), .val (.int (own_v0_10 x5)), .val (.ref b76), .val (.int (x5 &&& (3 : Int32))), .unset, .unset, .unset, .unset] []))
  refine own_go (fun t k => XS.aload X92.here hx rfl (hb hby at_287) rfl rfl k) ?_
  show own_Goes p e below _ (T92.setTop (mkF m 289 #[.val (.int x0), .val (.int x1), .val (.int x2), .val (.long y3), .second, .val (.int x4), .val (.int x5), .val (.int (own_v0_1 x0)), .val (.int (own_v0_2 x1)), .val (.int (own_v0_3 x1)), .val (.int (own_v0_4 x2)), .val (.int (own_v0_5 x2)), .val (.int (own_v0_6 y3)), .val (.long (own_v0_7 y3)), .second, .val (.int (x4 &&& (63 : Int32))), .val (.int (own_v0_8 x4)), .val (.int (x5 &&& (3 : Int32))), .val (.int (own_v0_9 x5)), .val (.int (own_j0_1 x5)), .val (.int (own_v0_10 x5)), .val (.ref b76), .val (.int (x5 &&& (3 : Int32))), .unset, .unset, .unset, .unset] [(.ref b76)]))
  refine own_go (fun t k => XS.iload X92.here hx rfl (hb hby at_289) rfl k) ?_
  show own_Goes p e below _ (T92.setTop (mkF m 291 #[.val (.int x0), .val (.int x1), .val (.int x2), .val (.long y3), .second, .val (.int x4), .val (.int x5), .val (.int (own_v0_1 x0)), .val (.int (own_v0_2 x1)), .val (.int (own_v0_3 x1)), .val (.int (own_v0_4 x2)), .val (.int (own_v0_5 x2)), .val (.int (own_v0_6 y3)), .val (.long (own_v0_7 y3)), .second, .val (.int (x4 &&& (63 : Int32))), .val (.int (own_v0_8 x4)), .val (.int (x5 &&& (3 : Int32))), .val (.int (own_v0_9 x5)), .val (.int (own_j0_1 x5)), .val (.int (own_v0_10 x5)), .val (.ref b76), .val (.int (x5 &&& (3 : Int32))), .unset, .unset, .unset, .unset] [(.int (x5 &&& (3 : Int32))), (.ref b76)]))
  refine own_go (fun t k => XS.bipush X92.here hx rfl (hb hby at_291) k) ?_
  show own_Goes p e below _ (T92.setTop (mkF m 293 #[.val (.int x0), .val (.int x1), .val (.int x2), .val (.long y3), .second, .val (.int x4), .val (.int x5), .val (.int (own_v0_1 x0)), .val (.int (own_v0_2 x1)), .val (.int (own_v0_3 x1)), .val (.int (own_v0_4 x2)), .val (.int (own_v0_5 x2)), .val (.int (own_v0_6 y3)), .val (.long (own_v0_7 y3)), .second, .val (.int (x4 &&& (63 : Int32))), .val (.int (own_v0_8 x4)), .val (.int (x5 &&& (3 : Int32))), .val (.int (own_v0_9 x5)), .val (.int (own_j0_1 x5)), .val (.int (own_v0_10 x5)), .val (.ref b76), .val (.int (x5 &&& (3 : Int32))), .unset, .unset, .unset, .unset] [(.int (9 : Int32)), (.int (x5 &&& (3 : Int32))), (.ref b76)]))
  refine own_go (fun t k => XS.iadd X92.here hx rfl (hb hby at_293) rfl k) ?_
  show own_Goes p e below _ (T92.setTop (mkF m 294 #[.val (.int x0), .val (.int x1), .val (.int x2), .val (.long y3), .second, .val (.int x4), .val (.int x5), .val (.int (own_v0_1 x0)), .val (.int (own_v0_2 x1)), .val (.int (own_v0_3 x1)), .val (.int (own_v0_4 x2)), .val (.int (own_v0_5 x2)), .val (.int (own_v0_6 y3)), .val (.long (own_v0_7 y3)), .second, .val (.int (x4 &&& (63 : Int32))), .val (.int (own_v0_8 x4)), .val (.int (x5 &&& (3 : Int32))), .val (.int (own_v0_9 x5)), .val (.int (own_j0_1 x5)), .val (.int (own_v0_10 x5)), .val (.ref b76), .val (.int (x5 &&& (3 : Int32))), .unset, .unset, .unset, .unset] [(.int ((x5 &&& (3 : Int32)) + (9 : Int32))), (.ref b76)]))
  refine own_go (fun t k => XS.iload X92.here hx rfl (hb hby at_294) rfl k) ?_
  show own_Goes p e below _ (T92.setTop (mkF m 296 #[.val (.int x0), .val (.int x1), .val (.int x2), .val (.long y3), .second, .val (.int x4), .val (.int x5), .val (.int (own_v0_1 x0)), .val (.int (own_v0_2 x1)), .val (.int (own_v0_3 x1)), .val (.int (own_v0_4 x2)), .val (.int (own_v0_5 x2)), .val (.int (own_v0_6 y3)), .val (.long (own_v0_7 y3)), .second, .val (.int (x4 &&& (63 : Int32))), .val (.int (own_v0_8 x4)), .val (.int (x5 &&& (3 : Int32))), .val (.int (own_v0_9 x5)), .val (.int (own_j0_1 x5)), .val (.int (own_v0_10 x5)), .val (.ref b76), .val (.int (x5 &&& (3 : Int32))), .unset, .unset, .unset, .unset] [(.int (own_v0_3 x1)), (.int ((x5 &&& (3 : Int32)) + (9 : Int32))), (.ref b76)]))
  refine own_go (fun t k => XS.i2l X92.here hx rfl (hb hby at_296) rfl k) ?_
  show own_Goes p e below _ (T92.setTop (mkF m 297 #[.val (.int x0), .val (.int x1), .val (.int x2), .val (.long y3), .second, .val (.int x4), .val (.int x5), .val (.int (own_v0_1 x0)), .val (.int (own_v0_2 x1)), .val (.int (own_v0_3 x1)), .val (.int (own_v0_4 x2)), .val (.int (own_v0_5 x2)), .val (.int (own_v0_6 y3)), .val (.long (own_v0_7 y3)), .second, .val (.int (x4 &&& (63 : Int32))), .val (.int (own_v0_8 x4)), .val (.int (x5 &&& (3 : Int32))), .val (.int (own_v0_9 x5)), .val (.int (own_j0_1 x5)), .val (.int (own_v0_10 x5)), .val (.ref b76), .val (.int (x5 &&& (3 : Int32))), .unset, .unset, .unset, .unset] [(.long ((own_v0_3 x1).toInt64)), (.int ((x5 &&& (3 : Int32)) + (9 : Int32))), (.ref b76)]))
  refine own_go (fun t k => XS.lconst X92.here hx rfl (hb hby at_297) k) ?_
  show own_Goes p e below _ (T92.setTop (mkF m 298 #[.val (.int x0), .val (.int x1), .val (.int x2), .val (.long y3), .second, .val (.int x4), .val (.int x5), .val (.int (own_v0_1 x0)), .val (.int (own_v0_2 x1)), .val (.int (own_v0_3 x1)), .val (.int (own_v0_4 x2)), .val (.int (own_v0_5 x2)), .val (.int (own_v0_6 y3)), .val (.long (own_v0_7 y3)), .second, .val (.int (x4 &&& (63 : Int32))), .val (.int (own_v0_8 x4)), .val (.int (x5 &&& (3 : Int32))), .val (.int (own_v0_9 x5)), .val (.int (own_j0_1 x5)), .val (.int (own_v0_10 x5)), .val (.ref b76), .val (.int (x5 &&& (3 : Int32))), .unset, .unset, .unset, .unset] [(.long (1 : Int64)), (.long ((own_v0_3 x1).toInt64)), (.int ((x5 &&& (3 : Int32)) + (9 : Int32))), (.ref b76)]))
  obtain ⟨_, T93, L93, X93, ⟨rfl, N93q, e93⟩, st93⟩ := own_callS X92 hx hZ hown (hw _ own_t7) (hw _ own_t8) (hw _ own_t9) (hw _ own_t10) (by decide) (as := [(.long ((own_v0_3 x1).toInt64)), (.long (1 : Int64))]) (rm1 l Z a0 hw [] ((own_v0_3 x1).toInt64) (1 : Int64) h92 n0 (by decide)) e92 own_pd2 rfl (pc := 298) (Ls := #[.val (.int x0), .val (.int x1), .val (.int x2), .val (.long y3), .second, .val (.int x4), .val (.int x5), .val (.int (own_v0_1 x0)), .val (.int (own_v0_2 x1)), .val (.int (own_v0_3 x1)), .val (.int (own_v0_4 x2)), .val (.int (own_v0_5 x2)), .val (.int (own_v0_6 y3)), .val (.long (own_v0_7 y3)), .second, .val (.int (x4 &&& (63 : Int32))), .val (.int (own_v0_8 x4)), .val (.int (x5 &&& (3 : Int32))), .val (.int (own_v0_9 x5)), .val (.int (own_j0_1 x5)), .val (.int (own_v0_10 x5)), .val (.ref b76), .val (.int (x5 &&& (3 : Int32))), .unset, .unset, .unset, .unset]) (rest := [(.int ((x5 &&& (3 : Int32)) + (9 : Int32))), (.ref b76)]) (W := 2) (by rw [hml]; rfl) (Nat.le_of_eq rfl) (by decide) (by decide) (hb hby at_298) (by decide) (by decide)
  have N93 := Fr.app N92 N93q
  refine own_go st93 ?_
  show own_Goes p e below _ (T93.setTop (mkF m 301 #[.val (.int x0), .val (.int x1), .val (.int x2), .val (.long y3), .second, .val (.int x4), .val (.int x5), .val (.int (own_v0_1 x0)), .val (.int (own_v0_2 x1)), .val (.int (own_v0_3 x1)), .val (.int (own_v0_4 x2)), .val (.int (own_v0_5 x2)), .val (.int (own_v0_6 y3)), .val (.long (own_v0_7 y3)), .second, .val (.int (x4 &&& (63 : Int32))), .val (.int (own_v0_8 x4)), .val (.int (x5 &&& (3 : Int32))), .val (.int (own_v0_9 x5)), .val (.int (own_j0_1 x5)), .val (.int (own_v0_10 x5)), .val (.ref b76), .val (.int (x5 &&& (3 : Int32))), .unset, .unset, .unset, .unset] [(.int (own_f1 ((own_v0_3 x1).toInt64) (1 : Int64))), (.int ((x5 &&& (3 : Int32)) + (9 : Int32))), (.ref b76)]))
  obtain ⟨cl94, Ar94, sa94, ha94⟩ := id V92
  obtain ⟨T94, h94, X94, e94, W94, st94⟩ := stC X93 hx hZ e93 Ar94 (j := ((x5 &&& (3 : Int32)) + (9 : Int32))) (inb_of sa94 (own_ix x5 9)) (g := (mkF m 301 #[.val (.int x0), .val (.int x1), .val (.int x2), .val (.long y3), .second, .val (.int x4), .val (.int x5), .val (.int (own_v0_1 x0)), .val (.int (own_v0_2 x1)), .val (.int (own_v0_3 x1)), .val (.int (own_v0_4 x2)), .val (.int (own_v0_5 x2)), .val (.int (own_v0_6 y3)), .val (.long (own_v0_7 y3)), .second, .val (.int (x4 &&& (63 : Int32))), .val (.int (own_v0_8 x4)), .val (.int (x5 &&& (3 : Int32))), .val (.int (own_v0_9 x5)), .val (.int (own_j0_1 x5)), .val (.int (own_v0_10 x5)), .val (.ref b76), .val (.int (x5 &&& (3 : Int32))), .unset, .unset, .unset, .unset] [(.int (own_f1 ((own_v0_3 x1).toInt64) (1 : Int64))), (.int ((x5 &&& (3 : Int32)) + (9 : Int32))), (.ref b76)])) rfl rfl (hb hby at_301)
  have V94 : own_Tab Z h94 b76 (32 : Int32) (own_G0_10 x0 x1 x5) := own_Tab.set Ar94 sa94 ha94 W94 (own_ix x5 9)
  have N94 := Fr.snoc X94 N93 g_b76
  refine own_go st94 ?_
  show own_Goes p e below _ (T94.setTop (mkF m 302 #[.val (.int x0), .val (.int x1), .val (.int x2), .val (.long y3), .second, .val (.int x4), .val (.int x5), .val (.int (own_v0_1 x0)), .val (.int (own_v0_2 x1)), .val (.int (own_v0_3 x1)), .val (.int (own_v0_4 x2)), .val (.int (own_v0_5 x2)), .val (.int (own_v0_6 y3)), .val (.long (own_v0_7 y3)), .second, .val (.int (x4 &&& (63 : Int32))), .val (.int (own_v0_8 x4)), .val (.int (x5 &&& (3 : Int32))), .val (.int (own_v0_9 x5)), .val (.int (own_j0_1 x5)), .val (.int (own_v0_10 x5)), .val (.ref b76), .val (.int (x5 &&& (3 : Int32))), .unset, .unset, .unset, .unset] []))
  refine own_go (fun t k => XS.aload X94.here hx rfl (hb hby at_302) rfl rfl k) ?_
  show own_Goes p e below _ (T94.setTop (mkF m 304 #[.val (.int x0), .val (.int x1), .val (.int x2), .val (.long y3), .second, .val (.int x4), .val (.int x5), .val (.int (own_v0_1 x0)), .val (.int (own_v0_2 x1)), .val (.int (own_v0_3 x1)), .val (.int (own_v0_4 x2)), .val (.int (own_v0_5 x2)), .val (.int (own_v0_6 y3)), .val (.long (own_v0_7 y3)), .second, .val (.int (x4 &&& (63 : Int32))), .val (.int (own_v0_8 x4)), .val (.int (x5 &&& (3 : Int32))), .val (.int (own_v0_9 x5)), .val (.int (own_j0_1 x5)), .val (.int (own_v0_10 x5)), .val (.ref b76), .val (.int (x5 &&& (3 : Int32))), .unset, .unset, .unset, .unset] [(.ref b76)]))
  refine own_go (fun t k => XS.iload X94.here hx rfl (hb hby at_304) rfl k) ?_
  show own_Goes p e below _ (T94.setTop (mkF m 306 #[.val (.int x0), .val (.int x1), .val (.int x2), .val (.long y3), .second, .val (.int x4), .val (.int x5), .val (.int (own_v0_1 x0)), .val (.int (own_v0_2 x1)), .val (.int (own_v0_3 x1)), .val (.int (own_v0_4 x2)), .val (.int (own_v0_5 x2)), .val (.int (own_v0_6 y3)), .val (.long (own_v0_7 y3)), .second, .val (.int (x4 &&& (63 : Int32))), .val (.int (own_v0_8 x4)), .val (.int (x5 &&& (3 : Int32))), .val (.int (own_v0_9 x5)), .val (.int (own_j0_1 x5)), .val (.int (own_v0_10 x5)), .val (.ref b76), .val (.int (x5 &&& (3 : Int32))), .unset, .unset, .unset, .unset] [(.int (x5 &&& (3 : Int32))), (.ref b76)]))
  refine own_go (fun t k => XS.bipush X94.here hx rfl (hb hby at_306) k) ?_
  show own_Goes p e below _ (T94.setTop (mkF m 308 #[.val (.int x0), .val (.int x1), .val (.int x2), .val (.long y3), .second, .val (.int x4), .val (.int x5), .val (.int (own_v0_1 x0)), .val (.int (own_v0_2 x1)), .val (.int (own_v0_3 x1)), .val (.int (own_v0_4 x2)), .val (.int (own_v0_5 x2)), .val (.int (own_v0_6 y3)), .val (.long (own_v0_7 y3)), .second, .val (.int (x4 &&& (63 : Int32))), .val (.int (own_v0_8 x4)), .val (.int (x5 &&& (3 : Int32))), .val (.int (own_v0_9 x5)), .val (.int (own_j0_1 x5)), .val (.int (own_v0_10 x5)), .val (.ref b76), .val (.int (x5 &&& (3 : Int32))), .unset, .unset, .unset, .unset] [(.int (10 : Int32)), (.int (x5 &&& (3 : Int32))), (.ref b76)]))
  refine own_go (fun t k => XS.iadd X94.here hx rfl (hb hby at_308) rfl k) ?_
  show own_Goes p e below _ (T94.setTop (mkF m 309 #[.val (.int x0), .val (.int x1), .val (.int x2), .val (.long y3), .second, .val (.int x4), .val (.int x5), .val (.int (own_v0_1 x0)), .val (.int (own_v0_2 x1)), .val (.int (own_v0_3 x1)), .val (.int (own_v0_4 x2)), .val (.int (own_v0_5 x2)), .val (.int (own_v0_6 y3)), .val (.long (own_v0_7 y3)), .second, .val (.int (x4 &&& (63 : Int32))), .val (.int (own_v0_8 x4)), .val (.int (x5 &&& (3 : Int32))), .val (.int (own_v0_9 x5)), .val (.int (own_j0_1 x5)), .val (.int (own_v0_10 x5)), .val (.ref b76), .val (.int (x5 &&& (3 : Int32))), .unset, .unset, .unset, .unset] [(.int ((x5 &&& (3 : Int32)) + (10 : Int32))), (.ref b76)]))
  refine own_go (fun t k => XS.bipush X94.here hx rfl (hb hby at_309) k) ?_
  show own_Goes p e below _ (T94.setTop (mkF m 311 #[.val (.int x0), .val (.int x1), .val (.int x2), .val (.long y3), .second, .val (.int x4), .val (.int x5), .val (.int (own_v0_1 x0)), .val (.int (own_v0_2 x1)), .val (.int (own_v0_3 x1)), .val (.int (own_v0_4 x2)), .val (.int (own_v0_5 x2)), .val (.int (own_v0_6 y3)), .val (.long (own_v0_7 y3)), .second, .val (.int (x4 &&& (63 : Int32))), .val (.int (own_v0_8 x4)), .val (.int (x5 &&& (3 : Int32))), .val (.int (own_v0_9 x5)), .val (.int (own_j0_1 x5)), .val (.int (own_v0_10 x5)), .val (.ref b76), .val (.int (x5 &&& (3 : Int32))), .unset, .unset, .unset, .unset] [(.int (84 : Int32)), (.int ((x5 &&& (3 : Int32)) + (10 : Int32))), (.ref b76)]))
  obtain ⟨cl95, Ar95, sa95, ha95⟩ := id V94
  obtain ⟨T95, h95, X95, e95, W95, st95⟩ := stC X94 hx hZ e94 Ar95 (j := ((x5 &&& (3 : Int32)) + (10 : Int32))) (inb_of sa95 (own_ix x5 10)) (g := (mkF m 311 #[.val (.int x0), .val (.int x1), .val (.int x2), .val (.long y3), .second, .val (.int x4), .val (.int x5), .val (.int (own_v0_1 x0)), .val (.int (own_v0_2 x1)), .val (.int (own_v0_3 x1)), .val (.int (own_v0_4 x2)), .val (.int (own_v0_5 x2)), .val (.int (own_v0_6 y3)), .val (.long (own_v0_7 y3)), .second, .val (.int (x4 &&& (63 : Int32))), .val (.int (own_v0_8 x4)), .val (.int (x5 &&& (3 : Int32))), .val (.int (own_v0_9 x5)), .val (.int (own_j0_1 x5)), .val (.int (own_v0_10 x5)), .val (.ref b76), .val (.int (x5 &&& (3 : Int32))), .unset, .unset, .unset, .unset] [(.int (84 : Int32)), (.int ((x5 &&& (3 : Int32)) + (10 : Int32))), (.ref b76)])) rfl rfl (hb hby at_311)
  have V95 : own_Tab Z h95 b76 (32 : Int32) (own_G0_11 x0 x1 x5) := own_Tab.set Ar95 sa95 ha95 W95 (own_ix x5 10)
  have N95 := Fr.snoc X95 N94 g_b76
  refine own_go st95 ?_
  show own_Goes p e below _ (T95.setTop (mkF m 312 #[.val (.int x0), .val (.int x1), .val (.int x2), .val (.long y3), .second, .val (.int x4), .val (.int x5), .val (.int (own_v0_1 x0)), .val (.int (own_v0_2 x1)), .val (.int (own_v0_3 x1)), .val (.int (own_v0_4 x2)), .val (.int (own_v0_5 x2)), .val (.int (own_v0_6 y3)), .val (.long (own_v0_7 y3)), .second, .val (.int (x4 &&& (63 : Int32))), .val (.int (own_v0_8 x4)), .val (.int (x5 &&& (3 : Int32))), .val (.int (own_v0_9 x5)), .val (.int (own_j0_1 x5)), .val (.int (own_v0_10 x5)), .val (.ref b76), .val (.int (x5 &&& (3 : Int32))), .unset, .unset, .unset, .unset] []))
  refine own_go (fun t k => XS.aload X95.here hx rfl (hb hby at_312) rfl rfl k) ?_
  show own_Goes p e below _ (T95.setTop (mkF m 314 #[.val (.int x0), .val (.int x1), .val (.int x2), .val (.long y3), .second, .val (.int x4), .val (.int x5), .val (.int (own_v0_1 x0)), .val (.int (own_v0_2 x1)), .val (.int (own_v0_3 x1)), .val (.int (own_v0_4 x2)), .val (.int (own_v0_5 x2)), .val (.int (own_v0_6 y3)), .val (.long (own_v0_7 y3)), .second, .val (.int (x4 &&& (63 : Int32))), .val (.int (own_v0_8 x4)), .val (.int (x5 &&& (3 : Int32))), .val (.int (own_v0_9 x5)), .val (.int (own_j0_1 x5)), .val (.int (own_v0_10 x5)), .val (.ref b76), .val (.int (x5 &&& (3 : Int32))), .unset, .unset, .unset, .unset] [(.ref b76)]))
  refine own_go (fun t k => XS.iload X95.here hx rfl (hb hby at_314) rfl k) ?_
  show own_Goes p e below _ (T95.setTop (mkF m 316 #[.val (.int x0), .val (.int x1), .val (.int x2), .val (.long y3), .second, .val (.int x4), .val (.int x5), .val (.int (own_v0_1 x0)), .val (.int (own_v0_2 x1)), .val (.int (own_v0_3 x1)), .val (.int (own_v0_4 x2)), .val (.int (own_v0_5 x2)), .val (.int (own_v0_6 y3)), .val (.long (own_v0_7 y3)), .second, .val (.int (x4 &&& (63 : Int32))), .val (.int (own_v0_8 x4)), .val (.int (x5 &&& (3 : Int32))), .val (.int (own_v0_9 x5)), .val (.int (own_j0_1 x5)), .val (.int (own_v0_10 x5)), .val (.ref b76), .val (.int (x5 &&& (3 : Int32))), .unset, .unset, .unset, .unset] [(.int (x5 &&& (3 : Int32))), (.ref b76)]))
  refine own_go (fun t k => XS.bipush X95.here hx rfl (hb hby at_316) k) ?_
  show own_Goes p e below _ (T95.setTop (mkF m 318 #[.val (.int x0), .val (.int x1), .val (.int x2), .val (.long y3), .second, .val (.int x4), .val (.int x5), .val (.int (own_v0_1 x0)), .val (.int (own_v0_2 x1)), .val (.int (own_v0_3 x1)), .val (.int (own_v0_4 x2)), .val (.int (own_v0_5 x2)), .val (.int (own_v0_6 y3)), .val (.long (own_v0_7 y3)), .second, .val (.int (x4 &&& (63 : Int32))), .val (.int (own_v0_8 x4)), .val (.int (x5 &&& (3 : Int32))), .val (.int (own_v0_9 x5)), .val (.int (own_j0_1 x5)), .val (.int (own_v0_10 x5)), .val (.ref b76), .val (.int (x5 &&& (3 : Int32))), .unset, .unset, .unset, .unset] [(.int (11 : Int32)), (.int (x5 &&& (3 : Int32))), (.ref b76)]))
  refine own_go (fun t k => XS.iadd X95.here hx rfl (hb hby at_318) rfl k) ?_
  show own_Goes p e below _ (T95.setTop (mkF m 319 #[.val (.int x0), .val (.int x1), .val (.int x2), .val (.long y3), .second, .val (.int x4), .val (.int x5), .val (.int (own_v0_1 x0)), .val (.int (own_v0_2 x1)), .val (.int (own_v0_3 x1)), .val (.int (own_v0_4 x2)), .val (.int (own_v0_5 x2)), .val (.int (own_v0_6 y3)), .val (.long (own_v0_7 y3)), .second, .val (.int (x4 &&& (63 : Int32))), .val (.int (own_v0_8 x4)), .val (.int (x5 &&& (3 : Int32))), .val (.int (own_v0_9 x5)), .val (.int (own_j0_1 x5)), .val (.int (own_v0_10 x5)), .val (.ref b76), .val (.int (x5 &&& (3 : Int32))), .unset, .unset, .unset, .unset] [(.int ((x5 &&& (3 : Int32)) + (11 : Int32))), (.ref b76)]))
  refine own_go (fun t k => XS.iload X95.here hx rfl (hb hby at_319) rfl k) ?_
  show own_Goes p e below _ (T95.setTop (mkF m 321 #[.val (.int x0), .val (.int x1), .val (.int x2), .val (.long y3), .second, .val (.int x4), .val (.int x5), .val (.int (own_v0_1 x0)), .val (.int (own_v0_2 x1)), .val (.int (own_v0_3 x1)), .val (.int (own_v0_4 x2)), .val (.int (own_v0_5 x2)), .val (.int (own_v0_6 y3)), .val (.long (own_v0_7 y3)), .second, .val (.int (x4 &&& (63 : Int32))), .val (.int (own_v0_8 x4)), .val (.int (x5 &&& (3 : Int32))), .val (.int (own_v0_9 x5)), .val (.int (own_j0_1 x5)), .val (.int (own_v0_10 x5)), .val (.ref b76), .val (.int (x5 &&& (3 : Int32))), .unset, .unset, .unset, .unset] [(.int (own_v0_4 x2)), (.int ((x5 &&& (3 : Int32)) + (11 : Int32))), (.ref b76)]))
  refine own_go (fun t k => XS.i2l X95.here hx rfl (hb hby at_321) rfl k) ?_
  show own_Goes p e below _ (T95.setTop (mkF m 322 #[.val (.int x0), .val (.int x1), .val (.int x2), .val (.long y3), .second, .val (.int x4), .val (.int x5), .val (.int (own_v0_1 x0)), .val (.int (own_v0_2 x1)), .val (.int (own_v0_3 x1)), .val (.int (own_v0_4 x2)), .val (.int (own_v0_5 x2)), .val (.int (own_v0_6 y3)), .val (.long (own_v0_7 y3)), .second, .val (.int (x4 &&& (63 : Int32))), .val (.int (own_v0_8 x4)), .val (.int (x5 &&& (3 : Int32))), .val (.int (own_v0_9 x5)), .val (.int (own_j0_1 x5)), .val (.int (own_v0_10 x5)), .val (.ref b76), .val (.int (x5 &&& (3 : Int32))), .unset, .unset, .unset, .unset] [(.long ((own_v0_4 x2).toInt64)), (.int ((x5 &&& (3 : Int32)) + (11 : Int32))), (.ref b76)]))
  refine own_go (fun t k => X95.ldc2Long hx hown (mvT hZ (hw _ own_t11)) (g := (mkF m 322 #[.val (.int x0), .val (.int x1), .val (.int x2), .val (.long y3), .second, .val (.int x4), .val (.int x5), .val (.int (own_v0_1 x0)), .val (.int (own_v0_2 x1)), .val (.int (own_v0_3 x1)), .val (.int (own_v0_4 x2)), .val (.int (own_v0_5 x2)), .val (.int (own_v0_6 y3)), .val (.long (own_v0_7 y3)), .second, .val (.int (x4 &&& (63 : Int32))), .val (.int (own_v0_8 x4)), .val (.int (x5 &&& (3 : Int32))), .val (.int (own_v0_9 x5)), .val (.int (own_j0_1 x5)), .val (.int (own_v0_10 x5)), .val (.ref b76), .val (.int (x5 &&& (3 : Int32))), .unset, .unset, .unset, .unset] [(.long ((own_v0_4 x2).toInt64)), (.int ((x5 &&& (3 : Int32)) + (11 : Int32))), (.ref b76)])) rfl (hb hby at_322) t k) ?_
  show own_Goes p e below _ (T95.setTop (mkF m 325 #[.val (.int x0), .val (.int x1), .val (.int x2), .val (.long y3), .second, .val (.int x4), .val (.int x5), .val (.int (own_v0_1 x0)), .val (.int (own_v0_2 x1)), .val (.int (own_v0_3 x1)), .val (.int (own_v0_4 x2)), .val (.int (own_v0_5 x2)), .val (.int (own_v0_6 y3)), .val (.long (own_v0_7 y3)), .second, .val (.int (x4 &&& (63 : Int32))), .val (.int (own_v0_8 x4)), .val (.int (x5 &&& (3 : Int32))), .val (.int (own_v0_9 x5)), .val (.int (own_j0_1 x5)), .val (.int (own_v0_10 x5)), .val (.ref b76), .val (.int (x5 &&& (3 : Int32))), .unset, .unset, .unset, .unset] [(.long (10 : Int64)), (.long ((own_v0_4 x2).toInt64)), (.int ((x5 &&& (3 : Int32)) + (11 : Int32))), (.ref b76)]))
  obtain ⟨_, T96, L96, X96, ⟨rfl, N96q, e96⟩, st96⟩ := own_callS X95 hx hZ hown (hw _ own_t7) (hw _ own_t8) (hw _ own_t9) (hw _ own_t10) (by decide) (as := [(.long ((own_v0_4 x2).toInt64)), (.long (10 : Int64))]) (rm1 l Z a0 hw [] ((own_v0_4 x2).toInt64) (10 : Int64) h95 n0 (by decide)) e95 own_pd2 rfl (pc := 325) (Ls := #[.val (.int x0), .val (.int x1), .val (.int x2), .val (.long y3), .second, .val (.int x4), .val (.int x5), .val (.int (own_v0_1 x0)), .val (.int (own_v0_2 x1)), .val (.int (own_v0_3 x1)), .val (.int (own_v0_4 x2)), .val (.int (own_v0_5 x2)), .val (.int (own_v0_6 y3)), .val (.long (own_v0_7 y3)), .second, .val (.int (x4 &&& (63 : Int32))), .val (.int (own_v0_8 x4)), .val (.int (x5 &&& (3 : Int32))), .val (.int (own_v0_9 x5)), .val (.int (own_j0_1 x5)), .val (.int (own_v0_10 x5)), .val (.ref b76), .val (.int (x5 &&& (3 : Int32))), .unset, .unset, .unset, .unset]) (rest := [(.int ((x5 &&& (3 : Int32)) + (11 : Int32))), (.ref b76)]) (W := 2) (by rw [hml]; rfl) (Nat.le_of_eq rfl) (by decide) (by decide) (hb hby at_325) (by decide) (by decide)
  have N96 := Fr.app N95 N96q
  refine own_go st96 ?_
  show own_Goes p e below _ (T96.setTop (mkF m 328 #[.val (.int x0), .val (.int x1), .val (.int x2), .val (.long y3), .second, .val (.int x4), .val (.int x5), .val (.int (own_v0_1 x0)), .val (.int (own_v0_2 x1)), .val (.int (own_v0_3 x1)), .val (.int (own_v0_4 x2)), .val (.int (own_v0_5 x2)), .val (.int (own_v0_6 y3)), .val (.long (own_v0_7 y3)), .second, .val (.int (x4 &&& (63 : Int32))), .val (.int (own_v0_8 x4)), .val (.int (x5 &&& (3 : Int32))), .val (.int (own_v0_9 x5)), .val (.int (own_j0_1 x5)), .val (.int (own_v0_10 x5)), .val (.ref b76), .val (.int (x5 &&& (3 : Int32))), .unset, .unset, .unset, .unset] [(.int (own_f1 ((own_v0_4 x2).toInt64) (10 : Int64))), (.int ((x5 &&& (3 : Int32)) + (11 : Int32))), (.ref b76)]))
  obtain ⟨cl97, Ar97, sa97, ha97⟩ := id V95
  obtain ⟨T97, h97, X97, e97, W97, st97⟩ := stC X96 hx hZ e96 Ar97 (j := ((x5 &&& (3 : Int32)) + (11 : Int32))) (inb_of sa97 (own_ix x5 11)) (g := (mkF m 328 #[.val (.int x0), .val (.int x1), .val (.int x2), .val (.long y3), .second, .val (.int x4), .val (.int x5), .val (.int (own_v0_1 x0)), .val (.int (own_v0_2 x1)), .val (.int (own_v0_3 x1)), .val (.int (own_v0_4 x2)), .val (.int (own_v0_5 x2)), .val (.int (own_v0_6 y3)), .val (.long (own_v0_7 y3)), .second, .val (.int (x4 &&& (63 : Int32))), .val (.int (own_v0_8 x4)), .val (.int (x5 &&& (3 : Int32))), .val (.int (own_v0_9 x5)), .val (.int (own_j0_1 x5)), .val (.int (own_v0_10 x5)), .val (.ref b76), .val (.int (x5 &&& (3 : Int32))), .unset, .unset, .unset, .unset] [(.int (own_f1 ((own_v0_4 x2).toInt64) (10 : Int64))), (.int ((x5 &&& (3 : Int32)) + (11 : Int32))), (.ref b76)])) rfl rfl (hb hby at_328)
  have V97 : own_Tab Z h97 b76 (32 : Int32) (own_G0_12 x0 x1 x2 x5) := own_Tab.set Ar97 sa97 ha97 W97 (own_ix x5 11)
  have N97 := Fr.snoc X97 N96 g_b76
  refine own_go st97 ?_
  show own_Goes p e below _ (T97.setTop (mkF m 329 #[.val (.int x0), .val (.int x1), .val (.int x2), .val (.long y3), .second, .val (.int x4), .val (.int x5), .val (.int (own_v0_1 x0)), .val (.int (own_v0_2 x1)), .val (.int (own_v0_3 x1)), .val (.int (own_v0_4 x2)), .val (.int (own_v0_5 x2)), .val (.int (own_v0_6 y3)), .val (.long (own_v0_7 y3)), .second, .val (.int (x4 &&& (63 : Int32))), .val (.int (own_v0_8 x4)), .val (.int (x5 &&& (3 : Int32))), .val (.int (own_v0_9 x5)), .val (.int (own_j0_1 x5)), .val (.int (own_v0_10 x5)), .val (.ref b76), .val (.int (x5 &&& (3 : Int32))), .unset, .unset, .unset, .unset] []))
  refine own_go (fun t k => XS.aload X97.here hx rfl (hb hby at_329) rfl rfl k) ?_
  show own_Goes p e below _ (T97.setTop (mkF m 331 #[.val (.int x0), .val (.int x1), .val (.int x2), .val (.long y3), .second, .val (.int x4), .val (.int x5), .val (.int (own_v0_1 x0)), .val (.int (own_v0_2 x1)), .val (.int (own_v0_3 x1)), .val (.int (own_v0_4 x2)), .val (.int (own_v0_5 x2)), .val (.int (own_v0_6 y3)), .val (.long (own_v0_7 y3)), .second, .val (.int (x4 &&& (63 : Int32))), .val (.int (own_v0_8 x4)), .val (.int (x5 &&& (3 : Int32))), .val (.int (own_v0_9 x5)), .val (.int (own_j0_1 x5)), .val (.int (own_v0_10 x5)), .val (.ref b76), .val (.int (x5 &&& (3 : Int32))), .unset, .unset, .unset, .unset] [(.ref b76)]))
  refine own_go (fun t k => XS.iload X97.here hx rfl (hb hby at_331) rfl k) ?_
  show own_Goes p e below _ (T97.setTop (mkF m 333 #[.val (.int x0), .val (.int x1), .val (.int x2), .val (.long y3), .second, .val (.int x4), .val (.int x5), .val (.int (own_v0_1 x0)), .val (.int (own_v0_2 x1)), .val (.int (own_v0_3 x1)), .val (.int (own_v0_4 x2)), .val (.int (own_v0_5 x2)), .val (.int (own_v0_6 y3)), .val (.long (own_v0_7 y3)), .second, .val (.int (x4 &&& (63 : Int32))), .val (.int (own_v0_8 x4)), .val (.int (x5 &&& (3 : Int32))), .val (.int (own_v0_9 x5)), .val (.int (own_j0_1 x5)), .val (.int (own_v0_10 x5)), .val (.ref b76), .val (.int (x5 &&& (3 : Int32))), .unset, .unset, .unset, .unset] [(.int (x5 &&& (3 : Int32))), (.ref b76)]))
  refine own_go (fun t k => XS.bipush X97.here hx rfl (hb hby at_333) k) ?_
  show own_Goes p e below _ (T97.setTop (mkF m 335 #[.val (.int x0), .val (.int x1), .val (.int x2), .val (.long y3), .second, .val (.int x4), .val (.int x5), .val (.int (own_v0_1 x0)), .val (.int (own_v0_2 x1)), .val (.int (own_v0_3 x1)), .val (.int (own_v0_4 x2)), .val (.int (own_v0_5 x2)), .val (.int (own_v0_6 y3)), .val (.long (own_v0_7 y3)), .second, .val (.int (x4 &&& (63 : Int32))), .val (.int (own_v0_8 x4)), .val (.int (x5 &&& (3 : Int32))), .val (.int (own_v0_9 x5)), .val (.int (own_j0_1 x5)), .val (.int (own_v0_10 x5)), .val (.ref b76), .val (.int (x5 &&& (3 : Int32))), .unset, .unset, .unset, .unset] [(.int (12 : Int32)), (.int (x5 &&& (3 : Int32))), (.ref b76)]))
  refine own_go (fun t k => XS.iadd X97.here hx rfl (hb hby at_335) rfl k) ?_
  show own_Goes p e below _ (T97.setTop (mkF m 336 #[.val (.int x0), .val (.int x1), .val (.int x2), .val (.long y3), .second, .val (.int x4), .val (.int x5), .val (.int (own_v0_1 x0)), .val (.int (own_v0_2 x1)), .val (.int (own_v0_3 x1)), .val (.int (own_v0_4 x2)), .val (.int (own_v0_5 x2)), .val (.int (own_v0_6 y3)), .val (.long (own_v0_7 y3)), .second, .val (.int (x4 &&& (63 : Int32))), .val (.int (own_v0_8 x4)), .val (.int (x5 &&& (3 : Int32))), .val (.int (own_v0_9 x5)), .val (.int (own_j0_1 x5)), .val (.int (own_v0_10 x5)), .val (.ref b76), .val (.int (x5 &&& (3 : Int32))), .unset, .unset, .unset, .unset] [(.int ((x5 &&& (3 : Int32)) + (12 : Int32))), (.ref b76)]))
  refine own_go (fun t k => XS.iload X97.here hx rfl (hb hby at_336) rfl k) ?_
  show own_Goes p e below _ (T97.setTop (mkF m 338 #[.val (.int x0), .val (.int x1), .val (.int x2), .val (.long y3), .second, .val (.int x4), .val (.int x5), .val (.int (own_v0_1 x0)), .val (.int (own_v0_2 x1)), .val (.int (own_v0_3 x1)), .val (.int (own_v0_4 x2)), .val (.int (own_v0_5 x2)), .val (.int (own_v0_6 y3)), .val (.long (own_v0_7 y3)), .second, .val (.int (x4 &&& (63 : Int32))), .val (.int (own_v0_8 x4)), .val (.int (x5 &&& (3 : Int32))), .val (.int (own_v0_9 x5)), .val (.int (own_j0_1 x5)), .val (.int (own_v0_10 x5)), .val (.ref b76), .val (.int (x5 &&& (3 : Int32))), .unset, .unset, .unset, .unset] [(.int (own_v0_4 x2)), (.int ((x5 &&& (3 : Int32)) + (12 : Int32))), (.ref b76)]))
  refine own_go (fun t k => XS.i2l X97.here hx rfl (hb hby at_338) rfl k) ?_
  show own_Goes p e below _ (T97.setTop (mkF m 339 #[.val (.int x0), .val (.int x1), .val (.int x2), .val (.long y3), .second, .val (.int x4), .val (.int x5), .val (.int (own_v0_1 x0)), .val (.int (own_v0_2 x1)), .val (.int (own_v0_3 x1)), .val (.int (own_v0_4 x2)), .val (.int (own_v0_5 x2)), .val (.int (own_v0_6 y3)), .val (.long (own_v0_7 y3)), .second, .val (.int (x4 &&& (63 : Int32))), .val (.int (own_v0_8 x4)), .val (.int (x5 &&& (3 : Int32))), .val (.int (own_v0_9 x5)), .val (.int (own_j0_1 x5)), .val (.int (own_v0_10 x5)), .val (.ref b76), .val (.int (x5 &&& (3 : Int32))), .unset, .unset, .unset, .unset] [(.long ((own_v0_4 x2).toInt64)), (.int ((x5 &&& (3 : Int32)) + (12 : Int32))), (.ref b76)]))
  refine own_go (fun t k => XS.lconst X97.here hx rfl (hb hby at_339) k) ?_
  show own_Goes p e below _ (T97.setTop (mkF m 340 #[.val (.int x0), .val (.int x1), .val (.int x2), .val (.long y3), .second, .val (.int x4), .val (.int x5), .val (.int (own_v0_1 x0)), .val (.int (own_v0_2 x1)), .val (.int (own_v0_3 x1)), .val (.int (own_v0_4 x2)), .val (.int (own_v0_5 x2)), .val (.int (own_v0_6 y3)), .val (.long (own_v0_7 y3)), .second, .val (.int (x4 &&& (63 : Int32))), .val (.int (own_v0_8 x4)), .val (.int (x5 &&& (3 : Int32))), .val (.int (own_v0_9 x5)), .val (.int (own_j0_1 x5)), .val (.int (own_v0_10 x5)), .val (.ref b76), .val (.int (x5 &&& (3 : Int32))), .unset, .unset, .unset, .unset] [(.long (1 : Int64)), (.long ((own_v0_4 x2).toInt64)), (.int ((x5 &&& (3 : Int32)) + (12 : Int32))), (.ref b76)]))
  obtain ⟨_, T98, L98, X98, ⟨rfl, N98q, e98⟩, st98⟩ := own_callS X97 hx hZ hown (hw _ own_t7) (hw _ own_t8) (hw _ own_t9) (hw _ own_t10) (by decide) (as := [(.long ((own_v0_4 x2).toInt64)), (.long (1 : Int64))]) (rm1 l Z a0 hw [] ((own_v0_4 x2).toInt64) (1 : Int64) h97 n0 (by decide)) e97 own_pd2 rfl (pc := 340) (Ls := #[.val (.int x0), .val (.int x1), .val (.int x2), .val (.long y3), .second, .val (.int x4), .val (.int x5), .val (.int (own_v0_1 x0)), .val (.int (own_v0_2 x1)), .val (.int (own_v0_3 x1)), .val (.int (own_v0_4 x2)), .val (.int (own_v0_5 x2)), .val (.int (own_v0_6 y3)), .val (.long (own_v0_7 y3)), .second, .val (.int (x4 &&& (63 : Int32))), .val (.int (own_v0_8 x4)), .val (.int (x5 &&& (3 : Int32))), .val (.int (own_v0_9 x5)), .val (.int (own_j0_1 x5)), .val (.int (own_v0_10 x5)), .val (.ref b76), .val (.int (x5 &&& (3 : Int32))), .unset, .unset, .unset, .unset]) (rest := [(.int ((x5 &&& (3 : Int32)) + (12 : Int32))), (.ref b76)]) (W := 2) (by rw [hml]; rfl) (Nat.le_of_eq rfl) (by decide) (by decide) (hb hby at_340) (by decide) (by decide)
  have N98 := Fr.app N97 N98q
  refine own_go st98 ?_
  show own_Goes p e below _ (T98.setTop (mkF m 343 #[.val (.int x0), .val (.int x1), .val (.int x2), .val (.long y3), .second, .val (.int x4), .val (.int x5), .val (.int (own_v0_1 x0)), .val (.int (own_v0_2 x1)), .val (.int (own_v0_3 x1)), .val (.int (own_v0_4 x2)), .val (.int (own_v0_5 x2)), .val (.int (own_v0_6 y3)), .val (.long (own_v0_7 y3)), .second, .val (.int (x4 &&& (63 : Int32))), .val (.int (own_v0_8 x4)), .val (.int (x5 &&& (3 : Int32))), .val (.int (own_v0_9 x5)), .val (.int (own_j0_1 x5)), .val (.int (own_v0_10 x5)), .val (.ref b76), .val (.int (x5 &&& (3 : Int32))), .unset, .unset, .unset, .unset] [(.int (own_f1 ((own_v0_4 x2).toInt64) (1 : Int64))), (.int ((x5 &&& (3 : Int32)) + (12 : Int32))), (.ref b76)]))
  obtain ⟨cl99, Ar99, sa99, ha99⟩ := id V97
  obtain ⟨T99, h99, X99, e99, W99, st99⟩ := stC X98 hx hZ e98 Ar99 (j := ((x5 &&& (3 : Int32)) + (12 : Int32))) (inb_of sa99 (own_ix x5 12)) (g := (mkF m 343 #[.val (.int x0), .val (.int x1), .val (.int x2), .val (.long y3), .second, .val (.int x4), .val (.int x5), .val (.int (own_v0_1 x0)), .val (.int (own_v0_2 x1)), .val (.int (own_v0_3 x1)), .val (.int (own_v0_4 x2)), .val (.int (own_v0_5 x2)), .val (.int (own_v0_6 y3)), .val (.long (own_v0_7 y3)), .second, .val (.int (x4 &&& (63 : Int32))), .val (.int (own_v0_8 x4)), .val (.int (x5 &&& (3 : Int32))), .val (.int (own_v0_9 x5)), .val (.int (own_j0_1 x5)), .val (.int (own_v0_10 x5)), .val (.ref b76), .val (.int (x5 &&& (3 : Int32))), .unset, .unset, .unset, .unset] [(.int (own_f1 ((own_v0_4 x2).toInt64) (1 : Int64))), (.int ((x5 &&& (3 : Int32)) + (12 : Int32))), (.ref b76)])) rfl rfl (hb hby at_343)
  have V99 : own_Tab Z h99 b76 (32 : Int32) (own_G0_13 x0 x1 x2 x5) := own_Tab.set Ar99 sa99 ha99 W99 (own_ix x5 12)
  have N99 := Fr.snoc X99 N98 g_b76
  refine own_go st99 ?_
  show own_Goes p e below _ (T99.setTop (mkF m 344 #[.val (.int x0), .val (.int x1), .val (.int x2), .val (.long y3), .second, .val (.int x4), .val (.int x5), .val (.int (own_v0_1 x0)), .val (.int (own_v0_2 x1)), .val (.int (own_v0_3 x1)), .val (.int (own_v0_4 x2)), .val (.int (own_v0_5 x2)), .val (.int (own_v0_6 y3)), .val (.long (own_v0_7 y3)), .second, .val (.int (x4 &&& (63 : Int32))), .val (.int (own_v0_8 x4)), .val (.int (x5 &&& (3 : Int32))), .val (.int (own_v0_9 x5)), .val (.int (own_j0_1 x5)), .val (.int (own_v0_10 x5)), .val (.ref b76), .val (.int (x5 &&& (3 : Int32))), .unset, .unset, .unset, .unset] []))
  refine own_go (fun t k => XS.aload X99.here hx rfl (hb hby at_344) rfl rfl k) ?_
  show own_Goes p e below _ (T99.setTop (mkF m 346 #[.val (.int x0), .val (.int x1), .val (.int x2), .val (.long y3), .second, .val (.int x4), .val (.int x5), .val (.int (own_v0_1 x0)), .val (.int (own_v0_2 x1)), .val (.int (own_v0_3 x1)), .val (.int (own_v0_4 x2)), .val (.int (own_v0_5 x2)), .val (.int (own_v0_6 y3)), .val (.long (own_v0_7 y3)), .second, .val (.int (x4 &&& (63 : Int32))), .val (.int (own_v0_8 x4)), .val (.int (x5 &&& (3 : Int32))), .val (.int (own_v0_9 x5)), .val (.int (own_j0_1 x5)), .val (.int (own_v0_10 x5)), .val (.ref b76), .val (.int (x5 &&& (3 : Int32))), .unset, .unset, .unset, .unset] [(.ref b76)]))
  refine own_go (fun t k => XS.iload X99.here hx rfl (hb hby at_346) rfl k) ?_
  show own_Goes p e below _ (T99.setTop (mkF m 348 #[.val (.int x0), .val (.int x1), .val (.int x2), .val (.long y3), .second, .val (.int x4), .val (.int x5), .val (.int (own_v0_1 x0)), .val (.int (own_v0_2 x1)), .val (.int (own_v0_3 x1)), .val (.int (own_v0_4 x2)), .val (.int (own_v0_5 x2)), .val (.int (own_v0_6 y3)), .val (.long (own_v0_7 y3)), .second, .val (.int (x4 &&& (63 : Int32))), .val (.int (own_v0_8 x4)), .val (.int (x5 &&& (3 : Int32))), .val (.int (own_v0_9 x5)), .val (.int (own_j0_1 x5)), .val (.int (own_v0_10 x5)), .val (.ref b76), .val (.int (x5 &&& (3 : Int32))), .unset, .unset, .unset, .unset] [(.int (x5 &&& (3 : Int32))), (.ref b76)]))
  refine own_go (fun t k => XS.bipush X99.here hx rfl (hb hby at_348) k) ?_
  show own_Goes p e below _ (T99.setTop (mkF m 350 #[.val (.int x0), .val (.int x1), .val (.int x2), .val (.long y3), .second, .val (.int x4), .val (.int x5), .val (.int (own_v0_1 x0)), .val (.int (own_v0_2 x1)), .val (.int (own_v0_3 x1)), .val (.int (own_v0_4 x2)), .val (.int (own_v0_5 x2)), .val (.int (own_v0_6 y3)), .val (.long (own_v0_7 y3)), .second, .val (.int (x4 &&& (63 : Int32))), .val (.int (own_v0_8 x4)), .val (.int (x5 &&& (3 : Int32))), .val (.int (own_v0_9 x5)), .val (.int (own_j0_1 x5)), .val (.int (own_v0_10 x5)), .val (.ref b76), .val (.int (x5 &&& (3 : Int32))), .unset, .unset, .unset, .unset] [(.int (13 : Int32)), (.int (x5 &&& (3 : Int32))), (.ref b76)]))
  refine own_go (fun t k => XS.iadd X99.here hx rfl (hb hby at_350) rfl k) ?_
  show own_Goes p e below _ (T99.setTop (mkF m 351 #[.val (.int x0), .val (.int x1), .val (.int x2), .val (.long y3), .second, .val (.int x4), .val (.int x5), .val (.int (own_v0_1 x0)), .val (.int (own_v0_2 x1)), .val (.int (own_v0_3 x1)), .val (.int (own_v0_4 x2)), .val (.int (own_v0_5 x2)), .val (.int (own_v0_6 y3)), .val (.long (own_v0_7 y3)), .second, .val (.int (x4 &&& (63 : Int32))), .val (.int (own_v0_8 x4)), .val (.int (x5 &&& (3 : Int32))), .val (.int (own_v0_9 x5)), .val (.int (own_j0_1 x5)), .val (.int (own_v0_10 x5)), .val (.ref b76), .val (.int (x5 &&& (3 : Int32))), .unset, .unset, .unset, .unset] [(.int ((x5 &&& (3 : Int32)) + (13 : Int32))), (.ref b76)]))
  refine own_go (fun t k => XS.bipush X99.here hx rfl (hb hby at_351) k) ?_
  show own_Goes p e below _ (T99.setTop (mkF m 353 #[.val (.int x0), .val (.int x1), .val (.int x2), .val (.long y3), .second, .val (.int x4), .val (.int x5), .val (.int (own_v0_1 x0)), .val (.int (own_v0_2 x1)), .val (.int (own_v0_3 x1)), .val (.int (own_v0_4 x2)), .val (.int (own_v0_5 x2)), .val (.int (own_v0_6 y3)), .val (.long (own_v0_7 y3)), .second, .val (.int (x4 &&& (63 : Int32))), .val (.int (own_v0_8 x4)), .val (.int (x5 &&& (3 : Int32))), .val (.int (own_v0_9 x5)), .val (.int (own_j0_1 x5)), .val (.int (own_v0_10 x5)), .val (.ref b76), .val (.int (x5 &&& (3 : Int32))), .unset, .unset, .unset, .unset] [(.int (58 : Int32)), (.int ((x5 &&& (3 : Int32)) + (13 : Int32))), (.ref b76)]))
  obtain ⟨cl100, Ar100, sa100, ha100⟩ := id V99
  obtain ⟨T100, h100, X100, e100, W100, st100⟩ := stC X99 hx hZ e99 Ar100 (j := ((x5 &&& (3 : Int32)) + (13 : Int32))) (inb_of sa100 (own_ix x5 13)) (g := (mkF m 353 #[.val (.int x0), .val (.int x1), .val (.int x2), .val (.long y3), .second, .val (.int x4), .val (.int x5), .val (.int (own_v0_1 x0)), .val (.int (own_v0_2 x1)), .val (.int (own_v0_3 x1)), .val (.int (own_v0_4 x2)), .val (.int (own_v0_5 x2)), .val (.int (own_v0_6 y3)), .val (.long (own_v0_7 y3)), .second, .val (.int (x4 &&& (63 : Int32))), .val (.int (own_v0_8 x4)), .val (.int (x5 &&& (3 : Int32))), .val (.int (own_v0_9 x5)), .val (.int (own_j0_1 x5)), .val (.int (own_v0_10 x5)), .val (.ref b76), .val (.int (x5 &&& (3 : Int32))), .unset, .unset, .unset, .unset] [(.int (58 : Int32)), (.int ((x5 &&& (3 : Int32)) + (13 : Int32))), (.ref b76)])) rfl rfl (hb hby at_353)
  have V100 : own_Tab Z h100 b76 (32 : Int32) (own_G0_14 x0 x1 x2 x5) := own_Tab.set Ar100 sa100 ha100 W100 (own_ix x5 13)
  have N100 := Fr.snoc X100 N99 g_b76
  refine own_go st100 ?_
  show own_Goes p e below _ (T100.setTop (mkF m 354 #[.val (.int x0), .val (.int x1), .val (.int x2), .val (.long y3), .second, .val (.int x4), .val (.int x5), .val (.int (own_v0_1 x0)), .val (.int (own_v0_2 x1)), .val (.int (own_v0_3 x1)), .val (.int (own_v0_4 x2)), .val (.int (own_v0_5 x2)), .val (.int (own_v0_6 y3)), .val (.long (own_v0_7 y3)), .second, .val (.int (x4 &&& (63 : Int32))), .val (.int (own_v0_8 x4)), .val (.int (x5 &&& (3 : Int32))), .val (.int (own_v0_9 x5)), .val (.int (own_j0_1 x5)), .val (.int (own_v0_10 x5)), .val (.ref b76), .val (.int (x5 &&& (3 : Int32))), .unset, .unset, .unset, .unset] []))
  refine own_go (fun t k => XS.aload X100.here hx rfl (hb hby at_354) rfl rfl k) ?_
  show own_Goes p e below _ (T100.setTop (mkF m 356 #[.val (.int x0), .val (.int x1), .val (.int x2), .val (.long y3), .second, .val (.int x4), .val (.int x5), .val (.int (own_v0_1 x0)), .val (.int (own_v0_2 x1)), .val (.int (own_v0_3 x1)), .val (.int (own_v0_4 x2)), .val (.int (own_v0_5 x2)), .val (.int (own_v0_6 y3)), .val (.long (own_v0_7 y3)), .second, .val (.int (x4 &&& (63 : Int32))), .val (.int (own_v0_8 x4)), .val (.int (x5 &&& (3 : Int32))), .val (.int (own_v0_9 x5)), .val (.int (own_j0_1 x5)), .val (.int (own_v0_10 x5)), .val (.ref b76), .val (.int (x5 &&& (3 : Int32))), .unset, .unset, .unset, .unset] [(.ref b76)]))
  refine own_go (fun t k => XS.iload X100.here hx rfl (hb hby at_356) rfl k) ?_
  show own_Goes p e below _ (T100.setTop (mkF m 358 #[.val (.int x0), .val (.int x1), .val (.int x2), .val (.long y3), .second, .val (.int x4), .val (.int x5), .val (.int (own_v0_1 x0)), .val (.int (own_v0_2 x1)), .val (.int (own_v0_3 x1)), .val (.int (own_v0_4 x2)), .val (.int (own_v0_5 x2)), .val (.int (own_v0_6 y3)), .val (.long (own_v0_7 y3)), .second, .val (.int (x4 &&& (63 : Int32))), .val (.int (own_v0_8 x4)), .val (.int (x5 &&& (3 : Int32))), .val (.int (own_v0_9 x5)), .val (.int (own_j0_1 x5)), .val (.int (own_v0_10 x5)), .val (.ref b76), .val (.int (x5 &&& (3 : Int32))), .unset, .unset, .unset, .unset] [(.int (x5 &&& (3 : Int32))), (.ref b76)]))
  refine own_go (fun t k => XS.bipush X100.here hx rfl (hb hby at_358) k) ?_
  show own_Goes p e below _ (T100.setTop (mkF m 360 #[.val (.int x0), .val (.int x1), .val (.int x2), .val (.long y3), .second, .val (.int x4), .val (.int x5), .val (.int (own_v0_1 x0)), .val (.int (own_v0_2 x1)), .val (.int (own_v0_3 x1)), .val (.int (own_v0_4 x2)), .val (.int (own_v0_5 x2)), .val (.int (own_v0_6 y3)), .val (.long (own_v0_7 y3)), .second, .val (.int (x4 &&& (63 : Int32))), .val (.int (own_v0_8 x4)), .val (.int (x5 &&& (3 : Int32))), .val (.int (own_v0_9 x5)), .val (.int (own_j0_1 x5)), .val (.int (own_v0_10 x5)), .val (.ref b76), .val (.int (x5 &&& (3 : Int32))), .unset, .unset, .unset, .unset] [(.int (14 : Int32)), (.int (x5 &&& (3 : Int32))), (.ref b76)]))
  refine own_go (fun t k => XS.iadd X100.here hx rfl (hb hby at_360) rfl k) ?_
  show own_Goes p e below _ (T100.setTop (mkF m 361 #[.val (.int x0), .val (.int x1), .val (.int x2), .val (.long y3), .second, .val (.int x4), .val (.int x5), .val (.int (own_v0_1 x0)), .val (.int (own_v0_2 x1)), .val (.int (own_v0_3 x1)), .val (.int (own_v0_4 x2)), .val (.int (own_v0_5 x2)), .val (.int (own_v0_6 y3)), .val (.long (own_v0_7 y3)), .second, .val (.int (x4 &&& (63 : Int32))), .val (.int (own_v0_8 x4)), .val (.int (x5 &&& (3 : Int32))), .val (.int (own_v0_9 x5)), .val (.int (own_j0_1 x5)), .val (.int (own_v0_10 x5)), .val (.ref b76), .val (.int (x5 &&& (3 : Int32))), .unset, .unset, .unset, .unset] [(.int ((x5 &&& (3 : Int32)) + (14 : Int32))), (.ref b76)]))
  refine own_go (fun t k => XS.iload X100.here hx rfl (hb hby at_361) rfl k) ?_
  show own_Goes p e below _ (T100.setTop (mkF m 363 #[.val (.int x0), .val (.int x1), .val (.int x2), .val (.long y3), .second, .val (.int x4), .val (.int x5), .val (.int (own_v0_1 x0)), .val (.int (own_v0_2 x1)), .val (.int (own_v0_3 x1)), .val (.int (own_v0_4 x2)), .val (.int (own_v0_5 x2)), .val (.int (own_v0_6 y3)), .val (.long (own_v0_7 y3)), .second, .val (.int (x4 &&& (63 : Int32))), .val (.int (own_v0_8 x4)), .val (.int (x5 &&& (3 : Int32))), .val (.int (own_v0_9 x5)), .val (.int (own_j0_1 x5)), .val (.int (own_v0_10 x5)), .val (.ref b76), .val (.int (x5 &&& (3 : Int32))), .unset, .unset, .unset, .unset] [(.int (own_v0_5 x2)), (.int ((x5 &&& (3 : Int32)) + (14 : Int32))), (.ref b76)]))
  refine own_go (fun t k => XS.i2l X100.here hx rfl (hb hby at_363) rfl k) ?_
  show own_Goes p e below _ (T100.setTop (mkF m 364 #[.val (.int x0), .val (.int x1), .val (.int x2), .val (.long y3), .second, .val (.int x4), .val (.int x5), .val (.int (own_v0_1 x0)), .val (.int (own_v0_2 x1)), .val (.int (own_v0_3 x1)), .val (.int (own_v0_4 x2)), .val (.int (own_v0_5 x2)), .val (.int (own_v0_6 y3)), .val (.long (own_v0_7 y3)), .second, .val (.int (x4 &&& (63 : Int32))), .val (.int (own_v0_8 x4)), .val (.int (x5 &&& (3 : Int32))), .val (.int (own_v0_9 x5)), .val (.int (own_j0_1 x5)), .val (.int (own_v0_10 x5)), .val (.ref b76), .val (.int (x5 &&& (3 : Int32))), .unset, .unset, .unset, .unset] [(.long ((own_v0_5 x2).toInt64)), (.int ((x5 &&& (3 : Int32)) + (14 : Int32))), (.ref b76)]))
  refine own_go (fun t k => X100.ldc2Long hx hown (mvT hZ (hw _ own_t11)) (g := (mkF m 364 #[.val (.int x0), .val (.int x1), .val (.int x2), .val (.long y3), .second, .val (.int x4), .val (.int x5), .val (.int (own_v0_1 x0)), .val (.int (own_v0_2 x1)), .val (.int (own_v0_3 x1)), .val (.int (own_v0_4 x2)), .val (.int (own_v0_5 x2)), .val (.int (own_v0_6 y3)), .val (.long (own_v0_7 y3)), .second, .val (.int (x4 &&& (63 : Int32))), .val (.int (own_v0_8 x4)), .val (.int (x5 &&& (3 : Int32))), .val (.int (own_v0_9 x5)), .val (.int (own_j0_1 x5)), .val (.int (own_v0_10 x5)), .val (.ref b76), .val (.int (x5 &&& (3 : Int32))), .unset, .unset, .unset, .unset] [(.long ((own_v0_5 x2).toInt64)), (.int ((x5 &&& (3 : Int32)) + (14 : Int32))), (.ref b76)])) rfl (hb hby at_364) t k) ?_
  show own_Goes p e below _ (T100.setTop (mkF m 367 #[.val (.int x0), .val (.int x1), .val (.int x2), .val (.long y3), .second, .val (.int x4), .val (.int x5), .val (.int (own_v0_1 x0)), .val (.int (own_v0_2 x1)), .val (.int (own_v0_3 x1)), .val (.int (own_v0_4 x2)), .val (.int (own_v0_5 x2)), .val (.int (own_v0_6 y3)), .val (.long (own_v0_7 y3)), .second, .val (.int (x4 &&& (63 : Int32))), .val (.int (own_v0_8 x4)), .val (.int (x5 &&& (3 : Int32))), .val (.int (own_v0_9 x5)), .val (.int (own_j0_1 x5)), .val (.int (own_v0_10 x5)), .val (.ref b76), .val (.int (x5 &&& (3 : Int32))), .unset, .unset, .unset, .unset] [(.long (10 : Int64)), (.long ((own_v0_5 x2).toInt64)), (.int ((x5 &&& (3 : Int32)) + (14 : Int32))), (.ref b76)]))
  obtain ⟨_, T101, L101, X101, ⟨rfl, N101q, e101⟩, st101⟩ := own_callS X100 hx hZ hown (hw _ own_t7) (hw _ own_t8) (hw _ own_t9) (hw _ own_t10) (by decide) (as := [(.long ((own_v0_5 x2).toInt64)), (.long (10 : Int64))]) (rm1 l Z a0 hw [] ((own_v0_5 x2).toInt64) (10 : Int64) h100 n0 (by decide)) e100 own_pd2 rfl (pc := 367) (Ls := #[.val (.int x0), .val (.int x1), .val (.int x2), .val (.long y3), .second, .val (.int x4), .val (.int x5), .val (.int (own_v0_1 x0)), .val (.int (own_v0_2 x1)), .val (.int (own_v0_3 x1)), .val (.int (own_v0_4 x2)), .val (.int (own_v0_5 x2)), .val (.int (own_v0_6 y3)), .val (.long (own_v0_7 y3)), .second, .val (.int (x4 &&& (63 : Int32))), .val (.int (own_v0_8 x4)), .val (.int (x5 &&& (3 : Int32))), .val (.int (own_v0_9 x5)), .val (.int (own_j0_1 x5)), .val (.int (own_v0_10 x5)), .val (.ref b76), .val (.int (x5 &&& (3 : Int32))), .unset, .unset, .unset, .unset]) (rest := [(.int ((x5 &&& (3 : Int32)) + (14 : Int32))), (.ref b76)]) (W := 2) (by rw [hml]; rfl) (Nat.le_of_eq rfl) (by decide) (by decide) (hb hby at_367) (by decide) (by decide)
  have N101 := Fr.app N100 N101q
  refine own_go st101 ?_
  show own_Goes p e below _ (T101.setTop (mkF m 370 #[.val (.int x0), .val (.int x1), .val (.int x2), .val (.long y3), .second, .val (.int x4), .val (.int x5), .val (.int (own_v0_1 x0)), .val (.int (own_v0_2 x1)), .val (.int (own_v0_3 x1)), .val (.int (own_v0_4 x2)), .val (.int (own_v0_5 x2)), .val (.int (own_v0_6 y3)), .val (.long (own_v0_7 y3)), .second, .val (.int (x4 &&& (63 : Int32))), .val (.int (own_v0_8 x4)), .val (.int (x5 &&& (3 : Int32))), .val (.int (own_v0_9 x5)), .val (.int (own_j0_1 x5)), .val (.int (own_v0_10 x5)), .val (.ref b76), .val (.int (x5 &&& (3 : Int32))), .unset, .unset, .unset, .unset] [(.int (own_f1 ((own_v0_5 x2).toInt64) (10 : Int64))), (.int ((x5 &&& (3 : Int32)) + (14 : Int32))), (.ref b76)]))
  obtain ⟨cl102, Ar102, sa102, ha102⟩ := id V100
  obtain ⟨T102, h102, X102, e102, W102, st102⟩ := stC X101 hx hZ e101 Ar102 (j := ((x5 &&& (3 : Int32)) + (14 : Int32))) (inb_of sa102 (own_ix x5 14)) (g := (mkF m 370 #[.val (.int x0), .val (.int x1), .val (.int x2), .val (.long y3), .second, .val (.int x4), .val (.int x5), .val (.int (own_v0_1 x0)), .val (.int (own_v0_2 x1)), .val (.int (own_v0_3 x1)), .val (.int (own_v0_4 x2)), .val (.int (own_v0_5 x2)), .val (.int (own_v0_6 y3)), .val (.long (own_v0_7 y3)), .second, .val (.int (x4 &&& (63 : Int32))), .val (.int (own_v0_8 x4)), .val (.int (x5 &&& (3 : Int32))), .val (.int (own_v0_9 x5)), .val (.int (own_j0_1 x5)), .val (.int (own_v0_10 x5)), .val (.ref b76), .val (.int (x5 &&& (3 : Int32))), .unset, .unset, .unset, .unset] [(.int (own_f1 ((own_v0_5 x2).toInt64) (10 : Int64))), (.int ((x5 &&& (3 : Int32)) + (14 : Int32))), (.ref b76)])) rfl rfl (hb hby at_370)
  have V102 : own_Tab Z h102 b76 (32 : Int32) (own_G0_15 x0 x1 x2 x5) := own_Tab.set Ar102 sa102 ha102 W102 (own_ix x5 14)
  have N102 := Fr.snoc X102 N101 g_b76
  refine own_go st102 ?_
  show own_Goes p e below _ (T102.setTop (mkF m 371 #[.val (.int x0), .val (.int x1), .val (.int x2), .val (.long y3), .second, .val (.int x4), .val (.int x5), .val (.int (own_v0_1 x0)), .val (.int (own_v0_2 x1)), .val (.int (own_v0_3 x1)), .val (.int (own_v0_4 x2)), .val (.int (own_v0_5 x2)), .val (.int (own_v0_6 y3)), .val (.long (own_v0_7 y3)), .second, .val (.int (x4 &&& (63 : Int32))), .val (.int (own_v0_8 x4)), .val (.int (x5 &&& (3 : Int32))), .val (.int (own_v0_9 x5)), .val (.int (own_j0_1 x5)), .val (.int (own_v0_10 x5)), .val (.ref b76), .val (.int (x5 &&& (3 : Int32))), .unset, .unset, .unset, .unset] []))
  refine own_go (fun t k => XS.aload X102.here hx rfl (hb hby at_371) rfl rfl k) ?_
  show own_Goes p e below _ (T102.setTop (mkF m 373 #[.val (.int x0), .val (.int x1), .val (.int x2), .val (.long y3), .second, .val (.int x4), .val (.int x5), .val (.int (own_v0_1 x0)), .val (.int (own_v0_2 x1)), .val (.int (own_v0_3 x1)), .val (.int (own_v0_4 x2)), .val (.int (own_v0_5 x2)), .val (.int (own_v0_6 y3)), .val (.long (own_v0_7 y3)), .second, .val (.int (x4 &&& (63 : Int32))), .val (.int (own_v0_8 x4)), .val (.int (x5 &&& (3 : Int32))), .val (.int (own_v0_9 x5)), .val (.int (own_j0_1 x5)), .val (.int (own_v0_10 x5)), .val (.ref b76), .val (.int (x5 &&& (3 : Int32))), .unset, .unset, .unset, .unset] [(.ref b76)]))
  refine own_go (fun t k => XS.iload X102.here hx rfl (hb hby at_373) rfl k) ?_
  show own_Goes p e below _ (T102.setTop (mkF m 375 #[.val (.int x0), .val (.int x1), .val (.int x2), .val (.long y3), .second, .val (.int x4), .val (.int x5), .val (.int (own_v0_1 x0)), .val (.int (own_v0_2 x1)), .val (.int (own_v0_3 x1)), .val (.int (own_v0_4 x2)), .val (.int (own_v0_5 x2)), .val (.int (own_v0_6 y3)), .val (.long (own_v0_7 y3)), .second, .val (.int (x4 &&& (63 : Int32))), .val (.int (own_v0_8 x4)), .val (.int (x5 &&& (3 : Int32))), .val (.int (own_v0_9 x5)), .val (.int (own_j0_1 x5)), .val (.int (own_v0_10 x5)), .val (.ref b76), .val (.int (x5 &&& (3 : Int32))), .unset, .unset, .unset, .unset] [(.int (x5 &&& (3 : Int32))), (.ref b76)]))
  refine own_go (fun t k => XS.bipush X102.here hx rfl (hb hby at_375) k) ?_
  show own_Goes p e below _ (T102.setTop (mkF m 377 #[.val (.int x0), .val (.int x1), .val (.int x2), .val (.long y3), .second, .val (.int x4), .val (.int x5), .val (.int (own_v0_1 x0)), .val (.int (own_v0_2 x1)), .val (.int (own_v0_3 x1)), .val (.int (own_v0_4 x2)), .val (.int (own_v0_5 x2)), .val (.int (own_v0_6 y3)), .val (.long (own_v0_7 y3)), .second, .val (.int (x4 &&& (63 : Int32))), .val (.int (own_v0_8 x4)), .val (.int (x5 &&& (3 : Int32))), .val (.int (own_v0_9 x5)), .val (.int (own_j0_1 x5)), .val (.int (own_v0_10 x5)), .val (.ref b76), .val (.int (x5 &&& (3 : Int32))), .unset, .unset, .unset, .unset] [(.int (15 : Int32)), (.int (x5 &&& (3 : Int32))), (.ref b76)]))
  refine own_go (fun t k => XS.iadd X102.here hx rfl (hb hby at_377) rfl k) ?_
  show own_Goes p e below _ (T102.setTop (mkF m 378 #[.val (.int x0), .val (.int x1), .val (.int x2), .val (.long y3), .second, .val (.int x4), .val (.int x5), .val (.int (own_v0_1 x0)), .val (.int (own_v0_2 x1)), .val (.int (own_v0_3 x1)), .val (.int (own_v0_4 x2)), .val (.int (own_v0_5 x2)), .val (.int (own_v0_6 y3)), .val (.long (own_v0_7 y3)), .second, .val (.int (x4 &&& (63 : Int32))), .val (.int (own_v0_8 x4)), .val (.int (x5 &&& (3 : Int32))), .val (.int (own_v0_9 x5)), .val (.int (own_j0_1 x5)), .val (.int (own_v0_10 x5)), .val (.ref b76), .val (.int (x5 &&& (3 : Int32))), .unset, .unset, .unset, .unset] [(.int ((x5 &&& (3 : Int32)) + (15 : Int32))), (.ref b76)]))
  refine own_go (fun t k => XS.iload X102.here hx rfl (hb hby at_378) rfl k) ?_
  show own_Goes p e below _ (T102.setTop (mkF m 380 #[.val (.int x0), .val (.int x1), .val (.int x2), .val (.long y3), .second, .val (.int x4), .val (.int x5), .val (.int (own_v0_1 x0)), .val (.int (own_v0_2 x1)), .val (.int (own_v0_3 x1)), .val (.int (own_v0_4 x2)), .val (.int (own_v0_5 x2)), .val (.int (own_v0_6 y3)), .val (.long (own_v0_7 y3)), .second, .val (.int (x4 &&& (63 : Int32))), .val (.int (own_v0_8 x4)), .val (.int (x5 &&& (3 : Int32))), .val (.int (own_v0_9 x5)), .val (.int (own_j0_1 x5)), .val (.int (own_v0_10 x5)), .val (.ref b76), .val (.int (x5 &&& (3 : Int32))), .unset, .unset, .unset, .unset] [(.int (own_v0_5 x2)), (.int ((x5 &&& (3 : Int32)) + (15 : Int32))), (.ref b76)]))
  refine own_go (fun t k => XS.i2l X102.here hx rfl (hb hby at_380) rfl k) ?_
  show own_Goes p e below _ (T102.setTop (mkF m 381 #[.val (.int x0), .val (.int x1), .val (.int x2), .val (.long y3), .second, .val (.int x4), .val (.int x5), .val (.int (own_v0_1 x0)), .val (.int (own_v0_2 x1)), .val (.int (own_v0_3 x1)), .val (.int (own_v0_4 x2)), .val (.int (own_v0_5 x2)), .val (.int (own_v0_6 y3)), .val (.long (own_v0_7 y3)), .second, .val (.int (x4 &&& (63 : Int32))), .val (.int (own_v0_8 x4)), .val (.int (x5 &&& (3 : Int32))), .val (.int (own_v0_9 x5)), .val (.int (own_j0_1 x5)), .val (.int (own_v0_10 x5)), .val (.ref b76), .val (.int (x5 &&& (3 : Int32))), .unset, .unset, .unset, .unset] [(.long ((own_v0_5 x2).toInt64)), (.int ((x5 &&& (3 : Int32)) + (15 : Int32))), (.ref b76)]))
  refine own_go (fun t k => XS.lconst X102.here hx rfl (hb hby at_381) k) ?_
  show own_Goes p e below _ (T102.setTop (mkF m 382 #[.val (.int x0), .val (.int x1), .val (.int x2), .val (.long y3), .second, .val (.int x4), .val (.int x5), .val (.int (own_v0_1 x0)), .val (.int (own_v0_2 x1)), .val (.int (own_v0_3 x1)), .val (.int (own_v0_4 x2)), .val (.int (own_v0_5 x2)), .val (.int (own_v0_6 y3)), .val (.long (own_v0_7 y3)), .second, .val (.int (x4 &&& (63 : Int32))), .val (.int (own_v0_8 x4)), .val (.int (x5 &&& (3 : Int32))), .val (.int (own_v0_9 x5)), .val (.int (own_j0_1 x5)), .val (.int (own_v0_10 x5)), .val (.ref b76), .val (.int (x5 &&& (3 : Int32))), .unset, .unset, .unset, .unset] [(.long (1 : Int64)), (.long ((own_v0_5 x2).toInt64)), (.int ((x5 &&& (3 : Int32)) + (15 : Int32))), (.ref b76)]))
  obtain ⟨_, T103, L103, X103, ⟨rfl, N103q, e103⟩, st103⟩ := own_callS X102 hx hZ hown (hw _ own_t7) (hw _ own_t8) (hw _ own_t9) (hw _ own_t10) (by decide) (as := [(.long ((own_v0_5 x2).toInt64)), (.long (1 : Int64))]) (rm1 l Z a0 hw [] ((own_v0_5 x2).toInt64) (1 : Int64) h102 n0 (by decide)) e102 own_pd2 rfl (pc := 382) (Ls := #[.val (.int x0), .val (.int x1), .val (.int x2), .val (.long y3), .second, .val (.int x4), .val (.int x5), .val (.int (own_v0_1 x0)), .val (.int (own_v0_2 x1)), .val (.int (own_v0_3 x1)), .val (.int (own_v0_4 x2)), .val (.int (own_v0_5 x2)), .val (.int (own_v0_6 y3)), .val (.long (own_v0_7 y3)), .second, .val (.int (x4 &&& (63 : Int32))), .val (.int (own_v0_8 x4)), .val (.int (x5 &&& (3 : Int32))), .val (.int (own_v0_9 x5)), .val (.int (own_j0_1 x5)), .val (.int (own_v0_10 x5)), .val (.ref b76), .val (.int (x5 &&& (3 : Int32))), .unset, .unset, .unset, .unset]) (rest := [(.int ((x5 &&& (3 : Int32)) + (15 : Int32))), (.ref b76)]) (W := 2) (by rw [hml]; rfl) (Nat.le_of_eq rfl) (by decide) (by decide) (hb hby at_382) (by decide) (by decide)
  have N103 := Fr.app N102 N103q
  refine own_go st103 ?_
  show own_Goes p e below _ (T103.setTop (mkF m 385 #[.val (.int x0), .val (.int x1), .val (.int x2), .val (.long y3), .second, .val (.int x4), .val (.int x5), .val (.int (own_v0_1 x0)), .val (.int (own_v0_2 x1)), .val (.int (own_v0_3 x1)), .val (.int (own_v0_4 x2)), .val (.int (own_v0_5 x2)), .val (.int (own_v0_6 y3)), .val (.long (own_v0_7 y3)), .second, .val (.int (x4 &&& (63 : Int32))), .val (.int (own_v0_8 x4)), .val (.int (x5 &&& (3 : Int32))), .val (.int (own_v0_9 x5)), .val (.int (own_j0_1 x5)), .val (.int (own_v0_10 x5)), .val (.ref b76), .val (.int (x5 &&& (3 : Int32))), .unset, .unset, .unset, .unset] [(.int (own_f1 ((own_v0_5 x2).toInt64) (1 : Int64))), (.int ((x5 &&& (3 : Int32)) + (15 : Int32))), (.ref b76)]))
  obtain ⟨cl104, Ar104, sa104, ha104⟩ := id V102
  obtain ⟨T104, h104, X104, e104, W104, st104⟩ := stC X103 hx hZ e103 Ar104 (j := ((x5 &&& (3 : Int32)) + (15 : Int32))) (inb_of sa104 (own_ix x5 15)) (g := (mkF m 385 #[.val (.int x0), .val (.int x1), .val (.int x2), .val (.long y3), .second, .val (.int x4), .val (.int x5), .val (.int (own_v0_1 x0)), .val (.int (own_v0_2 x1)), .val (.int (own_v0_3 x1)), .val (.int (own_v0_4 x2)), .val (.int (own_v0_5 x2)), .val (.int (own_v0_6 y3)), .val (.long (own_v0_7 y3)), .second, .val (.int (x4 &&& (63 : Int32))), .val (.int (own_v0_8 x4)), .val (.int (x5 &&& (3 : Int32))), .val (.int (own_v0_9 x5)), .val (.int (own_j0_1 x5)), .val (.int (own_v0_10 x5)), .val (.ref b76), .val (.int (x5 &&& (3 : Int32))), .unset, .unset, .unset, .unset] [(.int (own_f1 ((own_v0_5 x2).toInt64) (1 : Int64))), (.int ((x5 &&& (3 : Int32)) + (15 : Int32))), (.ref b76)])) rfl rfl (hb hby at_385)
  have V104 : own_Tab Z h104 b76 (32 : Int32) (own_G0_16 x0 x1 x2 x5) := own_Tab.set Ar104 sa104 ha104 W104 (own_ix x5 15)
  have N104 := Fr.snoc X104 N103 g_b76
  refine own_go st104 ?_
  show own_Goes p e below _ (T104.setTop (mkF m 386 #[.val (.int x0), .val (.int x1), .val (.int x2), .val (.long y3), .second, .val (.int x4), .val (.int x5), .val (.int (own_v0_1 x0)), .val (.int (own_v0_2 x1)), .val (.int (own_v0_3 x1)), .val (.int (own_v0_4 x2)), .val (.int (own_v0_5 x2)), .val (.int (own_v0_6 y3)), .val (.long (own_v0_7 y3)), .second, .val (.int (x4 &&& (63 : Int32))), .val (.int (own_v0_8 x4)), .val (.int (x5 &&& (3 : Int32))), .val (.int (own_v0_9 x5)), .val (.int (own_j0_1 x5)), .val (.int (own_v0_10 x5)), .val (.ref b76), .val (.int (x5 &&& (3 : Int32))), .unset, .unset, .unset, .unset] []))
  refine own_go (fun t k => XS.aload X104.here hx rfl (hb hby at_386) rfl rfl k) ?_
  show own_Goes p e below _ (T104.setTop (mkF m 388 #[.val (.int x0), .val (.int x1), .val (.int x2), .val (.long y3), .second, .val (.int x4), .val (.int x5), .val (.int (own_v0_1 x0)), .val (.int (own_v0_2 x1)), .val (.int (own_v0_3 x1)), .val (.int (own_v0_4 x2)), .val (.int (own_v0_5 x2)), .val (.int (own_v0_6 y3)), .val (.long (own_v0_7 y3)), .second, .val (.int (x4 &&& (63 : Int32))), .val (.int (own_v0_8 x4)), .val (.int (x5 &&& (3 : Int32))), .val (.int (own_v0_9 x5)), .val (.int (own_j0_1 x5)), .val (.int (own_v0_10 x5)), .val (.ref b76), .val (.int (x5 &&& (3 : Int32))), .unset, .unset, .unset, .unset] [(.ref b76)]))
  refine own_go (fun t k => XS.iload X104.here hx rfl (hb hby at_388) rfl k) ?_
  show own_Goes p e below _ (T104.setTop (mkF m 390 #[.val (.int x0), .val (.int x1), .val (.int x2), .val (.long y3), .second, .val (.int x4), .val (.int x5), .val (.int (own_v0_1 x0)), .val (.int (own_v0_2 x1)), .val (.int (own_v0_3 x1)), .val (.int (own_v0_4 x2)), .val (.int (own_v0_5 x2)), .val (.int (own_v0_6 y3)), .val (.long (own_v0_7 y3)), .second, .val (.int (x4 &&& (63 : Int32))), .val (.int (own_v0_8 x4)), .val (.int (x5 &&& (3 : Int32))), .val (.int (own_v0_9 x5)), .val (.int (own_j0_1 x5)), .val (.int (own_v0_10 x5)), .val (.ref b76), .val (.int (x5 &&& (3 : Int32))), .unset, .unset, .unset, .unset] [(.int (x5 &&& (3 : Int32))), (.ref b76)]))
  refine own_go (fun t k => XS.bipush X104.here hx rfl (hb hby at_390) k) ?_
  show own_Goes p e below _ (T104.setTop (mkF m 392 #[.val (.int x0), .val (.int x1), .val (.int x2), .val (.long y3), .second, .val (.int x4), .val (.int x5), .val (.int (own_v0_1 x0)), .val (.int (own_v0_2 x1)), .val (.int (own_v0_3 x1)), .val (.int (own_v0_4 x2)), .val (.int (own_v0_5 x2)), .val (.int (own_v0_6 y3)), .val (.long (own_v0_7 y3)), .second, .val (.int (x4 &&& (63 : Int32))), .val (.int (own_v0_8 x4)), .val (.int (x5 &&& (3 : Int32))), .val (.int (own_v0_9 x5)), .val (.int (own_j0_1 x5)), .val (.int (own_v0_10 x5)), .val (.ref b76), .val (.int (x5 &&& (3 : Int32))), .unset, .unset, .unset, .unset] [(.int (16 : Int32)), (.int (x5 &&& (3 : Int32))), (.ref b76)]))
  refine own_go (fun t k => XS.iadd X104.here hx rfl (hb hby at_392) rfl k) ?_
  show own_Goes p e below _ (T104.setTop (mkF m 393 #[.val (.int x0), .val (.int x1), .val (.int x2), .val (.long y3), .second, .val (.int x4), .val (.int x5), .val (.int (own_v0_1 x0)), .val (.int (own_v0_2 x1)), .val (.int (own_v0_3 x1)), .val (.int (own_v0_4 x2)), .val (.int (own_v0_5 x2)), .val (.int (own_v0_6 y3)), .val (.long (own_v0_7 y3)), .second, .val (.int (x4 &&& (63 : Int32))), .val (.int (own_v0_8 x4)), .val (.int (x5 &&& (3 : Int32))), .val (.int (own_v0_9 x5)), .val (.int (own_j0_1 x5)), .val (.int (own_v0_10 x5)), .val (.ref b76), .val (.int (x5 &&& (3 : Int32))), .unset, .unset, .unset, .unset] [(.int ((x5 &&& (3 : Int32)) + (16 : Int32))), (.ref b76)]))
  refine own_go (fun t k => XS.bipush X104.here hx rfl (hb hby at_393) k) ?_
  show own_Goes p e below _ (T104.setTop (mkF m 395 #[.val (.int x0), .val (.int x1), .val (.int x2), .val (.long y3), .second, .val (.int x4), .val (.int x5), .val (.int (own_v0_1 x0)), .val (.int (own_v0_2 x1)), .val (.int (own_v0_3 x1)), .val (.int (own_v0_4 x2)), .val (.int (own_v0_5 x2)), .val (.int (own_v0_6 y3)), .val (.long (own_v0_7 y3)), .second, .val (.int (x4 &&& (63 : Int32))), .val (.int (own_v0_8 x4)), .val (.int (x5 &&& (3 : Int32))), .val (.int (own_v0_9 x5)), .val (.int (own_j0_1 x5)), .val (.int (own_v0_10 x5)), .val (.ref b76), .val (.int (x5 &&& (3 : Int32))), .unset, .unset, .unset, .unset] [(.int (58 : Int32)), (.int ((x5 &&& (3 : Int32)) + (16 : Int32))), (.ref b76)]))
  obtain ⟨cl105, Ar105, sa105, ha105⟩ := id V104
  obtain ⟨T105, h105, X105, e105, W105, st105⟩ := stC X104 hx hZ e104 Ar105 (j := ((x5 &&& (3 : Int32)) + (16 : Int32))) (inb_of sa105 (own_ix x5 16)) (g := (mkF m 395 #[.val (.int x0), .val (.int x1), .val (.int x2), .val (.long y3), .second, .val (.int x4), .val (.int x5), .val (.int (own_v0_1 x0)), .val (.int (own_v0_2 x1)), .val (.int (own_v0_3 x1)), .val (.int (own_v0_4 x2)), .val (.int (own_v0_5 x2)), .val (.int (own_v0_6 y3)), .val (.long (own_v0_7 y3)), .second, .val (.int (x4 &&& (63 : Int32))), .val (.int (own_v0_8 x4)), .val (.int (x5 &&& (3 : Int32))), .val (.int (own_v0_9 x5)), .val (.int (own_j0_1 x5)), .val (.int (own_v0_10 x5)), .val (.ref b76), .val (.int (x5 &&& (3 : Int32))), .unset, .unset, .unset, .unset] [(.int (58 : Int32)), (.int ((x5 &&& (3 : Int32)) + (16 : Int32))), (.ref b76)])) rfl rfl (hb hby at_395)
  have V105 : own_Tab Z h105 b76 (32 : Int32) (own_G0_17 x0 x1 x2 x5) := own_Tab.set Ar105 sa105 ha105 W105 (own_ix x5 16)
  have N105 := Fr.snoc X105 N104 g_b76
  refine own_go st105 ?_
  show own_Goes p e below _ (T105.setTop (mkF m 396 #[.val (.int x0), .val (.int x1), .val (.int x2), .val (.long y3), .second, .val (.int x4), .val (.int x5), .val (.int (own_v0_1 x0)), .val (.int (own_v0_2 x1)), .val (.int (own_v0_3 x1)), .val (.int (own_v0_4 x2)), .val (.int (own_v0_5 x2)), .val (.int (own_v0_6 y3)), .val (.long (own_v0_7 y3)), .second, .val (.int (x4 &&& (63 : Int32))), .val (.int (own_v0_8 x4)), .val (.int (x5 &&& (3 : Int32))), .val (.int (own_v0_9 x5)), .val (.int (own_j0_1 x5)), .val (.int (own_v0_10 x5)), .val (.ref b76), .val (.int (x5 &&& (3 : Int32))), .unset, .unset, .unset, .unset] []))
  refine own_go (fun t k => XS.aload X105.here hx rfl (hb hby at_396) rfl rfl k) ?_
  show own_Goes p e below _ (T105.setTop (mkF m 398 #[.val (.int x0), .val (.int x1), .val (.int x2), .val (.long y3), .second, .val (.int x4), .val (.int x5), .val (.int (own_v0_1 x0)), .val (.int (own_v0_2 x1)), .val (.int (own_v0_3 x1)), .val (.int (own_v0_4 x2)), .val (.int (own_v0_5 x2)), .val (.int (own_v0_6 y3)), .val (.long (own_v0_7 y3)), .second, .val (.int (x4 &&& (63 : Int32))), .val (.int (own_v0_8 x4)), .val (.int (x5 &&& (3 : Int32))), .val (.int (own_v0_9 x5)), .val (.int (own_j0_1 x5)), .val (.int (own_v0_10 x5)), .val (.ref b76), .val (.int (x5 &&& (3 : Int32))), .unset, .unset, .unset, .unset] [(.ref b76)]))
  refine own_go (fun t k => XS.iload X105.here hx rfl (hb hby at_398) rfl k) ?_
  show own_Goes p e below _ (T105.setTop (mkF m 400 #[.val (.int x0), .val (.int x1), .val (.int x2), .val (.long y3), .second, .val (.int x4), .val (.int x5), .val (.int (own_v0_1 x0)), .val (.int (own_v0_2 x1)), .val (.int (own_v0_3 x1)), .val (.int (own_v0_4 x2)), .val (.int (own_v0_5 x2)), .val (.int (own_v0_6 y3)), .val (.long (own_v0_7 y3)), .second, .val (.int (x4 &&& (63 : Int32))), .val (.int (own_v0_8 x4)), .val (.int (x5 &&& (3 : Int32))), .val (.int (own_v0_9 x5)), .val (.int (own_j0_1 x5)), .val (.int (own_v0_10 x5)), .val (.ref b76), .val (.int (x5 &&& (3 : Int32))), .unset, .unset, .unset, .unset] [(.int (x5 &&& (3 : Int32))), (.ref b76)]))
  refine own_go (fun t k => XS.bipush X105.here hx rfl (hb hby at_400) k) ?_
  show own_Goes p e below _ (T105.setTop (mkF m 402 #[.val (.int x0), .val (.int x1), .val (.int x2), .val (.long y3), .second, .val (.int x4), .val (.int x5), .val (.int (own_v0_1 x0)), .val (.int (own_v0_2 x1)), .val (.int (own_v0_3 x1)), .val (.int (own_v0_4 x2)), .val (.int (own_v0_5 x2)), .val (.int (own_v0_6 y3)), .val (.long (own_v0_7 y3)), .second, .val (.int (x4 &&& (63 : Int32))), .val (.int (own_v0_8 x4)), .val (.int (x5 &&& (3 : Int32))), .val (.int (own_v0_9 x5)), .val (.int (own_j0_1 x5)), .val (.int (own_v0_10 x5)), .val (.ref b76), .val (.int (x5 &&& (3 : Int32))), .unset, .unset, .unset, .unset] [(.int (17 : Int32)), (.int (x5 &&& (3 : Int32))), (.ref b76)]))
  refine own_go (fun t k => XS.iadd X105.here hx rfl (hb hby at_402) rfl k) ?_
  show own_Goes p e below _ (T105.setTop (mkF m 403 #[.val (.int x0), .val (.int x1), .val (.int x2), .val (.long y3), .second, .val (.int x4), .val (.int x5), .val (.int (own_v0_1 x0)), .val (.int (own_v0_2 x1)), .val (.int (own_v0_3 x1)), .val (.int (own_v0_4 x2)), .val (.int (own_v0_5 x2)), .val (.int (own_v0_6 y3)), .val (.long (own_v0_7 y3)), .second, .val (.int (x4 &&& (63 : Int32))), .val (.int (own_v0_8 x4)), .val (.int (x5 &&& (3 : Int32))), .val (.int (own_v0_9 x5)), .val (.int (own_j0_1 x5)), .val (.int (own_v0_10 x5)), .val (.ref b76), .val (.int (x5 &&& (3 : Int32))), .unset, .unset, .unset, .unset] [(.int ((x5 &&& (3 : Int32)) + (17 : Int32))), (.ref b76)]))
  refine own_go (fun t k => XS.iload X105.here hx rfl (hb hby at_403) rfl k) ?_
  show own_Goes p e below _ (T105.setTop (mkF m 405 #[.val (.int x0), .val (.int x1), .val (.int x2), .val (.long y3), .second, .val (.int x4), .val (.int x5), .val (.int (own_v0_1 x0)), .val (.int (own_v0_2 x1)), .val (.int (own_v0_3 x1)), .val (.int (own_v0_4 x2)), .val (.int (own_v0_5 x2)), .val (.int (own_v0_6 y3)), .val (.long (own_v0_7 y3)), .second, .val (.int (x4 &&& (63 : Int32))), .val (.int (own_v0_8 x4)), .val (.int (x5 &&& (3 : Int32))), .val (.int (own_v0_9 x5)), .val (.int (own_j0_1 x5)), .val (.int (own_v0_10 x5)), .val (.ref b76), .val (.int (x5 &&& (3 : Int32))), .unset, .unset, .unset, .unset] [(.int (own_v0_6 y3)), (.int ((x5 &&& (3 : Int32)) + (17 : Int32))), (.ref b76)]))
  refine own_go (fun t k => XS.i2l X105.here hx rfl (hb hby at_405) rfl k) ?_
  show own_Goes p e below _ (T105.setTop (mkF m 406 #[.val (.int x0), .val (.int x1), .val (.int x2), .val (.long y3), .second, .val (.int x4), .val (.int x5), .val (.int (own_v0_1 x0)), .val (.int (own_v0_2 x1)), .val (.int (own_v0_3 x1)), .val (.int (own_v0_4 x2)), .val (.int (own_v0_5 x2)), .val (.int (own_v0_6 y3)), .val (.long (own_v0_7 y3)), .second, .val (.int (x4 &&& (63 : Int32))), .val (.int (own_v0_8 x4)), .val (.int (x5 &&& (3 : Int32))), .val (.int (own_v0_9 x5)), .val (.int (own_j0_1 x5)), .val (.int (own_v0_10 x5)), .val (.ref b76), .val (.int (x5 &&& (3 : Int32))), .unset, .unset, .unset, .unset] [(.long ((own_v0_6 y3).toInt64)), (.int ((x5 &&& (3 : Int32)) + (17 : Int32))), (.ref b76)]))
  refine own_go (fun t k => X105.ldc2Long hx hown (mvT hZ (hw _ own_t11)) (g := (mkF m 406 #[.val (.int x0), .val (.int x1), .val (.int x2), .val (.long y3), .second, .val (.int x4), .val (.int x5), .val (.int (own_v0_1 x0)), .val (.int (own_v0_2 x1)), .val (.int (own_v0_3 x1)), .val (.int (own_v0_4 x2)), .val (.int (own_v0_5 x2)), .val (.int (own_v0_6 y3)), .val (.long (own_v0_7 y3)), .second, .val (.int (x4 &&& (63 : Int32))), .val (.int (own_v0_8 x4)), .val (.int (x5 &&& (3 : Int32))), .val (.int (own_v0_9 x5)), .val (.int (own_j0_1 x5)), .val (.int (own_v0_10 x5)), .val (.ref b76), .val (.int (x5 &&& (3 : Int32))), .unset, .unset, .unset, .unset] [(.long ((own_v0_6 y3).toInt64)), (.int ((x5 &&& (3 : Int32)) + (17 : Int32))), (.ref b76)])) rfl (hb hby at_406) t k) ?_
  show own_Goes p e below _ (T105.setTop (mkF m 409 #[.val (.int x0), .val (.int x1), .val (.int x2), .val (.long y3), .second, .val (.int x4), .val (.int x5), .val (.int (own_v0_1 x0)), .val (.int (own_v0_2 x1)), .val (.int (own_v0_3 x1)), .val (.int (own_v0_4 x2)), .val (.int (own_v0_5 x2)), .val (.int (own_v0_6 y3)), .val (.long (own_v0_7 y3)), .second, .val (.int (x4 &&& (63 : Int32))), .val (.int (own_v0_8 x4)), .val (.int (x5 &&& (3 : Int32))), .val (.int (own_v0_9 x5)), .val (.int (own_j0_1 x5)), .val (.int (own_v0_10 x5)), .val (.ref b76), .val (.int (x5 &&& (3 : Int32))), .unset, .unset, .unset, .unset] [(.long (10 : Int64)), (.long ((own_v0_6 y3).toInt64)), (.int ((x5 &&& (3 : Int32)) + (17 : Int32))), (.ref b76)]))
  obtain ⟨_, T106, L106, X106, ⟨rfl, N106q, e106⟩, st106⟩ := own_callS X105 hx hZ hown (hw _ own_t7) (hw _ own_t8) (hw _ own_t9) (hw _ own_t10) (by decide) (as := [(.long ((own_v0_6 y3).toInt64)), (.long (10 : Int64))]) (rm1 l Z a0 hw [] ((own_v0_6 y3).toInt64) (10 : Int64) h105 n0 (by decide)) e105 own_pd2 rfl (pc := 409) (Ls := #[.val (.int x0), .val (.int x1), .val (.int x2), .val (.long y3), .second, .val (.int x4), .val (.int x5), .val (.int (own_v0_1 x0)), .val (.int (own_v0_2 x1)), .val (.int (own_v0_3 x1)), .val (.int (own_v0_4 x2)), .val (.int (own_v0_5 x2)), .val (.int (own_v0_6 y3)), .val (.long (own_v0_7 y3)), .second, .val (.int (x4 &&& (63 : Int32))), .val (.int (own_v0_8 x4)), .val (.int (x5 &&& (3 : Int32))), .val (.int (own_v0_9 x5)), .val (.int (own_j0_1 x5)), .val (.int (own_v0_10 x5)), .val (.ref b76), .val (.int (x5 &&& (3 : Int32))), .unset, .unset, .unset, .unset]) (rest := [(.int ((x5 &&& (3 : Int32)) + (17 : Int32))), (.ref b76)]) (W := 2) (by rw [hml]; rfl) (Nat.le_of_eq rfl) (by decide) (by decide) (hb hby at_409) (by decide) (by decide)
  have N106 := Fr.app N105 N106q
  refine own_go st106 ?_
  show own_Goes p e below _ (T106.setTop (mkF m 412 #[.val (.int x0), .val (.int x1), .val (.int x2), .val (.long y3), .second, .val (.int x4), .val (.int x5), .val (.int (own_v0_1 x0)), .val (.int (own_v0_2 x1)), .val (.int (own_v0_3 x1)), .val (.int (own_v0_4 x2)), .val (.int (own_v0_5 x2)), .val (.int (own_v0_6 y3)), .val (.long (own_v0_7 y3)), .second, .val (.int (x4 &&& (63 : Int32))), .val (.int (own_v0_8 x4)), .val (.int (x5 &&& (3 : Int32))), .val (.int (own_v0_9 x5)), .val (.int (own_j0_1 x5)), .val (.int (own_v0_10 x5)), .val (.ref b76), .val (.int (x5 &&& (3 : Int32))), .unset, .unset, .unset, .unset] [(.int (own_f1 ((own_v0_6 y3).toInt64) (10 : Int64))), (.int ((x5 &&& (3 : Int32)) + (17 : Int32))), (.ref b76)]))
  obtain ⟨cl107, Ar107, sa107, ha107⟩ := id V105
  obtain ⟨T107, h107, X107, e107, W107, st107⟩ := stC X106 hx hZ e106 Ar107 (j := ((x5 &&& (3 : Int32)) + (17 : Int32))) (inb_of sa107 (own_ix x5 17)) (g := (mkF m 412 #[.val (.int x0), .val (.int x1), .val (.int x2), .val (.long y3), .second, .val (.int x4), .val (.int x5), .val (.int (own_v0_1 x0)), .val (.int (own_v0_2 x1)), .val (.int (own_v0_3 x1)), .val (.int (own_v0_4 x2)), .val (.int (own_v0_5 x2)), .val (.int (own_v0_6 y3)), .val (.long (own_v0_7 y3)), .second, .val (.int (x4 &&& (63 : Int32))), .val (.int (own_v0_8 x4)), .val (.int (x5 &&& (3 : Int32))), .val (.int (own_v0_9 x5)), .val (.int (own_j0_1 x5)), .val (.int (own_v0_10 x5)), .val (.ref b76), .val (.int (x5 &&& (3 : Int32))), .unset, .unset, .unset, .unset] [(.int (own_f1 ((own_v0_6 y3).toInt64) (10 : Int64))), (.int ((x5 &&& (3 : Int32)) + (17 : Int32))), (.ref b76)])) rfl rfl (hb hby at_412)
  have V107 : own_Tab Z h107 b76 (32 : Int32) (own_G0_18 x0 x1 x2 y3 x5) := own_Tab.set Ar107 sa107 ha107 W107 (own_ix x5 17)
  have N107 := Fr.snoc X107 N106 g_b76
  refine own_go st107 ?_
  show own_Goes p e below _ (T107.setTop (mkF m 413 #[.val (.int x0), .val (.int x1), .val (.int x2), .val (.long y3), .second, .val (.int x4), .val (.int x5), .val (.int (own_v0_1 x0)), .val (.int (own_v0_2 x1)), .val (.int (own_v0_3 x1)), .val (.int (own_v0_4 x2)), .val (.int (own_v0_5 x2)), .val (.int (own_v0_6 y3)), .val (.long (own_v0_7 y3)), .second, .val (.int (x4 &&& (63 : Int32))), .val (.int (own_v0_8 x4)), .val (.int (x5 &&& (3 : Int32))), .val (.int (own_v0_9 x5)), .val (.int (own_j0_1 x5)), .val (.int (own_v0_10 x5)), .val (.ref b76), .val (.int (x5 &&& (3 : Int32))), .unset, .unset, .unset, .unset] []))
  refine own_go (fun t k => XS.aload X107.here hx rfl (hb hby at_413) rfl rfl k) ?_
  show own_Goes p e below _ (T107.setTop (mkF m 415 #[.val (.int x0), .val (.int x1), .val (.int x2), .val (.long y3), .second, .val (.int x4), .val (.int x5), .val (.int (own_v0_1 x0)), .val (.int (own_v0_2 x1)), .val (.int (own_v0_3 x1)), .val (.int (own_v0_4 x2)), .val (.int (own_v0_5 x2)), .val (.int (own_v0_6 y3)), .val (.long (own_v0_7 y3)), .second, .val (.int (x4 &&& (63 : Int32))), .val (.int (own_v0_8 x4)), .val (.int (x5 &&& (3 : Int32))), .val (.int (own_v0_9 x5)), .val (.int (own_j0_1 x5)), .val (.int (own_v0_10 x5)), .val (.ref b76), .val (.int (x5 &&& (3 : Int32))), .unset, .unset, .unset, .unset] [(.ref b76)]))
  refine own_go (fun t k => XS.iload X107.here hx rfl (hb hby at_415) rfl k) ?_
  show own_Goes p e below _ (T107.setTop (mkF m 417 #[.val (.int x0), .val (.int x1), .val (.int x2), .val (.long y3), .second, .val (.int x4), .val (.int x5), .val (.int (own_v0_1 x0)), .val (.int (own_v0_2 x1)), .val (.int (own_v0_3 x1)), .val (.int (own_v0_4 x2)), .val (.int (own_v0_5 x2)), .val (.int (own_v0_6 y3)), .val (.long (own_v0_7 y3)), .second, .val (.int (x4 &&& (63 : Int32))), .val (.int (own_v0_8 x4)), .val (.int (x5 &&& (3 : Int32))), .val (.int (own_v0_9 x5)), .val (.int (own_j0_1 x5)), .val (.int (own_v0_10 x5)), .val (.ref b76), .val (.int (x5 &&& (3 : Int32))), .unset, .unset, .unset, .unset] [(.int (x5 &&& (3 : Int32))), (.ref b76)]))
  refine own_go (fun t k => XS.bipush X107.here hx rfl (hb hby at_417) k) ?_
  show own_Goes p e below _ (T107.setTop (mkF m 419 #[.val (.int x0), .val (.int x1), .val (.int x2), .val (.long y3), .second, .val (.int x4), .val (.int x5), .val (.int (own_v0_1 x0)), .val (.int (own_v0_2 x1)), .val (.int (own_v0_3 x1)), .val (.int (own_v0_4 x2)), .val (.int (own_v0_5 x2)), .val (.int (own_v0_6 y3)), .val (.long (own_v0_7 y3)), .second, .val (.int (x4 &&& (63 : Int32))), .val (.int (own_v0_8 x4)), .val (.int (x5 &&& (3 : Int32))), .val (.int (own_v0_9 x5)), .val (.int (own_j0_1 x5)), .val (.int (own_v0_10 x5)), .val (.ref b76), .val (.int (x5 &&& (3 : Int32))), .unset, .unset, .unset, .unset] [(.int (18 : Int32)), (.int (x5 &&& (3 : Int32))), (.ref b76)]))
  refine own_go (fun t k => XS.iadd X107.here hx rfl (hb hby at_419) rfl k) ?_
  show own_Goes p e below _ (T107.setTop (mkF m 420 #[.val (.int x0), .val (.int x1), .val (.int x2), .val (.long y3), .second, .val (.int x4), .val (.int x5), .val (.int (own_v0_1 x0)), .val (.int (own_v0_2 x1)), .val (.int (own_v0_3 x1)), .val (.int (own_v0_4 x2)), .val (.int (own_v0_5 x2)), .val (.int (own_v0_6 y3)), .val (.long (own_v0_7 y3)), .second, .val (.int (x4 &&& (63 : Int32))), .val (.int (own_v0_8 x4)), .val (.int (x5 &&& (3 : Int32))), .val (.int (own_v0_9 x5)), .val (.int (own_j0_1 x5)), .val (.int (own_v0_10 x5)), .val (.ref b76), .val (.int (x5 &&& (3 : Int32))), .unset, .unset, .unset, .unset] [(.int ((x5 &&& (3 : Int32)) + (18 : Int32))), (.ref b76)]))
  refine own_go (fun t k => XS.iload X107.here hx rfl (hb hby at_420) rfl k) ?_
  show own_Goes p e below _ (T107.setTop (mkF m 422 #[.val (.int x0), .val (.int x1), .val (.int x2), .val (.long y3), .second, .val (.int x4), .val (.int x5), .val (.int (own_v0_1 x0)), .val (.int (own_v0_2 x1)), .val (.int (own_v0_3 x1)), .val (.int (own_v0_4 x2)), .val (.int (own_v0_5 x2)), .val (.int (own_v0_6 y3)), .val (.long (own_v0_7 y3)), .second, .val (.int (x4 &&& (63 : Int32))), .val (.int (own_v0_8 x4)), .val (.int (x5 &&& (3 : Int32))), .val (.int (own_v0_9 x5)), .val (.int (own_j0_1 x5)), .val (.int (own_v0_10 x5)), .val (.ref b76), .val (.int (x5 &&& (3 : Int32))), .unset, .unset, .unset, .unset] [(.int (own_v0_6 y3)), (.int ((x5 &&& (3 : Int32)) + (18 : Int32))), (.ref b76)]))
  refine own_go (fun t k => XS.i2l X107.here hx rfl (hb hby at_422) rfl k) ?_
  show own_Goes p e below _ (T107.setTop (mkF m 423 #[.val (.int x0), .val (.int x1), .val (.int x2), .val (.long y3), .second, .val (.int x4), .val (.int x5), .val (.int (own_v0_1 x0)), .val (.int (own_v0_2 x1)), .val (.int (own_v0_3 x1)), .val (.int (own_v0_4 x2)), .val (.int (own_v0_5 x2)), .val (.int (own_v0_6 y3)), .val (.long (own_v0_7 y3)), .second, .val (.int (x4 &&& (63 : Int32))), .val (.int (own_v0_8 x4)), .val (.int (x5 &&& (3 : Int32))), .val (.int (own_v0_9 x5)), .val (.int (own_j0_1 x5)), .val (.int (own_v0_10 x5)), .val (.ref b76), .val (.int (x5 &&& (3 : Int32))), .unset, .unset, .unset, .unset] [(.long ((own_v0_6 y3).toInt64)), (.int ((x5 &&& (3 : Int32)) + (18 : Int32))), (.ref b76)]))
  refine own_go (fun t k => XS.lconst X107.here hx rfl (hb hby at_423) k) ?_
  show own_Goes p e below _ (T107.setTop (mkF m 424 #[.val (.int x0), .val (.int x1), .val (.int x2), .val (.long y3), .second, .val (.int x4), .val (.int x5), .val (.int (own_v0_1 x0)), .val (.int (own_v0_2 x1)), .val (.int (own_v0_3 x1)), .val (.int (own_v0_4 x2)), .val (.int (own_v0_5 x2)), .val (.int (own_v0_6 y3)), .val (.long (own_v0_7 y3)), .second, .val (.int (x4 &&& (63 : Int32))), .val (.int (own_v0_8 x4)), .val (.int (x5 &&& (3 : Int32))), .val (.int (own_v0_9 x5)), .val (.int (own_j0_1 x5)), .val (.int (own_v0_10 x5)), .val (.ref b76), .val (.int (x5 &&& (3 : Int32))), .unset, .unset, .unset, .unset] [(.long (1 : Int64)), (.long ((own_v0_6 y3).toInt64)), (.int ((x5 &&& (3 : Int32)) + (18 : Int32))), (.ref b76)]))
  obtain ⟨_, T108, L108, X108, ⟨rfl, N108q, e108⟩, st108⟩ := own_callS X107 hx hZ hown (hw _ own_t7) (hw _ own_t8) (hw _ own_t9) (hw _ own_t10) (by decide) (as := [(.long ((own_v0_6 y3).toInt64)), (.long (1 : Int64))]) (rm1 l Z a0 hw [] ((own_v0_6 y3).toInt64) (1 : Int64) h107 n0 (by decide)) e107 own_pd2 rfl (pc := 424) (Ls := #[.val (.int x0), .val (.int x1), .val (.int x2), .val (.long y3), .second, .val (.int x4), .val (.int x5), .val (.int (own_v0_1 x0)), .val (.int (own_v0_2 x1)), .val (.int (own_v0_3 x1)), .val (.int (own_v0_4 x2)), .val (.int (own_v0_5 x2)), .val (.int (own_v0_6 y3)), .val (.long (own_v0_7 y3)), .second, .val (.int (x4 &&& (63 : Int32))), .val (.int (own_v0_8 x4)), .val (.int (x5 &&& (3 : Int32))), .val (.int (own_v0_9 x5)), .val (.int (own_j0_1 x5)), .val (.int (own_v0_10 x5)), .val (.ref b76), .val (.int (x5 &&& (3 : Int32))), .unset, .unset, .unset, .unset]) (rest := [(.int ((x5 &&& (3 : Int32)) + (18 : Int32))), (.ref b76)]) (W := 2) (by rw [hml]; rfl) (Nat.le_of_eq rfl) (by decide) (by decide) (hb hby at_424) (by decide) (by decide)
  have N108 := Fr.app N107 N108q
  refine own_go st108 ?_
  show own_Goes p e below _ (T108.setTop (mkF m 427 #[.val (.int x0), .val (.int x1), .val (.int x2), .val (.long y3), .second, .val (.int x4), .val (.int x5), .val (.int (own_v0_1 x0)), .val (.int (own_v0_2 x1)), .val (.int (own_v0_3 x1)), .val (.int (own_v0_4 x2)), .val (.int (own_v0_5 x2)), .val (.int (own_v0_6 y3)), .val (.long (own_v0_7 y3)), .second, .val (.int (x4 &&& (63 : Int32))), .val (.int (own_v0_8 x4)), .val (.int (x5 &&& (3 : Int32))), .val (.int (own_v0_9 x5)), .val (.int (own_j0_1 x5)), .val (.int (own_v0_10 x5)), .val (.ref b76), .val (.int (x5 &&& (3 : Int32))), .unset, .unset, .unset, .unset] [(.int (own_f1 ((own_v0_6 y3).toInt64) (1 : Int64))), (.int ((x5 &&& (3 : Int32)) + (18 : Int32))), (.ref b76)]))
  obtain ⟨cl109, Ar109, sa109, ha109⟩ := id V107
  obtain ⟨T109, h109, X109, e109, W109, st109⟩ := stC X108 hx hZ e108 Ar109 (j := ((x5 &&& (3 : Int32)) + (18 : Int32))) (inb_of sa109 (own_ix x5 18)) (g := (mkF m 427 #[.val (.int x0), .val (.int x1), .val (.int x2), .val (.long y3), .second, .val (.int x4), .val (.int x5), .val (.int (own_v0_1 x0)), .val (.int (own_v0_2 x1)), .val (.int (own_v0_3 x1)), .val (.int (own_v0_4 x2)), .val (.int (own_v0_5 x2)), .val (.int (own_v0_6 y3)), .val (.long (own_v0_7 y3)), .second, .val (.int (x4 &&& (63 : Int32))), .val (.int (own_v0_8 x4)), .val (.int (x5 &&& (3 : Int32))), .val (.int (own_v0_9 x5)), .val (.int (own_j0_1 x5)), .val (.int (own_v0_10 x5)), .val (.ref b76), .val (.int (x5 &&& (3 : Int32))), .unset, .unset, .unset, .unset] [(.int (own_f1 ((own_v0_6 y3).toInt64) (1 : Int64))), (.int ((x5 &&& (3 : Int32)) + (18 : Int32))), (.ref b76)])) rfl rfl (hb hby at_427)
  have V109 : own_Tab Z h109 b76 (32 : Int32) (own_G0_19 x0 x1 x2 y3 x5) := own_Tab.set Ar109 sa109 ha109 W109 (own_ix x5 18)
  have N109 := Fr.snoc X109 N108 g_b76
  refine own_go st109 ?_
  show own_Goes p e below _ (T109.setTop (mkF m 428 #[.val (.int x0), .val (.int x1), .val (.int x2), .val (.long y3), .second, .val (.int x4), .val (.int x5), .val (.int (own_v0_1 x0)), .val (.int (own_v0_2 x1)), .val (.int (own_v0_3 x1)), .val (.int (own_v0_4 x2)), .val (.int (own_v0_5 x2)), .val (.int (own_v0_6 y3)), .val (.long (own_v0_7 y3)), .second, .val (.int (x4 &&& (63 : Int32))), .val (.int (own_v0_8 x4)), .val (.int (x5 &&& (3 : Int32))), .val (.int (own_v0_9 x5)), .val (.int (own_j0_1 x5)), .val (.int (own_v0_10 x5)), .val (.ref b76), .val (.int (x5 &&& (3 : Int32))), .unset, .unset, .unset, .unset] []))
  refine own_go (fun t k => XS.aload X109.here hx rfl (hb hby at_428) rfl rfl k) ?_
  show own_Goes p e below _ (T109.setTop (mkF m 430 #[.val (.int x0), .val (.int x1), .val (.int x2), .val (.long y3), .second, .val (.int x4), .val (.int x5), .val (.int (own_v0_1 x0)), .val (.int (own_v0_2 x1)), .val (.int (own_v0_3 x1)), .val (.int (own_v0_4 x2)), .val (.int (own_v0_5 x2)), .val (.int (own_v0_6 y3)), .val (.long (own_v0_7 y3)), .second, .val (.int (x4 &&& (63 : Int32))), .val (.int (own_v0_8 x4)), .val (.int (x5 &&& (3 : Int32))), .val (.int (own_v0_9 x5)), .val (.int (own_j0_1 x5)), .val (.int (own_v0_10 x5)), .val (.ref b76), .val (.int (x5 &&& (3 : Int32))), .unset, .unset, .unset, .unset] [(.ref b76)]))
  refine own_go (fun t k => XS.iload X109.here hx rfl (hb hby at_430) rfl k) ?_
  show own_Goes p e below _ (T109.setTop (mkF m 432 #[.val (.int x0), .val (.int x1), .val (.int x2), .val (.long y3), .second, .val (.int x4), .val (.int x5), .val (.int (own_v0_1 x0)), .val (.int (own_v0_2 x1)), .val (.int (own_v0_3 x1)), .val (.int (own_v0_4 x2)), .val (.int (own_v0_5 x2)), .val (.int (own_v0_6 y3)), .val (.long (own_v0_7 y3)), .second, .val (.int (x4 &&& (63 : Int32))), .val (.int (own_v0_8 x4)), .val (.int (x5 &&& (3 : Int32))), .val (.int (own_v0_9 x5)), .val (.int (own_j0_1 x5)), .val (.int (own_v0_10 x5)), .val (.ref b76), .val (.int (x5 &&& (3 : Int32))), .unset, .unset, .unset, .unset] [(.int (x5 &&& (3 : Int32))), (.ref b76)]))
  refine own_go (fun t k => XS.bipush X109.here hx rfl (hb hby at_432) k) ?_
  show own_Goes p e below _ (T109.setTop (mkF m 434 #[.val (.int x0), .val (.int x1), .val (.int x2), .val (.long y3), .second, .val (.int x4), .val (.int x5), .val (.int (own_v0_1 x0)), .val (.int (own_v0_2 x1)), .val (.int (own_v0_3 x1)), .val (.int (own_v0_4 x2)), .val (.int (own_v0_5 x2)), .val (.int (own_v0_6 y3)), .val (.long (own_v0_7 y3)), .second, .val (.int (x4 &&& (63 : Int32))), .val (.int (own_v0_8 x4)), .val (.int (x5 &&& (3 : Int32))), .val (.int (own_v0_9 x5)), .val (.int (own_j0_1 x5)), .val (.int (own_v0_10 x5)), .val (.ref b76), .val (.int (x5 &&& (3 : Int32))), .unset, .unset, .unset, .unset] [(.int (19 : Int32)), (.int (x5 &&& (3 : Int32))), (.ref b76)]))
  refine own_go (fun t k => XS.iadd X109.here hx rfl (hb hby at_434) rfl k) ?_
  show own_Goes p e below _ (T109.setTop (mkF m 435 #[.val (.int x0), .val (.int x1), .val (.int x2), .val (.long y3), .second, .val (.int x4), .val (.int x5), .val (.int (own_v0_1 x0)), .val (.int (own_v0_2 x1)), .val (.int (own_v0_3 x1)), .val (.int (own_v0_4 x2)), .val (.int (own_v0_5 x2)), .val (.int (own_v0_6 y3)), .val (.long (own_v0_7 y3)), .second, .val (.int (x4 &&& (63 : Int32))), .val (.int (own_v0_8 x4)), .val (.int (x5 &&& (3 : Int32))), .val (.int (own_v0_9 x5)), .val (.int (own_j0_1 x5)), .val (.int (own_v0_10 x5)), .val (.ref b76), .val (.int (x5 &&& (3 : Int32))), .unset, .unset, .unset, .unset] [(.int ((x5 &&& (3 : Int32)) + (19 : Int32))), (.ref b76)]))
  refine own_go (fun t k => XS.bipush X109.here hx rfl (hb hby at_435) k) ?_
  show own_Goes p e below _ (T109.setTop (mkF m 437 #[.val (.int x0), .val (.int x1), .val (.int x2), .val (.long y3), .second, .val (.int x4), .val (.int x5), .val (.int (own_v0_1 x0)), .val (.int (own_v0_2 x1)), .val (.int (own_v0_3 x1)), .val (.int (own_v0_4 x2)), .val (.int (own_v0_5 x2)), .val (.int (own_v0_6 y3)), .val (.long (own_v0_7 y3)), .second, .val (.int (x4 &&& (63 : Int32))), .val (.int (own_v0_8 x4)), .val (.int (x5 &&& (3 : Int32))), .val (.int (own_v0_9 x5)), .val (.int (own_j0_1 x5)), .val (.int (own_v0_10 x5)), .val (.ref b76), .val (.int (x5 &&& (3 : Int32))), .unset, .unset, .unset, .unset] [(.int (46 : Int32)), (.int ((x5 &&& (3 : Int32)) + (19 : Int32))), (.ref b76)]))
  obtain ⟨cl110, Ar110, sa110, ha110⟩ := id V109
  obtain ⟨T110, h110, X110, e110, W110, st110⟩ := stC X109 hx hZ e109 Ar110 (j := ((x5 &&& (3 : Int32)) + (19 : Int32))) (inb_of sa110 (own_ix x5 19)) (g := (mkF m 437 #[.val (.int x0), .val (.int x1), .val (.int x2), .val (.long y3), .second, .val (.int x4), .val (.int x5), .val (.int (own_v0_1 x0)), .val (.int (own_v0_2 x1)), .val (.int (own_v0_3 x1)), .val (.int (own_v0_4 x2)), .val (.int (own_v0_5 x2)), .val (.int (own_v0_6 y3)), .val (.long (own_v0_7 y3)), .second, .val (.int (x4 &&& (63 : Int32))), .val (.int (own_v0_8 x4)), .val (.int (x5 &&& (3 : Int32))), .val (.int (own_v0_9 x5)), .val (.int (own_j0_1 x5)), .val (.int (own_v0_10 x5)), .val (.ref b76), .val (.int (x5 &&& (3 : Int32))), .unset, .unset, .unset, .unset] [(.int (46 : Int32)), (.int ((x5 &&& (3 : Int32)) + (19 : Int32))), (.ref b76)])) rfl rfl (hb hby at_437)
  have V110 : own_Tab Z h110 b76 (32 : Int32) (own_G0_20 x0 x1 x2 y3 x5) := own_Tab.set Ar110 sa110 ha110 W110 (own_ix x5 19)
  have N110 := Fr.snoc X110 N109 g_b76
  refine own_go st110 ?_
  show own_Goes p e below _ (T110.setTop (mkF m 438 #[.val (.int x0), .val (.int x1), .val (.int x2), .val (.long y3), .second, .val (.int x4), .val (.int x5), .val (.int (own_v0_1 x0)), .val (.int (own_v0_2 x1)), .val (.int (own_v0_3 x1)), .val (.int (own_v0_4 x2)), .val (.int (own_v0_5 x2)), .val (.int (own_v0_6 y3)), .val (.long (own_v0_7 y3)), .second, .val (.int (x4 &&& (63 : Int32))), .val (.int (own_v0_8 x4)), .val (.int (x5 &&& (3 : Int32))), .val (.int (own_v0_9 x5)), .val (.int (own_j0_1 x5)), .val (.int (own_v0_10 x5)), .val (.ref b76), .val (.int (x5 &&& (3 : Int32))), .unset, .unset, .unset, .unset] []))
  refine own_go (fun t k => XS.aload X110.here hx rfl (hb hby at_438) rfl rfl k) ?_
  show own_Goes p e below _ (T110.setTop (mkF m 440 #[.val (.int x0), .val (.int x1), .val (.int x2), .val (.long y3), .second, .val (.int x4), .val (.int x5), .val (.int (own_v0_1 x0)), .val (.int (own_v0_2 x1)), .val (.int (own_v0_3 x1)), .val (.int (own_v0_4 x2)), .val (.int (own_v0_5 x2)), .val (.int (own_v0_6 y3)), .val (.long (own_v0_7 y3)), .second, .val (.int (x4 &&& (63 : Int32))), .val (.int (own_v0_8 x4)), .val (.int (x5 &&& (3 : Int32))), .val (.int (own_v0_9 x5)), .val (.int (own_j0_1 x5)), .val (.int (own_v0_10 x5)), .val (.ref b76), .val (.int (x5 &&& (3 : Int32))), .unset, .unset, .unset, .unset] [(.ref b76)]))
  refine own_go (fun t k => XS.iload X110.here hx rfl (hb hby at_440) rfl k) ?_
  show own_Goes p e below _ (T110.setTop (mkF m 442 #[.val (.int x0), .val (.int x1), .val (.int x2), .val (.long y3), .second, .val (.int x4), .val (.int x5), .val (.int (own_v0_1 x0)), .val (.int (own_v0_2 x1)), .val (.int (own_v0_3 x1)), .val (.int (own_v0_4 x2)), .val (.int (own_v0_5 x2)), .val (.int (own_v0_6 y3)), .val (.long (own_v0_7 y3)), .second, .val (.int (x4 &&& (63 : Int32))), .val (.int (own_v0_8 x4)), .val (.int (x5 &&& (3 : Int32))), .val (.int (own_v0_9 x5)), .val (.int (own_j0_1 x5)), .val (.int (own_v0_10 x5)), .val (.ref b76), .val (.int (x5 &&& (3 : Int32))), .unset, .unset, .unset, .unset] [(.int (x5 &&& (3 : Int32))), (.ref b76)]))
  refine own_go (fun t k => XS.bipush X110.here hx rfl (hb hby at_442) k) ?_
  show own_Goes p e below _ (T110.setTop (mkF m 444 #[.val (.int x0), .val (.int x1), .val (.int x2), .val (.long y3), .second, .val (.int x4), .val (.int x5), .val (.int (own_v0_1 x0)), .val (.int (own_v0_2 x1)), .val (.int (own_v0_3 x1)), .val (.int (own_v0_4 x2)), .val (.int (own_v0_5 x2)), .val (.int (own_v0_6 y3)), .val (.long (own_v0_7 y3)), .second, .val (.int (x4 &&& (63 : Int32))), .val (.int (own_v0_8 x4)), .val (.int (x5 &&& (3 : Int32))), .val (.int (own_v0_9 x5)), .val (.int (own_j0_1 x5)), .val (.int (own_v0_10 x5)), .val (.ref b76), .val (.int (x5 &&& (3 : Int32))), .unset, .unset, .unset, .unset] [(.int (20 : Int32)), (.int (x5 &&& (3 : Int32))), (.ref b76)]))
  refine own_go (fun t k => XS.iadd X110.here hx rfl (hb hby at_444) rfl k) ?_
  show own_Goes p e below _ (T110.setTop (mkF m 445 #[.val (.int x0), .val (.int x1), .val (.int x2), .val (.long y3), .second, .val (.int x4), .val (.int x5), .val (.int (own_v0_1 x0)), .val (.int (own_v0_2 x1)), .val (.int (own_v0_3 x1)), .val (.int (own_v0_4 x2)), .val (.int (own_v0_5 x2)), .val (.int (own_v0_6 y3)), .val (.long (own_v0_7 y3)), .second, .val (.int (x4 &&& (63 : Int32))), .val (.int (own_v0_8 x4)), .val (.int (x5 &&& (3 : Int32))), .val (.int (own_v0_9 x5)), .val (.int (own_j0_1 x5)), .val (.int (own_v0_10 x5)), .val (.ref b76), .val (.int (x5 &&& (3 : Int32))), .unset, .unset, .unset, .unset] [(.int ((x5 &&& (3 : Int32)) + (20 : Int32))), (.ref b76)]))
  refine own_go (fun t k => XS.lload X110.here hx rfl (hb hby at_445) rfl k) ?_
  show own_Goes p e below _ (T110.setTop (mkF m 447 #[.val (.int x0), .val (.int x1), .val (.int x2), .val (.long y3), .second, .val (.int x4), .val (.int x5), .val (.int (own_v0_1 x0)), .val (.int (own_v0_2 x1)), .val (.int (own_v0_3 x1)), .val (.int (own_v0_4 x2)), .val (.int (own_v0_5 x2)), .val (.int (own_v0_6 y3)), .val (.long (own_v0_7 y3)), .second, .val (.int (x4 &&& (63 : Int32))), .val (.int (own_v0_8 x4)), .val (.int (x5 &&& (3 : Int32))), .val (.int (own_v0_9 x5)), .val (.int (own_j0_1 x5)), .val (.int (own_v0_10 x5)), .val (.ref b76), .val (.int (x5 &&& (3 : Int32))), .unset, .unset, .unset, .unset] [(.long (own_v0_7 y3)), (.int ((x5 &&& (3 : Int32)) + (20 : Int32))), (.ref b76)]))
  refine own_go (fun t k => X110.ldc2Long hx hown (mvT hZ (hw _ own_t12)) (g := (mkF m 447 #[.val (.int x0), .val (.int x1), .val (.int x2), .val (.long y3), .second, .val (.int x4), .val (.int x5), .val (.int (own_v0_1 x0)), .val (.int (own_v0_2 x1)), .val (.int (own_v0_3 x1)), .val (.int (own_v0_4 x2)), .val (.int (own_v0_5 x2)), .val (.int (own_v0_6 y3)), .val (.long (own_v0_7 y3)), .second, .val (.int (x4 &&& (63 : Int32))), .val (.int (own_v0_8 x4)), .val (.int (x5 &&& (3 : Int32))), .val (.int (own_v0_9 x5)), .val (.int (own_j0_1 x5)), .val (.int (own_v0_10 x5)), .val (.ref b76), .val (.int (x5 &&& (3 : Int32))), .unset, .unset, .unset, .unset] [(.long (own_v0_7 y3)), (.int ((x5 &&& (3 : Int32)) + (20 : Int32))), (.ref b76)])) rfl (hb hby at_447) t k) ?_
  show own_Goes p e below _ (T110.setTop (mkF m 450 #[.val (.int x0), .val (.int x1), .val (.int x2), .val (.long y3), .second, .val (.int x4), .val (.int x5), .val (.int (own_v0_1 x0)), .val (.int (own_v0_2 x1)), .val (.int (own_v0_3 x1)), .val (.int (own_v0_4 x2)), .val (.int (own_v0_5 x2)), .val (.int (own_v0_6 y3)), .val (.long (own_v0_7 y3)), .second, .val (.int (x4 &&& (63 : Int32))), .val (.int (own_v0_8 x4)), .val (.int (x5 &&& (3 : Int32))), .val (.int (own_v0_9 x5)), .val (.int (own_j0_1 x5)), .val (.int (own_v0_10 x5)), .val (.ref b76), .val (.int (x5 &&& (3 : Int32))), .unset, .unset, .unset, .unset] [(.long (100000 : Int64)), (.long (own_v0_7 y3)), (.int ((x5 &&& (3 : Int32)) + (20 : Int32))), (.ref b76)]))
  obtain ⟨_, T111, L111, X111, ⟨rfl, N111q, e111⟩, st111⟩ := own_callS X110 hx hZ hown (hw _ own_t7) (hw _ own_t8) (hw _ own_t9) (hw _ own_t10) (by decide) (as := [(.long (own_v0_7 y3)), (.long (100000 : Int64))]) (rm1 l Z a0 hw [] (own_v0_7 y3) (100000 : Int64) h110 n0 (by decide)) e110 own_pd2 rfl (pc := 450) (Ls := #[.val (.int x0), .val (.int x1), .val (.int x2), .val (.long y3), .second, .val (.int x4), .val (.int x5), .val (.int (own_v0_1 x0)), .val (.int (own_v0_2 x1)), .val (.int (own_v0_3 x1)), .val (.int (own_v0_4 x2)), .val (.int (own_v0_5 x2)), .val (.int (own_v0_6 y3)), .val (.long (own_v0_7 y3)), .second, .val (.int (x4 &&& (63 : Int32))), .val (.int (own_v0_8 x4)), .val (.int (x5 &&& (3 : Int32))), .val (.int (own_v0_9 x5)), .val (.int (own_j0_1 x5)), .val (.int (own_v0_10 x5)), .val (.ref b76), .val (.int (x5 &&& (3 : Int32))), .unset, .unset, .unset, .unset]) (rest := [(.int ((x5 &&& (3 : Int32)) + (20 : Int32))), (.ref b76)]) (W := 2) (by rw [hml]; rfl) (Nat.le_of_eq rfl) (by decide) (by decide) (hb hby at_450) (by decide) (by decide)
  have N111 := Fr.app N110 N111q
  refine own_go st111 ?_
  show own_Goes p e below _ (T111.setTop (mkF m 453 #[.val (.int x0), .val (.int x1), .val (.int x2), .val (.long y3), .second, .val (.int x4), .val (.int x5), .val (.int (own_v0_1 x0)), .val (.int (own_v0_2 x1)), .val (.int (own_v0_3 x1)), .val (.int (own_v0_4 x2)), .val (.int (own_v0_5 x2)), .val (.int (own_v0_6 y3)), .val (.long (own_v0_7 y3)), .second, .val (.int (x4 &&& (63 : Int32))), .val (.int (own_v0_8 x4)), .val (.int (x5 &&& (3 : Int32))), .val (.int (own_v0_9 x5)), .val (.int (own_j0_1 x5)), .val (.int (own_v0_10 x5)), .val (.ref b76), .val (.int (x5 &&& (3 : Int32))), .unset, .unset, .unset, .unset] [(.int (own_f1 (own_v0_7 y3) (100000 : Int64))), (.int ((x5 &&& (3 : Int32)) + (20 : Int32))), (.ref b76)]))
  obtain ⟨cl112, Ar112, sa112, ha112⟩ := id V110
  obtain ⟨T112, h112, X112, e112, W112, st112⟩ := stC X111 hx hZ e111 Ar112 (j := ((x5 &&& (3 : Int32)) + (20 : Int32))) (inb_of sa112 (own_ix x5 20)) (g := (mkF m 453 #[.val (.int x0), .val (.int x1), .val (.int x2), .val (.long y3), .second, .val (.int x4), .val (.int x5), .val (.int (own_v0_1 x0)), .val (.int (own_v0_2 x1)), .val (.int (own_v0_3 x1)), .val (.int (own_v0_4 x2)), .val (.int (own_v0_5 x2)), .val (.int (own_v0_6 y3)), .val (.long (own_v0_7 y3)), .second, .val (.int (x4 &&& (63 : Int32))), .val (.int (own_v0_8 x4)), .val (.int (x5 &&& (3 : Int32))), .val (.int (own_v0_9 x5)), .val (.int (own_j0_1 x5)), .val (.int (own_v0_10 x5)), .val (.ref b76), .val (.int (x5 &&& (3 : Int32))), .unset, .unset, .unset, .unset] [(.int (own_f1 (own_v0_7 y3) (100000 : Int64))), (.int ((x5 &&& (3 : Int32)) + (20 : Int32))), (.ref b76)])) rfl rfl (hb hby at_453)
  have V112 : own_Tab Z h112 b76 (32 : Int32) (own_G0_21 x0 x1 x2 y3 x5) := own_Tab.set Ar112 sa112 ha112 W112 (own_ix x5 20)
  have N112 := Fr.snoc X112 N111 g_b76
  refine own_go st112 ?_
  show own_Goes p e below _ (T112.setTop (mkF m 454 #[.val (.int x0), .val (.int x1), .val (.int x2), .val (.long y3), .second, .val (.int x4), .val (.int x5), .val (.int (own_v0_1 x0)), .val (.int (own_v0_2 x1)), .val (.int (own_v0_3 x1)), .val (.int (own_v0_4 x2)), .val (.int (own_v0_5 x2)), .val (.int (own_v0_6 y3)), .val (.long (own_v0_7 y3)), .second, .val (.int (x4 &&& (63 : Int32))), .val (.int (own_v0_8 x4)), .val (.int (x5 &&& (3 : Int32))), .val (.int (own_v0_9 x5)), .val (.int (own_j0_1 x5)), .val (.int (own_v0_10 x5)), .val (.ref b76), .val (.int (x5 &&& (3 : Int32))), .unset, .unset, .unset, .unset] []))
  refine own_go (fun t k => XS.aload X112.here hx rfl (hb hby at_454) rfl rfl k) ?_
  show own_Goes p e below _ (T112.setTop (mkF m 456 #[.val (.int x0), .val (.int x1), .val (.int x2), .val (.long y3), .second, .val (.int x4), .val (.int x5), .val (.int (own_v0_1 x0)), .val (.int (own_v0_2 x1)), .val (.int (own_v0_3 x1)), .val (.int (own_v0_4 x2)), .val (.int (own_v0_5 x2)), .val (.int (own_v0_6 y3)), .val (.long (own_v0_7 y3)), .second, .val (.int (x4 &&& (63 : Int32))), .val (.int (own_v0_8 x4)), .val (.int (x5 &&& (3 : Int32))), .val (.int (own_v0_9 x5)), .val (.int (own_j0_1 x5)), .val (.int (own_v0_10 x5)), .val (.ref b76), .val (.int (x5 &&& (3 : Int32))), .unset, .unset, .unset, .unset] [(.ref b76)]))
  refine own_go (fun t k => XS.iload X112.here hx rfl (hb hby at_456) rfl k) ?_
  show own_Goes p e below _ (T112.setTop (mkF m 458 #[.val (.int x0), .val (.int x1), .val (.int x2), .val (.long y3), .second, .val (.int x4), .val (.int x5), .val (.int (own_v0_1 x0)), .val (.int (own_v0_2 x1)), .val (.int (own_v0_3 x1)), .val (.int (own_v0_4 x2)), .val (.int (own_v0_5 x2)), .val (.int (own_v0_6 y3)), .val (.long (own_v0_7 y3)), .second, .val (.int (x4 &&& (63 : Int32))), .val (.int (own_v0_8 x4)), .val (.int (x5 &&& (3 : Int32))), .val (.int (own_v0_9 x5)), .val (.int (own_j0_1 x5)), .val (.int (own_v0_10 x5)), .val (.ref b76), .val (.int (x5 &&& (3 : Int32))), .unset, .unset, .unset, .unset] [(.int (x5 &&& (3 : Int32))), (.ref b76)]))
  refine own_go (fun t k => XS.bipush X112.here hx rfl (hb hby at_458) k) ?_
  show own_Goes p e below _ (T112.setTop (mkF m 460 #[.val (.int x0), .val (.int x1), .val (.int x2), .val (.long y3), .second, .val (.int x4), .val (.int x5), .val (.int (own_v0_1 x0)), .val (.int (own_v0_2 x1)), .val (.int (own_v0_3 x1)), .val (.int (own_v0_4 x2)), .val (.int (own_v0_5 x2)), .val (.int (own_v0_6 y3)), .val (.long (own_v0_7 y3)), .second, .val (.int (x4 &&& (63 : Int32))), .val (.int (own_v0_8 x4)), .val (.int (x5 &&& (3 : Int32))), .val (.int (own_v0_9 x5)), .val (.int (own_j0_1 x5)), .val (.int (own_v0_10 x5)), .val (.ref b76), .val (.int (x5 &&& (3 : Int32))), .unset, .unset, .unset, .unset] [(.int (21 : Int32)), (.int (x5 &&& (3 : Int32))), (.ref b76)]))
  refine own_go (fun t k => XS.iadd X112.here hx rfl (hb hby at_460) rfl k) ?_
  show own_Goes p e below _ (T112.setTop (mkF m 461 #[.val (.int x0), .val (.int x1), .val (.int x2), .val (.long y3), .second, .val (.int x4), .val (.int x5), .val (.int (own_v0_1 x0)), .val (.int (own_v0_2 x1)), .val (.int (own_v0_3 x1)), .val (.int (own_v0_4 x2)), .val (.int (own_v0_5 x2)), .val (.int (own_v0_6 y3)), .val (.long (own_v0_7 y3)), .second, .val (.int (x4 &&& (63 : Int32))), .val (.int (own_v0_8 x4)), .val (.int (x5 &&& (3 : Int32))), .val (.int (own_v0_9 x5)), .val (.int (own_j0_1 x5)), .val (.int (own_v0_10 x5)), .val (.ref b76), .val (.int (x5 &&& (3 : Int32))), .unset, .unset, .unset, .unset] [(.int ((x5 &&& (3 : Int32)) + (21 : Int32))), (.ref b76)]))
  refine own_go (fun t k => XS.lload X112.here hx rfl (hb hby at_461) rfl k) ?_
  show own_Goes p e below _ (T112.setTop (mkF m 463 #[.val (.int x0), .val (.int x1), .val (.int x2), .val (.long y3), .second, .val (.int x4), .val (.int x5), .val (.int (own_v0_1 x0)), .val (.int (own_v0_2 x1)), .val (.int (own_v0_3 x1)), .val (.int (own_v0_4 x2)), .val (.int (own_v0_5 x2)), .val (.int (own_v0_6 y3)), .val (.long (own_v0_7 y3)), .second, .val (.int (x4 &&& (63 : Int32))), .val (.int (own_v0_8 x4)), .val (.int (x5 &&& (3 : Int32))), .val (.int (own_v0_9 x5)), .val (.int (own_j0_1 x5)), .val (.int (own_v0_10 x5)), .val (.ref b76), .val (.int (x5 &&& (3 : Int32))), .unset, .unset, .unset, .unset] [(.long (own_v0_7 y3)), (.int ((x5 &&& (3 : Int32)) + (21 : Int32))), (.ref b76)]))
  refine own_go (fun t k => X112.ldc2Long hx hown (mvT hZ (hw _ own_t13)) (g := (mkF m 463 #[.val (.int x0), .val (.int x1), .val (.int x2), .val (.long y3), .second, .val (.int x4), .val (.int x5), .val (.int (own_v0_1 x0)), .val (.int (own_v0_2 x1)), .val (.int (own_v0_3 x1)), .val (.int (own_v0_4 x2)), .val (.int (own_v0_5 x2)), .val (.int (own_v0_6 y3)), .val (.long (own_v0_7 y3)), .second, .val (.int (x4 &&& (63 : Int32))), .val (.int (own_v0_8 x4)), .val (.int (x5 &&& (3 : Int32))), .val (.int (own_v0_9 x5)), .val (.int (own_j0_1 x5)), .val (.int (own_v0_10 x5)), .val (.ref b76), .val (.int (x5 &&& (3 : Int32))), .unset, .unset, .unset, .unset] [(.long (own_v0_7 y3)), (.int ((x5 &&& (3 : Int32)) + (21 : Int32))), (.ref b76)])) rfl (hb hby at_463) t k) ?_
  show own_Goes p e below _ (T112.setTop (mkF m 466 #[.val (.int x0), .val (.int x1), .val (.int x2), .val (.long y3), .second, .val (.int x4), .val (.int x5), .val (.int (own_v0_1 x0)), .val (.int (own_v0_2 x1)), .val (.int (own_v0_3 x1)), .val (.int (own_v0_4 x2)), .val (.int (own_v0_5 x2)), .val (.int (own_v0_6 y3)), .val (.long (own_v0_7 y3)), .second, .val (.int (x4 &&& (63 : Int32))), .val (.int (own_v0_8 x4)), .val (.int (x5 &&& (3 : Int32))), .val (.int (own_v0_9 x5)), .val (.int (own_j0_1 x5)), .val (.int (own_v0_10 x5)), .val (.ref b76), .val (.int (x5 &&& (3 : Int32))), .unset, .unset, .unset, .unset] [(.long (10000 : Int64)), (.long (own_v0_7 y3)), (.int ((x5 &&& (3 : Int32)) + (21 : Int32))), (.ref b76)]))
  obtain ⟨_, T113, L113, X113, ⟨rfl, N113q, e113⟩, st113⟩ := own_callS X112 hx hZ hown (hw _ own_t7) (hw _ own_t8) (hw _ own_t9) (hw _ own_t10) (by decide) (as := [(.long (own_v0_7 y3)), (.long (10000 : Int64))]) (rm1 l Z a0 hw [] (own_v0_7 y3) (10000 : Int64) h112 n0 (by decide)) e112 own_pd2 rfl (pc := 466) (Ls := #[.val (.int x0), .val (.int x1), .val (.int x2), .val (.long y3), .second, .val (.int x4), .val (.int x5), .val (.int (own_v0_1 x0)), .val (.int (own_v0_2 x1)), .val (.int (own_v0_3 x1)), .val (.int (own_v0_4 x2)), .val (.int (own_v0_5 x2)), .val (.int (own_v0_6 y3)), .val (.long (own_v0_7 y3)), .second, .val (.int (x4 &&& (63 : Int32))), .val (.int (own_v0_8 x4)), .val (.int (x5 &&& (3 : Int32))), .val (.int (own_v0_9 x5)), .val (.int (own_j0_1 x5)), .val (.int (own_v0_10 x5)), .val (.ref b76), .val (.int (x5 &&& (3 : Int32))), .unset, .unset, .unset, .unset]) (rest := [(.int ((x5 &&& (3 : Int32)) + (21 : Int32))), (.ref b76)]) (W := 2) (by rw [hml]; rfl) (Nat.le_of_eq rfl) (by decide) (by decide) (hb hby at_466) (by decide) (by decide)
  have N113 := Fr.app N112 N113q
  refine own_go st113 ?_
  show own_Goes p e below _ (T113.setTop (mkF m 469 #[.val (.int x0), .val (.int x1), .val (.int x2), .val (.long y3), .second, .val (.int x4), .val (.int x5), .val (.int (own_v0_1 x0)), .val (.int (own_v0_2 x1)), .val (.int (own_v0_3 x1)), .val (.int (own_v0_4 x2)), .val (.int (own_v0_5 x2)), .val (.int (own_v0_6 y3)), .val (.long (own_v0_7 y3)), .second, .val (.int (x4 &&& (63 : Int32))), .val (.int (own_v0_8 x4)), .val (.int (x5 &&& (3 : Int32))), .val (.int (own_v0_9 x5)), .val (.int (own_j0_1 x5)), .val (.int (own_v0_10 x5)), .val (.ref b76), .val (.int (x5 &&& (3 : Int32))), .unset, .unset, .unset, .unset] [(.int (own_f1 (own_v0_7 y3) (10000 : Int64))), (.int ((x5 &&& (3 : Int32)) + (21 : Int32))), (.ref b76)]))
  obtain ⟨cl114, Ar114, sa114, ha114⟩ := id V112
  obtain ⟨T114, h114, X114, e114, W114, st114⟩ := stC X113 hx hZ e113 Ar114 (j := ((x5 &&& (3 : Int32)) + (21 : Int32))) (inb_of sa114 (own_ix x5 21)) (g := (mkF m 469 #[.val (.int x0), .val (.int x1), .val (.int x2), .val (.long y3), .second, .val (.int x4), .val (.int x5), .val (.int (own_v0_1 x0)), .val (.int (own_v0_2 x1)), .val (.int (own_v0_3 x1)), .val (.int (own_v0_4 x2)), .val (.int (own_v0_5 x2)), .val (.int (own_v0_6 y3)), .val (.long (own_v0_7 y3)), .second, .val (.int (x4 &&& (63 : Int32))), .val (.int (own_v0_8 x4)), .val (.int (x5 &&& (3 : Int32))), .val (.int (own_v0_9 x5)), .val (.int (own_j0_1 x5)), .val (.int (own_v0_10 x5)), .val (.ref b76), .val (.int (x5 &&& (3 : Int32))), .unset, .unset, .unset, .unset] [(.int (own_f1 (own_v0_7 y3) (10000 : Int64))), (.int ((x5 &&& (3 : Int32)) + (21 : Int32))), (.ref b76)])) rfl rfl (hb hby at_469)
  have V114 : own_Tab Z h114 b76 (32 : Int32) (own_G0_22 x0 x1 x2 y3 x5) := own_Tab.set Ar114 sa114 ha114 W114 (own_ix x5 21)
  have N114 := Fr.snoc X114 N113 g_b76
  refine own_go st114 ?_
  show own_Goes p e below _ (T114.setTop (mkF m 470 #[.val (.int x0), .val (.int x1), .val (.int x2), .val (.long y3), .second, .val (.int x4), .val (.int x5), .val (.int (own_v0_1 x0)), .val (.int (own_v0_2 x1)), .val (.int (own_v0_3 x1)), .val (.int (own_v0_4 x2)), .val (.int (own_v0_5 x2)), .val (.int (own_v0_6 y3)), .val (.long (own_v0_7 y3)), .second, .val (.int (x4 &&& (63 : Int32))), .val (.int (own_v0_8 x4)), .val (.int (x5 &&& (3 : Int32))), .val (.int (own_v0_9 x5)), .val (.int (own_j0_1 x5)), .val (.int (own_v0_10 x5)), .val (.ref b76), .val (.int (x5 &&& (3 : Int32))), .unset, .unset, .unset, .unset] []))
  refine own_go (fun t k => XS.aload X114.here hx rfl (hb hby at_470) rfl rfl k) ?_
  show own_Goes p e below _ (T114.setTop (mkF m 472 #[.val (.int x0), .val (.int x1), .val (.int x2), .val (.long y3), .second, .val (.int x4), .val (.int x5), .val (.int (own_v0_1 x0)), .val (.int (own_v0_2 x1)), .val (.int (own_v0_3 x1)), .val (.int (own_v0_4 x2)), .val (.int (own_v0_5 x2)), .val (.int (own_v0_6 y3)), .val (.long (own_v0_7 y3)), .second, .val (.int (x4 &&& (63 : Int32))), .val (.int (own_v0_8 x4)), .val (.int (x5 &&& (3 : Int32))), .val (.int (own_v0_9 x5)), .val (.int (own_j0_1 x5)), .val (.int (own_v0_10 x5)), .val (.ref b76), .val (.int (x5 &&& (3 : Int32))), .unset, .unset, .unset, .unset] [(.ref b76)]))
  refine own_go (fun t k => XS.iload X114.here hx rfl (hb hby at_472) rfl k) ?_
  show own_Goes p e below _ (T114.setTop (mkF m 474 #[.val (.int x0), .val (.int x1), .val (.int x2), .val (.long y3), .second, .val (.int x4), .val (.int x5), .val (.int (own_v0_1 x0)), .val (.int (own_v0_2 x1)), .val (.int (own_v0_3 x1)), .val (.int (own_v0_4 x2)), .val (.int (own_v0_5 x2)), .val (.int (own_v0_6 y3)), .val (.long (own_v0_7 y3)), .second, .val (.int (x4 &&& (63 : Int32))), .val (.int (own_v0_8 x4)), .val (.int (x5 &&& (3 : Int32))), .val (.int (own_v0_9 x5)), .val (.int (own_j0_1 x5)), .val (.int (own_v0_10 x5)), .val (.ref b76), .val (.int (x5 &&& (3 : Int32))), .unset, .unset, .unset, .unset] [(.int (x5 &&& (3 : Int32))), (.ref b76)]))
  refine own_go (fun t k => XS.bipush X114.here hx rfl (hb hby at_474) k) ?_
  show own_Goes p e below _ (T114.setTop (mkF m 476 #[.val (.int x0), .val (.int x1), .val (.int x2), .val (.long y3), .second, .val (.int x4), .val (.int x5), .val (.int (own_v0_1 x0)), .val (.int (own_v0_2 x1)), .val (.int (own_v0_3 x1)), .val (.int (own_v0_4 x2)), .val (.int (own_v0_5 x2)), .val (.int (own_v0_6 y3)), .val (.long (own_v0_7 y3)), .second, .val (.int (x4 &&& (63 : Int32))), .val (.int (own_v0_8 x4)), .val (.int (x5 &&& (3 : Int32))), .val (.int (own_v0_9 x5)), .val (.int (own_j0_1 x5)), .val (.int (own_v0_10 x5)), .val (.ref b76), .val (.int (x5 &&& (3 : Int32))), .unset, .unset, .unset, .unset] [(.int (22 : Int32)), (.int (x5 &&& (3 : Int32))), (.ref b76)]))
  refine own_go (fun t k => XS.iadd X114.here hx rfl (hb hby at_476) rfl k) ?_
  show own_Goes p e below _ (T114.setTop (mkF m 477 #[.val (.int x0), .val (.int x1), .val (.int x2), .val (.long y3), .second, .val (.int x4), .val (.int x5), .val (.int (own_v0_1 x0)), .val (.int (own_v0_2 x1)), .val (.int (own_v0_3 x1)), .val (.int (own_v0_4 x2)), .val (.int (own_v0_5 x2)), .val (.int (own_v0_6 y3)), .val (.long (own_v0_7 y3)), .second, .val (.int (x4 &&& (63 : Int32))), .val (.int (own_v0_8 x4)), .val (.int (x5 &&& (3 : Int32))), .val (.int (own_v0_9 x5)), .val (.int (own_j0_1 x5)), .val (.int (own_v0_10 x5)), .val (.ref b76), .val (.int (x5 &&& (3 : Int32))), .unset, .unset, .unset, .unset] [(.int ((x5 &&& (3 : Int32)) + (22 : Int32))), (.ref b76)]))
  refine own_go (fun t k => XS.lload X114.here hx rfl (hb hby at_477) rfl k) ?_
  show own_Goes p e below _ (T114.setTop (mkF m 479 #[.val (.int x0), .val (.int x1), .val (.int x2), .val (.long y3), .second, .val (.int x4), .val (.int x5), .val (.int (own_v0_1 x0)), .val (.int (own_v0_2 x1)), .val (.int (own_v0_3 x1)), .val (.int (own_v0_4 x2)), .val (.int (own_v0_5 x2)), .val (.int (own_v0_6 y3)), .val (.long (own_v0_7 y3)), .second, .val (.int (x4 &&& (63 : Int32))), .val (.int (own_v0_8 x4)), .val (.int (x5 &&& (3 : Int32))), .val (.int (own_v0_9 x5)), .val (.int (own_j0_1 x5)), .val (.int (own_v0_10 x5)), .val (.ref b76), .val (.int (x5 &&& (3 : Int32))), .unset, .unset, .unset, .unset] [(.long (own_v0_7 y3)), (.int ((x5 &&& (3 : Int32)) + (22 : Int32))), (.ref b76)]))
  refine own_go (fun t k => X114.ldc2Long hx hown (mvT hZ (hw _ own_t6)) (g := (mkF m 479 #[.val (.int x0), .val (.int x1), .val (.int x2), .val (.long y3), .second, .val (.int x4), .val (.int x5), .val (.int (own_v0_1 x0)), .val (.int (own_v0_2 x1)), .val (.int (own_v0_3 x1)), .val (.int (own_v0_4 x2)), .val (.int (own_v0_5 x2)), .val (.int (own_v0_6 y3)), .val (.long (own_v0_7 y3)), .second, .val (.int (x4 &&& (63 : Int32))), .val (.int (own_v0_8 x4)), .val (.int (x5 &&& (3 : Int32))), .val (.int (own_v0_9 x5)), .val (.int (own_j0_1 x5)), .val (.int (own_v0_10 x5)), .val (.ref b76), .val (.int (x5 &&& (3 : Int32))), .unset, .unset, .unset, .unset] [(.long (own_v0_7 y3)), (.int ((x5 &&& (3 : Int32)) + (22 : Int32))), (.ref b76)])) rfl (hb hby at_479) t k) ?_
  show own_Goes p e below _ (T114.setTop (mkF m 482 #[.val (.int x0), .val (.int x1), .val (.int x2), .val (.long y3), .second, .val (.int x4), .val (.int x5), .val (.int (own_v0_1 x0)), .val (.int (own_v0_2 x1)), .val (.int (own_v0_3 x1)), .val (.int (own_v0_4 x2)), .val (.int (own_v0_5 x2)), .val (.int (own_v0_6 y3)), .val (.long (own_v0_7 y3)), .second, .val (.int (x4 &&& (63 : Int32))), .val (.int (own_v0_8 x4)), .val (.int (x5 &&& (3 : Int32))), .val (.int (own_v0_9 x5)), .val (.int (own_j0_1 x5)), .val (.int (own_v0_10 x5)), .val (.ref b76), .val (.int (x5 &&& (3 : Int32))), .unset, .unset, .unset, .unset] [(.long (1000 : Int64)), (.long (own_v0_7 y3)), (.int ((x5 &&& (3 : Int32)) + (22 : Int32))), (.ref b76)]))
  obtain ⟨_, T115, L115, X115, ⟨rfl, N115q, e115⟩, st115⟩ := own_callS X114 hx hZ hown (hw _ own_t7) (hw _ own_t8) (hw _ own_t9) (hw _ own_t10) (by decide) (as := [(.long (own_v0_7 y3)), (.long (1000 : Int64))]) (rm1 l Z a0 hw [] (own_v0_7 y3) (1000 : Int64) h114 n0 (by decide)) e114 own_pd2 rfl (pc := 482) (Ls := #[.val (.int x0), .val (.int x1), .val (.int x2), .val (.long y3), .second, .val (.int x4), .val (.int x5), .val (.int (own_v0_1 x0)), .val (.int (own_v0_2 x1)), .val (.int (own_v0_3 x1)), .val (.int (own_v0_4 x2)), .val (.int (own_v0_5 x2)), .val (.int (own_v0_6 y3)), .val (.long (own_v0_7 y3)), .second, .val (.int (x4 &&& (63 : Int32))), .val (.int (own_v0_8 x4)), .val (.int (x5 &&& (3 : Int32))), .val (.int (own_v0_9 x5)), .val (.int (own_j0_1 x5)), .val (.int (own_v0_10 x5)), .val (.ref b76), .val (.int (x5 &&& (3 : Int32))), .unset, .unset, .unset, .unset]) (rest := [(.int ((x5 &&& (3 : Int32)) + (22 : Int32))), (.ref b76)]) (W := 2) (by rw [hml]; rfl) (Nat.le_of_eq rfl) (by decide) (by decide) (hb hby at_482) (by decide) (by decide)
  have N115 := Fr.app N114 N115q
  refine own_go st115 ?_
  show own_Goes p e below _ (T115.setTop (mkF m 485 #[.val (.int x0), .val (.int x1), .val (.int x2), .val (.long y3), .second, .val (.int x4), .val (.int x5), .val (.int (own_v0_1 x0)), .val (.int (own_v0_2 x1)), .val (.int (own_v0_3 x1)), .val (.int (own_v0_4 x2)), .val (.int (own_v0_5 x2)), .val (.int (own_v0_6 y3)), .val (.long (own_v0_7 y3)), .second, .val (.int (x4 &&& (63 : Int32))), .val (.int (own_v0_8 x4)), .val (.int (x5 &&& (3 : Int32))), .val (.int (own_v0_9 x5)), .val (.int (own_j0_1 x5)), .val (.int (own_v0_10 x5)), .val (.ref b76), .val (.int (x5 &&& (3 : Int32))), .unset, .unset, .unset, .unset] [(.int (own_f1 (own_v0_7 y3) (1000 : Int64))), (.int ((x5 &&& (3 : Int32)) + (22 : Int32))), (.ref b76)]))
  obtain ⟨cl116, Ar116, sa116, ha116⟩ := id V114
  obtain ⟨T116, h116, X116, e116, W116, st116⟩ := stC X115 hx hZ e115 Ar116 (j := ((x5 &&& (3 : Int32)) + (22 : Int32))) (inb_of sa116 (own_ix x5 22)) (g := (mkF m 485 #[.val (.int x0), .val (.int x1), .val (.int x2), .val (.long y3), .second, .val (.int x4), .val (.int x5), .val (.int (own_v0_1 x0)), .val (.int (own_v0_2 x1)), .val (.int (own_v0_3 x1)), .val (.int (own_v0_4 x2)), .val (.int (own_v0_5 x2)), .val (.int (own_v0_6 y3)), .val (.long (own_v0_7 y3)), .second, .val (.int (x4 &&& (63 : Int32))), .val (.int (own_v0_8 x4)), .val (.int (x5 &&& (3 : Int32))), .val (.int (own_v0_9 x5)), .val (.int (own_j0_1 x5)), .val (.int (own_v0_10 x5)), .val (.ref b76), .val (.int (x5 &&& (3 : Int32))), .unset, .unset, .unset, .unset] [(.int (own_f1 (own_v0_7 y3) (1000 : Int64))), (.int ((x5 &&& (3 : Int32)) + (22 : Int32))), (.ref b76)])) rfl rfl (hb hby at_485)
  have V116 : own_Tab Z h116 b76 (32 : Int32) (own_G0_23 x0 x1 x2 y3 x5) := own_Tab.set Ar116 sa116 ha116 W116 (own_ix x5 22)
  have N116 := Fr.snoc X116 N115 g_b76
  refine own_go st116 ?_
  show own_Goes p e below _ (T116.setTop (mkF m 486 #[.val (.int x0), .val (.int x1), .val (.int x2), .val (.long y3), .second, .val (.int x4), .val (.int x5), .val (.int (own_v0_1 x0)), .val (.int (own_v0_2 x1)), .val (.int (own_v0_3 x1)), .val (.int (own_v0_4 x2)), .val (.int (own_v0_5 x2)), .val (.int (own_v0_6 y3)), .val (.long (own_v0_7 y3)), .second, .val (.int (x4 &&& (63 : Int32))), .val (.int (own_v0_8 x4)), .val (.int (x5 &&& (3 : Int32))), .val (.int (own_v0_9 x5)), .val (.int (own_j0_1 x5)), .val (.int (own_v0_10 x5)), .val (.ref b76), .val (.int (x5 &&& (3 : Int32))), .unset, .unset, .unset, .unset] []))
  refine own_go (fun t k => XS.aload X116.here hx rfl (hb hby at_486) rfl rfl k) ?_
  show own_Goes p e below _ (T116.setTop (mkF m 488 #[.val (.int x0), .val (.int x1), .val (.int x2), .val (.long y3), .second, .val (.int x4), .val (.int x5), .val (.int (own_v0_1 x0)), .val (.int (own_v0_2 x1)), .val (.int (own_v0_3 x1)), .val (.int (own_v0_4 x2)), .val (.int (own_v0_5 x2)), .val (.int (own_v0_6 y3)), .val (.long (own_v0_7 y3)), .second, .val (.int (x4 &&& (63 : Int32))), .val (.int (own_v0_8 x4)), .val (.int (x5 &&& (3 : Int32))), .val (.int (own_v0_9 x5)), .val (.int (own_j0_1 x5)), .val (.int (own_v0_10 x5)), .val (.ref b76), .val (.int (x5 &&& (3 : Int32))), .unset, .unset, .unset, .unset] [(.ref b76)]))
  refine own_go (fun t k => XS.iload X116.here hx rfl (hb hby at_488) rfl k) ?_
  show own_Goes p e below _ (T116.setTop (mkF m 490 #[.val (.int x0), .val (.int x1), .val (.int x2), .val (.long y3), .second, .val (.int x4), .val (.int x5), .val (.int (own_v0_1 x0)), .val (.int (own_v0_2 x1)), .val (.int (own_v0_3 x1)), .val (.int (own_v0_4 x2)), .val (.int (own_v0_5 x2)), .val (.int (own_v0_6 y3)), .val (.long (own_v0_7 y3)), .second, .val (.int (x4 &&& (63 : Int32))), .val (.int (own_v0_8 x4)), .val (.int (x5 &&& (3 : Int32))), .val (.int (own_v0_9 x5)), .val (.int (own_j0_1 x5)), .val (.int (own_v0_10 x5)), .val (.ref b76), .val (.int (x5 &&& (3 : Int32))), .unset, .unset, .unset, .unset] [(.int (x5 &&& (3 : Int32))), (.ref b76)]))
  refine own_go (fun t k => XS.bipush X116.here hx rfl (hb hby at_490) k) ?_
  show own_Goes p e below _ (T116.setTop (mkF m 492 #[.val (.int x0), .val (.int x1), .val (.int x2), .val (.long y3), .second, .val (.int x4), .val (.int x5), .val (.int (own_v0_1 x0)), .val (.int (own_v0_2 x1)), .val (.int (own_v0_3 x1)), .val (.int (own_v0_4 x2)), .val (.int (own_v0_5 x2)), .val (.int (own_v0_6 y3)), .val (.long (own_v0_7 y3)), .second, .val (.int (x4 &&& (63 : Int32))), .val (.int (own_v0_8 x4)), .val (.int (x5 &&& (3 : Int32))), .val (.int (own_v0_9 x5)), .val (.int (own_j0_1 x5)), .val (.int (own_v0_10 x5)), .val (.ref b76), .val (.int (x5 &&& (3 : Int32))), .unset, .unset, .unset, .unset] [(.int (23 : Int32)), (.int (x5 &&& (3 : Int32))), (.ref b76)]))
  refine own_go (fun t k => XS.iadd X116.here hx rfl (hb hby at_492) rfl k) ?_
  show own_Goes p e below _ (T116.setTop (mkF m 493 #[.val (.int x0), .val (.int x1), .val (.int x2), .val (.long y3), .second, .val (.int x4), .val (.int x5), .val (.int (own_v0_1 x0)), .val (.int (own_v0_2 x1)), .val (.int (own_v0_3 x1)), .val (.int (own_v0_4 x2)), .val (.int (own_v0_5 x2)), .val (.int (own_v0_6 y3)), .val (.long (own_v0_7 y3)), .second, .val (.int (x4 &&& (63 : Int32))), .val (.int (own_v0_8 x4)), .val (.int (x5 &&& (3 : Int32))), .val (.int (own_v0_9 x5)), .val (.int (own_j0_1 x5)), .val (.int (own_v0_10 x5)), .val (.ref b76), .val (.int (x5 &&& (3 : Int32))), .unset, .unset, .unset, .unset] [(.int ((x5 &&& (3 : Int32)) + (23 : Int32))), (.ref b76)]))
  refine own_go (fun t k => XS.lload X116.here hx rfl (hb hby at_493) rfl k) ?_
  show own_Goes p e below _ (T116.setTop (mkF m 495 #[.val (.int x0), .val (.int x1), .val (.int x2), .val (.long y3), .second, .val (.int x4), .val (.int x5), .val (.int (own_v0_1 x0)), .val (.int (own_v0_2 x1)), .val (.int (own_v0_3 x1)), .val (.int (own_v0_4 x2)), .val (.int (own_v0_5 x2)), .val (.int (own_v0_6 y3)), .val (.long (own_v0_7 y3)), .second, .val (.int (x4 &&& (63 : Int32))), .val (.int (own_v0_8 x4)), .val (.int (x5 &&& (3 : Int32))), .val (.int (own_v0_9 x5)), .val (.int (own_j0_1 x5)), .val (.int (own_v0_10 x5)), .val (.ref b76), .val (.int (x5 &&& (3 : Int32))), .unset, .unset, .unset, .unset] [(.long (own_v0_7 y3)), (.int ((x5 &&& (3 : Int32)) + (23 : Int32))), (.ref b76)]))
  refine own_go (fun t k => X116.ldc2Long hx hown (mvT hZ (hw _ own_t3)) (g := (mkF m 495 #[.val (.int x0), .val (.int x1), .val (.int x2), .val (.long y3), .second, .val (.int x4), .val (.int x5), .val (.int (own_v0_1 x0)), .val (.int (own_v0_2 x1)), .val (.int (own_v0_3 x1)), .val (.int (own_v0_4 x2)), .val (.int (own_v0_5 x2)), .val (.int (own_v0_6 y3)), .val (.long (own_v0_7 y3)), .second, .val (.int (x4 &&& (63 : Int32))), .val (.int (own_v0_8 x4)), .val (.int (x5 &&& (3 : Int32))), .val (.int (own_v0_9 x5)), .val (.int (own_j0_1 x5)), .val (.int (own_v0_10 x5)), .val (.ref b76), .val (.int (x5 &&& (3 : Int32))), .unset, .unset, .unset, .unset] [(.long (own_v0_7 y3)), (.int ((x5 &&& (3 : Int32)) + (23 : Int32))), (.ref b76)])) rfl (hb hby at_495) t k) ?_
  show own_Goes p e below _ (T116.setTop (mkF m 498 #[.val (.int x0), .val (.int x1), .val (.int x2), .val (.long y3), .second, .val (.int x4), .val (.int x5), .val (.int (own_v0_1 x0)), .val (.int (own_v0_2 x1)), .val (.int (own_v0_3 x1)), .val (.int (own_v0_4 x2)), .val (.int (own_v0_5 x2)), .val (.int (own_v0_6 y3)), .val (.long (own_v0_7 y3)), .second, .val (.int (x4 &&& (63 : Int32))), .val (.int (own_v0_8 x4)), .val (.int (x5 &&& (3 : Int32))), .val (.int (own_v0_9 x5)), .val (.int (own_j0_1 x5)), .val (.int (own_v0_10 x5)), .val (.ref b76), .val (.int (x5 &&& (3 : Int32))), .unset, .unset, .unset, .unset] [(.long (100 : Int64)), (.long (own_v0_7 y3)), (.int ((x5 &&& (3 : Int32)) + (23 : Int32))), (.ref b76)]))
  obtain ⟨_, T117, L117, X117, ⟨rfl, N117q, e117⟩, st117⟩ := own_callS X116 hx hZ hown (hw _ own_t7) (hw _ own_t8) (hw _ own_t9) (hw _ own_t10) (by decide) (as := [(.long (own_v0_7 y3)), (.long (100 : Int64))]) (rm1 l Z a0 hw [] (own_v0_7 y3) (100 : Int64) h116 n0 (by decide)) e116 own_pd2 rfl (pc := 498) (Ls := #[.val (.int x0), .val (.int x1), .val (.int x2), .val (.long y3), .second, .val (.int x4), .val (.int x5), .val (.int (own_v0_1 x0)), .val (.int (own_v0_2 x1)), .val (.int (own_v0_3 x1)), .val (.int (own_v0_4 x2)), .val (.int (own_v0_5 x2)), .val (.int (own_v0_6 y3)), .val (.long (own_v0_7 y3)), .second, .val (.int (x4 &&& (63 : Int32))), .val (.int (own_v0_8 x4)), .val (.int (x5 &&& (3 : Int32))), .val (.int (own_v0_9 x5)), .val (.int (own_j0_1 x5)), .val (.int (own_v0_10 x5)), .val (.ref b76), .val (.int (x5 &&& (3 : Int32))), .unset, .unset, .unset, .unset]) (rest := [(.int ((x5 &&& (3 : Int32)) + (23 : Int32))), (.ref b76)]) (W := 2) (by rw [hml]; rfl) (Nat.le_of_eq rfl) (by decide) (by decide) (hb hby at_498) (by decide) (by decide)
  have N117 := Fr.app N116 N117q
  refine own_go st117 ?_
  show own_Goes p e below _ (T117.setTop (mkF m 501 #[.val (.int x0), .val (.int x1), .val (.int x2), .val (.long y3), .second, .val (.int x4), .val (.int x5), .val (.int (own_v0_1 x0)), .val (.int (own_v0_2 x1)), .val (.int (own_v0_3 x1)), .val (.int (own_v0_4 x2)), .val (.int (own_v0_5 x2)), .val (.int (own_v0_6 y3)), .val (.long (own_v0_7 y3)), .second, .val (.int (x4 &&& (63 : Int32))), .val (.int (own_v0_8 x4)), .val (.int (x5 &&& (3 : Int32))), .val (.int (own_v0_9 x5)), .val (.int (own_j0_1 x5)), .val (.int (own_v0_10 x5)), .val (.ref b76), .val (.int (x5 &&& (3 : Int32))), .unset, .unset, .unset, .unset] [(.int (own_f1 (own_v0_7 y3) (100 : Int64))), (.int ((x5 &&& (3 : Int32)) + (23 : Int32))), (.ref b76)]))
  obtain ⟨cl118, Ar118, sa118, ha118⟩ := id V116
  obtain ⟨T118, h118, X118, e118, W118, st118⟩ := stC X117 hx hZ e117 Ar118 (j := ((x5 &&& (3 : Int32)) + (23 : Int32))) (inb_of sa118 (own_ix x5 23)) (g := (mkF m 501 #[.val (.int x0), .val (.int x1), .val (.int x2), .val (.long y3), .second, .val (.int x4), .val (.int x5), .val (.int (own_v0_1 x0)), .val (.int (own_v0_2 x1)), .val (.int (own_v0_3 x1)), .val (.int (own_v0_4 x2)), .val (.int (own_v0_5 x2)), .val (.int (own_v0_6 y3)), .val (.long (own_v0_7 y3)), .second, .val (.int (x4 &&& (63 : Int32))), .val (.int (own_v0_8 x4)), .val (.int (x5 &&& (3 : Int32))), .val (.int (own_v0_9 x5)), .val (.int (own_j0_1 x5)), .val (.int (own_v0_10 x5)), .val (.ref b76), .val (.int (x5 &&& (3 : Int32))), .unset, .unset, .unset, .unset] [(.int (own_f1 (own_v0_7 y3) (100 : Int64))), (.int ((x5 &&& (3 : Int32)) + (23 : Int32))), (.ref b76)])) rfl rfl (hb hby at_501)
  have V118 : own_Tab Z h118 b76 (32 : Int32) (own_G0_24 x0 x1 x2 y3 x5) := own_Tab.set Ar118 sa118 ha118 W118 (own_ix x5 23)
  have N118 := Fr.snoc X118 N117 g_b76
  refine own_go st118 ?_
  show own_Goes p e below _ (T118.setTop (mkF m 502 #[.val (.int x0), .val (.int x1), .val (.int x2), .val (.long y3), .second, .val (.int x4), .val (.int x5), .val (.int (own_v0_1 x0)), .val (.int (own_v0_2 x1)), .val (.int (own_v0_3 x1)), .val (.int (own_v0_4 x2)), .val (.int (own_v0_5 x2)), .val (.int (own_v0_6 y3)), .val (.long (own_v0_7 y3)), .second, .val (.int (x4 &&& (63 : Int32))), .val (.int (own_v0_8 x4)), .val (.int (x5 &&& (3 : Int32))), .val (.int (own_v0_9 x5)), .val (.int (own_j0_1 x5)), .val (.int (own_v0_10 x5)), .val (.ref b76), .val (.int (x5 &&& (3 : Int32))), .unset, .unset, .unset, .unset] []))
  refine own_go (fun t k => XS.aload X118.here hx rfl (hb hby at_502) rfl rfl k) ?_
  show own_Goes p e below _ (T118.setTop (mkF m 504 #[.val (.int x0), .val (.int x1), .val (.int x2), .val (.long y3), .second, .val (.int x4), .val (.int x5), .val (.int (own_v0_1 x0)), .val (.int (own_v0_2 x1)), .val (.int (own_v0_3 x1)), .val (.int (own_v0_4 x2)), .val (.int (own_v0_5 x2)), .val (.int (own_v0_6 y3)), .val (.long (own_v0_7 y3)), .second, .val (.int (x4 &&& (63 : Int32))), .val (.int (own_v0_8 x4)), .val (.int (x5 &&& (3 : Int32))), .val (.int (own_v0_9 x5)), .val (.int (own_j0_1 x5)), .val (.int (own_v0_10 x5)), .val (.ref b76), .val (.int (x5 &&& (3 : Int32))), .unset, .unset, .unset, .unset] [(.ref b76)]))
  refine own_go (fun t k => XS.iload X118.here hx rfl (hb hby at_504) rfl k) ?_
  show own_Goes p e below _ (T118.setTop (mkF m 506 #[.val (.int x0), .val (.int x1), .val (.int x2), .val (.long y3), .second, .val (.int x4), .val (.int x5), .val (.int (own_v0_1 x0)), .val (.int (own_v0_2 x1)), .val (.int (own_v0_3 x1)), .val (.int (own_v0_4 x2)), .val (.int (own_v0_5 x2)), .val (.int (own_v0_6 y3)), .val (.long (own_v0_7 y3)), .second, .val (.int (x4 &&& (63 : Int32))), .val (.int (own_v0_8 x4)), .val (.int (x5 &&& (3 : Int32))), .val (.int (own_v0_9 x5)), .val (.int (own_j0_1 x5)), .val (.int (own_v0_10 x5)), .val (.ref b76), .val (.int (x5 &&& (3 : Int32))), .unset, .unset, .unset, .unset] [(.int (x5 &&& (3 : Int32))), (.ref b76)]))
  refine own_go (fun t k => XS.bipush X118.here hx rfl (hb hby at_506) k) ?_
  show own_Goes p e below _ (T118.setTop (mkF m 508 #[.val (.int x0), .val (.int x1), .val (.int x2), .val (.long y3), .second, .val (.int x4), .val (.int x5), .val (.int (own_v0_1 x0)), .val (.int (own_v0_2 x1)), .val (.int (own_v0_3 x1)), .val (.int (own_v0_4 x2)), .val (.int (own_v0_5 x2)), .val (.int (own_v0_6 y3)), .val (.long (own_v0_7 y3)), .second, .val (.int (x4 &&& (63 : Int32))), .val (.int (own_v0_8 x4)), .val (.int (x5 &&& (3 : Int32))), .val (.int (own_v0_9 x5)), .val (.int (own_j0_1 x5)), .val (.int (own_v0_10 x5)), .val (.ref b76), .val (.int (x5 &&& (3 : Int32))), .unset, .unset, .unset, .unset] [(.int (24 : Int32)), (.int (x5 &&& (3 : Int32))), (.ref b76)]))
  refine own_go (fun t k => XS.iadd X118.here hx rfl (hb hby at_508) rfl k) ?_
  show own_Goes p e below _ (T118.setTop (mkF m 509 #[.val (.int x0), .val (.int x1), .val (.int x2), .val (.long y3), .second, .val (.int x4), .val (.int x5), .val (.int (own_v0_1 x0)), .val (.int (own_v0_2 x1)), .val (.int (own_v0_3 x1)), .val (.int (own_v0_4 x2)), .val (.int (own_v0_5 x2)), .val (.int (own_v0_6 y3)), .val (.long (own_v0_7 y3)), .second, .val (.int (x4 &&& (63 : Int32))), .val (.int (own_v0_8 x4)), .val (.int (x5 &&& (3 : Int32))), .val (.int (own_v0_9 x5)), .val (.int (own_j0_1 x5)), .val (.int (own_v0_10 x5)), .val (.ref b76), .val (.int (x5 &&& (3 : Int32))), .unset, .unset, .unset, .unset] [(.int ((x5 &&& (3 : Int32)) + (24 : Int32))), (.ref b76)]))
  refine own_go (fun t k => XS.lload X118.here hx rfl (hb hby at_509) rfl k) ?_
  show own_Goes p e below _ (T118.setTop (mkF m 511 #[.val (.int x0), .val (.int x1), .val (.int x2), .val (.long y3), .second, .val (.int x4), .val (.int x5), .val (.int (own_v0_1 x0)), .val (.int (own_v0_2 x1)), .val (.int (own_v0_3 x1)), .val (.int (own_v0_4 x2)), .val (.int (own_v0_5 x2)), .val (.int (own_v0_6 y3)), .val (.long (own_v0_7 y3)), .second, .val (.int (x4 &&& (63 : Int32))), .val (.int (own_v0_8 x4)), .val (.int (x5 &&& (3 : Int32))), .val (.int (own_v0_9 x5)), .val (.int (own_j0_1 x5)), .val (.int (own_v0_10 x5)), .val (.ref b76), .val (.int (x5 &&& (3 : Int32))), .unset, .unset, .unset, .unset] [(.long (own_v0_7 y3)), (.int ((x5 &&& (3 : Int32)) + (24 : Int32))), (.ref b76)]))
  refine own_go (fun t k => X118.ldc2Long hx hown (mvT hZ (hw _ own_t11)) (g := (mkF m 511 #[.val (.int x0), .val (.int x1), .val (.int x2), .val (.long y3), .second, .val (.int x4), .val (.int x5), .val (.int (own_v0_1 x0)), .val (.int (own_v0_2 x1)), .val (.int (own_v0_3 x1)), .val (.int (own_v0_4 x2)), .val (.int (own_v0_5 x2)), .val (.int (own_v0_6 y3)), .val (.long (own_v0_7 y3)), .second, .val (.int (x4 &&& (63 : Int32))), .val (.int (own_v0_8 x4)), .val (.int (x5 &&& (3 : Int32))), .val (.int (own_v0_9 x5)), .val (.int (own_j0_1 x5)), .val (.int (own_v0_10 x5)), .val (.ref b76), .val (.int (x5 &&& (3 : Int32))), .unset, .unset, .unset, .unset] [(.long (own_v0_7 y3)), (.int ((x5 &&& (3 : Int32)) + (24 : Int32))), (.ref b76)])) rfl (hb hby at_511) t k) ?_
  show own_Goes p e below _ (T118.setTop (mkF m 514 #[.val (.int x0), .val (.int x1), .val (.int x2), .val (.long y3), .second, .val (.int x4), .val (.int x5), .val (.int (own_v0_1 x0)), .val (.int (own_v0_2 x1)), .val (.int (own_v0_3 x1)), .val (.int (own_v0_4 x2)), .val (.int (own_v0_5 x2)), .val (.int (own_v0_6 y3)), .val (.long (own_v0_7 y3)), .second, .val (.int (x4 &&& (63 : Int32))), .val (.int (own_v0_8 x4)), .val (.int (x5 &&& (3 : Int32))), .val (.int (own_v0_9 x5)), .val (.int (own_j0_1 x5)), .val (.int (own_v0_10 x5)), .val (.ref b76), .val (.int (x5 &&& (3 : Int32))), .unset, .unset, .unset, .unset] [(.long (10 : Int64)), (.long (own_v0_7 y3)), (.int ((x5 &&& (3 : Int32)) + (24 : Int32))), (.ref b76)]))
  obtain ⟨_, T119, L119, X119, ⟨rfl, N119q, e119⟩, st119⟩ := own_callS X118 hx hZ hown (hw _ own_t7) (hw _ own_t8) (hw _ own_t9) (hw _ own_t10) (by decide) (as := [(.long (own_v0_7 y3)), (.long (10 : Int64))]) (rm1 l Z a0 hw [] (own_v0_7 y3) (10 : Int64) h118 n0 (by decide)) e118 own_pd2 rfl (pc := 514) (Ls := #[.val (.int x0), .val (.int x1), .val (.int x2), .val (.long y3), .second, .val (.int x4), .val (.int x5), .val (.int (own_v0_1 x0)), .val (.int (own_v0_2 x1)), .val (.int (own_v0_3 x1)), .val (.int (own_v0_4 x2)), .val (.int (own_v0_5 x2)), .val (.int (own_v0_6 y3)), .val (.long (own_v0_7 y3)), .second, .val (.int (x4 &&& (63 : Int32))), .val (.int (own_v0_8 x4)), .val (.int (x5 &&& (3 : Int32))), .val (.int (own_v0_9 x5)), .val (.int (own_j0_1 x5)), .val (.int (own_v0_10 x5)), .val (.ref b76), .val (.int (x5 &&& (3 : Int32))), .unset, .unset, .unset, .unset]) (rest := [(.int ((x5 &&& (3 : Int32)) + (24 : Int32))), (.ref b76)]) (W := 2) (by rw [hml]; rfl) (Nat.le_of_eq rfl) (by decide) (by decide) (hb hby at_514) (by decide) (by decide)
  have N119 := Fr.app N118 N119q
  refine own_go st119 ?_
  show own_Goes p e below _ (T119.setTop (mkF m 517 #[.val (.int x0), .val (.int x1), .val (.int x2), .val (.long y3), .second, .val (.int x4), .val (.int x5), .val (.int (own_v0_1 x0)), .val (.int (own_v0_2 x1)), .val (.int (own_v0_3 x1)), .val (.int (own_v0_4 x2)), .val (.int (own_v0_5 x2)), .val (.int (own_v0_6 y3)), .val (.long (own_v0_7 y3)), .second, .val (.int (x4 &&& (63 : Int32))), .val (.int (own_v0_8 x4)), .val (.int (x5 &&& (3 : Int32))), .val (.int (own_v0_9 x5)), .val (.int (own_j0_1 x5)), .val (.int (own_v0_10 x5)), .val (.ref b76), .val (.int (x5 &&& (3 : Int32))), .unset, .unset, .unset, .unset] [(.int (own_f1 (own_v0_7 y3) (10 : Int64))), (.int ((x5 &&& (3 : Int32)) + (24 : Int32))), (.ref b76)]))
  obtain ⟨cl120, Ar120, sa120, ha120⟩ := id V118
  obtain ⟨T120, h120, X120, e120, W120, st120⟩ := stC X119 hx hZ e119 Ar120 (j := ((x5 &&& (3 : Int32)) + (24 : Int32))) (inb_of sa120 (own_ix x5 24)) (g := (mkF m 517 #[.val (.int x0), .val (.int x1), .val (.int x2), .val (.long y3), .second, .val (.int x4), .val (.int x5), .val (.int (own_v0_1 x0)), .val (.int (own_v0_2 x1)), .val (.int (own_v0_3 x1)), .val (.int (own_v0_4 x2)), .val (.int (own_v0_5 x2)), .val (.int (own_v0_6 y3)), .val (.long (own_v0_7 y3)), .second, .val (.int (x4 &&& (63 : Int32))), .val (.int (own_v0_8 x4)), .val (.int (x5 &&& (3 : Int32))), .val (.int (own_v0_9 x5)), .val (.int (own_j0_1 x5)), .val (.int (own_v0_10 x5)), .val (.ref b76), .val (.int (x5 &&& (3 : Int32))), .unset, .unset, .unset, .unset] [(.int (own_f1 (own_v0_7 y3) (10 : Int64))), (.int ((x5 &&& (3 : Int32)) + (24 : Int32))), (.ref b76)])) rfl rfl (hb hby at_517)
  have V120 : own_Tab Z h120 b76 (32 : Int32) (own_G0_25 x0 x1 x2 y3 x5) := own_Tab.set Ar120 sa120 ha120 W120 (own_ix x5 24)
  have N120 := Fr.snoc X120 N119 g_b76
  refine own_go st120 ?_
  show own_Goes p e below _ (T120.setTop (mkF m 518 #[.val (.int x0), .val (.int x1), .val (.int x2), .val (.long y3), .second, .val (.int x4), .val (.int x5), .val (.int (own_v0_1 x0)), .val (.int (own_v0_2 x1)), .val (.int (own_v0_3 x1)), .val (.int (own_v0_4 x2)), .val (.int (own_v0_5 x2)), .val (.int (own_v0_6 y3)), .val (.long (own_v0_7 y3)), .second, .val (.int (x4 &&& (63 : Int32))), .val (.int (own_v0_8 x4)), .val (.int (x5 &&& (3 : Int32))), .val (.int (own_v0_9 x5)), .val (.int (own_j0_1 x5)), .val (.int (own_v0_10 x5)), .val (.ref b76), .val (.int (x5 &&& (3 : Int32))), .unset, .unset, .unset, .unset] []))
  refine own_go (fun t k => XS.aload X120.here hx rfl (hb hby at_518) rfl rfl k) ?_
  show own_Goes p e below _ (T120.setTop (mkF m 520 #[.val (.int x0), .val (.int x1), .val (.int x2), .val (.long y3), .second, .val (.int x4), .val (.int x5), .val (.int (own_v0_1 x0)), .val (.int (own_v0_2 x1)), .val (.int (own_v0_3 x1)), .val (.int (own_v0_4 x2)), .val (.int (own_v0_5 x2)), .val (.int (own_v0_6 y3)), .val (.long (own_v0_7 y3)), .second, .val (.int (x4 &&& (63 : Int32))), .val (.int (own_v0_8 x4)), .val (.int (x5 &&& (3 : Int32))), .val (.int (own_v0_9 x5)), .val (.int (own_j0_1 x5)), .val (.int (own_v0_10 x5)), .val (.ref b76), .val (.int (x5 &&& (3 : Int32))), .unset, .unset, .unset, .unset] [(.ref b76)]))
  refine own_go (fun t k => XS.iload X120.here hx rfl (hb hby at_520) rfl k) ?_
  show own_Goes p e below _ (T120.setTop (mkF m 522 #[.val (.int x0), .val (.int x1), .val (.int x2), .val (.long y3), .second, .val (.int x4), .val (.int x5), .val (.int (own_v0_1 x0)), .val (.int (own_v0_2 x1)), .val (.int (own_v0_3 x1)), .val (.int (own_v0_4 x2)), .val (.int (own_v0_5 x2)), .val (.int (own_v0_6 y3)), .val (.long (own_v0_7 y3)), .second, .val (.int (x4 &&& (63 : Int32))), .val (.int (own_v0_8 x4)), .val (.int (x5 &&& (3 : Int32))), .val (.int (own_v0_9 x5)), .val (.int (own_j0_1 x5)), .val (.int (own_v0_10 x5)), .val (.ref b76), .val (.int (x5 &&& (3 : Int32))), .unset, .unset, .unset, .unset] [(.int (x5 &&& (3 : Int32))), (.ref b76)]))
  refine own_go (fun t k => XS.bipush X120.here hx rfl (hb hby at_522) k) ?_
  show own_Goes p e below _ (T120.setTop (mkF m 524 #[.val (.int x0), .val (.int x1), .val (.int x2), .val (.long y3), .second, .val (.int x4), .val (.int x5), .val (.int (own_v0_1 x0)), .val (.int (own_v0_2 x1)), .val (.int (own_v0_3 x1)), .val (.int (own_v0_4 x2)), .val (.int (own_v0_5 x2)), .val (.int (own_v0_6 y3)), .val (.long (own_v0_7 y3)), .second, .val (.int (x4 &&& (63 : Int32))), .val (.int (own_v0_8 x4)), .val (.int (x5 &&& (3 : Int32))), .val (.int (own_v0_9 x5)), .val (.int (own_j0_1 x5)), .val (.int (own_v0_10 x5)), .val (.ref b76), .val (.int (x5 &&& (3 : Int32))), .unset, .unset, .unset, .unset] [(.int (25 : Int32)), (.int (x5 &&& (3 : Int32))), (.ref b76)]))
  refine own_go (fun t k => XS.iadd X120.here hx rfl (hb hby at_524) rfl k) ?_
  show own_Goes p e below _ (T120.setTop (mkF m 525 #[.val (.int x0), .val (.int x1), .val (.int x2), .val (.long y3), .second, .val (.int x4), .val (.int x5), .val (.int (own_v0_1 x0)), .val (.int (own_v0_2 x1)), .val (.int (own_v0_3 x1)), .val (.int (own_v0_4 x2)), .val (.int (own_v0_5 x2)), .val (.int (own_v0_6 y3)), .val (.long (own_v0_7 y3)), .second, .val (.int (x4 &&& (63 : Int32))), .val (.int (own_v0_8 x4)), .val (.int (x5 &&& (3 : Int32))), .val (.int (own_v0_9 x5)), .val (.int (own_j0_1 x5)), .val (.int (own_v0_10 x5)), .val (.ref b76), .val (.int (x5 &&& (3 : Int32))), .unset, .unset, .unset, .unset] [(.int ((x5 &&& (3 : Int32)) + (25 : Int32))), (.ref b76)]))
  refine own_go (fun t k => XS.lload X120.here hx rfl (hb hby at_525) rfl k) ?_
  show own_Goes p e below _ (T120.setTop (mkF m 527 #[.val (.int x0), .val (.int x1), .val (.int x2), .val (.long y3), .second, .val (.int x4), .val (.int x5), .val (.int (own_v0_1 x0)), .val (.int (own_v0_2 x1)), .val (.int (own_v0_3 x1)), .val (.int (own_v0_4 x2)), .val (.int (own_v0_5 x2)), .val (.int (own_v0_6 y3)), .val (.long (own_v0_7 y3)), .second, .val (.int (x4 &&& (63 : Int32))), .val (.int (own_v0_8 x4)), .val (.int (x5 &&& (3 : Int32))), .val (.int (own_v0_9 x5)), .val (.int (own_j0_1 x5)), .val (.int (own_v0_10 x5)), .val (.ref b76), .val (.int (x5 &&& (3 : Int32))), .unset, .unset, .unset, .unset] [(.long (own_v0_7 y3)), (.int ((x5 &&& (3 : Int32)) + (25 : Int32))), (.ref b76)]))
  refine own_go (fun t k => XS.lconst X120.here hx rfl (hb hby at_527) k) ?_
  show own_Goes p e below _ (T120.setTop (mkF m 528 #[.val (.int x0), .val (.int x1), .val (.int x2), .val (.long y3), .second, .val (.int x4), .val (.int x5), .val (.int (own_v0_1 x0)), .val (.int (own_v0_2 x1)), .val (.int (own_v0_3 x1)), .val (.int (own_v0_4 x2)), .val (.int (own_v0_5 x2)), .val (.int (own_v0_6 y3)), .val (.long (own_v0_7 y3)), .second, .val (.int (x4 &&& (63 : Int32))), .val (.int (own_v0_8 x4)), .val (.int (x5 &&& (3 : Int32))), .val (.int (own_v0_9 x5)), .val (.int (own_j0_1 x5)), .val (.int (own_v0_10 x5)), .val (.ref b76), .val (.int (x5 &&& (3 : Int32))), .unset, .unset, .unset, .unset] [(.long (1 : Int64)), (.long (own_v0_7 y3)), (.int ((x5 &&& (3 : Int32)) + (25 : Int32))), (.ref b76)]))
  obtain ⟨_, T121, L121, X121, ⟨rfl, N121q, e121⟩, st121⟩ := own_callS X120 hx hZ hown (hw _ own_t7) (hw _ own_t8) (hw _ own_t9) (hw _ own_t10) (by decide) (as := [(.long (own_v0_7 y3)), (.long (1 : Int64))]) (rm1 l Z a0 hw [] (own_v0_7 y3) (1 : Int64) h120 n0 (by decide)) e120 own_pd2 rfl (pc := 528) (Ls := #[.val (.int x0), .val (.int x1), .val (.int x2), .val (.long y3), .second, .val (.int x4), .val (.int x5), .val (.int (own_v0_1 x0)), .val (.int (own_v0_2 x1)), .val (.int (own_v0_3 x1)), .val (.int (own_v0_4 x2)), .val (.int (own_v0_5 x2)), .val (.int (own_v0_6 y3)), .val (.long (own_v0_7 y3)), .second, .val (.int (x4 &&& (63 : Int32))), .val (.int (own_v0_8 x4)), .val (.int (x5 &&& (3 : Int32))), .val (.int (own_v0_9 x5)), .val (.int (own_j0_1 x5)), .val (.int (own_v0_10 x5)), .val (.ref b76), .val (.int (x5 &&& (3 : Int32))), .unset, .unset, .unset, .unset]) (rest := [(.int ((x5 &&& (3 : Int32)) + (25 : Int32))), (.ref b76)]) (W := 2) (by rw [hml]; rfl) (Nat.le_of_eq rfl) (by decide) (by decide) (hb hby at_528) (by decide) (by decide)
  have N121 := Fr.app N120 N121q
  refine own_go st121 ?_
  show own_Goes p e below _ (T121.setTop (mkF m 531 #[.val (.int x0), .val (.int x1), .val (.int x2), .val (.long y3), .second, .val (.int x4), .val (.int x5), .val (.int (own_v0_1 x0)), .val (.int (own_v0_2 x1)), .val (.int (own_v0_3 x1)), .val (.int (own_v0_4 x2)), .val (.int (own_v0_5 x2)), .val (.int (own_v0_6 y3)), .val (.long (own_v0_7 y3)), .second, .val (.int (x4 &&& (63 : Int32))), .val (.int (own_v0_8 x4)), .val (.int (x5 &&& (3 : Int32))), .val (.int (own_v0_9 x5)), .val (.int (own_j0_1 x5)), .val (.int (own_v0_10 x5)), .val (.ref b76), .val (.int (x5 &&& (3 : Int32))), .unset, .unset, .unset, .unset] [(.int (own_f1 (own_v0_7 y3) (1 : Int64))), (.int ((x5 &&& (3 : Int32)) + (25 : Int32))), (.ref b76)]))
  obtain ⟨cl122, Ar122, sa122, ha122⟩ := id V120
  obtain ⟨T122, h122, X122, e122, W122, st122⟩ := stC X121 hx hZ e121 Ar122 (j := ((x5 &&& (3 : Int32)) + (25 : Int32))) (inb_of sa122 (own_ix x5 25)) (g := (mkF m 531 #[.val (.int x0), .val (.int x1), .val (.int x2), .val (.long y3), .second, .val (.int x4), .val (.int x5), .val (.int (own_v0_1 x0)), .val (.int (own_v0_2 x1)), .val (.int (own_v0_3 x1)), .val (.int (own_v0_4 x2)), .val (.int (own_v0_5 x2)), .val (.int (own_v0_6 y3)), .val (.long (own_v0_7 y3)), .second, .val (.int (x4 &&& (63 : Int32))), .val (.int (own_v0_8 x4)), .val (.int (x5 &&& (3 : Int32))), .val (.int (own_v0_9 x5)), .val (.int (own_j0_1 x5)), .val (.int (own_v0_10 x5)), .val (.ref b76), .val (.int (x5 &&& (3 : Int32))), .unset, .unset, .unset, .unset] [(.int (own_f1 (own_v0_7 y3) (1 : Int64))), (.int ((x5 &&& (3 : Int32)) + (25 : Int32))), (.ref b76)])) rfl rfl (hb hby at_531)
  have V122 : own_Tab Z h122 b76 (32 : Int32) (own_G0_26 x0 x1 x2 y3 x5) := own_Tab.set Ar122 sa122 ha122 W122 (own_ix x5 25)
  have N122 := Fr.snoc X122 N121 g_b76
  refine own_go st122 ?_
  show own_Goes p e below _ (T122.setTop (mkF m 532 #[.val (.int x0), .val (.int x1), .val (.int x2), .val (.long y3), .second, .val (.int x4), .val (.int x5), .val (.int (own_v0_1 x0)), .val (.int (own_v0_2 x1)), .val (.int (own_v0_3 x1)), .val (.int (own_v0_4 x2)), .val (.int (own_v0_5 x2)), .val (.int (own_v0_6 y3)), .val (.long (own_v0_7 y3)), .second, .val (.int (x4 &&& (63 : Int32))), .val (.int (own_v0_8 x4)), .val (.int (x5 &&& (3 : Int32))), .val (.int (own_v0_9 x5)), .val (.int (own_j0_1 x5)), .val (.int (own_v0_10 x5)), .val (.ref b76), .val (.int (x5 &&& (3 : Int32))), .unset, .unset, .unset, .unset] []))
  refine own_go (fun t k => XS.aload X122.here hx rfl (hb hby at_532) rfl rfl k) ?_
  show own_Goes p e below _ (T122.setTop (mkF m 534 #[.val (.int x0), .val (.int x1), .val (.int x2), .val (.long y3), .second, .val (.int x4), .val (.int x5), .val (.int (own_v0_1 x0)), .val (.int (own_v0_2 x1)), .val (.int (own_v0_3 x1)), .val (.int (own_v0_4 x2)), .val (.int (own_v0_5 x2)), .val (.int (own_v0_6 y3)), .val (.long (own_v0_7 y3)), .second, .val (.int (x4 &&& (63 : Int32))), .val (.int (own_v0_8 x4)), .val (.int (x5 &&& (3 : Int32))), .val (.int (own_v0_9 x5)), .val (.int (own_j0_1 x5)), .val (.int (own_v0_10 x5)), .val (.ref b76), .val (.int (x5 &&& (3 : Int32))), .unset, .unset, .unset, .unset] [(.ref b76)]))
  refine own_go (fun t k => XS.iload X122.here hx rfl (hb hby at_534) rfl k) ?_
  show own_Goes p e below _ (T122.setTop (mkF m 536 #[.val (.int x0), .val (.int x1), .val (.int x2), .val (.long y3), .second, .val (.int x4), .val (.int x5), .val (.int (own_v0_1 x0)), .val (.int (own_v0_2 x1)), .val (.int (own_v0_3 x1)), .val (.int (own_v0_4 x2)), .val (.int (own_v0_5 x2)), .val (.int (own_v0_6 y3)), .val (.long (own_v0_7 y3)), .second, .val (.int (x4 &&& (63 : Int32))), .val (.int (own_v0_8 x4)), .val (.int (x5 &&& (3 : Int32))), .val (.int (own_v0_9 x5)), .val (.int (own_j0_1 x5)), .val (.int (own_v0_10 x5)), .val (.ref b76), .val (.int (x5 &&& (3 : Int32))), .unset, .unset, .unset, .unset] [(.int (x5 &&& (3 : Int32))), (.ref b76)]))
  refine own_go (fun t k => XS.bipush X122.here hx rfl (hb hby at_536) k) ?_
  show own_Goes p e below _ (T122.setTop (mkF m 538 #[.val (.int x0), .val (.int x1), .val (.int x2), .val (.long y3), .second, .val (.int x4), .val (.int x5), .val (.int (own_v0_1 x0)), .val (.int (own_v0_2 x1)), .val (.int (own_v0_3 x1)), .val (.int (own_v0_4 x2)), .val (.int (own_v0_5 x2)), .val (.int (own_v0_6 y3)), .val (.long (own_v0_7 y3)), .second, .val (.int (x4 &&& (63 : Int32))), .val (.int (own_v0_8 x4)), .val (.int (x5 &&& (3 : Int32))), .val (.int (own_v0_9 x5)), .val (.int (own_j0_1 x5)), .val (.int (own_v0_10 x5)), .val (.ref b76), .val (.int (x5 &&& (3 : Int32))), .unset, .unset, .unset, .unset] [(.int (26 : Int32)), (.int (x5 &&& (3 : Int32))), (.ref b76)]))
  refine own_go (fun t k => XS.iadd X122.here hx rfl (hb hby at_538) rfl k) ?_
  show own_Goes p e below _ (T122.setTop (mkF m 539 #[.val (.int x0), .val (.int x1), .val (.int x2), .val (.long y3), .second, .val (.int x4), .val (.int x5), .val (.int (own_v0_1 x0)), .val (.int (own_v0_2 x1)), .val (.int (own_v0_3 x1)), .val (.int (own_v0_4 x2)), .val (.int (own_v0_5 x2)), .val (.int (own_v0_6 y3)), .val (.long (own_v0_7 y3)), .second, .val (.int (x4 &&& (63 : Int32))), .val (.int (own_v0_8 x4)), .val (.int (x5 &&& (3 : Int32))), .val (.int (own_v0_9 x5)), .val (.int (own_j0_1 x5)), .val (.int (own_v0_10 x5)), .val (.ref b76), .val (.int (x5 &&& (3 : Int32))), .unset, .unset, .unset, .unset] [(.int ((x5 &&& (3 : Int32)) + (26 : Int32))), (.ref b76)]))
  refine own_go (fun t k => XS.bipush X122.here hx rfl (hb hby at_539) k) ?_
  show own_Goes p e below _ (T122.setTop (mkF m 541 #[.val (.int x0), .val (.int x1), .val (.int x2), .val (.long y3), .second, .val (.int x4), .val (.int x5), .val (.int (own_v0_1 x0)), .val (.int (own_v0_2 x1)), .val (.int (own_v0_3 x1)), .val (.int (own_v0_4 x2)), .val (.int (own_v0_5 x2)), .val (.int (own_v0_6 y3)), .val (.long (own_v0_7 y3)), .second, .val (.int (x4 &&& (63 : Int32))), .val (.int (own_v0_8 x4)), .val (.int (x5 &&& (3 : Int32))), .val (.int (own_v0_9 x5)), .val (.int (own_j0_1 x5)), .val (.int (own_v0_10 x5)), .val (.ref b76), .val (.int (x5 &&& (3 : Int32))), .unset, .unset, .unset, .unset] [(.int (90 : Int32)), (.int ((x5 &&& (3 : Int32)) + (26 : Int32))), (.ref b76)]))
  obtain ⟨cl123, Ar123, sa123, ha123⟩ := id V122
  obtain ⟨T123, h123, X123, e123, W123, st123⟩ := stC X122 hx hZ e122 Ar123 (j := ((x5 &&& (3 : Int32)) + (26 : Int32))) (inb_of sa123 (own_ix x5 26)) (g := (mkF m 541 #[.val (.int x0), .val (.int x1), .val (.int x2), .val (.long y3), .second, .val (.int x4), .val (.int x5), .val (.int (own_v0_1 x0)), .val (.int (own_v0_2 x1)), .val (.int (own_v0_3 x1)), .val (.int (own_v0_4 x2)), .val (.int (own_v0_5 x2)), .val (.int (own_v0_6 y3)), .val (.long (own_v0_7 y3)), .second, .val (.int (x4 &&& (63 : Int32))), .val (.int (own_v0_8 x4)), .val (.int (x5 &&& (3 : Int32))), .val (.int (own_v0_9 x5)), .val (.int (own_j0_1 x5)), .val (.int (own_v0_10 x5)), .val (.ref b76), .val (.int (x5 &&& (3 : Int32))), .unset, .unset, .unset, .unset] [(.int (90 : Int32)), (.int ((x5 &&& (3 : Int32)) + (26 : Int32))), (.ref b76)])) rfl rfl (hb hby at_541)
  have V123 : own_Tab Z h123 b76 (32 : Int32) (own_G0_27 x0 x1 x2 y3 x5) := own_Tab.set Ar123 sa123 ha123 W123 (own_ix x5 26)
  have N123 := Fr.snoc X123 N122 g_b76
  refine own_go st123 ?_
  show own_Goes p e below _ (T123.setTop (mkF m 542 #[.val (.int x0), .val (.int x1), .val (.int x2), .val (.long y3), .second, .val (.int x4), .val (.int x5), .val (.int (own_v0_1 x0)), .val (.int (own_v0_2 x1)), .val (.int (own_v0_3 x1)), .val (.int (own_v0_4 x2)), .val (.int (own_v0_5 x2)), .val (.int (own_v0_6 y3)), .val (.long (own_v0_7 y3)), .second, .val (.int (x4 &&& (63 : Int32))), .val (.int (own_v0_8 x4)), .val (.int (x5 &&& (3 : Int32))), .val (.int (own_v0_9 x5)), .val (.int (own_j0_1 x5)), .val (.int (own_v0_10 x5)), .val (.ref b76), .val (.int (x5 &&& (3 : Int32))), .unset, .unset, .unset, .unset] []))
  refine own_go (fun t k => XS.iconst X123.here hx rfl (hb hby at_542) k) ?_
  show own_Goes p e below _ (T123.setTop (mkF m 543 #[.val (.int x0), .val (.int x1), .val (.int x2), .val (.long y3), .second, .val (.int x4), .val (.int x5), .val (.int (own_v0_1 x0)), .val (.int (own_v0_2 x1)), .val (.int (own_v0_3 x1)), .val (.int (own_v0_4 x2)), .val (.int (own_v0_5 x2)), .val (.int (own_v0_6 y3)), .val (.long (own_v0_7 y3)), .second, .val (.int (x4 &&& (63 : Int32))), .val (.int (own_v0_8 x4)), .val (.int (x5 &&& (3 : Int32))), .val (.int (own_v0_9 x5)), .val (.int (own_j0_1 x5)), .val (.int (own_v0_10 x5)), .val (.ref b76), .val (.int (x5 &&& (3 : Int32))), .unset, .unset, .unset, .unset] [(.int (0 : Int32))]))
  refine own_go (fun t k => XS.istore X123.here hx rfl (hb hby at_543) rfl (l' := #[.val (.int x0), .val (.int x1), .val (.int x2), .val (.long y3), .second, .val (.int x4), .val (.int x5), .val (.int (own_v0_1 x0)), .val (.int (own_v0_2 x1)), .val (.int (own_v0_3 x1)), .val (.int (own_v0_4 x2)), .val (.int (own_v0_5 x2)), .val (.int (own_v0_6 y3)), .val (.long (own_v0_7 y3)), .second, .val (.int (x4 &&& (63 : Int32))), .val (.int (own_v0_8 x4)), .val (.int (x5 &&& (3 : Int32))), .val (.int (own_v0_9 x5)), .val (.int (own_j0_1 x5)), .val (.int (own_v0_10 x5)), .val (.ref b76), .val (.int (x5 &&& (3 : Int32))), .val (.int (0 : Int32)), .unset, .unset, .unset]) rfl k) ?_
  show own_Goes p e below _ (T123.setTop (mkF m 545 #[.val (.int x0), .val (.int x1), .val (.int x2), .val (.long y3), .second, .val (.int x4), .val (.int x5), .val (.int (own_v0_1 x0)), .val (.int (own_v0_2 x1)), .val (.int (own_v0_3 x1)), .val (.int (own_v0_4 x2)), .val (.int (own_v0_5 x2)), .val (.int (own_v0_6 y3)), .val (.long (own_v0_7 y3)), .second, .val (.int (x4 &&& (63 : Int32))), .val (.int (own_v0_8 x4)), .val (.int (x5 &&& (3 : Int32))), .val (.int (own_v0_9 x5)), .val (.int (own_j0_1 x5)), .val (.int (own_v0_10 x5)), .val (.ref b76), .val (.int (x5 &&& (3 : Int32))), .val (.int (0 : Int32)), .unset, .unset, .unset] []))
  refine own_go (fun t k => XS.iconst X123.here hx rfl (hb hby at_545) k) ?_
  show own_Goes p e below _ (T123.setTop (mkF m 546 #[.val (.int x0), .val (.int x1), .val (.int x2), .val (.long y3), .second, .val (.int x4), .val (.int x5), .val (.int (own_v0_1 x0)), .val (.int (own_v0_2 x1)), .val (.int (own_v0_3 x1)), .val (.int (own_v0_4 x2)), .val (.int (own_v0_5 x2)), .val (.int (own_v0_6 y3)), .val (.long (own_v0_7 y3)), .second, .val (.int (x4 &&& (63 : Int32))), .val (.int (own_v0_8 x4)), .val (.int (x5 &&& (3 : Int32))), .val (.int (own_v0_9 x5)), .val (.int (own_j0_1 x5)), .val (.int (own_v0_10 x5)), .val (.ref b76), .val (.int (x5 &&& (3 : Int32))), .val (.int (0 : Int32)), .unset, .unset, .unset] [(.int (1 : Int32))]))
  refine own_go (fun t k => XS.istore X123.here hx rfl (hb hby at_546) rfl (l' := #[.val (.int x0), .val (.int x1), .val (.int x2), .val (.long y3), .second, .val (.int x4), .val (.int x5), .val (.int (own_v0_1 x0)), .val (.int (own_v0_2 x1)), .val (.int (own_v0_3 x1)), .val (.int (own_v0_4 x2)), .val (.int (own_v0_5 x2)), .val (.int (own_v0_6 y3)), .val (.long (own_v0_7 y3)), .second, .val (.int (x4 &&& (63 : Int32))), .val (.int (own_v0_8 x4)), .val (.int (x5 &&& (3 : Int32))), .val (.int (own_v0_9 x5)), .val (.int (own_j0_1 x5)), .val (.int (own_v0_10 x5)), .val (.ref b76), .val (.int (x5 &&& (3 : Int32))), .val (.int (0 : Int32)), .val (.int (1 : Int32)), .unset, .unset]) rfl k) ?_
  show own_Goes p e below _ (T123.setTop (mkF m 548 #[.val (.int x0), .val (.int x1), .val (.int x2), .val (.long y3), .second, .val (.int x4), .val (.int x5), .val (.int (own_v0_1 x0)), .val (.int (own_v0_2 x1)), .val (.int (own_v0_3 x1)), .val (.int (own_v0_4 x2)), .val (.int (own_v0_5 x2)), .val (.int (own_v0_6 y3)), .val (.long (own_v0_7 y3)), .second, .val (.int (x4 &&& (63 : Int32))), .val (.int (own_v0_8 x4)), .val (.int (x5 &&& (3 : Int32))), .val (.int (own_v0_9 x5)), .val (.int (own_j0_1 x5)), .val (.int (own_v0_10 x5)), .val (.ref b76), .val (.int (x5 &&& (3 : Int32))), .val (.int (0 : Int32)), .val (.int (1 : Int32)), .unset, .unset] []))
  refine own_go (fun t k => XS.iload X123.here hx rfl (hb hby at_548) rfl k) ?_
  show own_Goes p e below _ (T123.setTop (mkF m 550 #[.val (.int x0), .val (.int x1), .val (.int x2), .val (.long y3), .second, .val (.int x4), .val (.int x5), .val (.int (own_v0_1 x0)), .val (.int (own_v0_2 x1)), .val (.int (own_v0_3 x1)), .val (.int (own_v0_4 x2)), .val (.int (own_v0_5 x2)), .val (.int (own_v0_6 y3)), .val (.long (own_v0_7 y3)), .second, .val (.int (x4 &&& (63 : Int32))), .val (.int (own_v0_8 x4)), .val (.int (x5 &&& (3 : Int32))), .val (.int (own_v0_9 x5)), .val (.int (own_j0_1 x5)), .val (.int (own_v0_10 x5)), .val (.ref b76), .val (.int (x5 &&& (3 : Int32))), .val (.int (0 : Int32)), .val (.int (1 : Int32)), .unset, .unset] [(.int (x4 &&& (63 : Int32)))]))
  refine own_go (fun t k => XS.bipush X123.here hx rfl (hb hby at_550) k) ?_
  show own_Goes p e below _ (T123.setTop (mkF m 552 #[.val (.int x0), .val (.int x1), .val (.int x2), .val (.long y3), .second, .val (.int x4), .val (.int x5), .val (.int (own_v0_1 x0)), .val (.int (own_v0_2 x1)), .val (.int (own_v0_3 x1)), .val (.int (own_v0_4 x2)), .val (.int (own_v0_5 x2)), .val (.int (own_v0_6 y3)), .val (.long (own_v0_7 y3)), .second, .val (.int (x4 &&& (63 : Int32))), .val (.int (own_v0_8 x4)), .val (.int (x5 &&& (3 : Int32))), .val (.int (own_v0_9 x5)), .val (.int (own_j0_1 x5)), .val (.int (own_v0_10 x5)), .val (.ref b76), .val (.int (x5 &&& (3 : Int32))), .val (.int (0 : Int32)), .val (.int (1 : Int32)), .unset, .unset] [(.int (27 : Int32)), (.int (x4 &&& (63 : Int32)))]))
  by_cases hc124 : (x4 &&& (63 : Int32)) < (27 : Int32)
  · refine own_go (fun t k => XS.icmpNo X123.here hx rfl (hb hby at_552) rfl (tlt hc124).2.1 k) ?_
    show own_Goes p e below _ (T123.setTop (mkF m 555 #[.val (.int x0), .val (.int x1), .val (.int x2), .val (.long y3), .second, .val (.int x4), .val (.int x5), .val (.int (own_v0_1 x0)), .val (.int (own_v0_2 x1)), .val (.int (own_v0_3 x1)), .val (.int (own_v0_4 x2)), .val (.int (own_v0_5 x2)), .val (.int (own_v0_6 y3)), .val (.long (own_v0_7 y3)), .second, .val (.int (x4 &&& (63 : Int32))), .val (.int (own_v0_8 x4)), .val (.int (x5 &&& (3 : Int32))), .val (.int (own_v0_9 x5)), .val (.int (own_j0_1 x5)), .val (.int (own_v0_10 x5)), .val (.ref b76), .val (.int (x5 &&& (3 : Int32))), .val (.int (0 : Int32)), .val (.int (1 : Int32)), .unset, .unset] []))
    refine own_go (fun t k => XS.iload X123.here hx rfl (hb hby at_555) rfl k) ?_
    show own_Goes p e below _ (T123.setTop (mkF m 557 #[.val (.int x0), .val (.int x1), .val (.int x2), .val (.long y3), .second, .val (.int x4), .val (.int x5), .val (.int (own_v0_1 x0)), .val (.int (own_v0_2 x1)), .val (.int (own_v0_3 x1)), .val (.int (own_v0_4 x2)), .val (.int (own_v0_5 x2)), .val (.int (own_v0_6 y3)), .val (.long (own_v0_7 y3)), .second, .val (.int (x4 &&& (63 : Int32))), .val (.int (own_v0_8 x4)), .val (.int (x5 &&& (3 : Int32))), .val (.int (own_v0_9 x5)), .val (.int (own_j0_1 x5)), .val (.int (own_v0_10 x5)), .val (.ref b76), .val (.int (x5 &&& (3 : Int32))), .val (.int (0 : Int32)), .val (.int (1 : Int32)), .unset, .unset] [(.int (x4 &&& (63 : Int32)))]))
    obtain ⟨_, T125, L125, X125, ⟨rfl, N125q, e125⟩, st125⟩ := own_callS X123 hx hZ hown (hw _ own_t14) (hw _ own_t15) (hw _ own_t9) (hw _ own_t16) (by decide) (as := [(.int (x4 &&& (63 : Int32)))]) (rm2 l Z a0 hw [] (x4 &&& (63 : Int32)) h123 n0) e123 own_pd3 rfl (pc := 557) (Ls := #[.val (.int x0), .val (.int x1), .val (.int x2), .val (.long y3), .second, .val (.int x4), .val (.int x5), .val (.int (own_v0_1 x0)), .val (.int (own_v0_2 x1)), .val (.int (own_v0_3 x1)), .val (.int (own_v0_4 x2)), .val (.int (own_v0_5 x2)), .val (.int (own_v0_6 y3)), .val (.long (own_v0_7 y3)), .second, .val (.int (x4 &&& (63 : Int32))), .val (.int (own_v0_8 x4)), .val (.int (x5 &&& (3 : Int32))), .val (.int (own_v0_9 x5)), .val (.int (own_j0_1 x5)), .val (.int (own_v0_10 x5)), .val (.ref b76), .val (.int (x5 &&& (3 : Int32))), .val (.int (0 : Int32)), .val (.int (1 : Int32)), .unset, .unset]) (rest := []) (W := 0) (by rw [hml]; rfl) (Nat.le_of_eq rfl) (by decide) (by decide) (hb hby at_557) (by decide) (by decide)
    have N125 := Fr.app N123 N125q
    refine own_go st125 ?_
    show own_Goes p e below _ (T125.setTop (mkF m 560 #[.val (.int x0), .val (.int x1), .val (.int x2), .val (.long y3), .second, .val (.int x4), .val (.int x5), .val (.int (own_v0_1 x0)), .val (.int (own_v0_2 x1)), .val (.int (own_v0_3 x1)), .val (.int (own_v0_4 x2)), .val (.int (own_v0_5 x2)), .val (.int (own_v0_6 y3)), .val (.long (own_v0_7 y3)), .second, .val (.int (x4 &&& (63 : Int32))), .val (.int (own_v0_8 x4)), .val (.int (x5 &&& (3 : Int32))), .val (.int (own_v0_9 x5)), .val (.int (own_j0_1 x5)), .val (.int (own_v0_10 x5)), .val (.ref b76), .val (.int (x5 &&& (3 : Int32))), .val (.int (0 : Int32)), .val (.int (1 : Int32)), .unset, .unset] [(.int (own_f2 (x4 &&& (63 : Int32))))]))
    refine own_go (fun t k => XS.istore X125.here hx rfl (hb hby at_560) rfl (l' := #[.val (.int x0), .val (.int x1), .val (.int x2), .val (.long y3), .second, .val (.int x4), .val (.int x5), .val (.int (own_v0_1 x0)), .val (.int (own_v0_2 x1)), .val (.int (own_v0_3 x1)), .val (.int (own_v0_4 x2)), .val (.int (own_v0_5 x2)), .val (.int (own_v0_6 y3)), .val (.long (own_v0_7 y3)), .second, .val (.int (x4 &&& (63 : Int32))), .val (.int (own_v0_8 x4)), .val (.int (x5 &&& (3 : Int32))), .val (.int (own_v0_9 x5)), .val (.int (own_j0_1 x5)), .val (.int (own_v0_10 x5)), .val (.ref b76), .val (.int (x5 &&& (3 : Int32))), .val (.int (0 : Int32)), .val (.int (1 : Int32)), .val (.int (own_f2 (x4 &&& (63 : Int32)))), .unset]) rfl k) ?_
    show own_Goes p e below _ (T125.setTop (mkF m 562 #[.val (.int x0), .val (.int x1), .val (.int x2), .val (.long y3), .second, .val (.int x4), .val (.int x5), .val (.int (own_v0_1 x0)), .val (.int (own_v0_2 x1)), .val (.int (own_v0_3 x1)), .val (.int (own_v0_4 x2)), .val (.int (own_v0_5 x2)), .val (.int (own_v0_6 y3)), .val (.long (own_v0_7 y3)), .second, .val (.int (x4 &&& (63 : Int32))), .val (.int (own_v0_8 x4)), .val (.int (x5 &&& (3 : Int32))), .val (.int (own_v0_9 x5)), .val (.int (own_j0_1 x5)), .val (.int (own_v0_10 x5)), .val (.ref b76), .val (.int (x5 &&& (3 : Int32))), .val (.int (0 : Int32)), .val (.int (1 : Int32)), .val (.int (own_f2 (x4 &&& (63 : Int32)))), .unset] []))
    refine own_go (fun t k => XS.iload X125.here hx rfl (hb hby at_562) rfl k) ?_
    show own_Goes p e below _ (T125.setTop (mkF m 564 #[.val (.int x0), .val (.int x1), .val (.int x2), .val (.long y3), .second, .val (.int x4), .val (.int x5), .val (.int (own_v0_1 x0)), .val (.int (own_v0_2 x1)), .val (.int (own_v0_3 x1)), .val (.int (own_v0_4 x2)), .val (.int (own_v0_5 x2)), .val (.int (own_v0_6 y3)), .val (.long (own_v0_7 y3)), .second, .val (.int (x4 &&& (63 : Int32))), .val (.int (own_v0_8 x4)), .val (.int (x5 &&& (3 : Int32))), .val (.int (own_v0_9 x5)), .val (.int (own_j0_1 x5)), .val (.int (own_v0_10 x5)), .val (.ref b76), .val (.int (x5 &&& (3 : Int32))), .val (.int (0 : Int32)), .val (.int (1 : Int32)), .val (.int (own_f2 (x4 &&& (63 : Int32)))), .unset] [(.int (own_v0_8 x4))]))
    refine own_go (fun t k => XS.bipush X125.here hx rfl (hb hby at_564) k) ?_
    show own_Goes p e below _ (T125.setTop (mkF m 566 #[.val (.int x0), .val (.int x1), .val (.int x2), .val (.long y3), .second, .val (.int x4), .val (.int x5), .val (.int (own_v0_1 x0)), .val (.int (own_v0_2 x1)), .val (.int (own_v0_3 x1)), .val (.int (own_v0_4 x2)), .val (.int (own_v0_5 x2)), .val (.int (own_v0_6 y3)), .val (.long (own_v0_7 y3)), .second, .val (.int (x4 &&& (63 : Int32))), .val (.int (own_v0_8 x4)), .val (.int (x5 &&& (3 : Int32))), .val (.int (own_v0_9 x5)), .val (.int (own_j0_1 x5)), .val (.int (own_v0_10 x5)), .val (.ref b76), .val (.int (x5 &&& (3 : Int32))), .val (.int (0 : Int32)), .val (.int (1 : Int32)), .val (.int (own_f2 (x4 &&& (63 : Int32)))), .unset] [(.int (48 : Int32)), (.int (own_v0_8 x4))]))
    suffices HH128 : own_Goes p e below (own_End s room_1 (own_Q0 x0 x1 x2 y3 x4 x5 s_F h0 n0)) (T125.setTop (mkF m 581 #[.val (.int x0), .val (.int x1), .val (.int x2), .val (.long y3), .second, .val (.int x4), .val (.int x5), .val (.int (own_v0_1 x0)), .val (.int (own_v0_2 x1)), .val (.int (own_v0_3 x1)), .val (.int (own_v0_4 x2)), .val (.int (own_v0_5 x2)), .val (.int (own_v0_6 y3)), .val (.long (own_v0_7 y3)), .second, .val (.int (x4 &&& (63 : Int32))), .val (.int (own_v0_8 x4)), .val (.int (x5 &&& (3 : Int32))), .val (.int (own_v0_9 x5)), .val (.int (own_j0_1 x5)), .val (.int (own_v0_10 x5)), .val (.ref b76), .val (.int (x5 &&& (3 : Int32))), .val (.int (0 : Int32)), .val (.int (1 : Int32)), .val (.int (own_f2 (x4 &&& (63 : Int32)))), .unset] [(.int (own_j0_2 x4))])) by
      by_cases hc126 : (own_v0_8 x4) < (48 : Int32)
      · refine own_go (fun t k => XS.icmpYes X125.here hx rfl (pc0 := 566) (pc' := 580) rfl (hb hby at_566) rfl (tlt hc126).1 (by decide) (by decide) k) ?_
        show own_Goes p e below _ (T125.setTop (mkF m 580 #[.val (.int x0), .val (.int x1), .val (.int x2), .val (.long y3), .second, .val (.int x4), .val (.int x5), .val (.int (own_v0_1 x0)), .val (.int (own_v0_2 x1)), .val (.int (own_v0_3 x1)), .val (.int (own_v0_4 x2)), .val (.int (own_v0_5 x2)), .val (.int (own_v0_6 y3)), .val (.long (own_v0_7 y3)), .second, .val (.int (x4 &&& (63 : Int32))), .val (.int (own_v0_8 x4)), .val (.int (x5 &&& (3 : Int32))), .val (.int (own_v0_9 x5)), .val (.int (own_j0_1 x5)), .val (.int (own_v0_10 x5)), .val (.ref b76), .val (.int (x5 &&& (3 : Int32))), .val (.int (0 : Int32)), .val (.int (1 : Int32)), .val (.int (own_f2 (x4 &&& (63 : Int32)))), .unset] []))
        refine own_go (fun t k => XS.iconst X125.here hx rfl (hb hby at_580) k) ?_
        rw [show (own_j0_2 x4) = (0 : Int32) from by rw [own_j0_2, if_pos hc126]] at HH128
        exact HH128
      · refine own_go (fun t k => XS.icmpNo X125.here hx rfl (hb hby at_566) rfl (flt hc126).1 k) ?_
        show own_Goes p e below _ (T125.setTop (mkF m 569 #[.val (.int x0), .val (.int x1), .val (.int x2), .val (.long y3), .second, .val (.int x4), .val (.int x5), .val (.int (own_v0_1 x0)), .val (.int (own_v0_2 x1)), .val (.int (own_v0_3 x1)), .val (.int (own_v0_4 x2)), .val (.int (own_v0_5 x2)), .val (.int (own_v0_6 y3)), .val (.long (own_v0_7 y3)), .second, .val (.int (x4 &&& (63 : Int32))), .val (.int (own_v0_8 x4)), .val (.int (x5 &&& (3 : Int32))), .val (.int (own_v0_9 x5)), .val (.int (own_j0_1 x5)), .val (.int (own_v0_10 x5)), .val (.ref b76), .val (.int (x5 &&& (3 : Int32))), .val (.int (0 : Int32)), .val (.int (1 : Int32)), .val (.int (own_f2 (x4 &&& (63 : Int32)))), .unset] []))
        refine own_go (fun t k => XS.iload X125.here hx rfl (hb hby at_569) rfl k) ?_
        show own_Goes p e below _ (T125.setTop (mkF m 571 #[.val (.int x0), .val (.int x1), .val (.int x2), .val (.long y3), .second, .val (.int x4), .val (.int x5), .val (.int (own_v0_1 x0)), .val (.int (own_v0_2 x1)), .val (.int (own_v0_3 x1)), .val (.int (own_v0_4 x2)), .val (.int (own_v0_5 x2)), .val (.int (own_v0_6 y3)), .val (.long (own_v0_7 y3)), .second, .val (.int (x4 &&& (63 : Int32))), .val (.int (own_v0_8 x4)), .val (.int (x5 &&& (3 : Int32))), .val (.int (own_v0_9 x5)), .val (.int (own_j0_1 x5)), .val (.int (own_v0_10 x5)), .val (.ref b76), .val (.int (x5 &&& (3 : Int32))), .val (.int (0 : Int32)), .val (.int (1 : Int32)), .val (.int (own_f2 (x4 &&& (63 : Int32)))), .unset] [(.int (own_v0_8 x4))]))
        refine own_go (fun t k => XS.bipush X125.here hx rfl (hb hby at_571) k) ?_
        show own_Goes p e below _ (T125.setTop (mkF m 573 #[.val (.int x0), .val (.int x1), .val (.int x2), .val (.long y3), .second, .val (.int x4), .val (.int x5), .val (.int (own_v0_1 x0)), .val (.int (own_v0_2 x1)), .val (.int (own_v0_3 x1)), .val (.int (own_v0_4 x2)), .val (.int (own_v0_5 x2)), .val (.int (own_v0_6 y3)), .val (.long (own_v0_7 y3)), .second, .val (.int (x4 &&& (63 : Int32))), .val (.int (own_v0_8 x4)), .val (.int (x5 &&& (3 : Int32))), .val (.int (own_v0_9 x5)), .val (.int (own_j0_1 x5)), .val (.int (own_v0_10 x5)), .val (.ref b76), .val (.int (x5 &&& (3 : Int32))), .val (.int (0 : Int32)), .val (.int (1 : Int32)), .val (.int (own_f2 (x4 &&& (63 : Int32)))), .unset] [(.int (57 : Int32)), (.int (own_v0_8 x4))]))
        by_cases hc127 : (57 : Int32) < (own_v0_8 x4)
        · refine own_go (fun t k => XS.icmpYes X125.here hx rfl (pc0 := 573) (pc' := 580) rfl (hb hby at_573) rfl (tlt hc127).2.2.1 (by decide) (by decide) k) ?_
          show own_Goes p e below _ (T125.setTop (mkF m 580 #[.val (.int x0), .val (.int x1), .val (.int x2), .val (.long y3), .second, .val (.int x4), .val (.int x5), .val (.int (own_v0_1 x0)), .val (.int (own_v0_2 x1)), .val (.int (own_v0_3 x1)), .val (.int (own_v0_4 x2)), .val (.int (own_v0_5 x2)), .val (.int (own_v0_6 y3)), .val (.long (own_v0_7 y3)), .second, .val (.int (x4 &&& (63 : Int32))), .val (.int (own_v0_8 x4)), .val (.int (x5 &&& (3 : Int32))), .val (.int (own_v0_9 x5)), .val (.int (own_j0_1 x5)), .val (.int (own_v0_10 x5)), .val (.ref b76), .val (.int (x5 &&& (3 : Int32))), .val (.int (0 : Int32)), .val (.int (1 : Int32)), .val (.int (own_f2 (x4 &&& (63 : Int32)))), .unset] []))
          refine own_go (fun t k => XS.iconst X125.here hx rfl (hb hby at_580) k) ?_
          rw [show (own_j0_2 x4) = (0 : Int32) from by rw [own_j0_2, if_neg hc126, if_pos hc127]] at HH128
          exact HH128
        · refine own_go (fun t k => XS.icmpNo X125.here hx rfl (hb hby at_573) rfl (flt hc127).2.2.1 k) ?_
          show own_Goes p e below _ (T125.setTop (mkF m 576 #[.val (.int x0), .val (.int x1), .val (.int x2), .val (.long y3), .second, .val (.int x4), .val (.int x5), .val (.int (own_v0_1 x0)), .val (.int (own_v0_2 x1)), .val (.int (own_v0_3 x1)), .val (.int (own_v0_4 x2)), .val (.int (own_v0_5 x2)), .val (.int (own_v0_6 y3)), .val (.long (own_v0_7 y3)), .second, .val (.int (x4 &&& (63 : Int32))), .val (.int (own_v0_8 x4)), .val (.int (x5 &&& (3 : Int32))), .val (.int (own_v0_9 x5)), .val (.int (own_j0_1 x5)), .val (.int (own_v0_10 x5)), .val (.ref b76), .val (.int (x5 &&& (3 : Int32))), .val (.int (0 : Int32)), .val (.int (1 : Int32)), .val (.int (own_f2 (x4 &&& (63 : Int32)))), .unset] []))
          refine own_go (fun t k => XS.iconst X125.here hx rfl (hb hby at_576) k) ?_
          show own_Goes p e below _ (T125.setTop (mkF m 577 #[.val (.int x0), .val (.int x1), .val (.int x2), .val (.long y3), .second, .val (.int x4), .val (.int x5), .val (.int (own_v0_1 x0)), .val (.int (own_v0_2 x1)), .val (.int (own_v0_3 x1)), .val (.int (own_v0_4 x2)), .val (.int (own_v0_5 x2)), .val (.int (own_v0_6 y3)), .val (.long (own_v0_7 y3)), .second, .val (.int (x4 &&& (63 : Int32))), .val (.int (own_v0_8 x4)), .val (.int (x5 &&& (3 : Int32))), .val (.int (own_v0_9 x5)), .val (.int (own_j0_1 x5)), .val (.int (own_v0_10 x5)), .val (.ref b76), .val (.int (x5 &&& (3 : Int32))), .val (.int (0 : Int32)), .val (.int (1 : Int32)), .val (.int (own_f2 (x4 &&& (63 : Int32)))), .unset] [(.int (1 : Int32))]))
          refine own_go (fun t k => XS.goto X125.here hx rfl (pc0 := 577) (pc' := 581) rfl (hb hby at_577) (by decide) (by decide) k) ?_
          rw [show (own_j0_2 x4) = (1 : Int32) from by rw [own_j0_2, if_neg hc126, if_neg hc127]] at HH128
          exact HH128
    show own_Goes p e below _ (T125.setTop (mkF m 581 #[.val (.int x0), .val (.int x1), .val (.int x2), .val (.long y3), .second, .val (.int x4), .val (.int x5), .val (.int (own_v0_1 x0)), .val (.int (own_v0_2 x1)), .val (.int (own_v0_3 x1)), .val (.int (own_v0_4 x2)), .val (.int (own_v0_5 x2)), .val (.int (own_v0_6 y3)), .val (.long (own_v0_7 y3)), .second, .val (.int (x4 &&& (63 : Int32))), .val (.int (own_v0_8 x4)), .val (.int (x5 &&& (3 : Int32))), .val (.int (own_v0_9 x5)), .val (.int (own_j0_1 x5)), .val (.int (own_v0_10 x5)), .val (.ref b76), .val (.int (x5 &&& (3 : Int32))), .val (.int (0 : Int32)), .val (.int (1 : Int32)), .val (.int (own_f2 (x4 &&& (63 : Int32)))), .unset] [(.int (own_j0_2 x4))]))
    refine own_go (fun t k => XS.istore X125.here hx rfl (hb hby at_581) rfl (l' := #[.val (.int x0), .val (.int x1), .val (.int x2), .val (.long y3), .second, .val (.int x4), .val (.int x5), .val (.int (own_v0_1 x0)), .val (.int (own_v0_2 x1)), .val (.int (own_v0_3 x1)), .val (.int (own_v0_4 x2)), .val (.int (own_v0_5 x2)), .val (.int (own_v0_6 y3)), .val (.long (own_v0_7 y3)), .second, .val (.int (x4 &&& (63 : Int32))), .val (.int (own_v0_8 x4)), .val (.int (x5 &&& (3 : Int32))), .val (.int (own_v0_9 x5)), .val (.int (own_j0_1 x5)), .val (.int (own_v0_10 x5)), .val (.ref b76), .val (.int (x5 &&& (3 : Int32))), .val (.int (0 : Int32)), .val (.int (1 : Int32)), .val (.int (own_f2 (x4 &&& (63 : Int32)))), .val (.int (own_j0_2 x4))]) rfl k) ?_
    show own_Goes p e below _ (T125.setTop (mkF m 583 #[.val (.int x0), .val (.int x1), .val (.int x2), .val (.long y3), .second, .val (.int x4), .val (.int x5), .val (.int (own_v0_1 x0)), .val (.int (own_v0_2 x1)), .val (.int (own_v0_3 x1)), .val (.int (own_v0_4 x2)), .val (.int (own_v0_5 x2)), .val (.int (own_v0_6 y3)), .val (.long (own_v0_7 y3)), .second, .val (.int (x4 &&& (63 : Int32))), .val (.int (own_v0_8 x4)), .val (.int (x5 &&& (3 : Int32))), .val (.int (own_v0_9 x5)), .val (.int (own_j0_1 x5)), .val (.int (own_v0_10 x5)), .val (.ref b76), .val (.int (x5 &&& (3 : Int32))), .val (.int (0 : Int32)), .val (.int (1 : Int32)), .val (.int (own_f2 (x4 &&& (63 : Int32)))), .val (.int (own_j0_2 x4))] []))
    refine own_go (fun t k => XS.iload X125.here hx rfl (hb hby at_583) rfl k) ?_
    show own_Goes p e below _ (T125.setTop (mkF m 585 #[.val (.int x0), .val (.int x1), .val (.int x2), .val (.long y3), .second, .val (.int x4), .val (.int x5), .val (.int (own_v0_1 x0)), .val (.int (own_v0_2 x1)), .val (.int (own_v0_3 x1)), .val (.int (own_v0_4 x2)), .val (.int (own_v0_5 x2)), .val (.int (own_v0_6 y3)), .val (.long (own_v0_7 y3)), .second, .val (.int (x4 &&& (63 : Int32))), .val (.int (own_v0_8 x4)), .val (.int (x5 &&& (3 : Int32))), .val (.int (own_v0_9 x5)), .val (.int (own_j0_1 x5)), .val (.int (own_v0_10 x5)), .val (.ref b76), .val (.int (x5 &&& (3 : Int32))), .val (.int (0 : Int32)), .val (.int (1 : Int32)), .val (.int (own_f2 (x4 &&& (63 : Int32)))), .val (.int (own_j0_2 x4))] [(.int (own_f2 (x4 &&& (63 : Int32))))]))
    suffices HH137 : own_Goes p e below (own_End s room_1 (own_Q0 x0 x1 x2 y3 x4 x5 s_F h0 n0)) (T125.setTop (mkF m 615 #[.val (.int x0), .val (.int x1), .val (.int x2), .val (.long y3), .second, .val (.int x4), .val (.int x5), .val (.int (own_v0_1 x0)), .val (.int (own_v0_2 x1)), .val (.int (own_v0_3 x1)), .val (.int (own_v0_4 x2)), .val (.int (own_v0_5 x2)), .val (.int (own_v0_6 y3)), .val (.long (own_v0_7 y3)), .second, .val (.int (x4 &&& (63 : Int32))), .val (.int (own_v0_8 x4)), .val (.int (x5 &&& (3 : Int32))), .val (.int (own_v0_9 x5)), .val (.int (own_j0_1 x5)), .val (.int (own_v0_10 x5)), .val (.ref b76), .val (.int (x5 &&& (3 : Int32))), .val (.int (own_j0_5 x4)), .val (.int (own_j0_6 x4)), .val (.int (own_f2 (x4 &&& (63 : Int32)))), .val (.int (own_j0_2 x4))] [])) by
      by_cases hc129 : (own_f2 (x4 &&& (63 : Int32))) = (0 : Int32)
      · refine own_go (fun t k => XS.ifNo X125.here hx rfl (hb hby at_585) rfl ((if0 _ _).trans (teq hc129).2) k) ?_
        show own_Goes p e below _ (T125.setTop (mkF m 588 #[.val (.int x0), .val (.int x1), .val (.int x2), .val (.long y3), .second, .val (.int x4), .val (.int x5), .val (.int (own_v0_1 x0)), .val (.int (own_v0_2 x1)), .val (.int (own_v0_3 x1)), .val (.int (own_v0_4 x2)), .val (.int (own_v0_5 x2)), .val (.int (own_v0_6 y3)), .val (.long (own_v0_7 y3)), .second, .val (.int (x4 &&& (63 : Int32))), .val (.int (own_v0_8 x4)), .val (.int (x5 &&& (3 : Int32))), .val (.int (own_v0_9 x5)), .val (.int (own_j0_1 x5)), .val (.int (own_v0_10 x5)), .val (.ref b76), .val (.int (x5 &&& (3 : Int32))), .val (.int (0 : Int32)), .val (.int (1 : Int32)), .val (.int (own_f2 (x4 &&& (63 : Int32)))), .val (.int (own_j0_2 x4))] []))
        refine own_go (fun t k => XS.iload X125.here hx rfl (hb hby at_588) rfl k) ?_
        show own_Goes p e below _ (T125.setTop (mkF m 590 #[.val (.int x0), .val (.int x1), .val (.int x2), .val (.long y3), .second, .val (.int x4), .val (.int x5), .val (.int (own_v0_1 x0)), .val (.int (own_v0_2 x1)), .val (.int (own_v0_3 x1)), .val (.int (own_v0_4 x2)), .val (.int (own_v0_5 x2)), .val (.int (own_v0_6 y3)), .val (.long (own_v0_7 y3)), .second, .val (.int (x4 &&& (63 : Int32))), .val (.int (own_v0_8 x4)), .val (.int (x5 &&& (3 : Int32))), .val (.int (own_v0_9 x5)), .val (.int (own_j0_1 x5)), .val (.int (own_v0_10 x5)), .val (.ref b76), .val (.int (x5 &&& (3 : Int32))), .val (.int (0 : Int32)), .val (.int (1 : Int32)), .val (.int (own_f2 (x4 &&& (63 : Int32)))), .val (.int (own_j0_2 x4))] [(.int (own_j0_2 x4))]))
        by_cases hc130 : (own_j0_2 x4) = (0 : Int32)
        · refine own_go (fun t k => XS.ifNo X125.here hx rfl (hb hby at_590) rfl ((if0 _ _).trans (teq hc130).2) k) ?_
          show own_Goes p e below _ (T125.setTop (mkF m 593 #[.val (.int x0), .val (.int x1), .val (.int x2), .val (.long y3), .second, .val (.int x4), .val (.int x5), .val (.int (own_v0_1 x0)), .val (.int (own_v0_2 x1)), .val (.int (own_v0_3 x1)), .val (.int (own_v0_4 x2)), .val (.int (own_v0_5 x2)), .val (.int (own_v0_6 y3)), .val (.long (own_v0_7 y3)), .second, .val (.int (x4 &&& (63 : Int32))), .val (.int (own_v0_8 x4)), .val (.int (x5 &&& (3 : Int32))), .val (.int (own_v0_9 x5)), .val (.int (own_j0_1 x5)), .val (.int (own_v0_10 x5)), .val (.ref b76), .val (.int (x5 &&& (3 : Int32))), .val (.int (0 : Int32)), .val (.int (1 : Int32)), .val (.int (own_f2 (x4 &&& (63 : Int32)))), .val (.int (own_j0_2 x4))] []))
          refine own_go (fun t k => XS.iconst X125.here hx rfl (hb hby at_593) k) ?_
          show own_Goes p e below _ (T125.setTop (mkF m 594 #[.val (.int x0), .val (.int x1), .val (.int x2), .val (.long y3), .second, .val (.int x4), .val (.int x5), .val (.int (own_v0_1 x0)), .val (.int (own_v0_2 x1)), .val (.int (own_v0_3 x1)), .val (.int (own_v0_4 x2)), .val (.int (own_v0_5 x2)), .val (.int (own_v0_6 y3)), .val (.long (own_v0_7 y3)), .second, .val (.int (x4 &&& (63 : Int32))), .val (.int (own_v0_8 x4)), .val (.int (x5 &&& (3 : Int32))), .val (.int (own_v0_9 x5)), .val (.int (own_j0_1 x5)), .val (.int (own_v0_10 x5)), .val (.ref b76), .val (.int (x5 &&& (3 : Int32))), .val (.int (0 : Int32)), .val (.int (1 : Int32)), .val (.int (own_f2 (x4 &&& (63 : Int32)))), .val (.int (own_j0_2 x4))] [(.int (1 : Int32))]))
          refine own_go (fun t k => XS.istore X125.here hx rfl (hb hby at_594) rfl (l' := #[.val (.int x0), .val (.int x1), .val (.int x2), .val (.long y3), .second, .val (.int x4), .val (.int x5), .val (.int (own_v0_1 x0)), .val (.int (own_v0_2 x1)), .val (.int (own_v0_3 x1)), .val (.int (own_v0_4 x2)), .val (.int (own_v0_5 x2)), .val (.int (own_v0_6 y3)), .val (.long (own_v0_7 y3)), .second, .val (.int (x4 &&& (63 : Int32))), .val (.int (own_v0_8 x4)), .val (.int (x5 &&& (3 : Int32))), .val (.int (own_v0_9 x5)), .val (.int (own_j0_1 x5)), .val (.int (own_v0_10 x5)), .val (.ref b76), .val (.int (x5 &&& (3 : Int32))), .val (.int (1 : Int32)), .val (.int (1 : Int32)), .val (.int (own_f2 (x4 &&& (63 : Int32)))), .val (.int (own_j0_2 x4))]) rfl k) ?_
          show own_Goes p e below _ (T125.setTop (mkF m 596 #[.val (.int x0), .val (.int x1), .val (.int x2), .val (.long y3), .second, .val (.int x4), .val (.int x5), .val (.int (own_v0_1 x0)), .val (.int (own_v0_2 x1)), .val (.int (own_v0_3 x1)), .val (.int (own_v0_4 x2)), .val (.int (own_v0_5 x2)), .val (.int (own_v0_6 y3)), .val (.long (own_v0_7 y3)), .second, .val (.int (x4 &&& (63 : Int32))), .val (.int (own_v0_8 x4)), .val (.int (x5 &&& (3 : Int32))), .val (.int (own_v0_9 x5)), .val (.int (own_j0_1 x5)), .val (.int (own_v0_10 x5)), .val (.ref b76), .val (.int (x5 &&& (3 : Int32))), .val (.int (1 : Int32)), .val (.int (1 : Int32)), .val (.int (own_f2 (x4 &&& (63 : Int32)))), .val (.int (own_j0_2 x4))] []))
          refine own_go (fun t k => XS.iload X125.here hx rfl (hb hby at_596) rfl k) ?_
          show own_Goes p e below _ (T125.setTop (mkF m 598 #[.val (.int x0), .val (.int x1), .val (.int x2), .val (.long y3), .second, .val (.int x4), .val (.int x5), .val (.int (own_v0_1 x0)), .val (.int (own_v0_2 x1)), .val (.int (own_v0_3 x1)), .val (.int (own_v0_4 x2)), .val (.int (own_v0_5 x2)), .val (.int (own_v0_6 y3)), .val (.long (own_v0_7 y3)), .second, .val (.int (x4 &&& (63 : Int32))), .val (.int (own_v0_8 x4)), .val (.int (x5 &&& (3 : Int32))), .val (.int (own_v0_9 x5)), .val (.int (own_j0_1 x5)), .val (.int (own_v0_10 x5)), .val (.ref b76), .val (.int (x5 &&& (3 : Int32))), .val (.int (1 : Int32)), .val (.int (1 : Int32)), .val (.int (own_f2 (x4 &&& (63 : Int32)))), .val (.int (own_j0_2 x4))] [(.int (own_f2 (x4 &&& (63 : Int32))))]))
          suffices HH133 : own_Goes p e below (own_End s room_1 (own_Q0 x0 x1 x2 y3 x4 x5 s_F h0 n0)) (T125.setTop (mkF m 613 #[.val (.int x0), .val (.int x1), .val (.int x2), .val (.long y3), .second, .val (.int x4), .val (.int x5), .val (.int (own_v0_1 x0)), .val (.int (own_v0_2 x1)), .val (.int (own_v0_3 x1)), .val (.int (own_v0_4 x2)), .val (.int (own_v0_5 x2)), .val (.int (own_v0_6 y3)), .val (.long (own_v0_7 y3)), .second, .val (.int (x4 &&& (63 : Int32))), .val (.int (own_v0_8 x4)), .val (.int (x5 &&& (3 : Int32))), .val (.int (own_v0_9 x5)), .val (.int (own_j0_1 x5)), .val (.int (own_v0_10 x5)), .val (.ref b76), .val (.int (x5 &&& (3 : Int32))), .val (.int (1 : Int32)), .val (.int (1 : Int32)), .val (.int (own_f2 (x4 &&& (63 : Int32)))), .val (.int (own_j0_2 x4))] [(.int (own_j0_3 x4))])) by
            by_cases hc131 : (own_f2 (x4 &&& (63 : Int32))) = (0 : Int32)
            · refine own_go (fun t k => XS.ifYes X125.here hx rfl (pc0 := 598) (pc' := 612) rfl (hb hby at_598) rfl ((if0 _ _).trans (teq hc131).1) (by decide) (by decide) k) ?_
              show own_Goes p e below _ (T125.setTop (mkF m 612 #[.val (.int x0), .val (.int x1), .val (.int x2), .val (.long y3), .second, .val (.int x4), .val (.int x5), .val (.int (own_v0_1 x0)), .val (.int (own_v0_2 x1)), .val (.int (own_v0_3 x1)), .val (.int (own_v0_4 x2)), .val (.int (own_v0_5 x2)), .val (.int (own_v0_6 y3)), .val (.long (own_v0_7 y3)), .second, .val (.int (x4 &&& (63 : Int32))), .val (.int (own_v0_8 x4)), .val (.int (x5 &&& (3 : Int32))), .val (.int (own_v0_9 x5)), .val (.int (own_j0_1 x5)), .val (.int (own_v0_10 x5)), .val (.ref b76), .val (.int (x5 &&& (3 : Int32))), .val (.int (1 : Int32)), .val (.int (1 : Int32)), .val (.int (own_f2 (x4 &&& (63 : Int32)))), .val (.int (own_j0_2 x4))] []))
              refine own_go (fun t k => XS.iconst X125.here hx rfl (hb hby at_612) k) ?_
              rw [show (own_j0_3 x4) = (0 : Int32) from by rw [own_j0_3, if_pos hc131]] at HH133
              exact HH133
            · refine own_go (fun t k => XS.ifNo X125.here hx rfl (hb hby at_598) rfl ((if0 _ _).trans (feq hc131).1) k) ?_
              show own_Goes p e below _ (T125.setTop (mkF m 601 #[.val (.int x0), .val (.int x1), .val (.int x2), .val (.long y3), .second, .val (.int x4), .val (.int x5), .val (.int (own_v0_1 x0)), .val (.int (own_v0_2 x1)), .val (.int (own_v0_3 x1)), .val (.int (own_v0_4 x2)), .val (.int (own_v0_5 x2)), .val (.int (own_v0_6 y3)), .val (.long (own_v0_7 y3)), .second, .val (.int (x4 &&& (63 : Int32))), .val (.int (own_v0_8 x4)), .val (.int (x5 &&& (3 : Int32))), .val (.int (own_v0_9 x5)), .val (.int (own_j0_1 x5)), .val (.int (own_v0_10 x5)), .val (.ref b76), .val (.int (x5 &&& (3 : Int32))), .val (.int (1 : Int32)), .val (.int (1 : Int32)), .val (.int (own_f2 (x4 &&& (63 : Int32)))), .val (.int (own_j0_2 x4))] []))
              refine own_go (fun t k => XS.iload X125.here hx rfl (hb hby at_601) rfl k) ?_
              show own_Goes p e below _ (T125.setTop (mkF m 603 #[.val (.int x0), .val (.int x1), .val (.int x2), .val (.long y3), .second, .val (.int x4), .val (.int x5), .val (.int (own_v0_1 x0)), .val (.int (own_v0_2 x1)), .val (.int (own_v0_3 x1)), .val (.int (own_v0_4 x2)), .val (.int (own_v0_5 x2)), .val (.int (own_v0_6 y3)), .val (.long (own_v0_7 y3)), .second, .val (.int (x4 &&& (63 : Int32))), .val (.int (own_v0_8 x4)), .val (.int (x5 &&& (3 : Int32))), .val (.int (own_v0_9 x5)), .val (.int (own_j0_1 x5)), .val (.int (own_v0_10 x5)), .val (.ref b76), .val (.int (x5 &&& (3 : Int32))), .val (.int (1 : Int32)), .val (.int (1 : Int32)), .val (.int (own_f2 (x4 &&& (63 : Int32)))), .val (.int (own_j0_2 x4))] [(.int (own_v0_8 x4))]))
              refine own_go (fun t k => XS.iload X125.here hx rfl (hb hby at_603) rfl k) ?_
              show own_Goes p e below _ (T125.setTop (mkF m 605 #[.val (.int x0), .val (.int x1), .val (.int x2), .val (.long y3), .second, .val (.int x4), .val (.int x5), .val (.int (own_v0_1 x0)), .val (.int (own_v0_2 x1)), .val (.int (own_v0_3 x1)), .val (.int (own_v0_4 x2)), .val (.int (own_v0_5 x2)), .val (.int (own_v0_6 y3)), .val (.long (own_v0_7 y3)), .second, .val (.int (x4 &&& (63 : Int32))), .val (.int (own_v0_8 x4)), .val (.int (x5 &&& (3 : Int32))), .val (.int (own_v0_9 x5)), .val (.int (own_j0_1 x5)), .val (.int (own_v0_10 x5)), .val (.ref b76), .val (.int (x5 &&& (3 : Int32))), .val (.int (1 : Int32)), .val (.int (1 : Int32)), .val (.int (own_f2 (x4 &&& (63 : Int32)))), .val (.int (own_j0_2 x4))] [(.int (own_f2 (x4 &&& (63 : Int32)))), (.int (own_v0_8 x4))]))
              by_cases hc132 : (own_v0_8 x4) = (own_f2 (x4 &&& (63 : Int32)))
              · refine own_go (fun t k => XS.icmpNo X125.here hx rfl (hb hby at_605) rfl (teq hc132).2 k) ?_
                show own_Goes p e below _ (T125.setTop (mkF m 608 #[.val (.int x0), .val (.int x1), .val (.int x2), .val (.long y3), .second, .val (.int x4), .val (.int x5), .val (.int (own_v0_1 x0)), .val (.int (own_v0_2 x1)), .val (.int (own_v0_3 x1)), .val (.int (own_v0_4 x2)), .val (.int (own_v0_5 x2)), .val (.int (own_v0_6 y3)), .val (.long (own_v0_7 y3)), .second, .val (.int (x4 &&& (63 : Int32))), .val (.int (own_v0_8 x4)), .val (.int (x5 &&& (3 : Int32))), .val (.int (own_v0_9 x5)), .val (.int (own_j0_1 x5)), .val (.int (own_v0_10 x5)), .val (.ref b76), .val (.int (x5 &&& (3 : Int32))), .val (.int (1 : Int32)), .val (.int (1 : Int32)), .val (.int (own_f2 (x4 &&& (63 : Int32)))), .val (.int (own_j0_2 x4))] []))
                refine own_go (fun t k => XS.iconst X125.here hx rfl (hb hby at_608) k) ?_
                show own_Goes p e below _ (T125.setTop (mkF m 609 #[.val (.int x0), .val (.int x1), .val (.int x2), .val (.long y3), .second, .val (.int x4), .val (.int x5), .val (.int (own_v0_1 x0)), .val (.int (own_v0_2 x1)), .val (.int (own_v0_3 x1)), .val (.int (own_v0_4 x2)), .val (.int (own_v0_5 x2)), .val (.int (own_v0_6 y3)), .val (.long (own_v0_7 y3)), .second, .val (.int (x4 &&& (63 : Int32))), .val (.int (own_v0_8 x4)), .val (.int (x5 &&& (3 : Int32))), .val (.int (own_v0_9 x5)), .val (.int (own_j0_1 x5)), .val (.int (own_v0_10 x5)), .val (.ref b76), .val (.int (x5 &&& (3 : Int32))), .val (.int (1 : Int32)), .val (.int (1 : Int32)), .val (.int (own_f2 (x4 &&& (63 : Int32)))), .val (.int (own_j0_2 x4))] [(.int (1 : Int32))]))
                refine own_go (fun t k => XS.goto X125.here hx rfl (pc0 := 609) (pc' := 613) rfl (hb hby at_609) (by decide) (by decide) k) ?_
                rw [show (own_j0_3 x4) = (1 : Int32) from by rw [own_j0_3, if_neg hc131, if_pos hc132]] at HH133
                exact HH133
              · refine own_go (fun t k => XS.icmpYes X125.here hx rfl (pc0 := 605) (pc' := 612) rfl (hb hby at_605) rfl (feq hc132).2 (by decide) (by decide) k) ?_
                show own_Goes p e below _ (T125.setTop (mkF m 612 #[.val (.int x0), .val (.int x1), .val (.int x2), .val (.long y3), .second, .val (.int x4), .val (.int x5), .val (.int (own_v0_1 x0)), .val (.int (own_v0_2 x1)), .val (.int (own_v0_3 x1)), .val (.int (own_v0_4 x2)), .val (.int (own_v0_5 x2)), .val (.int (own_v0_6 y3)), .val (.long (own_v0_7 y3)), .second, .val (.int (x4 &&& (63 : Int32))), .val (.int (own_v0_8 x4)), .val (.int (x5 &&& (3 : Int32))), .val (.int (own_v0_9 x5)), .val (.int (own_j0_1 x5)), .val (.int (own_v0_10 x5)), .val (.ref b76), .val (.int (x5 &&& (3 : Int32))), .val (.int (1 : Int32)), .val (.int (1 : Int32)), .val (.int (own_f2 (x4 &&& (63 : Int32)))), .val (.int (own_j0_2 x4))] []))
                refine own_go (fun t k => XS.iconst X125.here hx rfl (hb hby at_612) k) ?_
                rw [show (own_j0_3 x4) = (0 : Int32) from by rw [own_j0_3, if_neg hc131, if_neg hc132]] at HH133
                exact HH133
          show own_Goes p e below _ (T125.setTop (mkF m 613 #[.val (.int x0), .val (.int x1), .val (.int x2), .val (.long y3), .second, .val (.int x4), .val (.int x5), .val (.int (own_v0_1 x0)), .val (.int (own_v0_2 x1)), .val (.int (own_v0_3 x1)), .val (.int (own_v0_4 x2)), .val (.int (own_v0_5 x2)), .val (.int (own_v0_6 y3)), .val (.long (own_v0_7 y3)), .second, .val (.int (x4 &&& (63 : Int32))), .val (.int (own_v0_8 x4)), .val (.int (x5 &&& (3 : Int32))), .val (.int (own_v0_9 x5)), .val (.int (own_j0_1 x5)), .val (.int (own_v0_10 x5)), .val (.ref b76), .val (.int (x5 &&& (3 : Int32))), .val (.int (1 : Int32)), .val (.int (1 : Int32)), .val (.int (own_f2 (x4 &&& (63 : Int32)))), .val (.int (own_j0_2 x4))] [(.int (own_j0_3 x4))]))
          refine own_go (fun t k => XS.istore X125.here hx rfl (hb hby at_613) rfl (l' := #[.val (.int x0), .val (.int x1), .val (.int x2), .val (.long y3), .second, .val (.int x4), .val (.int x5), .val (.int (own_v0_1 x0)), .val (.int (own_v0_2 x1)), .val (.int (own_v0_3 x1)), .val (.int (own_v0_4 x2)), .val (.int (own_v0_5 x2)), .val (.int (own_v0_6 y3)), .val (.long (own_v0_7 y3)), .second, .val (.int (x4 &&& (63 : Int32))), .val (.int (own_v0_8 x4)), .val (.int (x5 &&& (3 : Int32))), .val (.int (own_v0_9 x5)), .val (.int (own_j0_1 x5)), .val (.int (own_v0_10 x5)), .val (.ref b76), .val (.int (x5 &&& (3 : Int32))), .val (.int (1 : Int32)), .val (.int (own_j0_3 x4)), .val (.int (own_f2 (x4 &&& (63 : Int32)))), .val (.int (own_j0_2 x4))]) rfl k) ?_
          rw [show (own_j0_5 x4) = (1 : Int32) from by rw [own_j0_5, if_pos hc129, if_pos hc130]] at HH137
          rw [show (own_j0_6 x4) = (own_j0_3 x4) from by rw [own_j0_6, if_pos hc129, if_pos hc130]] at HH137
          exact HH137
        · refine own_go (fun t k => XS.ifYes X125.here hx rfl (pc0 := 590) (pc' := 615) rfl (hb hby at_590) rfl ((if0 _ _).trans (feq hc130).2) (by decide) (by decide) k) ?_
          rw [show (own_j0_5 x4) = (0 : Int32) from by rw [own_j0_5, if_pos hc129, if_neg hc130]] at HH137
          rw [show (own_j0_6 x4) = (1 : Int32) from by rw [own_j0_6, if_pos hc129, if_neg hc130]] at HH137
          exact HH137
      · refine own_go (fun t k => XS.ifYes X125.here hx rfl (pc0 := 585) (pc' := 593) rfl (hb hby at_585) rfl ((if0 _ _).trans (feq hc129).2) (by decide) (by decide) k) ?_
        show own_Goes p e below _ (T125.setTop (mkF m 593 #[.val (.int x0), .val (.int x1), .val (.int x2), .val (.long y3), .second, .val (.int x4), .val (.int x5), .val (.int (own_v0_1 x0)), .val (.int (own_v0_2 x1)), .val (.int (own_v0_3 x1)), .val (.int (own_v0_4 x2)), .val (.int (own_v0_5 x2)), .val (.int (own_v0_6 y3)), .val (.long (own_v0_7 y3)), .second, .val (.int (x4 &&& (63 : Int32))), .val (.int (own_v0_8 x4)), .val (.int (x5 &&& (3 : Int32))), .val (.int (own_v0_9 x5)), .val (.int (own_j0_1 x5)), .val (.int (own_v0_10 x5)), .val (.ref b76), .val (.int (x5 &&& (3 : Int32))), .val (.int (0 : Int32)), .val (.int (1 : Int32)), .val (.int (own_f2 (x4 &&& (63 : Int32)))), .val (.int (own_j0_2 x4))] []))
        refine own_go (fun t k => XS.iconst X125.here hx rfl (hb hby at_593) k) ?_
        show own_Goes p e below _ (T125.setTop (mkF m 594 #[.val (.int x0), .val (.int x1), .val (.int x2), .val (.long y3), .second, .val (.int x4), .val (.int x5), .val (.int (own_v0_1 x0)), .val (.int (own_v0_2 x1)), .val (.int (own_v0_3 x1)), .val (.int (own_v0_4 x2)), .val (.int (own_v0_5 x2)), .val (.int (own_v0_6 y3)), .val (.long (own_v0_7 y3)), .second, .val (.int (x4 &&& (63 : Int32))), .val (.int (own_v0_8 x4)), .val (.int (x5 &&& (3 : Int32))), .val (.int (own_v0_9 x5)), .val (.int (own_j0_1 x5)), .val (.int (own_v0_10 x5)), .val (.ref b76), .val (.int (x5 &&& (3 : Int32))), .val (.int (0 : Int32)), .val (.int (1 : Int32)), .val (.int (own_f2 (x4 &&& (63 : Int32)))), .val (.int (own_j0_2 x4))] [(.int (1 : Int32))]))
        refine own_go (fun t k => XS.istore X125.here hx rfl (hb hby at_594) rfl (l' := #[.val (.int x0), .val (.int x1), .val (.int x2), .val (.long y3), .second, .val (.int x4), .val (.int x5), .val (.int (own_v0_1 x0)), .val (.int (own_v0_2 x1)), .val (.int (own_v0_3 x1)), .val (.int (own_v0_4 x2)), .val (.int (own_v0_5 x2)), .val (.int (own_v0_6 y3)), .val (.long (own_v0_7 y3)), .second, .val (.int (x4 &&& (63 : Int32))), .val (.int (own_v0_8 x4)), .val (.int (x5 &&& (3 : Int32))), .val (.int (own_v0_9 x5)), .val (.int (own_j0_1 x5)), .val (.int (own_v0_10 x5)), .val (.ref b76), .val (.int (x5 &&& (3 : Int32))), .val (.int (1 : Int32)), .val (.int (1 : Int32)), .val (.int (own_f2 (x4 &&& (63 : Int32)))), .val (.int (own_j0_2 x4))]) rfl k) ?_
        show own_Goes p e below _ (T125.setTop (mkF m 596 #[.val (.int x0), .val (.int x1), .val (.int x2), .val (.long y3), .second, .val (.int x4), .val (.int x5), .val (.int (own_v0_1 x0)), .val (.int (own_v0_2 x1)), .val (.int (own_v0_3 x1)), .val (.int (own_v0_4 x2)), .val (.int (own_v0_5 x2)), .val (.int (own_v0_6 y3)), .val (.long (own_v0_7 y3)), .second, .val (.int (x4 &&& (63 : Int32))), .val (.int (own_v0_8 x4)), .val (.int (x5 &&& (3 : Int32))), .val (.int (own_v0_9 x5)), .val (.int (own_j0_1 x5)), .val (.int (own_v0_10 x5)), .val (.ref b76), .val (.int (x5 &&& (3 : Int32))), .val (.int (1 : Int32)), .val (.int (1 : Int32)), .val (.int (own_f2 (x4 &&& (63 : Int32)))), .val (.int (own_j0_2 x4))] []))
        refine own_go (fun t k => XS.iload X125.here hx rfl (hb hby at_596) rfl k) ?_
        show own_Goes p e below _ (T125.setTop (mkF m 598 #[.val (.int x0), .val (.int x1), .val (.int x2), .val (.long y3), .second, .val (.int x4), .val (.int x5), .val (.int (own_v0_1 x0)), .val (.int (own_v0_2 x1)), .val (.int (own_v0_3 x1)), .val (.int (own_v0_4 x2)), .val (.int (own_v0_5 x2)), .val (.int (own_v0_6 y3)), .val (.long (own_v0_7 y3)), .second, .val (.int (x4 &&& (63 : Int32))), .val (.int (own_v0_8 x4)), .val (.int (x5 &&& (3 : Int32))), .val (.int (own_v0_9 x5)), .val (.int (own_j0_1 x5)), .val (.int (own_v0_10 x5)), .val (.ref b76), .val (.int (x5 &&& (3 : Int32))), .val (.int (1 : Int32)), .val (.int (1 : Int32)), .val (.int (own_f2 (x4 &&& (63 : Int32)))), .val (.int (own_j0_2 x4))] [(.int (own_f2 (x4 &&& (63 : Int32))))]))
        suffices HH136 : own_Goes p e below (own_End s room_1 (own_Q0 x0 x1 x2 y3 x4 x5 s_F h0 n0)) (T125.setTop (mkF m 613 #[.val (.int x0), .val (.int x1), .val (.int x2), .val (.long y3), .second, .val (.int x4), .val (.int x5), .val (.int (own_v0_1 x0)), .val (.int (own_v0_2 x1)), .val (.int (own_v0_3 x1)), .val (.int (own_v0_4 x2)), .val (.int (own_v0_5 x2)), .val (.int (own_v0_6 y3)), .val (.long (own_v0_7 y3)), .second, .val (.int (x4 &&& (63 : Int32))), .val (.int (own_v0_8 x4)), .val (.int (x5 &&& (3 : Int32))), .val (.int (own_v0_9 x5)), .val (.int (own_j0_1 x5)), .val (.int (own_v0_10 x5)), .val (.ref b76), .val (.int (x5 &&& (3 : Int32))), .val (.int (1 : Int32)), .val (.int (1 : Int32)), .val (.int (own_f2 (x4 &&& (63 : Int32)))), .val (.int (own_j0_2 x4))] [(.int (own_j0_4 x4))])) by
          by_cases hc134 : (own_f2 (x4 &&& (63 : Int32))) = (0 : Int32)
          · refine own_go (fun t k => XS.ifYes X125.here hx rfl (pc0 := 598) (pc' := 612) rfl (hb hby at_598) rfl ((if0 _ _).trans (teq hc134).1) (by decide) (by decide) k) ?_
            show own_Goes p e below _ (T125.setTop (mkF m 612 #[.val (.int x0), .val (.int x1), .val (.int x2), .val (.long y3), .second, .val (.int x4), .val (.int x5), .val (.int (own_v0_1 x0)), .val (.int (own_v0_2 x1)), .val (.int (own_v0_3 x1)), .val (.int (own_v0_4 x2)), .val (.int (own_v0_5 x2)), .val (.int (own_v0_6 y3)), .val (.long (own_v0_7 y3)), .second, .val (.int (x4 &&& (63 : Int32))), .val (.int (own_v0_8 x4)), .val (.int (x5 &&& (3 : Int32))), .val (.int (own_v0_9 x5)), .val (.int (own_j0_1 x5)), .val (.int (own_v0_10 x5)), .val (.ref b76), .val (.int (x5 &&& (3 : Int32))), .val (.int (1 : Int32)), .val (.int (1 : Int32)), .val (.int (own_f2 (x4 &&& (63 : Int32)))), .val (.int (own_j0_2 x4))] []))
            refine own_go (fun t k => XS.iconst X125.here hx rfl (hb hby at_612) k) ?_
            rw [show (own_j0_4 x4) = (0 : Int32) from by rw [own_j0_4, if_pos hc134]] at HH136
            exact HH136
          · refine own_go (fun t k => XS.ifNo X125.here hx rfl (hb hby at_598) rfl ((if0 _ _).trans (feq hc134).1) k) ?_
            show own_Goes p e below _ (T125.setTop (mkF m 601 #[.val (.int x0), .val (.int x1), .val (.int x2), .val (.long y3), .second, .val (.int x4), .val (.int x5), .val (.int (own_v0_1 x0)), .val (.int (own_v0_2 x1)), .val (.int (own_v0_3 x1)), .val (.int (own_v0_4 x2)), .val (.int (own_v0_5 x2)), .val (.int (own_v0_6 y3)), .val (.long (own_v0_7 y3)), .second, .val (.int (x4 &&& (63 : Int32))), .val (.int (own_v0_8 x4)), .val (.int (x5 &&& (3 : Int32))), .val (.int (own_v0_9 x5)), .val (.int (own_j0_1 x5)), .val (.int (own_v0_10 x5)), .val (.ref b76), .val (.int (x5 &&& (3 : Int32))), .val (.int (1 : Int32)), .val (.int (1 : Int32)), .val (.int (own_f2 (x4 &&& (63 : Int32)))), .val (.int (own_j0_2 x4))] []))
            refine own_go (fun t k => XS.iload X125.here hx rfl (hb hby at_601) rfl k) ?_
            show own_Goes p e below _ (T125.setTop (mkF m 603 #[.val (.int x0), .val (.int x1), .val (.int x2), .val (.long y3), .second, .val (.int x4), .val (.int x5), .val (.int (own_v0_1 x0)), .val (.int (own_v0_2 x1)), .val (.int (own_v0_3 x1)), .val (.int (own_v0_4 x2)), .val (.int (own_v0_5 x2)), .val (.int (own_v0_6 y3)), .val (.long (own_v0_7 y3)), .second, .val (.int (x4 &&& (63 : Int32))), .val (.int (own_v0_8 x4)), .val (.int (x5 &&& (3 : Int32))), .val (.int (own_v0_9 x5)), .val (.int (own_j0_1 x5)), .val (.int (own_v0_10 x5)), .val (.ref b76), .val (.int (x5 &&& (3 : Int32))), .val (.int (1 : Int32)), .val (.int (1 : Int32)), .val (.int (own_f2 (x4 &&& (63 : Int32)))), .val (.int (own_j0_2 x4))] [(.int (own_v0_8 x4))]))
            refine own_go (fun t k => XS.iload X125.here hx rfl (hb hby at_603) rfl k) ?_
            show own_Goes p e below _ (T125.setTop (mkF m 605 #[.val (.int x0), .val (.int x1), .val (.int x2), .val (.long y3), .second, .val (.int x4), .val (.int x5), .val (.int (own_v0_1 x0)), .val (.int (own_v0_2 x1)), .val (.int (own_v0_3 x1)), .val (.int (own_v0_4 x2)), .val (.int (own_v0_5 x2)), .val (.int (own_v0_6 y3)), .val (.long (own_v0_7 y3)), .second, .val (.int (x4 &&& (63 : Int32))), .val (.int (own_v0_8 x4)), .val (.int (x5 &&& (3 : Int32))), .val (.int (own_v0_9 x5)), .val (.int (own_j0_1 x5)), .val (.int (own_v0_10 x5)), .val (.ref b76), .val (.int (x5 &&& (3 : Int32))), .val (.int (1 : Int32)), .val (.int (1 : Int32)), .val (.int (own_f2 (x4 &&& (63 : Int32)))), .val (.int (own_j0_2 x4))] [(.int (own_f2 (x4 &&& (63 : Int32)))), (.int (own_v0_8 x4))]))
            by_cases hc135 : (own_v0_8 x4) = (own_f2 (x4 &&& (63 : Int32)))
            · refine own_go (fun t k => XS.icmpNo X125.here hx rfl (hb hby at_605) rfl (teq hc135).2 k) ?_
              show own_Goes p e below _ (T125.setTop (mkF m 608 #[.val (.int x0), .val (.int x1), .val (.int x2), .val (.long y3), .second, .val (.int x4), .val (.int x5), .val (.int (own_v0_1 x0)), .val (.int (own_v0_2 x1)), .val (.int (own_v0_3 x1)), .val (.int (own_v0_4 x2)), .val (.int (own_v0_5 x2)), .val (.int (own_v0_6 y3)), .val (.long (own_v0_7 y3)), .second, .val (.int (x4 &&& (63 : Int32))), .val (.int (own_v0_8 x4)), .val (.int (x5 &&& (3 : Int32))), .val (.int (own_v0_9 x5)), .val (.int (own_j0_1 x5)), .val (.int (own_v0_10 x5)), .val (.ref b76), .val (.int (x5 &&& (3 : Int32))), .val (.int (1 : Int32)), .val (.int (1 : Int32)), .val (.int (own_f2 (x4 &&& (63 : Int32)))), .val (.int (own_j0_2 x4))] []))
              refine own_go (fun t k => XS.iconst X125.here hx rfl (hb hby at_608) k) ?_
              show own_Goes p e below _ (T125.setTop (mkF m 609 #[.val (.int x0), .val (.int x1), .val (.int x2), .val (.long y3), .second, .val (.int x4), .val (.int x5), .val (.int (own_v0_1 x0)), .val (.int (own_v0_2 x1)), .val (.int (own_v0_3 x1)), .val (.int (own_v0_4 x2)), .val (.int (own_v0_5 x2)), .val (.int (own_v0_6 y3)), .val (.long (own_v0_7 y3)), .second, .val (.int (x4 &&& (63 : Int32))), .val (.int (own_v0_8 x4)), .val (.int (x5 &&& (3 : Int32))), .val (.int (own_v0_9 x5)), .val (.int (own_j0_1 x5)), .val (.int (own_v0_10 x5)), .val (.ref b76), .val (.int (x5 &&& (3 : Int32))), .val (.int (1 : Int32)), .val (.int (1 : Int32)), .val (.int (own_f2 (x4 &&& (63 : Int32)))), .val (.int (own_j0_2 x4))] [(.int (1 : Int32))]))
              refine own_go (fun t k => XS.goto X125.here hx rfl (pc0 := 609) (pc' := 613) rfl (hb hby at_609) (by decide) (by decide) k) ?_
              rw [show (own_j0_4 x4) = (1 : Int32) from by rw [own_j0_4, if_neg hc134, if_pos hc135]] at HH136
              exact HH136
            · refine own_go (fun t k => XS.icmpYes X125.here hx rfl (pc0 := 605) (pc' := 612) rfl (hb hby at_605) rfl (feq hc135).2 (by decide) (by decide) k) ?_
              show own_Goes p e below _ (T125.setTop (mkF m 612 #[.val (.int x0), .val (.int x1), .val (.int x2), .val (.long y3), .second, .val (.int x4), .val (.int x5), .val (.int (own_v0_1 x0)), .val (.int (own_v0_2 x1)), .val (.int (own_v0_3 x1)), .val (.int (own_v0_4 x2)), .val (.int (own_v0_5 x2)), .val (.int (own_v0_6 y3)), .val (.long (own_v0_7 y3)), .second, .val (.int (x4 &&& (63 : Int32))), .val (.int (own_v0_8 x4)), .val (.int (x5 &&& (3 : Int32))), .val (.int (own_v0_9 x5)), .val (.int (own_j0_1 x5)), .val (.int (own_v0_10 x5)), .val (.ref b76), .val (.int (x5 &&& (3 : Int32))), .val (.int (1 : Int32)), .val (.int (1 : Int32)), .val (.int (own_f2 (x4 &&& (63 : Int32)))), .val (.int (own_j0_2 x4))] []))
              refine own_go (fun t k => XS.iconst X125.here hx rfl (hb hby at_612) k) ?_
              rw [show (own_j0_4 x4) = (0 : Int32) from by rw [own_j0_4, if_neg hc134, if_neg hc135]] at HH136
              exact HH136
        show own_Goes p e below _ (T125.setTop (mkF m 613 #[.val (.int x0), .val (.int x1), .val (.int x2), .val (.long y3), .second, .val (.int x4), .val (.int x5), .val (.int (own_v0_1 x0)), .val (.int (own_v0_2 x1)), .val (.int (own_v0_3 x1)), .val (.int (own_v0_4 x2)), .val (.int (own_v0_5 x2)), .val (.int (own_v0_6 y3)), .val (.long (own_v0_7 y3)), .second, .val (.int (x4 &&& (63 : Int32))), .val (.int (own_v0_8 x4)), .val (.int (x5 &&& (3 : Int32))), .val (.int (own_v0_9 x5)), .val (.int (own_j0_1 x5)), .val (.int (own_v0_10 x5)), .val (.ref b76), .val (.int (x5 &&& (3 : Int32))), .val (.int (1 : Int32)), .val (.int (1 : Int32)), .val (.int (own_f2 (x4 &&& (63 : Int32)))), .val (.int (own_j0_2 x4))] [(.int (own_j0_4 x4))]))
        refine own_go (fun t k => XS.istore X125.here hx rfl (hb hby at_613) rfl (l' := #[.val (.int x0), .val (.int x1), .val (.int x2), .val (.long y3), .second, .val (.int x4), .val (.int x5), .val (.int (own_v0_1 x0)), .val (.int (own_v0_2 x1)), .val (.int (own_v0_3 x1)), .val (.int (own_v0_4 x2)), .val (.int (own_v0_5 x2)), .val (.int (own_v0_6 y3)), .val (.long (own_v0_7 y3)), .second, .val (.int (x4 &&& (63 : Int32))), .val (.int (own_v0_8 x4)), .val (.int (x5 &&& (3 : Int32))), .val (.int (own_v0_9 x5)), .val (.int (own_j0_1 x5)), .val (.int (own_v0_10 x5)), .val (.ref b76), .val (.int (x5 &&& (3 : Int32))), .val (.int (1 : Int32)), .val (.int (own_j0_4 x4)), .val (.int (own_f2 (x4 &&& (63 : Int32)))), .val (.int (own_j0_2 x4))]) rfl k) ?_
        rw [show (own_j0_5 x4) = (1 : Int32) from by rw [own_j0_5, if_neg hc129]] at HH137
        rw [show (own_j0_6 x4) = (own_j0_4 x4) from by rw [own_j0_6, if_neg hc129]] at HH137
        exact HH137
    show own_Goes p e below _ (T125.setTop (mkF m 615 #[.val (.int x0), .val (.int x1), .val (.int x2), .val (.long y3), .second, .val (.int x4), .val (.int x5), .val (.int (own_v0_1 x0)), .val (.int (own_v0_2 x1)), .val (.int (own_v0_3 x1)), .val (.int (own_v0_4 x2)), .val (.int (own_v0_5 x2)), .val (.int (own_v0_6 y3)), .val (.long (own_v0_7 y3)), .second, .val (.int (x4 &&& (63 : Int32))), .val (.int (own_v0_8 x4)), .val (.int (x5 &&& (3 : Int32))), .val (.int (own_v0_9 x5)), .val (.int (own_j0_1 x5)), .val (.int (own_v0_10 x5)), .val (.ref b76), .val (.int (x5 &&& (3 : Int32))), .val (.int (own_j0_5 x4)), .val (.int (own_j0_6 x4)), .val (.int (own_f2 (x4 &&& (63 : Int32)))), .val (.int (own_j0_2 x4))] []))
    refine own_go (fun t k => XS.iload X125.here hx rfl (hb hby at_615) rfl k) ?_
    show own_Goes p e below _ (T125.setTop (mkF m 617 #[.val (.int x0), .val (.int x1), .val (.int x2), .val (.long y3), .second, .val (.int x4), .val (.int x5), .val (.int (own_v0_1 x0)), .val (.int (own_v0_2 x1)), .val (.int (own_v0_3 x1)), .val (.int (own_v0_4 x2)), .val (.int (own_v0_5 x2)), .val (.int (own_v0_6 y3)), .val (.long (own_v0_7 y3)), .second, .val (.int (x4 &&& (63 : Int32))), .val (.int (own_v0_8 x4)), .val (.int (x5 &&& (3 : Int32))), .val (.int (own_v0_9 x5)), .val (.int (own_j0_1 x5)), .val (.int (own_v0_10 x5)), .val (.ref b76), .val (.int (x5 &&& (3 : Int32))), .val (.int (own_j0_5 x4)), .val (.int (own_j0_6 x4)), .val (.int (own_f2 (x4 &&& (63 : Int32)))), .val (.int (own_j0_2 x4))] [(.int (own_j0_5 x4))]))
    by_cases hc138 : (own_j0_5 x4) = (0 : Int32)
    · refine own_go (fun t k => XS.ifYes X125.here hx rfl (pc0 := 617) (pc' := 630) rfl (hb hby at_617) rfl ((if0 _ _).trans (teq hc138).1) (by decide) (by decide) k) ?_
      show own_Goes p e below _ (T125.setTop (mkF m 630 #[.val (.int x0), .val (.int x1), .val (.int x2), .val (.long y3), .second, .val (.int x4), .val (.int x5), .val (.int (own_v0_1 x0)), .val (.int (own_v0_2 x1)), .val (.int (own_v0_3 x1)), .val (.int (own_v0_4 x2)), .val (.int (own_v0_5 x2)), .val (.int (own_v0_6 y3)), .val (.long (own_v0_7 y3)), .second, .val (.int (x4 &&& (63 : Int32))), .val (.int (own_v0_8 x4)), .val (.int (x5 &&& (3 : Int32))), .val (.int (own_v0_9 x5)), .val (.int (own_j0_1 x5)), .val (.int (own_v0_10 x5)), .val (.ref b76), .val (.int (x5 &&& (3 : Int32))), .val (.int (own_j0_5 x4)), .val (.int (own_j0_6 x4)), .val (.int (own_f2 (x4 &&& (63 : Int32)))), .val (.int (own_j0_2 x4))] []))
      refine own_go (fun t k => XS.iload X125.here hx rfl (hb hby at_630) rfl k) ?_
      show own_Goes p e below _ (T125.setTop (mkF m 632 #[.val (.int x0), .val (.int x1), .val (.int x2), .val (.long y3), .second, .val (.int x4), .val (.int x5), .val (.int (own_v0_1 x0)), .val (.int (own_v0_2 x1)), .val (.int (own_v0_3 x1)), .val (.int (own_v0_4 x2)), .val (.int (own_v0_5 x2)), .val (.int (own_v0_6 y3)), .val (.long (own_v0_7 y3)), .second, .val (.int (x4 &&& (63 : Int32))), .val (.int (own_v0_8 x4)), .val (.int (x5 &&& (3 : Int32))), .val (.int (own_v0_9 x5)), .val (.int (own_j0_1 x5)), .val (.int (own_v0_10 x5)), .val (.ref b76), .val (.int (x5 &&& (3 : Int32))), .val (.int (own_j0_5 x4)), .val (.int (own_j0_6 x4)), .val (.int (own_f2 (x4 &&& (63 : Int32)))), .val (.int (own_j0_2 x4))] [(.int (own_j0_1 x5))]))
      refine own_go (fun t k => XS.bipush X125.here hx rfl (hb hby at_632) k) ?_
      show own_Goes p e below _ (T125.setTop (mkF m 634 #[.val (.int x0), .val (.int x1), .val (.int x2), .val (.long y3), .second, .val (.int x4), .val (.int x5), .val (.int (own_v0_1 x0)), .val (.int (own_v0_2 x1)), .val (.int (own_v0_3 x1)), .val (.int (own_v0_4 x2)), .val (.int (own_v0_5 x2)), .val (.int (own_v0_6 y3)), .val (.long (own_v0_7 y3)), .second, .val (.int (x4 &&& (63 : Int32))), .val (.int (own_v0_8 x4)), .val (.int (x5 &&& (3 : Int32))), .val (.int (own_v0_9 x5)), .val (.int (own_j0_1 x5)), .val (.int (own_v0_10 x5)), .val (.ref b76), .val (.int (x5 &&& (3 : Int32))), .val (.int (own_j0_5 x4)), .val (.int (own_j0_6 x4)), .val (.int (own_f2 (x4 &&& (63 : Int32)))), .val (.int (own_j0_2 x4))] [(.int (27 : Int32)), (.int (own_j0_1 x5))]))
      suffices HH149 : ∀ (T149 : State) (L149 : List Loc) (X149 : Stand p l e room_1 s m #[(.int x0), (.int x1), (.int x2), (.long y3), (.int x4), (.int x5)] below meth c T149 L149 1 32) (e149 : T149.heap = h123) (N149 : Fr n0 L149), own_Goes p e below (own_End s room_1 (own_Q0 x0 x1 x2 y3 x4 x5 s_F h0 n0)) (T149.setTop (mkF m 699 #[.val (.int x0), .val (.int x1), .val (.int x2), .val (.long y3), .second, .val (.int x4), .val (.int x5), .val (.int (own_v0_1 x0)), .val (.int (own_v0_2 x1)), .val (.int (own_v0_3 x1)), .val (.int (own_v0_4 x2)), .val (.int (own_v0_5 x2)), .val (.int (own_v0_6 y3)), .val (.long (own_v0_7 y3)), .second, .val (.int (x4 &&& (63 : Int32))), .val (.int (own_v0_8 x4)), .val (.int (x5 &&& (3 : Int32))), .val (.int (own_v0_9 x5)), .val (.int (own_j0_1 x5)), .val (.int (own_v0_10 x5)), .val (.ref b76), .val (.int (x5 &&& (3 : Int32))), .val (.int (own_j0_5 x4)), .val (.int (own_j0_6 x4)), .val (.int (own_f2 (x4 &&& (63 : Int32)))), .val (.int (own_j0_2 x4))] [(.int (own_j0_7 x0 x1 x2 y3 x4 x5))])) by
        by_cases hc139 : (own_j0_1 x5) = (27 : Int32)
        · refine own_go (fun t k => XS.icmpNo X125.here hx rfl (hb hby at_634) rfl (teq hc139).2 k) ?_
          show own_Goes p e below _ (T125.setTop (mkF m 637 #[.val (.int x0), .val (.int x1), .val (.int x2), .val (.long y3), .second, .val (.int x4), .val (.int x5), .val (.int (own_v0_1 x0)), .val (.int (own_v0_2 x1)), .val (.int (own_v0_3 x1)), .val (.int (own_v0_4 x2)), .val (.int (own_v0_5 x2)), .val (.int (own_v0_6 y3)), .val (.long (own_v0_7 y3)), .second, .val (.int (x4 &&& (63 : Int32))), .val (.int (own_v0_8 x4)), .val (.int (x5 &&& (3 : Int32))), .val (.int (own_v0_9 x5)), .val (.int (own_j0_1 x5)), .val (.int (own_v0_10 x5)), .val (.ref b76), .val (.int (x5 &&& (3 : Int32))), .val (.int (own_j0_5 x4)), .val (.int (own_j0_6 x4)), .val (.int (own_f2 (x4 &&& (63 : Int32)))), .val (.int (own_j0_2 x4))] []))
          refine own_go (fun t k => XS.iload X125.here hx rfl (hb hby at_637) rfl k) ?_
          show own_Goes p e below _ (T125.setTop (mkF m 639 #[.val (.int x0), .val (.int x1), .val (.int x2), .val (.long y3), .second, .val (.int x4), .val (.int x5), .val (.int (own_v0_1 x0)), .val (.int (own_v0_2 x1)), .val (.int (own_v0_3 x1)), .val (.int (own_v0_4 x2)), .val (.int (own_v0_5 x2)), .val (.int (own_v0_6 y3)), .val (.long (own_v0_7 y3)), .second, .val (.int (x4 &&& (63 : Int32))), .val (.int (own_v0_8 x4)), .val (.int (x5 &&& (3 : Int32))), .val (.int (own_v0_9 x5)), .val (.int (own_j0_1 x5)), .val (.int (own_v0_10 x5)), .val (.ref b76), .val (.int (x5 &&& (3 : Int32))), .val (.int (own_j0_5 x4)), .val (.int (own_j0_6 x4)), .val (.int (own_f2 (x4 &&& (63 : Int32)))), .val (.int (own_j0_2 x4))] [(.int (own_j0_6 x4))]))
          by_cases hc140 : (own_j0_6 x4) = (0 : Int32)
          · refine own_go (fun t k => XS.ifYes X125.here hx rfl (pc0 := 639) (pc' := 698) rfl (hb hby at_639) rfl ((if0 _ _).trans (teq hc140).1) (by decide) (by decide) k) ?_
            show own_Goes p e below _ (T125.setTop (mkF m 698 #[.val (.int x0), .val (.int x1), .val (.int x2), .val (.long y3), .second, .val (.int x4), .val (.int x5), .val (.int (own_v0_1 x0)), .val (.int (own_v0_2 x1)), .val (.int (own_v0_3 x1)), .val (.int (own_v0_4 x2)), .val (.int (own_v0_5 x2)), .val (.int (own_v0_6 y3)), .val (.long (own_v0_7 y3)), .second, .val (.int (x4 &&& (63 : Int32))), .val (.int (own_v0_8 x4)), .val (.int (x5 &&& (3 : Int32))), .val (.int (own_v0_9 x5)), .val (.int (own_j0_1 x5)), .val (.int (own_v0_10 x5)), .val (.ref b76), .val (.int (x5 &&& (3 : Int32))), .val (.int (own_j0_5 x4)), .val (.int (own_j0_6 x4)), .val (.int (own_f2 (x4 &&& (63 : Int32)))), .val (.int (own_j0_2 x4))] []))
            refine own_go (fun t k => XS.iconst X125.here hx rfl (hb hby at_698) k) ?_
            rw [show (own_j0_7 x0 x1 x2 y3 x4 x5) = (0 : Int32) from by rw [own_j0_7, if_pos hc139, if_pos hc140]] at HH149
            exact HH149 _ _ X125 e125 N125
          · refine own_go (fun t k => XS.ifNo X125.here hx rfl (hb hby at_639) rfl ((if0 _ _).trans (feq hc140).1) k) ?_
            show own_Goes p e below _ (T125.setTop (mkF m 642 #[.val (.int x0), .val (.int x1), .val (.int x2), .val (.long y3), .second, .val (.int x4), .val (.int x5), .val (.int (own_v0_1 x0)), .val (.int (own_v0_2 x1)), .val (.int (own_v0_3 x1)), .val (.int (own_v0_4 x2)), .val (.int (own_v0_5 x2)), .val (.int (own_v0_6 y3)), .val (.long (own_v0_7 y3)), .second, .val (.int (x4 &&& (63 : Int32))), .val (.int (own_v0_8 x4)), .val (.int (x5 &&& (3 : Int32))), .val (.int (own_v0_9 x5)), .val (.int (own_j0_1 x5)), .val (.int (own_v0_10 x5)), .val (.ref b76), .val (.int (x5 &&& (3 : Int32))), .val (.int (own_j0_5 x4)), .val (.int (own_j0_6 x4)), .val (.int (own_f2 (x4 &&& (63 : Int32)))), .val (.int (own_j0_2 x4))] []))
            refine own_go (fun t k => XS.iload X125.here hx rfl (hb hby at_642) rfl k) ?_
            show own_Goes p e below _ (T125.setTop (mkF m 644 #[.val (.int x0), .val (.int x1), .val (.int x2), .val (.long y3), .second, .val (.int x4), .val (.int x5), .val (.int (own_v0_1 x0)), .val (.int (own_v0_2 x1)), .val (.int (own_v0_3 x1)), .val (.int (own_v0_4 x2)), .val (.int (own_v0_5 x2)), .val (.int (own_v0_6 y3)), .val (.long (own_v0_7 y3)), .second, .val (.int (x4 &&& (63 : Int32))), .val (.int (own_v0_8 x4)), .val (.int (x5 &&& (3 : Int32))), .val (.int (own_v0_9 x5)), .val (.int (own_j0_1 x5)), .val (.int (own_v0_10 x5)), .val (.ref b76), .val (.int (x5 &&& (3 : Int32))), .val (.int (own_j0_5 x4)), .val (.int (own_j0_6 x4)), .val (.int (own_f2 (x4 &&& (63 : Int32)))), .val (.int (own_j0_2 x4))] [(.int (own_v0_2 x1))]))
            refine own_go (fun t k => XS.iconst X125.here hx rfl (hb hby at_644) k) ?_
            show own_Goes p e below _ (T125.setTop (mkF m 645 #[.val (.int x0), .val (.int x1), .val (.int x2), .val (.long y3), .second, .val (.int x4), .val (.int x5), .val (.int (own_v0_1 x0)), .val (.int (own_v0_2 x1)), .val (.int (own_v0_3 x1)), .val (.int (own_v0_4 x2)), .val (.int (own_v0_5 x2)), .val (.int (own_v0_6 y3)), .val (.long (own_v0_7 y3)), .second, .val (.int (x4 &&& (63 : Int32))), .val (.int (own_v0_8 x4)), .val (.int (x5 &&& (3 : Int32))), .val (.int (own_v0_9 x5)), .val (.int (own_j0_1 x5)), .val (.int (own_v0_10 x5)), .val (.ref b76), .val (.int (x5 &&& (3 : Int32))), .val (.int (own_j0_5 x4)), .val (.int (own_j0_6 x4)), .val (.int (own_f2 (x4 &&& (63 : Int32)))), .val (.int (own_j0_2 x4))] [(.int (1 : Int32)), (.int (own_v0_2 x1))]))
            by_cases hc141 : (own_v0_2 x1) < (1 : Int32)
            · refine own_go (fun t k => XS.icmpYes X125.here hx rfl (pc0 := 645) (pc' := 698) rfl (hb hby at_645) rfl (tlt hc141).1 (by decide) (by decide) k) ?_
              show own_Goes p e below _ (T125.setTop (mkF m 698 #[.val (.int x0), .val (.int x1), .val (.int x2), .val (.long y3), .second, .val (.int x4), .val (.int x5), .val (.int (own_v0_1 x0)), .val (.int (own_v0_2 x1)), .val (.int (own_v0_3 x1)), .val (.int (own_v0_4 x2)), .val (.int (own_v0_5 x2)), .val (.int (own_v0_6 y3)), .val (.long (own_v0_7 y3)), .second, .val (.int (x4 &&& (63 : Int32))), .val (.int (own_v0_8 x4)), .val (.int (x5 &&& (3 : Int32))), .val (.int (own_v0_9 x5)), .val (.int (own_j0_1 x5)), .val (.int (own_v0_10 x5)), .val (.ref b76), .val (.int (x5 &&& (3 : Int32))), .val (.int (own_j0_5 x4)), .val (.int (own_j0_6 x4)), .val (.int (own_f2 (x4 &&& (63 : Int32)))), .val (.int (own_j0_2 x4))] []))
              refine own_go (fun t k => XS.iconst X125.here hx rfl (hb hby at_698) k) ?_
              rw [show (own_j0_7 x0 x1 x2 y3 x4 x5) = (0 : Int32) from by rw [own_j0_7, if_pos hc139, if_neg hc140, if_pos hc141]] at HH149
              exact HH149 _ _ X125 e125 N125
            · refine own_go (fun t k => XS.icmpNo X125.here hx rfl (hb hby at_645) rfl (flt hc141).1 k) ?_
              show own_Goes p e below _ (T125.setTop (mkF m 648 #[.val (.int x0), .val (.int x1), .val (.int x2), .val (.long y3), .second, .val (.int x4), .val (.int x5), .val (.int (own_v0_1 x0)), .val (.int (own_v0_2 x1)), .val (.int (own_v0_3 x1)), .val (.int (own_v0_4 x2)), .val (.int (own_v0_5 x2)), .val (.int (own_v0_6 y3)), .val (.long (own_v0_7 y3)), .second, .val (.int (x4 &&& (63 : Int32))), .val (.int (own_v0_8 x4)), .val (.int (x5 &&& (3 : Int32))), .val (.int (own_v0_9 x5)), .val (.int (own_j0_1 x5)), .val (.int (own_v0_10 x5)), .val (.ref b76), .val (.int (x5 &&& (3 : Int32))), .val (.int (own_j0_5 x4)), .val (.int (own_j0_6 x4)), .val (.int (own_f2 (x4 &&& (63 : Int32)))), .val (.int (own_j0_2 x4))] []))
              refine own_go (fun t k => XS.iload X125.here hx rfl (hb hby at_648) rfl k) ?_
              show own_Goes p e below _ (T125.setTop (mkF m 650 #[.val (.int x0), .val (.int x1), .val (.int x2), .val (.long y3), .second, .val (.int x4), .val (.int x5), .val (.int (own_v0_1 x0)), .val (.int (own_v0_2 x1)), .val (.int (own_v0_3 x1)), .val (.int (own_v0_4 x2)), .val (.int (own_v0_5 x2)), .val (.int (own_v0_6 y3)), .val (.long (own_v0_7 y3)), .second, .val (.int (x4 &&& (63 : Int32))), .val (.int (own_v0_8 x4)), .val (.int (x5 &&& (3 : Int32))), .val (.int (own_v0_9 x5)), .val (.int (own_j0_1 x5)), .val (.int (own_v0_10 x5)), .val (.ref b76), .val (.int (x5 &&& (3 : Int32))), .val (.int (own_j0_5 x4)), .val (.int (own_j0_6 x4)), .val (.int (own_f2 (x4 &&& (63 : Int32)))), .val (.int (own_j0_2 x4))] [(.int (own_v0_2 x1))]))
              refine own_go (fun t k => XS.bipush X125.here hx rfl (hb hby at_650) k) ?_
              show own_Goes p e below _ (T125.setTop (mkF m 652 #[.val (.int x0), .val (.int x1), .val (.int x2), .val (.long y3), .second, .val (.int x4), .val (.int x5), .val (.int (own_v0_1 x0)), .val (.int (own_v0_2 x1)), .val (.int (own_v0_3 x1)), .val (.int (own_v0_4 x2)), .val (.int (own_v0_5 x2)), .val (.int (own_v0_6 y3)), .val (.long (own_v0_7 y3)), .second, .val (.int (x4 &&& (63 : Int32))), .val (.int (own_v0_8 x4)), .val (.int (x5 &&& (3 : Int32))), .val (.int (own_v0_9 x5)), .val (.int (own_j0_1 x5)), .val (.int (own_v0_10 x5)), .val (.ref b76), .val (.int (x5 &&& (3 : Int32))), .val (.int (own_j0_5 x4)), .val (.int (own_j0_6 x4)), .val (.int (own_f2 (x4 &&& (63 : Int32)))), .val (.int (own_j0_2 x4))] [(.int (12 : Int32)), (.int (own_v0_2 x1))]))
              by_cases hc142 : (12 : Int32) < (own_v0_2 x1)
              · refine own_go (fun t k => XS.icmpYes X125.here hx rfl (pc0 := 652) (pc' := 698) rfl (hb hby at_652) rfl (tlt hc142).2.2.1 (by decide) (by decide) k) ?_
                show own_Goes p e below _ (T125.setTop (mkF m 698 #[.val (.int x0), .val (.int x1), .val (.int x2), .val (.long y3), .second, .val (.int x4), .val (.int x5), .val (.int (own_v0_1 x0)), .val (.int (own_v0_2 x1)), .val (.int (own_v0_3 x1)), .val (.int (own_v0_4 x2)), .val (.int (own_v0_5 x2)), .val (.int (own_v0_6 y3)), .val (.long (own_v0_7 y3)), .second, .val (.int (x4 &&& (63 : Int32))), .val (.int (own_v0_8 x4)), .val (.int (x5 &&& (3 : Int32))), .val (.int (own_v0_9 x5)), .val (.int (own_j0_1 x5)), .val (.int (own_v0_10 x5)), .val (.ref b76), .val (.int (x5 &&& (3 : Int32))), .val (.int (own_j0_5 x4)), .val (.int (own_j0_6 x4)), .val (.int (own_f2 (x4 &&& (63 : Int32)))), .val (.int (own_j0_2 x4))] []))
                refine own_go (fun t k => XS.iconst X125.here hx rfl (hb hby at_698) k) ?_
                rw [show (own_j0_7 x0 x1 x2 y3 x4 x5) = (0 : Int32) from by rw [own_j0_7, if_pos hc139, if_neg hc140, if_neg hc141, if_pos hc142]] at HH149
                exact HH149 _ _ X125 e125 N125
              · refine own_go (fun t k => XS.icmpNo X125.here hx rfl (hb hby at_652) rfl (flt hc142).2.2.1 k) ?_
                show own_Goes p e below _ (T125.setTop (mkF m 655 #[.val (.int x0), .val (.int x1), .val (.int x2), .val (.long y3), .second, .val (.int x4), .val (.int x5), .val (.int (own_v0_1 x0)), .val (.int (own_v0_2 x1)), .val (.int (own_v0_3 x1)), .val (.int (own_v0_4 x2)), .val (.int (own_v0_5 x2)), .val (.int (own_v0_6 y3)), .val (.long (own_v0_7 y3)), .second, .val (.int (x4 &&& (63 : Int32))), .val (.int (own_v0_8 x4)), .val (.int (x5 &&& (3 : Int32))), .val (.int (own_v0_9 x5)), .val (.int (own_j0_1 x5)), .val (.int (own_v0_10 x5)), .val (.ref b76), .val (.int (x5 &&& (3 : Int32))), .val (.int (own_j0_5 x4)), .val (.int (own_j0_6 x4)), .val (.int (own_f2 (x4 &&& (63 : Int32)))), .val (.int (own_j0_2 x4))] []))
                refine own_go (fun t k => XS.iload X125.here hx rfl (hb hby at_655) rfl k) ?_
                show own_Goes p e below _ (T125.setTop (mkF m 657 #[.val (.int x0), .val (.int x1), .val (.int x2), .val (.long y3), .second, .val (.int x4), .val (.int x5), .val (.int (own_v0_1 x0)), .val (.int (own_v0_2 x1)), .val (.int (own_v0_3 x1)), .val (.int (own_v0_4 x2)), .val (.int (own_v0_5 x2)), .val (.int (own_v0_6 y3)), .val (.long (own_v0_7 y3)), .second, .val (.int (x4 &&& (63 : Int32))), .val (.int (own_v0_8 x4)), .val (.int (x5 &&& (3 : Int32))), .val (.int (own_v0_9 x5)), .val (.int (own_j0_1 x5)), .val (.int (own_v0_10 x5)), .val (.ref b76), .val (.int (x5 &&& (3 : Int32))), .val (.int (own_j0_5 x4)), .val (.int (own_j0_6 x4)), .val (.int (own_f2 (x4 &&& (63 : Int32)))), .val (.int (own_j0_2 x4))] [(.int (own_v0_3 x1))]))
                refine own_go (fun t k => XS.iconst X125.here hx rfl (hb hby at_657) k) ?_
                show own_Goes p e below _ (T125.setTop (mkF m 658 #[.val (.int x0), .val (.int x1), .val (.int x2), .val (.long y3), .second, .val (.int x4), .val (.int x5), .val (.int (own_v0_1 x0)), .val (.int (own_v0_2 x1)), .val (.int (own_v0_3 x1)), .val (.int (own_v0_4 x2)), .val (.int (own_v0_5 x2)), .val (.int (own_v0_6 y3)), .val (.long (own_v0_7 y3)), .second, .val (.int (x4 &&& (63 : Int32))), .val (.int (own_v0_8 x4)), .val (.int (x5 &&& (3 : Int32))), .val (.int (own_v0_9 x5)), .val (.int (own_j0_1 x5)), .val (.int (own_v0_10 x5)), .val (.ref b76), .val (.int (x5 &&& (3 : Int32))), .val (.int (own_j0_5 x4)), .val (.int (own_j0_6 x4)), .val (.int (own_f2 (x4 &&& (63 : Int32)))), .val (.int (own_j0_2 x4))] [(.int (1 : Int32)), (.int (own_v0_3 x1))]))
                by_cases hc143 : (own_v0_3 x1) < (1 : Int32)
                · refine own_go (fun t k => XS.icmpYes X125.here hx rfl (pc0 := 658) (pc' := 698) rfl (hb hby at_658) rfl (tlt hc143).1 (by decide) (by decide) k) ?_
                  show own_Goes p e below _ (T125.setTop (mkF m 698 #[.val (.int x0), .val (.int x1), .val (.int x2), .val (.long y3), .second, .val (.int x4), .val (.int x5), .val (.int (own_v0_1 x0)), .val (.int (own_v0_2 x1)), .val (.int (own_v0_3 x1)), .val (.int (own_v0_4 x2)), .val (.int (own_v0_5 x2)), .val (.int (own_v0_6 y3)), .val (.long (own_v0_7 y3)), .second, .val (.int (x4 &&& (63 : Int32))), .val (.int (own_v0_8 x4)), .val (.int (x5 &&& (3 : Int32))), .val (.int (own_v0_9 x5)), .val (.int (own_j0_1 x5)), .val (.int (own_v0_10 x5)), .val (.ref b76), .val (.int (x5 &&& (3 : Int32))), .val (.int (own_j0_5 x4)), .val (.int (own_j0_6 x4)), .val (.int (own_f2 (x4 &&& (63 : Int32)))), .val (.int (own_j0_2 x4))] []))
                  refine own_go (fun t k => XS.iconst X125.here hx rfl (hb hby at_698) k) ?_
                  rw [show (own_j0_7 x0 x1 x2 y3 x4 x5) = (0 : Int32) from by rw [own_j0_7, if_pos hc139, if_neg hc140, if_neg hc141, if_neg hc142, if_pos hc143]] at HH149
                  exact HH149 _ _ X125 e125 N125
                · refine own_go (fun t k => XS.icmpNo X125.here hx rfl (hb hby at_658) rfl (flt hc143).1 k) ?_
                  show own_Goes p e below _ (T125.setTop (mkF m 661 #[.val (.int x0), .val (.int x1), .val (.int x2), .val (.long y3), .second, .val (.int x4), .val (.int x5), .val (.int (own_v0_1 x0)), .val (.int (own_v0_2 x1)), .val (.int (own_v0_3 x1)), .val (.int (own_v0_4 x2)), .val (.int (own_v0_5 x2)), .val (.int (own_v0_6 y3)), .val (.long (own_v0_7 y3)), .second, .val (.int (x4 &&& (63 : Int32))), .val (.int (own_v0_8 x4)), .val (.int (x5 &&& (3 : Int32))), .val (.int (own_v0_9 x5)), .val (.int (own_j0_1 x5)), .val (.int (own_v0_10 x5)), .val (.ref b76), .val (.int (x5 &&& (3 : Int32))), .val (.int (own_j0_5 x4)), .val (.int (own_j0_6 x4)), .val (.int (own_f2 (x4 &&& (63 : Int32)))), .val (.int (own_j0_2 x4))] []))
                  refine own_go (fun t k => XS.iload X125.here hx rfl (hb hby at_661) rfl k) ?_
                  show own_Goes p e below _ (T125.setTop (mkF m 663 #[.val (.int x0), .val (.int x1), .val (.int x2), .val (.long y3), .second, .val (.int x4), .val (.int x5), .val (.int (own_v0_1 x0)), .val (.int (own_v0_2 x1)), .val (.int (own_v0_3 x1)), .val (.int (own_v0_4 x2)), .val (.int (own_v0_5 x2)), .val (.int (own_v0_6 y3)), .val (.long (own_v0_7 y3)), .second, .val (.int (x4 &&& (63 : Int32))), .val (.int (own_v0_8 x4)), .val (.int (x5 &&& (3 : Int32))), .val (.int (own_v0_9 x5)), .val (.int (own_j0_1 x5)), .val (.int (own_v0_10 x5)), .val (.ref b76), .val (.int (x5 &&& (3 : Int32))), .val (.int (own_j0_5 x4)), .val (.int (own_j0_6 x4)), .val (.int (own_f2 (x4 &&& (63 : Int32)))), .val (.int (own_j0_2 x4))] [(.int (own_v0_3 x1))]))
                  refine own_go (fun t k => XS.iload X125.here hx rfl (hb hby at_663) rfl k) ?_
                  show own_Goes p e below _ (T125.setTop (mkF m 665 #[.val (.int x0), .val (.int x1), .val (.int x2), .val (.long y3), .second, .val (.int x4), .val (.int x5), .val (.int (own_v0_1 x0)), .val (.int (own_v0_2 x1)), .val (.int (own_v0_3 x1)), .val (.int (own_v0_4 x2)), .val (.int (own_v0_5 x2)), .val (.int (own_v0_6 y3)), .val (.long (own_v0_7 y3)), .second, .val (.int (x4 &&& (63 : Int32))), .val (.int (own_v0_8 x4)), .val (.int (x5 &&& (3 : Int32))), .val (.int (own_v0_9 x5)), .val (.int (own_j0_1 x5)), .val (.int (own_v0_10 x5)), .val (.ref b76), .val (.int (x5 &&& (3 : Int32))), .val (.int (own_j0_5 x4)), .val (.int (own_j0_6 x4)), .val (.int (own_f2 (x4 &&& (63 : Int32)))), .val (.int (own_j0_2 x4))] [(.int (own_v0_2 x1)), (.int (own_v0_3 x1))]))
                  refine own_go (fun t k => XS.iload X125.here hx rfl (hb hby at_665) rfl k) ?_
                  show own_Goes p e below _ (T125.setTop (mkF m 667 #[.val (.int x0), .val (.int x1), .val (.int x2), .val (.long y3), .second, .val (.int x4), .val (.int x5), .val (.int (own_v0_1 x0)), .val (.int (own_v0_2 x1)), .val (.int (own_v0_3 x1)), .val (.int (own_v0_4 x2)), .val (.int (own_v0_5 x2)), .val (.int (own_v0_6 y3)), .val (.long (own_v0_7 y3)), .second, .val (.int (x4 &&& (63 : Int32))), .val (.int (own_v0_8 x4)), .val (.int (x5 &&& (3 : Int32))), .val (.int (own_v0_9 x5)), .val (.int (own_j0_1 x5)), .val (.int (own_v0_10 x5)), .val (.ref b76), .val (.int (x5 &&& (3 : Int32))), .val (.int (own_j0_5 x4)), .val (.int (own_j0_6 x4)), .val (.int (own_f2 (x4 &&& (63 : Int32)))), .val (.int (own_j0_2 x4))] [(.int (own_v0_1 x0)), (.int (own_v0_2 x1)), (.int (own_v0_3 x1))]))
                  obtain ⟨_, T144, L144, X144, ⟨rfl, N144q, e144⟩, st144⟩ := own_callS X125 hx hZ hown (hw _ own_t26) (hw _ own_t27) (hw _ own_t9) (hw _ own_t28) (by decide) (as := [(.int (own_v0_2 x1)), (.int (own_v0_1 x0))]) (rm5 l Z a0 hw [] (own_v0_2 x1) (own_v0_1 x0) h123 n0) e125 own_pd1 rfl (pc := 667) (Ls := #[.val (.int x0), .val (.int x1), .val (.int x2), .val (.long y3), .second, .val (.int x4), .val (.int x5), .val (.int (own_v0_1 x0)), .val (.int (own_v0_2 x1)), .val (.int (own_v0_3 x1)), .val (.int (own_v0_4 x2)), .val (.int (own_v0_5 x2)), .val (.int (own_v0_6 y3)), .val (.long (own_v0_7 y3)), .second, .val (.int (x4 &&& (63 : Int32))), .val (.int (own_v0_8 x4)), .val (.int (x5 &&& (3 : Int32))), .val (.int (own_v0_9 x5)), .val (.int (own_j0_1 x5)), .val (.int (own_v0_10 x5)), .val (.ref b76), .val (.int (x5 &&& (3 : Int32))), .val (.int (own_j0_5 x4)), .val (.int (own_j0_6 x4)), .val (.int (own_f2 (x4 &&& (63 : Int32)))), .val (.int (own_j0_2 x4))]) (rest := [(.int (own_v0_3 x1))]) (W := 1) (by rw [hml]; rfl) (Nat.le_of_eq rfl) (by decide) (by decide) (hb hby at_667) (by decide) (by decide)
                  have N144 := Fr.app N125 N144q
                  refine own_go st144 ?_
                  show own_Goes p e below _ (T144.setTop (mkF m 670 #[.val (.int x0), .val (.int x1), .val (.int x2), .val (.long y3), .second, .val (.int x4), .val (.int x5), .val (.int (own_v0_1 x0)), .val (.int (own_v0_2 x1)), .val (.int (own_v0_3 x1)), .val (.int (own_v0_4 x2)), .val (.int (own_v0_5 x2)), .val (.int (own_v0_6 y3)), .val (.long (own_v0_7 y3)), .second, .val (.int (x4 &&& (63 : Int32))), .val (.int (own_v0_8 x4)), .val (.int (x5 &&& (3 : Int32))), .val (.int (own_v0_9 x5)), .val (.int (own_j0_1 x5)), .val (.int (own_v0_10 x5)), .val (.ref b76), .val (.int (x5 &&& (3 : Int32))), .val (.int (own_j0_5 x4)), .val (.int (own_j0_6 x4)), .val (.int (own_f2 (x4 &&& (63 : Int32)))), .val (.int (own_j0_2 x4))] [(.int (own_f5 (own_v0_2 x1) (own_v0_1 x0))), (.int (own_v0_3 x1))]))
                  by_cases hc145 : (own_f5 (own_v0_2 x1) (own_v0_1 x0)) < (own_v0_3 x1)
                  · refine own_go (fun t k => XS.icmpYes X144.here hx rfl (pc0 := 670) (pc' := 698) rfl (hb hby at_670) rfl (tlt hc145).2.2.1 (by decide) (by decide) k) ?_
                    show own_Goes p e below _ (T144.setTop (mkF m 698 #[.val (.int x0), .val (.int x1), .val (.int x2), .val (.long y3), .second, .val (.int x4), .val (.int x5), .val (.int (own_v0_1 x0)), .val (.int (own_v0_2 x1)), .val (.int (own_v0_3 x1)), .val (.int (own_v0_4 x2)), .val (.int (own_v0_5 x2)), .val (.int (own_v0_6 y3)), .val (.long (own_v0_7 y3)), .second, .val (.int (x4 &&& (63 : Int32))), .val (.int (own_v0_8 x4)), .val (.int (x5 &&& (3 : Int32))), .val (.int (own_v0_9 x5)), .val (.int (own_j0_1 x5)), .val (.int (own_v0_10 x5)), .val (.ref b76), .val (.int (x5 &&& (3 : Int32))), .val (.int (own_j0_5 x4)), .val (.int (own_j0_6 x4)), .val (.int (own_f2 (x4 &&& (63 : Int32)))), .val (.int (own_j0_2 x4))] []))
                    refine own_go (fun t k => XS.iconst X144.here hx rfl (hb hby at_698) k) ?_
                    rw [show (own_j0_7 x0 x1 x2 y3 x4 x5) = (0 : Int32) from by rw [own_j0_7, if_pos hc139, if_neg hc140, if_neg hc141, if_neg hc142, if_neg hc143, if_pos hc145]] at HH149
                    exact HH149 _ _ X144 e144 N144
                  · refine own_go (fun t k => XS.icmpNo X144.here hx rfl (hb hby at_670) rfl (flt hc145).2.2.1 k) ?_
                    show own_Goes p e below _ (T144.setTop (mkF m 673 #[.val (.int x0), .val (.int x1), .val (.int x2), .val (.long y3), .second, .val (.int x4), .val (.int x5), .val (.int (own_v0_1 x0)), .val (.int (own_v0_2 x1)), .val (.int (own_v0_3 x1)), .val (.int (own_v0_4 x2)), .val (.int (own_v0_5 x2)), .val (.int (own_v0_6 y3)), .val (.long (own_v0_7 y3)), .second, .val (.int (x4 &&& (63 : Int32))), .val (.int (own_v0_8 x4)), .val (.int (x5 &&& (3 : Int32))), .val (.int (own_v0_9 x5)), .val (.int (own_j0_1 x5)), .val (.int (own_v0_10 x5)), .val (.ref b76), .val (.int (x5 &&& (3 : Int32))), .val (.int (own_j0_5 x4)), .val (.int (own_j0_6 x4)), .val (.int (own_f2 (x4 &&& (63 : Int32)))), .val (.int (own_j0_2 x4))] []))
                    refine own_go (fun t k => XS.iload X144.here hx rfl (hb hby at_673) rfl k) ?_
                    show own_Goes p e below _ (T144.setTop (mkF m 675 #[.val (.int x0), .val (.int x1), .val (.int x2), .val (.long y3), .second, .val (.int x4), .val (.int x5), .val (.int (own_v0_1 x0)), .val (.int (own_v0_2 x1)), .val (.int (own_v0_3 x1)), .val (.int (own_v0_4 x2)), .val (.int (own_v0_5 x2)), .val (.int (own_v0_6 y3)), .val (.long (own_v0_7 y3)), .second, .val (.int (x4 &&& (63 : Int32))), .val (.int (own_v0_8 x4)), .val (.int (x5 &&& (3 : Int32))), .val (.int (own_v0_9 x5)), .val (.int (own_j0_1 x5)), .val (.int (own_v0_10 x5)), .val (.ref b76), .val (.int (x5 &&& (3 : Int32))), .val (.int (own_j0_5 x4)), .val (.int (own_j0_6 x4)), .val (.int (own_f2 (x4 &&& (63 : Int32)))), .val (.int (own_j0_2 x4))] [(.int (own_v0_4 x2))]))
                    refine own_go (fun t k => XS.bipush X144.here hx rfl (hb hby at_675) k) ?_
                    show own_Goes p e below _ (T144.setTop (mkF m 677 #[.val (.int x0), .val (.int x1), .val (.int x2), .val (.long y3), .second, .val (.int x4), .val (.int x5), .val (.int (own_v0_1 x0)), .val (.int (own_v0_2 x1)), .val (.int (own_v0_3 x1)), .val (.int (own_v0_4 x2)), .val (.int (own_v0_5 x2)), .val (.int (own_v0_6 y3)), .val (.long (own_v0_7 y3)), .second, .val (.int (x4 &&& (63 : Int32))), .val (.int (own_v0_8 x4)), .val (.int (x5 &&& (3 : Int32))), .val (.int (own_v0_9 x5)), .val (.int (own_j0_1 x5)), .val (.int (own_v0_10 x5)), .val (.ref b76), .val (.int (x5 &&& (3 : Int32))), .val (.int (own_j0_5 x4)), .val (.int (own_j0_6 x4)), .val (.int (own_f2 (x4 &&& (63 : Int32)))), .val (.int (own_j0_2 x4))] [(.int (23 : Int32)), (.int (own_v0_4 x2))]))
                    by_cases hc146 : (23 : Int32) < (own_v0_4 x2)
                    · refine own_go (fun t k => XS.icmpYes X144.here hx rfl (pc0 := 677) (pc' := 698) rfl (hb hby at_677) rfl (tlt hc146).2.2.1 (by decide) (by decide) k) ?_
                      show own_Goes p e below _ (T144.setTop (mkF m 698 #[.val (.int x0), .val (.int x1), .val (.int x2), .val (.long y3), .second, .val (.int x4), .val (.int x5), .val (.int (own_v0_1 x0)), .val (.int (own_v0_2 x1)), .val (.int (own_v0_3 x1)), .val (.int (own_v0_4 x2)), .val (.int (own_v0_5 x2)), .val (.int (own_v0_6 y3)), .val (.long (own_v0_7 y3)), .second, .val (.int (x4 &&& (63 : Int32))), .val (.int (own_v0_8 x4)), .val (.int (x5 &&& (3 : Int32))), .val (.int (own_v0_9 x5)), .val (.int (own_j0_1 x5)), .val (.int (own_v0_10 x5)), .val (.ref b76), .val (.int (x5 &&& (3 : Int32))), .val (.int (own_j0_5 x4)), .val (.int (own_j0_6 x4)), .val (.int (own_f2 (x4 &&& (63 : Int32)))), .val (.int (own_j0_2 x4))] []))
                      refine own_go (fun t k => XS.iconst X144.here hx rfl (hb hby at_698) k) ?_
                      rw [show (own_j0_7 x0 x1 x2 y3 x4 x5) = (0 : Int32) from by rw [own_j0_7, if_pos hc139, if_neg hc140, if_neg hc141, if_neg hc142, if_neg hc143, if_neg hc145, if_pos hc146]] at HH149
                      exact HH149 _ _ X144 e144 N144
                    · refine own_go (fun t k => XS.icmpNo X144.here hx rfl (hb hby at_677) rfl (flt hc146).2.2.1 k) ?_
                      show own_Goes p e below _ (T144.setTop (mkF m 680 #[.val (.int x0), .val (.int x1), .val (.int x2), .val (.long y3), .second, .val (.int x4), .val (.int x5), .val (.int (own_v0_1 x0)), .val (.int (own_v0_2 x1)), .val (.int (own_v0_3 x1)), .val (.int (own_v0_4 x2)), .val (.int (own_v0_5 x2)), .val (.int (own_v0_6 y3)), .val (.long (own_v0_7 y3)), .second, .val (.int (x4 &&& (63 : Int32))), .val (.int (own_v0_8 x4)), .val (.int (x5 &&& (3 : Int32))), .val (.int (own_v0_9 x5)), .val (.int (own_j0_1 x5)), .val (.int (own_v0_10 x5)), .val (.ref b76), .val (.int (x5 &&& (3 : Int32))), .val (.int (own_j0_5 x4)), .val (.int (own_j0_6 x4)), .val (.int (own_f2 (x4 &&& (63 : Int32)))), .val (.int (own_j0_2 x4))] []))
                      refine own_go (fun t k => XS.iload X144.here hx rfl (hb hby at_680) rfl k) ?_
                      show own_Goes p e below _ (T144.setTop (mkF m 682 #[.val (.int x0), .val (.int x1), .val (.int x2), .val (.long y3), .second, .val (.int x4), .val (.int x5), .val (.int (own_v0_1 x0)), .val (.int (own_v0_2 x1)), .val (.int (own_v0_3 x1)), .val (.int (own_v0_4 x2)), .val (.int (own_v0_5 x2)), .val (.int (own_v0_6 y3)), .val (.long (own_v0_7 y3)), .second, .val (.int (x4 &&& (63 : Int32))), .val (.int (own_v0_8 x4)), .val (.int (x5 &&& (3 : Int32))), .val (.int (own_v0_9 x5)), .val (.int (own_j0_1 x5)), .val (.int (own_v0_10 x5)), .val (.ref b76), .val (.int (x5 &&& (3 : Int32))), .val (.int (own_j0_5 x4)), .val (.int (own_j0_6 x4)), .val (.int (own_f2 (x4 &&& (63 : Int32)))), .val (.int (own_j0_2 x4))] [(.int (own_v0_5 x2))]))
                      refine own_go (fun t k => XS.bipush X144.here hx rfl (hb hby at_682) k) ?_
                      show own_Goes p e below _ (T144.setTop (mkF m 684 #[.val (.int x0), .val (.int x1), .val (.int x2), .val (.long y3), .second, .val (.int x4), .val (.int x5), .val (.int (own_v0_1 x0)), .val (.int (own_v0_2 x1)), .val (.int (own_v0_3 x1)), .val (.int (own_v0_4 x2)), .val (.int (own_v0_5 x2)), .val (.int (own_v0_6 y3)), .val (.long (own_v0_7 y3)), .second, .val (.int (x4 &&& (63 : Int32))), .val (.int (own_v0_8 x4)), .val (.int (x5 &&& (3 : Int32))), .val (.int (own_v0_9 x5)), .val (.int (own_j0_1 x5)), .val (.int (own_v0_10 x5)), .val (.ref b76), .val (.int (x5 &&& (3 : Int32))), .val (.int (own_j0_5 x4)), .val (.int (own_j0_6 x4)), .val (.int (own_f2 (x4 &&& (63 : Int32)))), .val (.int (own_j0_2 x4))] [(.int (59 : Int32)), (.int (own_v0_5 x2))]))
                      by_cases hc147 : (59 : Int32) < (own_v0_5 x2)
                      · refine own_go (fun t k => XS.icmpYes X144.here hx rfl (pc0 := 684) (pc' := 698) rfl (hb hby at_684) rfl (tlt hc147).2.2.1 (by decide) (by decide) k) ?_
                        show own_Goes p e below _ (T144.setTop (mkF m 698 #[.val (.int x0), .val (.int x1), .val (.int x2), .val (.long y3), .second, .val (.int x4), .val (.int x5), .val (.int (own_v0_1 x0)), .val (.int (own_v0_2 x1)), .val (.int (own_v0_3 x1)), .val (.int (own_v0_4 x2)), .val (.int (own_v0_5 x2)), .val (.int (own_v0_6 y3)), .val (.long (own_v0_7 y3)), .second, .val (.int (x4 &&& (63 : Int32))), .val (.int (own_v0_8 x4)), .val (.int (x5 &&& (3 : Int32))), .val (.int (own_v0_9 x5)), .val (.int (own_j0_1 x5)), .val (.int (own_v0_10 x5)), .val (.ref b76), .val (.int (x5 &&& (3 : Int32))), .val (.int (own_j0_5 x4)), .val (.int (own_j0_6 x4)), .val (.int (own_f2 (x4 &&& (63 : Int32)))), .val (.int (own_j0_2 x4))] []))
                        refine own_go (fun t k => XS.iconst X144.here hx rfl (hb hby at_698) k) ?_
                        rw [show (own_j0_7 x0 x1 x2 y3 x4 x5) = (0 : Int32) from by rw [own_j0_7, if_pos hc139, if_neg hc140, if_neg hc141, if_neg hc142, if_neg hc143, if_neg hc145, if_neg hc146, if_pos hc147]] at HH149
                        exact HH149 _ _ X144 e144 N144
                      · refine own_go (fun t k => XS.icmpNo X144.here hx rfl (hb hby at_684) rfl (flt hc147).2.2.1 k) ?_
                        show own_Goes p e below _ (T144.setTop (mkF m 687 #[.val (.int x0), .val (.int x1), .val (.int x2), .val (.long y3), .second, .val (.int x4), .val (.int x5), .val (.int (own_v0_1 x0)), .val (.int (own_v0_2 x1)), .val (.int (own_v0_3 x1)), .val (.int (own_v0_4 x2)), .val (.int (own_v0_5 x2)), .val (.int (own_v0_6 y3)), .val (.long (own_v0_7 y3)), .second, .val (.int (x4 &&& (63 : Int32))), .val (.int (own_v0_8 x4)), .val (.int (x5 &&& (3 : Int32))), .val (.int (own_v0_9 x5)), .val (.int (own_j0_1 x5)), .val (.int (own_v0_10 x5)), .val (.ref b76), .val (.int (x5 &&& (3 : Int32))), .val (.int (own_j0_5 x4)), .val (.int (own_j0_6 x4)), .val (.int (own_f2 (x4 &&& (63 : Int32)))), .val (.int (own_j0_2 x4))] []))
                        refine own_go (fun t k => XS.iload X144.here hx rfl (hb hby at_687) rfl k) ?_
                        show own_Goes p e below _ (T144.setTop (mkF m 689 #[.val (.int x0), .val (.int x1), .val (.int x2), .val (.long y3), .second, .val (.int x4), .val (.int x5), .val (.int (own_v0_1 x0)), .val (.int (own_v0_2 x1)), .val (.int (own_v0_3 x1)), .val (.int (own_v0_4 x2)), .val (.int (own_v0_5 x2)), .val (.int (own_v0_6 y3)), .val (.long (own_v0_7 y3)), .second, .val (.int (x4 &&& (63 : Int32))), .val (.int (own_v0_8 x4)), .val (.int (x5 &&& (3 : Int32))), .val (.int (own_v0_9 x5)), .val (.int (own_j0_1 x5)), .val (.int (own_v0_10 x5)), .val (.ref b76), .val (.int (x5 &&& (3 : Int32))), .val (.int (own_j0_5 x4)), .val (.int (own_j0_6 x4)), .val (.int (own_f2 (x4 &&& (63 : Int32)))), .val (.int (own_j0_2 x4))] [(.int (own_v0_6 y3))]))
                        refine own_go (fun t k => XS.bipush X144.here hx rfl (hb hby at_689) k) ?_
                        show own_Goes p e below _ (T144.setTop (mkF m 691 #[.val (.int x0), .val (.int x1), .val (.int x2), .val (.long y3), .second, .val (.int x4), .val (.int x5), .val (.int (own_v0_1 x0)), .val (.int (own_v0_2 x1)), .val (.int (own_v0_3 x1)), .val (.int (own_v0_4 x2)), .val (.int (own_v0_5 x2)), .val (.int (own_v0_6 y3)), .val (.long (own_v0_7 y3)), .second, .val (.int (x4 &&& (63 : Int32))), .val (.int (own_v0_8 x4)), .val (.int (x5 &&& (3 : Int32))), .val (.int (own_v0_9 x5)), .val (.int (own_j0_1 x5)), .val (.int (own_v0_10 x5)), .val (.ref b76), .val (.int (x5 &&& (3 : Int32))), .val (.int (own_j0_5 x4)), .val (.int (own_j0_6 x4)), .val (.int (own_f2 (x4 &&& (63 : Int32)))), .val (.int (own_j0_2 x4))] [(.int (59 : Int32)), (.int (own_v0_6 y3))]))
                        by_cases hc148 : (59 : Int32) < (own_v0_6 y3)
                        · refine own_go (fun t k => XS.icmpYes X144.here hx rfl (pc0 := 691) (pc' := 698) rfl (hb hby at_691) rfl (tlt hc148).2.2.1 (by decide) (by decide) k) ?_
                          show own_Goes p e below _ (T144.setTop (mkF m 698 #[.val (.int x0), .val (.int x1), .val (.int x2), .val (.long y3), .second, .val (.int x4), .val (.int x5), .val (.int (own_v0_1 x0)), .val (.int (own_v0_2 x1)), .val (.int (own_v0_3 x1)), .val (.int (own_v0_4 x2)), .val (.int (own_v0_5 x2)), .val (.int (own_v0_6 y3)), .val (.long (own_v0_7 y3)), .second, .val (.int (x4 &&& (63 : Int32))), .val (.int (own_v0_8 x4)), .val (.int (x5 &&& (3 : Int32))), .val (.int (own_v0_9 x5)), .val (.int (own_j0_1 x5)), .val (.int (own_v0_10 x5)), .val (.ref b76), .val (.int (x5 &&& (3 : Int32))), .val (.int (own_j0_5 x4)), .val (.int (own_j0_6 x4)), .val (.int (own_f2 (x4 &&& (63 : Int32)))), .val (.int (own_j0_2 x4))] []))
                          refine own_go (fun t k => XS.iconst X144.here hx rfl (hb hby at_698) k) ?_
                          rw [show (own_j0_7 x0 x1 x2 y3 x4 x5) = (0 : Int32) from by rw [own_j0_7, if_pos hc139, if_neg hc140, if_neg hc141, if_neg hc142, if_neg hc143, if_neg hc145, if_neg hc146, if_neg hc147, if_pos hc148]] at HH149
                          exact HH149 _ _ X144 e144 N144
                        · refine own_go (fun t k => XS.icmpNo X144.here hx rfl (hb hby at_691) rfl (flt hc148).2.2.1 k) ?_
                          show own_Goes p e below _ (T144.setTop (mkF m 694 #[.val (.int x0), .val (.int x1), .val (.int x2), .val (.long y3), .second, .val (.int x4), .val (.int x5), .val (.int (own_v0_1 x0)), .val (.int (own_v0_2 x1)), .val (.int (own_v0_3 x1)), .val (.int (own_v0_4 x2)), .val (.int (own_v0_5 x2)), .val (.int (own_v0_6 y3)), .val (.long (own_v0_7 y3)), .second, .val (.int (x4 &&& (63 : Int32))), .val (.int (own_v0_8 x4)), .val (.int (x5 &&& (3 : Int32))), .val (.int (own_v0_9 x5)), .val (.int (own_j0_1 x5)), .val (.int (own_v0_10 x5)), .val (.ref b76), .val (.int (x5 &&& (3 : Int32))), .val (.int (own_j0_5 x4)), .val (.int (own_j0_6 x4)), .val (.int (own_f2 (x4 &&& (63 : Int32)))), .val (.int (own_j0_2 x4))] []))
                          refine own_go (fun t k => XS.iconst X144.here hx rfl (hb hby at_694) k) ?_
                          show own_Goes p e below _ (T144.setTop (mkF m 695 #[.val (.int x0), .val (.int x1), .val (.int x2), .val (.long y3), .second, .val (.int x4), .val (.int x5), .val (.int (own_v0_1 x0)), .val (.int (own_v0_2 x1)), .val (.int (own_v0_3 x1)), .val (.int (own_v0_4 x2)), .val (.int (own_v0_5 x2)), .val (.int (own_v0_6 y3)), .val (.long (own_v0_7 y3)), .second, .val (.int (x4 &&& (63 : Int32))), .val (.int (own_v0_8 x4)), .val (.int (x5 &&& (3 : Int32))), .val (.int (own_v0_9 x5)), .val (.int (own_j0_1 x5)), .val (.int (own_v0_10 x5)), .val (.ref b76), .val (.int (x5 &&& (3 : Int32))), .val (.int (own_j0_5 x4)), .val (.int (own_j0_6 x4)), .val (.int (own_f2 (x4 &&& (63 : Int32)))), .val (.int (own_j0_2 x4))] [(.int (1 : Int32))]))
                          refine own_go (fun t k => XS.goto X144.here hx rfl (pc0 := 695) (pc' := 699) rfl (hb hby at_695) (by decide) (by decide) k) ?_
                          rw [show (own_j0_7 x0 x1 x2 y3 x4 x5) = (1 : Int32) from by rw [own_j0_7, if_pos hc139, if_neg hc140, if_neg hc141, if_neg hc142, if_neg hc143, if_neg hc145, if_neg hc146, if_neg hc147, if_neg hc148]] at HH149
                          exact HH149 _ _ X144 e144 N144
        · refine own_go (fun t k => XS.icmpYes X125.here hx rfl (pc0 := 634) (pc' := 698) rfl (hb hby at_634) rfl (feq hc139).2 (by decide) (by decide) k) ?_
          show own_Goes p e below _ (T125.setTop (mkF m 698 #[.val (.int x0), .val (.int x1), .val (.int x2), .val (.long y3), .second, .val (.int x4), .val (.int x5), .val (.int (own_v0_1 x0)), .val (.int (own_v0_2 x1)), .val (.int (own_v0_3 x1)), .val (.int (own_v0_4 x2)), .val (.int (own_v0_5 x2)), .val (.int (own_v0_6 y3)), .val (.long (own_v0_7 y3)), .second, .val (.int (x4 &&& (63 : Int32))), .val (.int (own_v0_8 x4)), .val (.int (x5 &&& (3 : Int32))), .val (.int (own_v0_9 x5)), .val (.int (own_j0_1 x5)), .val (.int (own_v0_10 x5)), .val (.ref b76), .val (.int (x5 &&& (3 : Int32))), .val (.int (own_j0_5 x4)), .val (.int (own_j0_6 x4)), .val (.int (own_f2 (x4 &&& (63 : Int32)))), .val (.int (own_j0_2 x4))] []))
          refine own_go (fun t k => XS.iconst X125.here hx rfl (hb hby at_698) k) ?_
          rw [show (own_j0_7 x0 x1 x2 y3 x4 x5) = (0 : Int32) from by rw [own_j0_7, if_neg hc139]] at HH149
          exact HH149 _ _ X125 e125 N125
      intro T149 L149 X149 e149 N149
      show own_Goes p e below _ (T149.setTop (mkF m 699 #[.val (.int x0), .val (.int x1), .val (.int x2), .val (.long y3), .second, .val (.int x4), .val (.int x5), .val (.int (own_v0_1 x0)), .val (.int (own_v0_2 x1)), .val (.int (own_v0_3 x1)), .val (.int (own_v0_4 x2)), .val (.int (own_v0_5 x2)), .val (.int (own_v0_6 y3)), .val (.long (own_v0_7 y3)), .second, .val (.int (x4 &&& (63 : Int32))), .val (.int (own_v0_8 x4)), .val (.int (x5 &&& (3 : Int32))), .val (.int (own_v0_9 x5)), .val (.int (own_j0_1 x5)), .val (.int (own_v0_10 x5)), .val (.ref b76), .val (.int (x5 &&& (3 : Int32))), .val (.int (own_j0_5 x4)), .val (.int (own_j0_6 x4)), .val (.int (own_f2 (x4 &&& (63 : Int32)))), .val (.int (own_j0_2 x4))] [(.int (own_j0_7 x0 x1 x2 y3 x4 x5))]))
      refine own_go (fun t k => XS.istore X149.here hx rfl (hb hby at_699) rfl (l' := #[.val (.int x0), .val (.int x1), .val (.int x2), .val (.long y3), .second, .val (.int x4), .val (.int x5), .val (.int (own_v0_1 x0)), .val (.int (own_v0_2 x1)), .val (.int (own_v0_3 x1)), .val (.int (own_v0_4 x2)), .val (.int (own_v0_5 x2)), .val (.int (own_v0_6 y3)), .val (.long (own_v0_7 y3)), .second, .val (.int (x4 &&& (63 : Int32))), .val (.int (own_v0_8 x4)), .val (.int (x5 &&& (3 : Int32))), .val (.int (own_v0_9 x5)), .val (.int (own_j0_1 x5)), .val (.int (own_v0_10 x5)), .val (.ref b76), .val (.int (x5 &&& (3 : Int32))), .val (.int (own_j0_5 x4)), .val (.int (own_j0_6 x4)), .val (.int (own_j0_7 x0 x1 x2 y3 x4 x5)), .val (.int (own_j0_2 x4))]) rfl k) ?_
      show own_Goes p e below _ (T149.setTop (mkF m 701 #[.val (.int x0), .val (.int x1), .val (.int x2), .val (.long y3), .second, .val (.int x4), .val (.int x5), .val (.int (own_v0_1 x0)), .val (.int (own_v0_2 x1)), .val (.int (own_v0_3 x1)), .val (.int (own_v0_4 x2)), .val (.int (own_v0_5 x2)), .val (.int (own_v0_6 y3)), .val (.long (own_v0_7 y3)), .second, .val (.int (x4 &&& (63 : Int32))), .val (.int (own_v0_8 x4)), .val (.int (x5 &&& (3 : Int32))), .val (.int (own_v0_9 x5)), .val (.int (own_j0_1 x5)), .val (.int (own_v0_10 x5)), .val (.ref b76), .val (.int (x5 &&& (3 : Int32))), .val (.int (own_j0_5 x4)), .val (.int (own_j0_6 x4)), .val (.int (own_j0_7 x0 x1 x2 y3 x4 x5)), .val (.int (own_j0_2 x4))] []))
      refine own_go (fun t k => XS.aload X149.here hx rfl (hb hby at_701) rfl rfl k) ?_
      show own_Goes p e below _ (T149.setTop (mkF m 703 #[.val (.int x0), .val (.int x1), .val (.int x2), .val (.long y3), .second, .val (.int x4), .val (.int x5), .val (.int (own_v0_1 x0)), .val (.int (own_v0_2 x1)), .val (.int (own_v0_3 x1)), .val (.int (own_v0_4 x2)), .val (.int (own_v0_5 x2)), .val (.int (own_v0_6 y3)), .val (.long (own_v0_7 y3)), .second, .val (.int (x4 &&& (63 : Int32))), .val (.int (own_v0_8 x4)), .val (.int (x5 &&& (3 : Int32))), .val (.int (own_v0_9 x5)), .val (.int (own_j0_1 x5)), .val (.int (own_v0_10 x5)), .val (.ref b76), .val (.int (x5 &&& (3 : Int32))), .val (.int (own_j0_5 x4)), .val (.int (own_j0_6 x4)), .val (.int (own_j0_7 x0 x1 x2 y3 x4 x5)), .val (.int (own_j0_2 x4))] [(.ref b76)]))
      refine own_go (fun t k => XS.iload X149.here hx rfl (hb hby at_703) rfl k) ?_
      show own_Goes p e below _ (T149.setTop (mkF m 705 #[.val (.int x0), .val (.int x1), .val (.int x2), .val (.long y3), .second, .val (.int x4), .val (.int x5), .val (.int (own_v0_1 x0)), .val (.int (own_v0_2 x1)), .val (.int (own_v0_3 x1)), .val (.int (own_v0_4 x2)), .val (.int (own_v0_5 x2)), .val (.int (own_v0_6 y3)), .val (.long (own_v0_7 y3)), .second, .val (.int (x4 &&& (63 : Int32))), .val (.int (own_v0_8 x4)), .val (.int (x5 &&& (3 : Int32))), .val (.int (own_v0_9 x5)), .val (.int (own_j0_1 x5)), .val (.int (own_v0_10 x5)), .val (.ref b76), .val (.int (x5 &&& (3 : Int32))), .val (.int (own_j0_5 x4)), .val (.int (own_j0_6 x4)), .val (.int (own_j0_7 x0 x1 x2 y3 x4 x5)), .val (.int (own_j0_2 x4))] [(.int (x5 &&& (3 : Int32))), (.ref b76)]))
      refine own_go (fun t k => XS.iload X149.here hx rfl (hb hby at_705) rfl k) ?_
      show own_Goes p e below _ (T149.setTop (mkF m 707 #[.val (.int x0), .val (.int x1), .val (.int x2), .val (.long y3), .second, .val (.int x4), .val (.int x5), .val (.int (own_v0_1 x0)), .val (.int (own_v0_2 x1)), .val (.int (own_v0_3 x1)), .val (.int (own_v0_4 x2)), .val (.int (own_v0_5 x2)), .val (.int (own_v0_6 y3)), .val (.long (own_v0_7 y3)), .second, .val (.int (x4 &&& (63 : Int32))), .val (.int (own_v0_8 x4)), .val (.int (x5 &&& (3 : Int32))), .val (.int (own_v0_9 x5)), .val (.int (own_j0_1 x5)), .val (.int (own_v0_10 x5)), .val (.ref b76), .val (.int (x5 &&& (3 : Int32))), .val (.int (own_j0_5 x4)), .val (.int (own_j0_6 x4)), .val (.int (own_j0_7 x0 x1 x2 y3 x4 x5)), .val (.int (own_j0_2 x4))] [(.int (own_v0_10 x5)), (.int (x5 &&& (3 : Int32))), (.ref b76)]))
      obtain ⟨cl151, Ar151, sa151, ha151⟩ := id V123
      have oo152 : Old Z n0 h123 := ((((((((((((((((((((((((((((O0.ext E76).wr W78 g_b76).wr W80 g_b76).wr W82 g_b76).wr W84 g_b76).wr W85 g_b76).wr W87 g_b76).wr W89 g_b76).wr W90 g_b76).wr W92 g_b76).wr W94 g_b76).wr W95 g_b76).wr W97 g_b76).wr W99 g_b76).wr W100 g_b76).wr W102 g_b76).wr W104 g_b76).wr W105 g_b76).wr W107 g_b76).wr W109 g_b76).wr W110 g_b76).wr W112 g_b76).wr W114 g_b76).wr W116 g_b76).wr W118 g_b76).wr W120 g_b76).wr W122 g_b76).wr W123 g_b76)
      obtain ⟨_, T150, L150, X150, ⟨rfl, N150q, e150⟩, st150⟩ := own_callS X149 hx hZ hown (hw _ own_t17) (hw _ own_t18) (hw _ own_t19) (hw _ own_t20) (by decide) (as := [(.ref b76), (.int (x5 &&& (3 : Int32))), (.int (own_v0_10 x5))]) (rm3 l Z a0 hw [] b76 (x5 &&& (3 : Int32)) (own_v0_10 x5) (own_G0_27 x0 x1 x2 y3 x5) cl151 cl_F s_F h123 n0 Ar151 sa151 ha151 (A_F.ext oo152.2) z_F t_F (own_fr x5) (S_s_F.ext oo152.2)) e149 own_pd4 rfl (pc := 707) (Ls := #[.val (.int x0), .val (.int x1), .val (.int x2), .val (.long y3), .second, .val (.int x4), .val (.int x5), .val (.int (own_v0_1 x0)), .val (.int (own_v0_2 x1)), .val (.int (own_v0_3 x1)), .val (.int (own_v0_4 x2)), .val (.int (own_v0_5 x2)), .val (.int (own_v0_6 y3)), .val (.long (own_v0_7 y3)), .second, .val (.int (x4 &&& (63 : Int32))), .val (.int (own_v0_8 x4)), .val (.int (x5 &&& (3 : Int32))), .val (.int (own_v0_9 x5)), .val (.int (own_j0_1 x5)), .val (.int (own_v0_10 x5)), .val (.ref b76), .val (.int (x5 &&& (3 : Int32))), .val (.int (own_j0_5 x4)), .val (.int (own_j0_6 x4)), .val (.int (own_j0_7 x0 x1 x2 y3 x4 x5)), .val (.int (own_j0_2 x4))]) (rest := []) (W := 0) (by rw [hml]; rfl) (Nat.le_of_eq rfl) (by decide) (by decide) (hb hby at_707) (by decide) (by decide)
      have N150 := Fr.app N149 N150q
      refine own_go st150 ?_
      show own_Goes p e below _ (T150.setTop (mkF m 710 #[.val (.int x0), .val (.int x1), .val (.int x2), .val (.long y3), .second, .val (.int x4), .val (.int x5), .val (.int (own_v0_1 x0)), .val (.int (own_v0_2 x1)), .val (.int (own_v0_3 x1)), .val (.int (own_v0_4 x2)), .val (.int (own_v0_5 x2)), .val (.int (own_v0_6 y3)), .val (.long (own_v0_7 y3)), .second, .val (.int (x4 &&& (63 : Int32))), .val (.int (own_v0_8 x4)), .val (.int (x5 &&& (3 : Int32))), .val (.int (own_v0_9 x5)), .val (.int (own_j0_1 x5)), .val (.int (own_v0_10 x5)), .val (.ref b76), .val (.int (x5 &&& (3 : Int32))), .val (.int (own_j0_5 x4)), .val (.int (own_j0_6 x4)), .val (.int (own_j0_7 x0 x1 x2 y3 x4 x5)), .val (.int (own_j0_2 x4))] [(.int (own_rt (x5 &&& (3 : Int32)) (own_v0_10 x5) (own_G0_27 x0 x1 x2 y3 x5)))]))
      refine own_go (fun t k => XS.istore X150.here hx rfl (hb hby at_710) rfl (l' := #[.val (.int x0), .val (.int x1), .val (.int x2), .val (.long y3), .second, .val (.int x4), .val (.int x5), .val (.int (own_v0_1 x0)), .val (.int (own_v0_2 x1)), .val (.int (own_v0_3 x1)), .val (.int (own_v0_4 x2)), .val (.int (own_v0_5 x2)), .val (.int (own_v0_6 y3)), .val (.long (own_v0_7 y3)), .second, .val (.int (x4 &&& (63 : Int32))), .val (.int (own_v0_8 x4)), .val (.int (x5 &&& (3 : Int32))), .val (.int (own_v0_9 x5)), .val (.int (own_j0_1 x5)), .val (.int (own_v0_10 x5)), .val (.ref b76), .val (.int (x5 &&& (3 : Int32))), .val (.int (own_j0_5 x4)), .val (.int (own_j0_6 x4)), .val (.int (own_j0_7 x0 x1 x2 y3 x4 x5)), .val (.int (own_v0_11 x0 x1 x2 y3 x5))]) rfl k) ?_
      show own_Goes p e below _ (T150.setTop (mkF m 712 #[.val (.int x0), .val (.int x1), .val (.int x2), .val (.long y3), .second, .val (.int x4), .val (.int x5), .val (.int (own_v0_1 x0)), .val (.int (own_v0_2 x1)), .val (.int (own_v0_3 x1)), .val (.int (own_v0_4 x2)), .val (.int (own_v0_5 x2)), .val (.int (own_v0_6 y3)), .val (.long (own_v0_7 y3)), .second, .val (.int (x4 &&& (63 : Int32))), .val (.int (own_v0_8 x4)), .val (.int (x5 &&& (3 : Int32))), .val (.int (own_v0_9 x5)), .val (.int (own_j0_1 x5)), .val (.int (own_v0_10 x5)), .val (.ref b76), .val (.int (x5 &&& (3 : Int32))), .val (.int (own_j0_5 x4)), .val (.int (own_j0_6 x4)), .val (.int (own_j0_7 x0 x1 x2 y3 x4 x5)), .val (.int (own_v0_11 x0 x1 x2 y3 x5))] []))
      refine own_go (fun t k => XS.iload X150.here hx rfl (hb hby at_712) rfl k) ?_
      show own_Goes p e below _ (T150.setTop (mkF m 714 #[.val (.int x0), .val (.int x1), .val (.int x2), .val (.long y3), .second, .val (.int x4), .val (.int x5), .val (.int (own_v0_1 x0)), .val (.int (own_v0_2 x1)), .val (.int (own_v0_3 x1)), .val (.int (own_v0_4 x2)), .val (.int (own_v0_5 x2)), .val (.int (own_v0_6 y3)), .val (.long (own_v0_7 y3)), .second, .val (.int (x4 &&& (63 : Int32))), .val (.int (own_v0_8 x4)), .val (.int (x5 &&& (3 : Int32))), .val (.int (own_v0_9 x5)), .val (.int (own_j0_1 x5)), .val (.int (own_v0_10 x5)), .val (.ref b76), .val (.int (x5 &&& (3 : Int32))), .val (.int (own_j0_5 x4)), .val (.int (own_j0_6 x4)), .val (.int (own_j0_7 x0 x1 x2 y3 x4 x5)), .val (.int (own_v0_11 x0 x1 x2 y3 x5))] [(.int (own_v0_11 x0 x1 x2 y3 x5))]))
      refine own_go (fun t k => XS.iload X150.here hx rfl (hb hby at_714) rfl k) ?_
      show own_Goes p e below _ (T150.setTop (mkF m 716 #[.val (.int x0), .val (.int x1), .val (.int x2), .val (.long y3), .second, .val (.int x4), .val (.int x5), .val (.int (own_v0_1 x0)), .val (.int (own_v0_2 x1)), .val (.int (own_v0_3 x1)), .val (.int (own_v0_4 x2)), .val (.int (own_v0_5 x2)), .val (.int (own_v0_6 y3)), .val (.long (own_v0_7 y3)), .second, .val (.int (x4 &&& (63 : Int32))), .val (.int (own_v0_8 x4)), .val (.int (x5 &&& (3 : Int32))), .val (.int (own_v0_9 x5)), .val (.int (own_j0_1 x5)), .val (.int (own_v0_10 x5)), .val (.ref b76), .val (.int (x5 &&& (3 : Int32))), .val (.int (own_j0_5 x4)), .val (.int (own_j0_6 x4)), .val (.int (own_j0_7 x0 x1 x2 y3 x4 x5)), .val (.int (own_v0_11 x0 x1 x2 y3 x5))] [(.int (own_j0_7 x0 x1 x2 y3 x4 x5)), (.int (own_v0_11 x0 x1 x2 y3 x5))]))
      suffices HH154 : own_Goes p e below (own_End s room_1 (own_Q0 x0 x1 x2 y3 x4 x5 s_F h0 n0)) (T150.setTop (mkF m 724 #[.val (.int x0), .val (.int x1), .val (.int x2), .val (.long y3), .second, .val (.int x4), .val (.int x5), .val (.int (own_v0_1 x0)), .val (.int (own_v0_2 x1)), .val (.int (own_v0_3 x1)), .val (.int (own_v0_4 x2)), .val (.int (own_v0_5 x2)), .val (.int (own_v0_6 y3)), .val (.long (own_v0_7 y3)), .second, .val (.int (x4 &&& (63 : Int32))), .val (.int (own_v0_8 x4)), .val (.int (x5 &&& (3 : Int32))), .val (.int (own_v0_9 x5)), .val (.int (own_j0_1 x5)), .val (.int (own_v0_10 x5)), .val (.ref b76), .val (.int (x5 &&& (3 : Int32))), .val (.int (own_j0_5 x4)), .val (.int (own_j0_6 x4)), .val (.int (own_j0_7 x0 x1 x2 y3 x4 x5)), .val (.int (own_v0_11 x0 x1 x2 y3 x5))] [(.int (own_j0_8 x0 x1 x2 y3 x4 x5))])) by
        by_cases hc153 : (own_v0_11 x0 x1 x2 y3 x5) = (own_j0_7 x0 x1 x2 y3 x4 x5)
        · refine own_go (fun t k => XS.icmpNo X150.here hx rfl (hb hby at_716) rfl (teq hc153).2 k) ?_
          show own_Goes p e below _ (T150.setTop (mkF m 719 #[.val (.int x0), .val (.int x1), .val (.int x2), .val (.long y3), .second, .val (.int x4), .val (.int x5), .val (.int (own_v0_1 x0)), .val (.int (own_v0_2 x1)), .val (.int (own_v0_3 x1)), .val (.int (own_v0_4 x2)), .val (.int (own_v0_5 x2)), .val (.int (own_v0_6 y3)), .val (.long (own_v0_7 y3)), .second, .val (.int (x4 &&& (63 : Int32))), .val (.int (own_v0_8 x4)), .val (.int (x5 &&& (3 : Int32))), .val (.int (own_v0_9 x5)), .val (.int (own_j0_1 x5)), .val (.int (own_v0_10 x5)), .val (.ref b76), .val (.int (x5 &&& (3 : Int32))), .val (.int (own_j0_5 x4)), .val (.int (own_j0_6 x4)), .val (.int (own_j0_7 x0 x1 x2 y3 x4 x5)), .val (.int (own_v0_11 x0 x1 x2 y3 x5))] []))
          refine own_go (fun t k => XS.iconst X150.here hx rfl (hb hby at_719) k) ?_
          show own_Goes p e below _ (T150.setTop (mkF m 720 #[.val (.int x0), .val (.int x1), .val (.int x2), .val (.long y3), .second, .val (.int x4), .val (.int x5), .val (.int (own_v0_1 x0)), .val (.int (own_v0_2 x1)), .val (.int (own_v0_3 x1)), .val (.int (own_v0_4 x2)), .val (.int (own_v0_5 x2)), .val (.int (own_v0_6 y3)), .val (.long (own_v0_7 y3)), .second, .val (.int (x4 &&& (63 : Int32))), .val (.int (own_v0_8 x4)), .val (.int (x5 &&& (3 : Int32))), .val (.int (own_v0_9 x5)), .val (.int (own_j0_1 x5)), .val (.int (own_v0_10 x5)), .val (.ref b76), .val (.int (x5 &&& (3 : Int32))), .val (.int (own_j0_5 x4)), .val (.int (own_j0_6 x4)), .val (.int (own_j0_7 x0 x1 x2 y3 x4 x5)), .val (.int (own_v0_11 x0 x1 x2 y3 x5))] [(.int (1 : Int32))]))
          refine own_go (fun t k => XS.goto X150.here hx rfl (pc0 := 720) (pc' := 724) rfl (hb hby at_720) (by decide) (by decide) k) ?_
          rw [show (own_j0_8 x0 x1 x2 y3 x4 x5) = (1 : Int32) from by rw [own_j0_8, if_pos hc153]] at HH154
          exact HH154
        · refine own_go (fun t k => XS.icmpYes X150.here hx rfl (pc0 := 716) (pc' := 723) rfl (hb hby at_716) rfl (feq hc153).2 (by decide) (by decide) k) ?_
          show own_Goes p e below _ (T150.setTop (mkF m 723 #[.val (.int x0), .val (.int x1), .val (.int x2), .val (.long y3), .second, .val (.int x4), .val (.int x5), .val (.int (own_v0_1 x0)), .val (.int (own_v0_2 x1)), .val (.int (own_v0_3 x1)), .val (.int (own_v0_4 x2)), .val (.int (own_v0_5 x2)), .val (.int (own_v0_6 y3)), .val (.long (own_v0_7 y3)), .second, .val (.int (x4 &&& (63 : Int32))), .val (.int (own_v0_8 x4)), .val (.int (x5 &&& (3 : Int32))), .val (.int (own_v0_9 x5)), .val (.int (own_j0_1 x5)), .val (.int (own_v0_10 x5)), .val (.ref b76), .val (.int (x5 &&& (3 : Int32))), .val (.int (own_j0_5 x4)), .val (.int (own_j0_6 x4)), .val (.int (own_j0_7 x0 x1 x2 y3 x4 x5)), .val (.int (own_v0_11 x0 x1 x2 y3 x5))] []))
          refine own_go (fun t k => XS.iconst X150.here hx rfl (hb hby at_723) k) ?_
          rw [show (own_j0_8 x0 x1 x2 y3 x4 x5) = (0 : Int32) from by rw [own_j0_8, if_neg hc153]] at HH154
          exact HH154
      show own_Goes p e below _ (T150.setTop (mkF m 724 #[.val (.int x0), .val (.int x1), .val (.int x2), .val (.long y3), .second, .val (.int x4), .val (.int x5), .val (.int (own_v0_1 x0)), .val (.int (own_v0_2 x1)), .val (.int (own_v0_3 x1)), .val (.int (own_v0_4 x2)), .val (.int (own_v0_5 x2)), .val (.int (own_v0_6 y3)), .val (.long (own_v0_7 y3)), .second, .val (.int (x4 &&& (63 : Int32))), .val (.int (own_v0_8 x4)), .val (.int (x5 &&& (3 : Int32))), .val (.int (own_v0_9 x5)), .val (.int (own_j0_1 x5)), .val (.int (own_v0_10 x5)), .val (.ref b76), .val (.int (x5 &&& (3 : Int32))), .val (.int (own_j0_5 x4)), .val (.int (own_j0_6 x4)), .val (.int (own_j0_7 x0 x1 x2 y3 x4 x5)), .val (.int (own_v0_11 x0 x1 x2 y3 x5))] [(.int (own_j0_8 x0 x1 x2 y3 x4 x5))]))
      exact own_retN X150 hx hlk hret (by simp) (z' := ((own_j0_8 x0 x1 x2 y3 x4 x5) &&& 1)) rfl (hb hby at_724) (by decide) (by decide) ⟨by rw [own_f0, if_pos hc124, if_pos hc138], N150, trivial⟩
    · refine own_go (fun t k => XS.ifNo X125.here hx rfl (hb hby at_617) rfl ((if0 _ _).trans (feq hc138).1) k) ?_
      show own_Goes p e below _ (T125.setTop (mkF m 620 #[.val (.int x0), .val (.int x1), .val (.int x2), .val (.long y3), .second, .val (.int x4), .val (.int x5), .val (.int (own_v0_1 x0)), .val (.int (own_v0_2 x1)), .val (.int (own_v0_3 x1)), .val (.int (own_v0_4 x2)), .val (.int (own_v0_5 x2)), .val (.int (own_v0_6 y3)), .val (.long (own_v0_7 y3)), .second, .val (.int (x4 &&& (63 : Int32))), .val (.int (own_v0_8 x4)), .val (.int (x5 &&& (3 : Int32))), .val (.int (own_v0_9 x5)), .val (.int (own_j0_1 x5)), .val (.int (own_v0_10 x5)), .val (.ref b76), .val (.int (x5 &&& (3 : Int32))), .val (.int (own_j0_5 x4)), .val (.int (own_j0_6 x4)), .val (.int (own_f2 (x4 &&& (63 : Int32)))), .val (.int (own_j0_2 x4))] []))
      refine own_go (fun t k => XS.aload X125.here hx rfl (hb hby at_620) rfl rfl k) ?_
      show own_Goes p e below _ (T125.setTop (mkF m 622 #[.val (.int x0), .val (.int x1), .val (.int x2), .val (.long y3), .second, .val (.int x4), .val (.int x5), .val (.int (own_v0_1 x0)), .val (.int (own_v0_2 x1)), .val (.int (own_v0_3 x1)), .val (.int (own_v0_4 x2)), .val (.int (own_v0_5 x2)), .val (.int (own_v0_6 y3)), .val (.long (own_v0_7 y3)), .second, .val (.int (x4 &&& (63 : Int32))), .val (.int (own_v0_8 x4)), .val (.int (x5 &&& (3 : Int32))), .val (.int (own_v0_9 x5)), .val (.int (own_j0_1 x5)), .val (.int (own_v0_10 x5)), .val (.ref b76), .val (.int (x5 &&& (3 : Int32))), .val (.int (own_j0_5 x4)), .val (.int (own_j0_6 x4)), .val (.int (own_f2 (x4 &&& (63 : Int32)))), .val (.int (own_j0_2 x4))] [(.ref b76)]))
      refine own_go (fun t k => XS.iload X125.here hx rfl (hb hby at_622) rfl k) ?_
      show own_Goes p e below _ (T125.setTop (mkF m 624 #[.val (.int x0), .val (.int x1), .val (.int x2), .val (.long y3), .second, .val (.int x4), .val (.int x5), .val (.int (own_v0_1 x0)), .val (.int (own_v0_2 x1)), .val (.int (own_v0_3 x1)), .val (.int (own_v0_4 x2)), .val (.int (own_v0_5 x2)), .val (.int (own_v0_6 y3)), .val (.long (own_v0_7 y3)), .second, .val (.int (x4 &&& (63 : Int32))), .val (.int (own_v0_8 x4)), .val (.int (x5 &&& (3 : Int32))), .val (.int (own_v0_9 x5)), .val (.int (own_j0_1 x5)), .val (.int (own_v0_10 x5)), .val (.ref b76), .val (.int (x5 &&& (3 : Int32))), .val (.int (own_j0_5 x4)), .val (.int (own_j0_6 x4)), .val (.int (own_f2 (x4 &&& (63 : Int32)))), .val (.int (own_j0_2 x4))] [(.int (x5 &&& (3 : Int32))), (.ref b76)]))
      refine own_go (fun t k => XS.iload X125.here hx rfl (hb hby at_624) rfl k) ?_
      show own_Goes p e below _ (T125.setTop (mkF m 626 #[.val (.int x0), .val (.int x1), .val (.int x2), .val (.long y3), .second, .val (.int x4), .val (.int x5), .val (.int (own_v0_1 x0)), .val (.int (own_v0_2 x1)), .val (.int (own_v0_3 x1)), .val (.int (own_v0_4 x2)), .val (.int (own_v0_5 x2)), .val (.int (own_v0_6 y3)), .val (.long (own_v0_7 y3)), .second, .val (.int (x4 &&& (63 : Int32))), .val (.int (own_v0_8 x4)), .val (.int (x5 &&& (3 : Int32))), .val (.int (own_v0_9 x5)), .val (.int (own_j0_1 x5)), .val (.int (own_v0_10 x5)), .val (.ref b76), .val (.int (x5 &&& (3 : Int32))), .val (.int (own_j0_5 x4)), .val (.int (own_j0_6 x4)), .val (.int (own_f2 (x4 &&& (63 : Int32)))), .val (.int (own_j0_2 x4))] [(.int (x4 &&& (63 : Int32))), (.int (x5 &&& (3 : Int32))), (.ref b76)]))
      refine own_go (fun t k => XS.iadd X125.here hx rfl (hb hby at_626) rfl k) ?_
      show own_Goes p e below _ (T125.setTop (mkF m 627 #[.val (.int x0), .val (.int x1), .val (.int x2), .val (.long y3), .second, .val (.int x4), .val (.int x5), .val (.int (own_v0_1 x0)), .val (.int (own_v0_2 x1)), .val (.int (own_v0_3 x1)), .val (.int (own_v0_4 x2)), .val (.int (own_v0_5 x2)), .val (.int (own_v0_6 y3)), .val (.long (own_v0_7 y3)), .second, .val (.int (x4 &&& (63 : Int32))), .val (.int (own_v0_8 x4)), .val (.int (x5 &&& (3 : Int32))), .val (.int (own_v0_9 x5)), .val (.int (own_j0_1 x5)), .val (.int (own_v0_10 x5)), .val (.ref b76), .val (.int (x5 &&& (3 : Int32))), .val (.int (own_j0_5 x4)), .val (.int (own_j0_6 x4)), .val (.int (own_f2 (x4 &&& (63 : Int32)))), .val (.int (own_j0_2 x4))] [(.int ((x5 &&& (3 : Int32)) + (x4 &&& (63 : Int32)))), (.ref b76)]))
      refine own_go (fun t k => XS.iload X125.here hx rfl (hb hby at_627) rfl k) ?_
      show own_Goes p e below _ (T125.setTop (mkF m 629 #[.val (.int x0), .val (.int x1), .val (.int x2), .val (.long y3), .second, .val (.int x4), .val (.int x5), .val (.int (own_v0_1 x0)), .val (.int (own_v0_2 x1)), .val (.int (own_v0_3 x1)), .val (.int (own_v0_4 x2)), .val (.int (own_v0_5 x2)), .val (.int (own_v0_6 y3)), .val (.long (own_v0_7 y3)), .second, .val (.int (x4 &&& (63 : Int32))), .val (.int (own_v0_8 x4)), .val (.int (x5 &&& (3 : Int32))), .val (.int (own_v0_9 x5)), .val (.int (own_j0_1 x5)), .val (.int (own_v0_10 x5)), .val (.ref b76), .val (.int (x5 &&& (3 : Int32))), .val (.int (own_j0_5 x4)), .val (.int (own_j0_6 x4)), .val (.int (own_f2 (x4 &&& (63 : Int32)))), .val (.int (own_j0_2 x4))] [(.int (own_v0_8 x4)), (.int ((x5 &&& (3 : Int32)) + (x4 &&& (63 : Int32)))), (.ref b76)]))
      obtain ⟨cl155, Ar155, sa155, ha155⟩ := id V123
      obtain ⟨T155, h155, X155, e155, W155, st155⟩ := stC X125 hx hZ e125 Ar155 (j := ((x5 &&& (3 : Int32)) + (x4 &&& (63 : Int32)))) (inb_of sa155 (own_ix x5 _ (own_pb x4 hc124))) (g := (mkF m 629 #[.val (.int x0), .val (.int x1), .val (.int x2), .val (.long y3), .second, .val (.int x4), .val (.int x5), .val (.int (own_v0_1 x0)), .val (.int (own_v0_2 x1)), .val (.int (own_v0_3 x1)), .val (.int (own_v0_4 x2)), .val (.int (own_v0_5 x2)), .val (.int (own_v0_6 y3)), .val (.long (own_v0_7 y3)), .second, .val (.int (x4 &&& (63 : Int32))), .val (.int (own_v0_8 x4)), .val (.int (x5 &&& (3 : Int32))), .val (.int (own_v0_9 x5)), .val (.int (own_j0_1 x5)), .val (.int (own_v0_10 x5)), .val (.ref b76), .val (.int (x5 &&& (3 : Int32))), .val (.int (own_j0_5 x4)), .val (.int (own_j0_6 x4)), .val (.int (own_f2 (x4 &&& (63 : Int32)))), .val (.int (own_j0_2 x4))] [(.int (own_v0_8 x4)), (.int ((x5 &&& (3 : Int32)) + (x4 &&& (63 : Int32)))), (.ref b76)])) rfl rfl (hb hby at_629)
      have V155 : own_Tab Z h155 b76 (32 : Int32) (own_G0_28 x0 x1 x2 y3 x4 x5) := own_Tab.set Ar155 sa155 ha155 W155 (own_ix x5 _ (own_pb x4 hc124))
      have N155 := Fr.snoc X155 N125 g_b76
      refine own_go st155 ?_
      show own_Goes p e below _ (T155.setTop (mkF m 630 #[.val (.int x0), .val (.int x1), .val (.int x2), .val (.long y3), .second, .val (.int x4), .val (.int x5), .val (.int (own_v0_1 x0)), .val (.int (own_v0_2 x1)), .val (.int (own_v0_3 x1)), .val (.int (own_v0_4 x2)), .val (.int (own_v0_5 x2)), .val (.int (own_v0_6 y3)), .val (.long (own_v0_7 y3)), .second, .val (.int (x4 &&& (63 : Int32))), .val (.int (own_v0_8 x4)), .val (.int (x5 &&& (3 : Int32))), .val (.int (own_v0_9 x5)), .val (.int (own_j0_1 x5)), .val (.int (own_v0_10 x5)), .val (.ref b76), .val (.int (x5 &&& (3 : Int32))), .val (.int (own_j0_5 x4)), .val (.int (own_j0_6 x4)), .val (.int (own_f2 (x4 &&& (63 : Int32)))), .val (.int (own_j0_2 x4))] []))
      refine own_go (fun t k => XS.iload X155.here hx rfl (hb hby at_630) rfl k) ?_
      show own_Goes p e below _ (T155.setTop (mkF m 632 #[.val (.int x0), .val (.int x1), .val (.int x2), .val (.long y3), .second, .val (.int x4), .val (.int x5), .val (.int (own_v0_1 x0)), .val (.int (own_v0_2 x1)), .val (.int (own_v0_3 x1)), .val (.int (own_v0_4 x2)), .val (.int (own_v0_5 x2)), .val (.int (own_v0_6 y3)), .val (.long (own_v0_7 y3)), .second, .val (.int (x4 &&& (63 : Int32))), .val (.int (own_v0_8 x4)), .val (.int (x5 &&& (3 : Int32))), .val (.int (own_v0_9 x5)), .val (.int (own_j0_1 x5)), .val (.int (own_v0_10 x5)), .val (.ref b76), .val (.int (x5 &&& (3 : Int32))), .val (.int (own_j0_5 x4)), .val (.int (own_j0_6 x4)), .val (.int (own_f2 (x4 &&& (63 : Int32)))), .val (.int (own_j0_2 x4))] [(.int (own_j0_1 x5))]))
      refine own_go (fun t k => XS.bipush X155.here hx rfl (hb hby at_632) k) ?_
      show own_Goes p e below _ (T155.setTop (mkF m 634 #[.val (.int x0), .val (.int x1), .val (.int x2), .val (.long y3), .second, .val (.int x4), .val (.int x5), .val (.int (own_v0_1 x0)), .val (.int (own_v0_2 x1)), .val (.int (own_v0_3 x1)), .val (.int (own_v0_4 x2)), .val (.int (own_v0_5 x2)), .val (.int (own_v0_6 y3)), .val (.long (own_v0_7 y3)), .second, .val (.int (x4 &&& (63 : Int32))), .val (.int (own_v0_8 x4)), .val (.int (x5 &&& (3 : Int32))), .val (.int (own_v0_9 x5)), .val (.int (own_j0_1 x5)), .val (.int (own_v0_10 x5)), .val (.ref b76), .val (.int (x5 &&& (3 : Int32))), .val (.int (own_j0_5 x4)), .val (.int (own_j0_6 x4)), .val (.int (own_f2 (x4 &&& (63 : Int32)))), .val (.int (own_j0_2 x4))] [(.int (27 : Int32)), (.int (own_j0_1 x5))]))
      suffices HH166 : ∀ (T166 : State) (L166 : List Loc) (X166 : Stand p l e room_1 s m #[(.int x0), (.int x1), (.int x2), (.long y3), (.int x4), (.int x5)] below meth c T166 L166 1 32) (e166 : T166.heap = h155) (N166 : Fr n0 L166), own_Goes p e below (own_End s room_1 (own_Q0 x0 x1 x2 y3 x4 x5 s_F h0 n0)) (T166.setTop (mkF m 699 #[.val (.int x0), .val (.int x1), .val (.int x2), .val (.long y3), .second, .val (.int x4), .val (.int x5), .val (.int (own_v0_1 x0)), .val (.int (own_v0_2 x1)), .val (.int (own_v0_3 x1)), .val (.int (own_v0_4 x2)), .val (.int (own_v0_5 x2)), .val (.int (own_v0_6 y3)), .val (.long (own_v0_7 y3)), .second, .val (.int (x4 &&& (63 : Int32))), .val (.int (own_v0_8 x4)), .val (.int (x5 &&& (3 : Int32))), .val (.int (own_v0_9 x5)), .val (.int (own_j0_1 x5)), .val (.int (own_v0_10 x5)), .val (.ref b76), .val (.int (x5 &&& (3 : Int32))), .val (.int (own_j0_5 x4)), .val (.int (own_j0_6 x4)), .val (.int (own_f2 (x4 &&& (63 : Int32)))), .val (.int (own_j0_2 x4))] [(.int (own_j0_9 x0 x1 x2 y3 x4 x5))])) by
        by_cases hc156 : (own_j0_1 x5) = (27 : Int32)
        · refine own_go (fun t k => XS.icmpNo X155.here hx rfl (hb hby at_634) rfl (teq hc156).2 k) ?_
          show own_Goes p e below _ (T155.setTop (mkF m 637 #[.val (.int x0), .val (.int x1), .val (.int x2), .val (.long y3), .second, .val (.int x4), .val (.int x5), .val (.int (own_v0_1 x0)), .val (.int (own_v0_2 x1)), .val (.int (own_v0_3 x1)), .val (.int (own_v0_4 x2)), .val (.int (own_v0_5 x2)), .val (.int (own_v0_6 y3)), .val (.long (own_v0_7 y3)), .second, .val (.int (x4 &&& (63 : Int32))), .val (.int (own_v0_8 x4)), .val (.int (x5 &&& (3 : Int32))), .val (.int (own_v0_9 x5)), .val (.int (own_j0_1 x5)), .val (.int (own_v0_10 x5)), .val (.ref b76), .val (.int (x5 &&& (3 : Int32))), .val (.int (own_j0_5 x4)), .val (.int (own_j0_6 x4)), .val (.int (own_f2 (x4 &&& (63 : Int32)))), .val (.int (own_j0_2 x4))] []))
          refine own_go (fun t k => XS.iload X155.here hx rfl (hb hby at_637) rfl k) ?_
          show own_Goes p e below _ (T155.setTop (mkF m 639 #[.val (.int x0), .val (.int x1), .val (.int x2), .val (.long y3), .second, .val (.int x4), .val (.int x5), .val (.int (own_v0_1 x0)), .val (.int (own_v0_2 x1)), .val (.int (own_v0_3 x1)), .val (.int (own_v0_4 x2)), .val (.int (own_v0_5 x2)), .val (.int (own_v0_6 y3)), .val (.long (own_v0_7 y3)), .second, .val (.int (x4 &&& (63 : Int32))), .val (.int (own_v0_8 x4)), .val (.int (x5 &&& (3 : Int32))), .val (.int (own_v0_9 x5)), .val (.int (own_j0_1 x5)), .val (.int (own_v0_10 x5)), .val (.ref b76), .val (.int (x5 &&& (3 : Int32))), .val (.int (own_j0_5 x4)), .val (.int (own_j0_6 x4)), .val (.int (own_f2 (x4 &&& (63 : Int32)))), .val (.int (own_j0_2 x4))] [(.int (own_j0_6 x4))]))
          by_cases hc157 : (own_j0_6 x4) = (0 : Int32)
          · refine own_go (fun t k => XS.ifYes X155.here hx rfl (pc0 := 639) (pc' := 698) rfl (hb hby at_639) rfl ((if0 _ _).trans (teq hc157).1) (by decide) (by decide) k) ?_
            show own_Goes p e below _ (T155.setTop (mkF m 698 #[.val (.int x0), .val (.int x1), .val (.int x2), .val (.long y3), .second, .val (.int x4), .val (.int x5), .val (.int (own_v0_1 x0)), .val (.int (own_v0_2 x1)), .val (.int (own_v0_3 x1)), .val (.int (own_v0_4 x2)), .val (.int (own_v0_5 x2)), .val (.int (own_v0_6 y3)), .val (.long (own_v0_7 y3)), .second, .val (.int (x4 &&& (63 : Int32))), .val (.int (own_v0_8 x4)), .val (.int (x5 &&& (3 : Int32))), .val (.int (own_v0_9 x5)), .val (.int (own_j0_1 x5)), .val (.int (own_v0_10 x5)), .val (.ref b76), .val (.int (x5 &&& (3 : Int32))), .val (.int (own_j0_5 x4)), .val (.int (own_j0_6 x4)), .val (.int (own_f2 (x4 &&& (63 : Int32)))), .val (.int (own_j0_2 x4))] []))
            refine own_go (fun t k => XS.iconst X155.here hx rfl (hb hby at_698) k) ?_
            rw [show (own_j0_9 x0 x1 x2 y3 x4 x5) = (0 : Int32) from by rw [own_j0_9, if_pos hc156, if_pos hc157]] at HH166
            exact HH166 _ _ X155 e155 N155
          · refine own_go (fun t k => XS.ifNo X155.here hx rfl (hb hby at_639) rfl ((if0 _ _).trans (feq hc157).1) k) ?_
            show own_Goes p e below _ (T155.setTop (mkF m 642 #[.val (.int x0), .val (.int x1), .val (.int x2), .val (.long y3), .second, .val (.int x4), .val (.int x5), .val (.int (own_v0_1 x0)), .val (.int (own_v0_2 x1)), .val (.int (own_v0_3 x1)), .val (.int (own_v0_4 x2)), .val (.int (own_v0_5 x2)), .val (.int (own_v0_6 y3)), .val (.long (own_v0_7 y3)), .second, .val (.int (x4 &&& (63 : Int32))), .val (.int (own_v0_8 x4)), .val (.int (x5 &&& (3 : Int32))), .val (.int (own_v0_9 x5)), .val (.int (own_j0_1 x5)), .val (.int (own_v0_10 x5)), .val (.ref b76), .val (.int (x5 &&& (3 : Int32))), .val (.int (own_j0_5 x4)), .val (.int (own_j0_6 x4)), .val (.int (own_f2 (x4 &&& (63 : Int32)))), .val (.int (own_j0_2 x4))] []))
            refine own_go (fun t k => XS.iload X155.here hx rfl (hb hby at_642) rfl k) ?_
            show own_Goes p e below _ (T155.setTop (mkF m 644 #[.val (.int x0), .val (.int x1), .val (.int x2), .val (.long y3), .second, .val (.int x4), .val (.int x5), .val (.int (own_v0_1 x0)), .val (.int (own_v0_2 x1)), .val (.int (own_v0_3 x1)), .val (.int (own_v0_4 x2)), .val (.int (own_v0_5 x2)), .val (.int (own_v0_6 y3)), .val (.long (own_v0_7 y3)), .second, .val (.int (x4 &&& (63 : Int32))), .val (.int (own_v0_8 x4)), .val (.int (x5 &&& (3 : Int32))), .val (.int (own_v0_9 x5)), .val (.int (own_j0_1 x5)), .val (.int (own_v0_10 x5)), .val (.ref b76), .val (.int (x5 &&& (3 : Int32))), .val (.int (own_j0_5 x4)), .val (.int (own_j0_6 x4)), .val (.int (own_f2 (x4 &&& (63 : Int32)))), .val (.int (own_j0_2 x4))] [(.int (own_v0_2 x1))]))
            refine own_go (fun t k => XS.iconst X155.here hx rfl (hb hby at_644) k) ?_
            show own_Goes p e below _ (T155.setTop (mkF m 645 #[.val (.int x0), .val (.int x1), .val (.int x2), .val (.long y3), .second, .val (.int x4), .val (.int x5), .val (.int (own_v0_1 x0)), .val (.int (own_v0_2 x1)), .val (.int (own_v0_3 x1)), .val (.int (own_v0_4 x2)), .val (.int (own_v0_5 x2)), .val (.int (own_v0_6 y3)), .val (.long (own_v0_7 y3)), .second, .val (.int (x4 &&& (63 : Int32))), .val (.int (own_v0_8 x4)), .val (.int (x5 &&& (3 : Int32))), .val (.int (own_v0_9 x5)), .val (.int (own_j0_1 x5)), .val (.int (own_v0_10 x5)), .val (.ref b76), .val (.int (x5 &&& (3 : Int32))), .val (.int (own_j0_5 x4)), .val (.int (own_j0_6 x4)), .val (.int (own_f2 (x4 &&& (63 : Int32)))), .val (.int (own_j0_2 x4))] [(.int (1 : Int32)), (.int (own_v0_2 x1))]))
            by_cases hc158 : (own_v0_2 x1) < (1 : Int32)
            · refine own_go (fun t k => XS.icmpYes X155.here hx rfl (pc0 := 645) (pc' := 698) rfl (hb hby at_645) rfl (tlt hc158).1 (by decide) (by decide) k) ?_
              show own_Goes p e below _ (T155.setTop (mkF m 698 #[.val (.int x0), .val (.int x1), .val (.int x2), .val (.long y3), .second, .val (.int x4), .val (.int x5), .val (.int (own_v0_1 x0)), .val (.int (own_v0_2 x1)), .val (.int (own_v0_3 x1)), .val (.int (own_v0_4 x2)), .val (.int (own_v0_5 x2)), .val (.int (own_v0_6 y3)), .val (.long (own_v0_7 y3)), .second, .val (.int (x4 &&& (63 : Int32))), .val (.int (own_v0_8 x4)), .val (.int (x5 &&& (3 : Int32))), .val (.int (own_v0_9 x5)), .val (.int (own_j0_1 x5)), .val (.int (own_v0_10 x5)), .val (.ref b76), .val (.int (x5 &&& (3 : Int32))), .val (.int (own_j0_5 x4)), .val (.int (own_j0_6 x4)), .val (.int (own_f2 (x4 &&& (63 : Int32)))), .val (.int (own_j0_2 x4))] []))
              refine own_go (fun t k => XS.iconst X155.here hx rfl (hb hby at_698) k) ?_
              rw [show (own_j0_9 x0 x1 x2 y3 x4 x5) = (0 : Int32) from by rw [own_j0_9, if_pos hc156, if_neg hc157, if_pos hc158]] at HH166
              exact HH166 _ _ X155 e155 N155
            · refine own_go (fun t k => XS.icmpNo X155.here hx rfl (hb hby at_645) rfl (flt hc158).1 k) ?_
              show own_Goes p e below _ (T155.setTop (mkF m 648 #[.val (.int x0), .val (.int x1), .val (.int x2), .val (.long y3), .second, .val (.int x4), .val (.int x5), .val (.int (own_v0_1 x0)), .val (.int (own_v0_2 x1)), .val (.int (own_v0_3 x1)), .val (.int (own_v0_4 x2)), .val (.int (own_v0_5 x2)), .val (.int (own_v0_6 y3)), .val (.long (own_v0_7 y3)), .second, .val (.int (x4 &&& (63 : Int32))), .val (.int (own_v0_8 x4)), .val (.int (x5 &&& (3 : Int32))), .val (.int (own_v0_9 x5)), .val (.int (own_j0_1 x5)), .val (.int (own_v0_10 x5)), .val (.ref b76), .val (.int (x5 &&& (3 : Int32))), .val (.int (own_j0_5 x4)), .val (.int (own_j0_6 x4)), .val (.int (own_f2 (x4 &&& (63 : Int32)))), .val (.int (own_j0_2 x4))] []))
              refine own_go (fun t k => XS.iload X155.here hx rfl (hb hby at_648) rfl k) ?_
              show own_Goes p e below _ (T155.setTop (mkF m 650 #[.val (.int x0), .val (.int x1), .val (.int x2), .val (.long y3), .second, .val (.int x4), .val (.int x5), .val (.int (own_v0_1 x0)), .val (.int (own_v0_2 x1)), .val (.int (own_v0_3 x1)), .val (.int (own_v0_4 x2)), .val (.int (own_v0_5 x2)), .val (.int (own_v0_6 y3)), .val (.long (own_v0_7 y3)), .second, .val (.int (x4 &&& (63 : Int32))), .val (.int (own_v0_8 x4)), .val (.int (x5 &&& (3 : Int32))), .val (.int (own_v0_9 x5)), .val (.int (own_j0_1 x5)), .val (.int (own_v0_10 x5)), .val (.ref b76), .val (.int (x5 &&& (3 : Int32))), .val (.int (own_j0_5 x4)), .val (.int (own_j0_6 x4)), .val (.int (own_f2 (x4 &&& (63 : Int32)))), .val (.int (own_j0_2 x4))] [(.int (own_v0_2 x1))]))
              refine own_go (fun t k => XS.bipush X155.here hx rfl (hb hby at_650) k) ?_
              show own_Goes p e below _ (T155.setTop (mkF m 652 #[.val (.int x0), .val (.int x1), .val (.int x2), .val (.long y3), .second, .val (.int x4), .val (.int x5), .val (.int (own_v0_1 x0)), .val (.int (own_v0_2 x1)), .val (.int (own_v0_3 x1)), .val (.int (own_v0_4 x2)), .val (.int (own_v0_5 x2)), .val (.int (own_v0_6 y3)), .val (.long (own_v0_7 y3)), .second, .val (.int (x4 &&& (63 : Int32))), .val (.int (own_v0_8 x4)), .val (.int (x5 &&& (3 : Int32))), .val (.int (own_v0_9 x5)), .val (.int (own_j0_1 x5)), .val (.int (own_v0_10 x5)), .val (.ref b76), .val (.int (x5 &&& (3 : Int32))), .val (.int (own_j0_5 x4)), .val (.int (own_j0_6 x4)), .val (.int (own_f2 (x4 &&& (63 : Int32)))), .val (.int (own_j0_2 x4))] [(.int (12 : Int32)), (.int (own_v0_2 x1))]))
              by_cases hc159 : (12 : Int32) < (own_v0_2 x1)
              · refine own_go (fun t k => XS.icmpYes X155.here hx rfl (pc0 := 652) (pc' := 698) rfl (hb hby at_652) rfl (tlt hc159).2.2.1 (by decide) (by decide) k) ?_
                show own_Goes p e below _ (T155.setTop (mkF m 698 #[.val (.int x0), .val (.int x1), .val (.int x2), .val (.long y3), .second, .val (.int x4), .val (.int x5), .val (.int (own_v0_1 x0)), .val (.int (own_v0_2 x1)), .val (.int (own_v0_3 x1)), .val (.int (own_v0_4 x2)), .val (.int (own_v0_5 x2)), .val (.int (own_v0_6 y3)), .val (.long (own_v0_7 y3)), .second, .val (.int (x4 &&& (63 : Int32))), .val (.int (own_v0_8 x4)), .val (.int (x5 &&& (3 : Int32))), .val (.int (own_v0_9 x5)), .val (.int (own_j0_1 x5)), .val (.int (own_v0_10 x5)), .val (.ref b76), .val (.int (x5 &&& (3 : Int32))), .val (.int (own_j0_5 x4)), .val (.int (own_j0_6 x4)), .val (.int (own_f2 (x4 &&& (63 : Int32)))), .val (.int (own_j0_2 x4))] []))
                refine own_go (fun t k => XS.iconst X155.here hx rfl (hb hby at_698) k) ?_
                rw [show (own_j0_9 x0 x1 x2 y3 x4 x5) = (0 : Int32) from by rw [own_j0_9, if_pos hc156, if_neg hc157, if_neg hc158, if_pos hc159]] at HH166
                exact HH166 _ _ X155 e155 N155
              · refine own_go (fun t k => XS.icmpNo X155.here hx rfl (hb hby at_652) rfl (flt hc159).2.2.1 k) ?_
                show own_Goes p e below _ (T155.setTop (mkF m 655 #[.val (.int x0), .val (.int x1), .val (.int x2), .val (.long y3), .second, .val (.int x4), .val (.int x5), .val (.int (own_v0_1 x0)), .val (.int (own_v0_2 x1)), .val (.int (own_v0_3 x1)), .val (.int (own_v0_4 x2)), .val (.int (own_v0_5 x2)), .val (.int (own_v0_6 y3)), .val (.long (own_v0_7 y3)), .second, .val (.int (x4 &&& (63 : Int32))), .val (.int (own_v0_8 x4)), .val (.int (x5 &&& (3 : Int32))), .val (.int (own_v0_9 x5)), .val (.int (own_j0_1 x5)), .val (.int (own_v0_10 x5)), .val (.ref b76), .val (.int (x5 &&& (3 : Int32))), .val (.int (own_j0_5 x4)), .val (.int (own_j0_6 x4)), .val (.int (own_f2 (x4 &&& (63 : Int32)))), .val (.int (own_j0_2 x4))] []))
                refine own_go (fun t k => XS.iload X155.here hx rfl (hb hby at_655) rfl k) ?_
                show own_Goes p e below _ (T155.setTop (mkF m 657 #[.val (.int x0), .val (.int x1), .val (.int x2), .val (.long y3), .second, .val (.int x4), .val (.int x5), .val (.int (own_v0_1 x0)), .val (.int (own_v0_2 x1)), .val (.int (own_v0_3 x1)), .val (.int (own_v0_4 x2)), .val (.int (own_v0_5 x2)), .val (.int (own_v0_6 y3)), .val (.long (own_v0_7 y3)), .second, .val (.int (x4 &&& (63 : Int32))), .val (.int (own_v0_8 x4)), .val (.int (x5 &&& (3 : Int32))), .val (.int (own_v0_9 x5)), .val (.int (own_j0_1 x5)), .val (.int (own_v0_10 x5)), .val (.ref b76), .val (.int (x5 &&& (3 : Int32))), .val (.int (own_j0_5 x4)), .val (.int (own_j0_6 x4)), .val (.int (own_f2 (x4 &&& (63 : Int32)))), .val (.int (own_j0_2 x4))] [(.int (own_v0_3 x1))]))
                refine own_go (fun t k => XS.iconst X155.here hx rfl (hb hby at_657) k) ?_
                show own_Goes p e below _ (T155.setTop (mkF m 658 #[.val (.int x0), .val (.int x1), .val (.int x2), .val (.long y3), .second, .val (.int x4), .val (.int x5), .val (.int (own_v0_1 x0)), .val (.int (own_v0_2 x1)), .val (.int (own_v0_3 x1)), .val (.int (own_v0_4 x2)), .val (.int (own_v0_5 x2)), .val (.int (own_v0_6 y3)), .val (.long (own_v0_7 y3)), .second, .val (.int (x4 &&& (63 : Int32))), .val (.int (own_v0_8 x4)), .val (.int (x5 &&& (3 : Int32))), .val (.int (own_v0_9 x5)), .val (.int (own_j0_1 x5)), .val (.int (own_v0_10 x5)), .val (.ref b76), .val (.int (x5 &&& (3 : Int32))), .val (.int (own_j0_5 x4)), .val (.int (own_j0_6 x4)), .val (.int (own_f2 (x4 &&& (63 : Int32)))), .val (.int (own_j0_2 x4))] [(.int (1 : Int32)), (.int (own_v0_3 x1))]))
                by_cases hc160 : (own_v0_3 x1) < (1 : Int32)
                · refine own_go (fun t k => XS.icmpYes X155.here hx rfl (pc0 := 658) (pc' := 698) rfl (hb hby at_658) rfl (tlt hc160).1 (by decide) (by decide) k) ?_
                  show own_Goes p e below _ (T155.setTop (mkF m 698 #[.val (.int x0), .val (.int x1), .val (.int x2), .val (.long y3), .second, .val (.int x4), .val (.int x5), .val (.int (own_v0_1 x0)), .val (.int (own_v0_2 x1)), .val (.int (own_v0_3 x1)), .val (.int (own_v0_4 x2)), .val (.int (own_v0_5 x2)), .val (.int (own_v0_6 y3)), .val (.long (own_v0_7 y3)), .second, .val (.int (x4 &&& (63 : Int32))), .val (.int (own_v0_8 x4)), .val (.int (x5 &&& (3 : Int32))), .val (.int (own_v0_9 x5)), .val (.int (own_j0_1 x5)), .val (.int (own_v0_10 x5)), .val (.ref b76), .val (.int (x5 &&& (3 : Int32))), .val (.int (own_j0_5 x4)), .val (.int (own_j0_6 x4)), .val (.int (own_f2 (x4 &&& (63 : Int32)))), .val (.int (own_j0_2 x4))] []))
                  refine own_go (fun t k => XS.iconst X155.here hx rfl (hb hby at_698) k) ?_
                  rw [show (own_j0_9 x0 x1 x2 y3 x4 x5) = (0 : Int32) from by rw [own_j0_9, if_pos hc156, if_neg hc157, if_neg hc158, if_neg hc159, if_pos hc160]] at HH166
                  exact HH166 _ _ X155 e155 N155
                · refine own_go (fun t k => XS.icmpNo X155.here hx rfl (hb hby at_658) rfl (flt hc160).1 k) ?_
                  show own_Goes p e below _ (T155.setTop (mkF m 661 #[.val (.int x0), .val (.int x1), .val (.int x2), .val (.long y3), .second, .val (.int x4), .val (.int x5), .val (.int (own_v0_1 x0)), .val (.int (own_v0_2 x1)), .val (.int (own_v0_3 x1)), .val (.int (own_v0_4 x2)), .val (.int (own_v0_5 x2)), .val (.int (own_v0_6 y3)), .val (.long (own_v0_7 y3)), .second, .val (.int (x4 &&& (63 : Int32))), .val (.int (own_v0_8 x4)), .val (.int (x5 &&& (3 : Int32))), .val (.int (own_v0_9 x5)), .val (.int (own_j0_1 x5)), .val (.int (own_v0_10 x5)), .val (.ref b76), .val (.int (x5 &&& (3 : Int32))), .val (.int (own_j0_5 x4)), .val (.int (own_j0_6 x4)), .val (.int (own_f2 (x4 &&& (63 : Int32)))), .val (.int (own_j0_2 x4))] []))
                  refine own_go (fun t k => XS.iload X155.here hx rfl (hb hby at_661) rfl k) ?_
                  show own_Goes p e below _ (T155.setTop (mkF m 663 #[.val (.int x0), .val (.int x1), .val (.int x2), .val (.long y3), .second, .val (.int x4), .val (.int x5), .val (.int (own_v0_1 x0)), .val (.int (own_v0_2 x1)), .val (.int (own_v0_3 x1)), .val (.int (own_v0_4 x2)), .val (.int (own_v0_5 x2)), .val (.int (own_v0_6 y3)), .val (.long (own_v0_7 y3)), .second, .val (.int (x4 &&& (63 : Int32))), .val (.int (own_v0_8 x4)), .val (.int (x5 &&& (3 : Int32))), .val (.int (own_v0_9 x5)), .val (.int (own_j0_1 x5)), .val (.int (own_v0_10 x5)), .val (.ref b76), .val (.int (x5 &&& (3 : Int32))), .val (.int (own_j0_5 x4)), .val (.int (own_j0_6 x4)), .val (.int (own_f2 (x4 &&& (63 : Int32)))), .val (.int (own_j0_2 x4))] [(.int (own_v0_3 x1))]))
                  refine own_go (fun t k => XS.iload X155.here hx rfl (hb hby at_663) rfl k) ?_
                  show own_Goes p e below _ (T155.setTop (mkF m 665 #[.val (.int x0), .val (.int x1), .val (.int x2), .val (.long y3), .second, .val (.int x4), .val (.int x5), .val (.int (own_v0_1 x0)), .val (.int (own_v0_2 x1)), .val (.int (own_v0_3 x1)), .val (.int (own_v0_4 x2)), .val (.int (own_v0_5 x2)), .val (.int (own_v0_6 y3)), .val (.long (own_v0_7 y3)), .second, .val (.int (x4 &&& (63 : Int32))), .val (.int (own_v0_8 x4)), .val (.int (x5 &&& (3 : Int32))), .val (.int (own_v0_9 x5)), .val (.int (own_j0_1 x5)), .val (.int (own_v0_10 x5)), .val (.ref b76), .val (.int (x5 &&& (3 : Int32))), .val (.int (own_j0_5 x4)), .val (.int (own_j0_6 x4)), .val (.int (own_f2 (x4 &&& (63 : Int32)))), .val (.int (own_j0_2 x4))] [(.int (own_v0_2 x1)), (.int (own_v0_3 x1))]))
                  refine own_go (fun t k => XS.iload X155.here hx rfl (hb hby at_665) rfl k) ?_
                  show own_Goes p e below _ (T155.setTop (mkF m 667 #[.val (.int x0), .val (.int x1), .val (.int x2), .val (.long y3), .second, .val (.int x4), .val (.int x5), .val (.int (own_v0_1 x0)), .val (.int (own_v0_2 x1)), .val (.int (own_v0_3 x1)), .val (.int (own_v0_4 x2)), .val (.int (own_v0_5 x2)), .val (.int (own_v0_6 y3)), .val (.long (own_v0_7 y3)), .second, .val (.int (x4 &&& (63 : Int32))), .val (.int (own_v0_8 x4)), .val (.int (x5 &&& (3 : Int32))), .val (.int (own_v0_9 x5)), .val (.int (own_j0_1 x5)), .val (.int (own_v0_10 x5)), .val (.ref b76), .val (.int (x5 &&& (3 : Int32))), .val (.int (own_j0_5 x4)), .val (.int (own_j0_6 x4)), .val (.int (own_f2 (x4 &&& (63 : Int32)))), .val (.int (own_j0_2 x4))] [(.int (own_v0_1 x0)), (.int (own_v0_2 x1)), (.int (own_v0_3 x1))]))
                  obtain ⟨_, T161, L161, X161, ⟨rfl, N161q, e161⟩, st161⟩ := own_callS X155 hx hZ hown (hw _ own_t26) (hw _ own_t27) (hw _ own_t9) (hw _ own_t28) (by decide) (as := [(.int (own_v0_2 x1)), (.int (own_v0_1 x0))]) (rm5 l Z a0 hw [] (own_v0_2 x1) (own_v0_1 x0) h155 n0) e155 own_pd1 rfl (pc := 667) (Ls := #[.val (.int x0), .val (.int x1), .val (.int x2), .val (.long y3), .second, .val (.int x4), .val (.int x5), .val (.int (own_v0_1 x0)), .val (.int (own_v0_2 x1)), .val (.int (own_v0_3 x1)), .val (.int (own_v0_4 x2)), .val (.int (own_v0_5 x2)), .val (.int (own_v0_6 y3)), .val (.long (own_v0_7 y3)), .second, .val (.int (x4 &&& (63 : Int32))), .val (.int (own_v0_8 x4)), .val (.int (x5 &&& (3 : Int32))), .val (.int (own_v0_9 x5)), .val (.int (own_j0_1 x5)), .val (.int (own_v0_10 x5)), .val (.ref b76), .val (.int (x5 &&& (3 : Int32))), .val (.int (own_j0_5 x4)), .val (.int (own_j0_6 x4)), .val (.int (own_f2 (x4 &&& (63 : Int32)))), .val (.int (own_j0_2 x4))]) (rest := [(.int (own_v0_3 x1))]) (W := 1) (by rw [hml]; rfl) (Nat.le_of_eq rfl) (by decide) (by decide) (hb hby at_667) (by decide) (by decide)
                  have N161 := Fr.app N155 N161q
                  refine own_go st161 ?_
                  show own_Goes p e below _ (T161.setTop (mkF m 670 #[.val (.int x0), .val (.int x1), .val (.int x2), .val (.long y3), .second, .val (.int x4), .val (.int x5), .val (.int (own_v0_1 x0)), .val (.int (own_v0_2 x1)), .val (.int (own_v0_3 x1)), .val (.int (own_v0_4 x2)), .val (.int (own_v0_5 x2)), .val (.int (own_v0_6 y3)), .val (.long (own_v0_7 y3)), .second, .val (.int (x4 &&& (63 : Int32))), .val (.int (own_v0_8 x4)), .val (.int (x5 &&& (3 : Int32))), .val (.int (own_v0_9 x5)), .val (.int (own_j0_1 x5)), .val (.int (own_v0_10 x5)), .val (.ref b76), .val (.int (x5 &&& (3 : Int32))), .val (.int (own_j0_5 x4)), .val (.int (own_j0_6 x4)), .val (.int (own_f2 (x4 &&& (63 : Int32)))), .val (.int (own_j0_2 x4))] [(.int (own_f5 (own_v0_2 x1) (own_v0_1 x0))), (.int (own_v0_3 x1))]))
                  by_cases hc162 : (own_f5 (own_v0_2 x1) (own_v0_1 x0)) < (own_v0_3 x1)
                  · refine own_go (fun t k => XS.icmpYes X161.here hx rfl (pc0 := 670) (pc' := 698) rfl (hb hby at_670) rfl (tlt hc162).2.2.1 (by decide) (by decide) k) ?_
                    show own_Goes p e below _ (T161.setTop (mkF m 698 #[.val (.int x0), .val (.int x1), .val (.int x2), .val (.long y3), .second, .val (.int x4), .val (.int x5), .val (.int (own_v0_1 x0)), .val (.int (own_v0_2 x1)), .val (.int (own_v0_3 x1)), .val (.int (own_v0_4 x2)), .val (.int (own_v0_5 x2)), .val (.int (own_v0_6 y3)), .val (.long (own_v0_7 y3)), .second, .val (.int (x4 &&& (63 : Int32))), .val (.int (own_v0_8 x4)), .val (.int (x5 &&& (3 : Int32))), .val (.int (own_v0_9 x5)), .val (.int (own_j0_1 x5)), .val (.int (own_v0_10 x5)), .val (.ref b76), .val (.int (x5 &&& (3 : Int32))), .val (.int (own_j0_5 x4)), .val (.int (own_j0_6 x4)), .val (.int (own_f2 (x4 &&& (63 : Int32)))), .val (.int (own_j0_2 x4))] []))
                    refine own_go (fun t k => XS.iconst X161.here hx rfl (hb hby at_698) k) ?_
                    rw [show (own_j0_9 x0 x1 x2 y3 x4 x5) = (0 : Int32) from by rw [own_j0_9, if_pos hc156, if_neg hc157, if_neg hc158, if_neg hc159, if_neg hc160, if_pos hc162]] at HH166
                    exact HH166 _ _ X161 e161 N161
                  · refine own_go (fun t k => XS.icmpNo X161.here hx rfl (hb hby at_670) rfl (flt hc162).2.2.1 k) ?_
                    show own_Goes p e below _ (T161.setTop (mkF m 673 #[.val (.int x0), .val (.int x1), .val (.int x2), .val (.long y3), .second, .val (.int x4), .val (.int x5), .val (.int (own_v0_1 x0)), .val (.int (own_v0_2 x1)), .val (.int (own_v0_3 x1)), .val (.int (own_v0_4 x2)), .val (.int (own_v0_5 x2)), .val (.int (own_v0_6 y3)), .val (.long (own_v0_7 y3)), .second, .val (.int (x4 &&& (63 : Int32))), .val (.int (own_v0_8 x4)), .val (.int (x5 &&& (3 : Int32))), .val (.int (own_v0_9 x5)), .val (.int (own_j0_1 x5)), .val (.int (own_v0_10 x5)), .val (.ref b76), .val (.int (x5 &&& (3 : Int32))), .val (.int (own_j0_5 x4)), .val (.int (own_j0_6 x4)), .val (.int (own_f2 (x4 &&& (63 : Int32)))), .val (.int (own_j0_2 x4))] []))
                    refine own_go (fun t k => XS.iload X161.here hx rfl (hb hby at_673) rfl k) ?_
                    show own_Goes p e below _ (T161.setTop (mkF m 675 #[.val (.int x0), .val (.int x1), .val (.int x2), .val (.long y3), .second, .val (.int x4), .val (.int x5), .val (.int (own_v0_1 x0)), .val (.int (own_v0_2 x1)), .val (.int (own_v0_3 x1)), .val (.int (own_v0_4 x2)), .val (.int (own_v0_5 x2)), .val (.int (own_v0_6 y3)), .val (.long (own_v0_7 y3)), .second, .val (.int (x4 &&& (63 : Int32))), .val (.int (own_v0_8 x4)), .val (.int (x5 &&& (3 : Int32))), .val (.int (own_v0_9 x5)), .val (.int (own_j0_1 x5)), .val (.int (own_v0_10 x5)), .val (.ref b76), .val (.int (x5 &&& (3 : Int32))), .val (.int (own_j0_5 x4)), .val (.int (own_j0_6 x4)), .val (.int (own_f2 (x4 &&& (63 : Int32)))), .val (.int (own_j0_2 x4))] [(.int (own_v0_4 x2))]))
                    refine own_go (fun t k => XS.bipush X161.here hx rfl (hb hby at_675) k) ?_
                    show own_Goes p e below _ (T161.setTop (mkF m 677 #[.val (.int x0), .val (.int x1), .val (.int x2), .val (.long y3), .second, .val (.int x4), .val (.int x5), .val (.int (own_v0_1 x0)), .val (.int (own_v0_2 x1)), .val (.int (own_v0_3 x1)), .val (.int (own_v0_4 x2)), .val (.int (own_v0_5 x2)), .val (.int (own_v0_6 y3)), .val (.long (own_v0_7 y3)), .second, .val (.int (x4 &&& (63 : Int32))), .val (.int (own_v0_8 x4)), .val (.int (x5 &&& (3 : Int32))), .val (.int (own_v0_9 x5)), .val (.int (own_j0_1 x5)), .val (.int (own_v0_10 x5)), .val (.ref b76), .val (.int (x5 &&& (3 : Int32))), .val (.int (own_j0_5 x4)), .val (.int (own_j0_6 x4)), .val (.int (own_f2 (x4 &&& (63 : Int32)))), .val (.int (own_j0_2 x4))] [(.int (23 : Int32)), (.int (own_v0_4 x2))]))
                    by_cases hc163 : (23 : Int32) < (own_v0_4 x2)
                    · refine own_go (fun t k => XS.icmpYes X161.here hx rfl (pc0 := 677) (pc' := 698) rfl (hb hby at_677) rfl (tlt hc163).2.2.1 (by decide) (by decide) k) ?_
                      show own_Goes p e below _ (T161.setTop (mkF m 698 #[.val (.int x0), .val (.int x1), .val (.int x2), .val (.long y3), .second, .val (.int x4), .val (.int x5), .val (.int (own_v0_1 x0)), .val (.int (own_v0_2 x1)), .val (.int (own_v0_3 x1)), .val (.int (own_v0_4 x2)), .val (.int (own_v0_5 x2)), .val (.int (own_v0_6 y3)), .val (.long (own_v0_7 y3)), .second, .val (.int (x4 &&& (63 : Int32))), .val (.int (own_v0_8 x4)), .val (.int (x5 &&& (3 : Int32))), .val (.int (own_v0_9 x5)), .val (.int (own_j0_1 x5)), .val (.int (own_v0_10 x5)), .val (.ref b76), .val (.int (x5 &&& (3 : Int32))), .val (.int (own_j0_5 x4)), .val (.int (own_j0_6 x4)), .val (.int (own_f2 (x4 &&& (63 : Int32)))), .val (.int (own_j0_2 x4))] []))
                      refine own_go (fun t k => XS.iconst X161.here hx rfl (hb hby at_698) k) ?_
                      rw [show (own_j0_9 x0 x1 x2 y3 x4 x5) = (0 : Int32) from by rw [own_j0_9, if_pos hc156, if_neg hc157, if_neg hc158, if_neg hc159, if_neg hc160, if_neg hc162, if_pos hc163]] at HH166
                      exact HH166 _ _ X161 e161 N161
                    · refine own_go (fun t k => XS.icmpNo X161.here hx rfl (hb hby at_677) rfl (flt hc163).2.2.1 k) ?_
                      show own_Goes p e below _ (T161.setTop (mkF m 680 #[.val (.int x0), .val (.int x1), .val (.int x2), .val (.long y3), .second, .val (.int x4), .val (.int x5), .val (.int (own_v0_1 x0)), .val (.int (own_v0_2 x1)), .val (.int (own_v0_3 x1)), .val (.int (own_v0_4 x2)), .val (.int (own_v0_5 x2)), .val (.int (own_v0_6 y3)), .val (.long (own_v0_7 y3)), .second, .val (.int (x4 &&& (63 : Int32))), .val (.int (own_v0_8 x4)), .val (.int (x5 &&& (3 : Int32))), .val (.int (own_v0_9 x5)), .val (.int (own_j0_1 x5)), .val (.int (own_v0_10 x5)), .val (.ref b76), .val (.int (x5 &&& (3 : Int32))), .val (.int (own_j0_5 x4)), .val (.int (own_j0_6 x4)), .val (.int (own_f2 (x4 &&& (63 : Int32)))), .val (.int (own_j0_2 x4))] []))
                      refine own_go (fun t k => XS.iload X161.here hx rfl (hb hby at_680) rfl k) ?_
                      show own_Goes p e below _ (T161.setTop (mkF m 682 #[.val (.int x0), .val (.int x1), .val (.int x2), .val (.long y3), .second, .val (.int x4), .val (.int x5), .val (.int (own_v0_1 x0)), .val (.int (own_v0_2 x1)), .val (.int (own_v0_3 x1)), .val (.int (own_v0_4 x2)), .val (.int (own_v0_5 x2)), .val (.int (own_v0_6 y3)), .val (.long (own_v0_7 y3)), .second, .val (.int (x4 &&& (63 : Int32))), .val (.int (own_v0_8 x4)), .val (.int (x5 &&& (3 : Int32))), .val (.int (own_v0_9 x5)), .val (.int (own_j0_1 x5)), .val (.int (own_v0_10 x5)), .val (.ref b76), .val (.int (x5 &&& (3 : Int32))), .val (.int (own_j0_5 x4)), .val (.int (own_j0_6 x4)), .val (.int (own_f2 (x4 &&& (63 : Int32)))), .val (.int (own_j0_2 x4))] [(.int (own_v0_5 x2))]))
                      refine own_go (fun t k => XS.bipush X161.here hx rfl (hb hby at_682) k) ?_
                      show own_Goes p e below _ (T161.setTop (mkF m 684 #[.val (.int x0), .val (.int x1), .val (.int x2), .val (.long y3), .second, .val (.int x4), .val (.int x5), .val (.int (own_v0_1 x0)), .val (.int (own_v0_2 x1)), .val (.int (own_v0_3 x1)), .val (.int (own_v0_4 x2)), .val (.int (own_v0_5 x2)), .val (.int (own_v0_6 y3)), .val (.long (own_v0_7 y3)), .second, .val (.int (x4 &&& (63 : Int32))), .val (.int (own_v0_8 x4)), .val (.int (x5 &&& (3 : Int32))), .val (.int (own_v0_9 x5)), .val (.int (own_j0_1 x5)), .val (.int (own_v0_10 x5)), .val (.ref b76), .val (.int (x5 &&& (3 : Int32))), .val (.int (own_j0_5 x4)), .val (.int (own_j0_6 x4)), .val (.int (own_f2 (x4 &&& (63 : Int32)))), .val (.int (own_j0_2 x4))] [(.int (59 : Int32)), (.int (own_v0_5 x2))]))
                      by_cases hc164 : (59 : Int32) < (own_v0_5 x2)
                      · refine own_go (fun t k => XS.icmpYes X161.here hx rfl (pc0 := 684) (pc' := 698) rfl (hb hby at_684) rfl (tlt hc164).2.2.1 (by decide) (by decide) k) ?_
                        show own_Goes p e below _ (T161.setTop (mkF m 698 #[.val (.int x0), .val (.int x1), .val (.int x2), .val (.long y3), .second, .val (.int x4), .val (.int x5), .val (.int (own_v0_1 x0)), .val (.int (own_v0_2 x1)), .val (.int (own_v0_3 x1)), .val (.int (own_v0_4 x2)), .val (.int (own_v0_5 x2)), .val (.int (own_v0_6 y3)), .val (.long (own_v0_7 y3)), .second, .val (.int (x4 &&& (63 : Int32))), .val (.int (own_v0_8 x4)), .val (.int (x5 &&& (3 : Int32))), .val (.int (own_v0_9 x5)), .val (.int (own_j0_1 x5)), .val (.int (own_v0_10 x5)), .val (.ref b76), .val (.int (x5 &&& (3 : Int32))), .val (.int (own_j0_5 x4)), .val (.int (own_j0_6 x4)), .val (.int (own_f2 (x4 &&& (63 : Int32)))), .val (.int (own_j0_2 x4))] []))
                        refine own_go (fun t k => XS.iconst X161.here hx rfl (hb hby at_698) k) ?_
                        rw [show (own_j0_9 x0 x1 x2 y3 x4 x5) = (0 : Int32) from by rw [own_j0_9, if_pos hc156, if_neg hc157, if_neg hc158, if_neg hc159, if_neg hc160, if_neg hc162, if_neg hc163, if_pos hc164]] at HH166
                        exact HH166 _ _ X161 e161 N161
                      · refine own_go (fun t k => XS.icmpNo X161.here hx rfl (hb hby at_684) rfl (flt hc164).2.2.1 k) ?_
                        show own_Goes p e below _ (T161.setTop (mkF m 687 #[.val (.int x0), .val (.int x1), .val (.int x2), .val (.long y3), .second, .val (.int x4), .val (.int x5), .val (.int (own_v0_1 x0)), .val (.int (own_v0_2 x1)), .val (.int (own_v0_3 x1)), .val (.int (own_v0_4 x2)), .val (.int (own_v0_5 x2)), .val (.int (own_v0_6 y3)), .val (.long (own_v0_7 y3)), .second, .val (.int (x4 &&& (63 : Int32))), .val (.int (own_v0_8 x4)), .val (.int (x5 &&& (3 : Int32))), .val (.int (own_v0_9 x5)), .val (.int (own_j0_1 x5)), .val (.int (own_v0_10 x5)), .val (.ref b76), .val (.int (x5 &&& (3 : Int32))), .val (.int (own_j0_5 x4)), .val (.int (own_j0_6 x4)), .val (.int (own_f2 (x4 &&& (63 : Int32)))), .val (.int (own_j0_2 x4))] []))
                        refine own_go (fun t k => XS.iload X161.here hx rfl (hb hby at_687) rfl k) ?_
                        show own_Goes p e below _ (T161.setTop (mkF m 689 #[.val (.int x0), .val (.int x1), .val (.int x2), .val (.long y3), .second, .val (.int x4), .val (.int x5), .val (.int (own_v0_1 x0)), .val (.int (own_v0_2 x1)), .val (.int (own_v0_3 x1)), .val (.int (own_v0_4 x2)), .val (.int (own_v0_5 x2)), .val (.int (own_v0_6 y3)), .val (.long (own_v0_7 y3)), .second, .val (.int (x4 &&& (63 : Int32))), .val (.int (own_v0_8 x4)), .val (.int (x5 &&& (3 : Int32))), .val (.int (own_v0_9 x5)), .val (.int (own_j0_1 x5)), .val (.int (own_v0_10 x5)), .val (.ref b76), .val (.int (x5 &&& (3 : Int32))), .val (.int (own_j0_5 x4)), .val (.int (own_j0_6 x4)), .val (.int (own_f2 (x4 &&& (63 : Int32)))), .val (.int (own_j0_2 x4))] [(.int (own_v0_6 y3))]))
                        refine own_go (fun t k => XS.bipush X161.here hx rfl (hb hby at_689) k) ?_
                        show own_Goes p e below _ (T161.setTop (mkF m 691 #[.val (.int x0), .val (.int x1), .val (.int x2), .val (.long y3), .second, .val (.int x4), .val (.int x5), .val (.int (own_v0_1 x0)), .val (.int (own_v0_2 x1)), .val (.int (own_v0_3 x1)), .val (.int (own_v0_4 x2)), .val (.int (own_v0_5 x2)), .val (.int (own_v0_6 y3)), .val (.long (own_v0_7 y3)), .second, .val (.int (x4 &&& (63 : Int32))), .val (.int (own_v0_8 x4)), .val (.int (x5 &&& (3 : Int32))), .val (.int (own_v0_9 x5)), .val (.int (own_j0_1 x5)), .val (.int (own_v0_10 x5)), .val (.ref b76), .val (.int (x5 &&& (3 : Int32))), .val (.int (own_j0_5 x4)), .val (.int (own_j0_6 x4)), .val (.int (own_f2 (x4 &&& (63 : Int32)))), .val (.int (own_j0_2 x4))] [(.int (59 : Int32)), (.int (own_v0_6 y3))]))
                        by_cases hc165 : (59 : Int32) < (own_v0_6 y3)
                        · refine own_go (fun t k => XS.icmpYes X161.here hx rfl (pc0 := 691) (pc' := 698) rfl (hb hby at_691) rfl (tlt hc165).2.2.1 (by decide) (by decide) k) ?_
                          show own_Goes p e below _ (T161.setTop (mkF m 698 #[.val (.int x0), .val (.int x1), .val (.int x2), .val (.long y3), .second, .val (.int x4), .val (.int x5), .val (.int (own_v0_1 x0)), .val (.int (own_v0_2 x1)), .val (.int (own_v0_3 x1)), .val (.int (own_v0_4 x2)), .val (.int (own_v0_5 x2)), .val (.int (own_v0_6 y3)), .val (.long (own_v0_7 y3)), .second, .val (.int (x4 &&& (63 : Int32))), .val (.int (own_v0_8 x4)), .val (.int (x5 &&& (3 : Int32))), .val (.int (own_v0_9 x5)), .val (.int (own_j0_1 x5)), .val (.int (own_v0_10 x5)), .val (.ref b76), .val (.int (x5 &&& (3 : Int32))), .val (.int (own_j0_5 x4)), .val (.int (own_j0_6 x4)), .val (.int (own_f2 (x4 &&& (63 : Int32)))), .val (.int (own_j0_2 x4))] []))
                          refine own_go (fun t k => XS.iconst X161.here hx rfl (hb hby at_698) k) ?_
                          rw [show (own_j0_9 x0 x1 x2 y3 x4 x5) = (0 : Int32) from by rw [own_j0_9, if_pos hc156, if_neg hc157, if_neg hc158, if_neg hc159, if_neg hc160, if_neg hc162, if_neg hc163, if_neg hc164, if_pos hc165]] at HH166
                          exact HH166 _ _ X161 e161 N161
                        · refine own_go (fun t k => XS.icmpNo X161.here hx rfl (hb hby at_691) rfl (flt hc165).2.2.1 k) ?_
                          show own_Goes p e below _ (T161.setTop (mkF m 694 #[.val (.int x0), .val (.int x1), .val (.int x2), .val (.long y3), .second, .val (.int x4), .val (.int x5), .val (.int (own_v0_1 x0)), .val (.int (own_v0_2 x1)), .val (.int (own_v0_3 x1)), .val (.int (own_v0_4 x2)), .val (.int (own_v0_5 x2)), .val (.int (own_v0_6 y3)), .val (.long (own_v0_7 y3)), .second, .val (.int (x4 &&& (63 : Int32))), .val (.int (own_v0_8 x4)), .val (.int (x5 &&& (3 : Int32))), .val (.int (own_v0_9 x5)), .val (.int (own_j0_1 x5)), .val (.int (own_v0_10 x5)), .val (.ref b76), .val (.int (x5 &&& (3 : Int32))), .val (.int (own_j0_5 x4)), .val (.int (own_j0_6 x4)), .val (.int (own_f2 (x4 &&& (63 : Int32)))), .val (.int (own_j0_2 x4))] []))
                          refine own_go (fun t k => XS.iconst X161.here hx rfl (hb hby at_694) k) ?_
                          show own_Goes p e below _ (T161.setTop (mkF m 695 #[.val (.int x0), .val (.int x1), .val (.int x2), .val (.long y3), .second, .val (.int x4), .val (.int x5), .val (.int (own_v0_1 x0)), .val (.int (own_v0_2 x1)), .val (.int (own_v0_3 x1)), .val (.int (own_v0_4 x2)), .val (.int (own_v0_5 x2)), .val (.int (own_v0_6 y3)), .val (.long (own_v0_7 y3)), .second, .val (.int (x4 &&& (63 : Int32))), .val (.int (own_v0_8 x4)), .val (.int (x5 &&& (3 : Int32))), .val (.int (own_v0_9 x5)), .val (.int (own_j0_1 x5)), .val (.int (own_v0_10 x5)), .val (.ref b76), .val (.int (x5 &&& (3 : Int32))), .val (.int (own_j0_5 x4)), .val (.int (own_j0_6 x4)), .val (.int (own_f2 (x4 &&& (63 : Int32)))), .val (.int (own_j0_2 x4))] [(.int (1 : Int32))]))
                          refine own_go (fun t k => XS.goto X161.here hx rfl (pc0 := 695) (pc' := 699) rfl (hb hby at_695) (by decide) (by decide) k) ?_
                          rw [show (own_j0_9 x0 x1 x2 y3 x4 x5) = (1 : Int32) from by rw [own_j0_9, if_pos hc156, if_neg hc157, if_neg hc158, if_neg hc159, if_neg hc160, if_neg hc162, if_neg hc163, if_neg hc164, if_neg hc165]] at HH166
                          exact HH166 _ _ X161 e161 N161
        · refine own_go (fun t k => XS.icmpYes X155.here hx rfl (pc0 := 634) (pc' := 698) rfl (hb hby at_634) rfl (feq hc156).2 (by decide) (by decide) k) ?_
          show own_Goes p e below _ (T155.setTop (mkF m 698 #[.val (.int x0), .val (.int x1), .val (.int x2), .val (.long y3), .second, .val (.int x4), .val (.int x5), .val (.int (own_v0_1 x0)), .val (.int (own_v0_2 x1)), .val (.int (own_v0_3 x1)), .val (.int (own_v0_4 x2)), .val (.int (own_v0_5 x2)), .val (.int (own_v0_6 y3)), .val (.long (own_v0_7 y3)), .second, .val (.int (x4 &&& (63 : Int32))), .val (.int (own_v0_8 x4)), .val (.int (x5 &&& (3 : Int32))), .val (.int (own_v0_9 x5)), .val (.int (own_j0_1 x5)), .val (.int (own_v0_10 x5)), .val (.ref b76), .val (.int (x5 &&& (3 : Int32))), .val (.int (own_j0_5 x4)), .val (.int (own_j0_6 x4)), .val (.int (own_f2 (x4 &&& (63 : Int32)))), .val (.int (own_j0_2 x4))] []))
          refine own_go (fun t k => XS.iconst X155.here hx rfl (hb hby at_698) k) ?_
          rw [show (own_j0_9 x0 x1 x2 y3 x4 x5) = (0 : Int32) from by rw [own_j0_9, if_neg hc156]] at HH166
          exact HH166 _ _ X155 e155 N155
      intro T166 L166 X166 e166 N166
      show own_Goes p e below _ (T166.setTop (mkF m 699 #[.val (.int x0), .val (.int x1), .val (.int x2), .val (.long y3), .second, .val (.int x4), .val (.int x5), .val (.int (own_v0_1 x0)), .val (.int (own_v0_2 x1)), .val (.int (own_v0_3 x1)), .val (.int (own_v0_4 x2)), .val (.int (own_v0_5 x2)), .val (.int (own_v0_6 y3)), .val (.long (own_v0_7 y3)), .second, .val (.int (x4 &&& (63 : Int32))), .val (.int (own_v0_8 x4)), .val (.int (x5 &&& (3 : Int32))), .val (.int (own_v0_9 x5)), .val (.int (own_j0_1 x5)), .val (.int (own_v0_10 x5)), .val (.ref b76), .val (.int (x5 &&& (3 : Int32))), .val (.int (own_j0_5 x4)), .val (.int (own_j0_6 x4)), .val (.int (own_f2 (x4 &&& (63 : Int32)))), .val (.int (own_j0_2 x4))] [(.int (own_j0_9 x0 x1 x2 y3 x4 x5))]))
      refine own_go (fun t k => XS.istore X166.here hx rfl (hb hby at_699) rfl (l' := #[.val (.int x0), .val (.int x1), .val (.int x2), .val (.long y3), .second, .val (.int x4), .val (.int x5), .val (.int (own_v0_1 x0)), .val (.int (own_v0_2 x1)), .val (.int (own_v0_3 x1)), .val (.int (own_v0_4 x2)), .val (.int (own_v0_5 x2)), .val (.int (own_v0_6 y3)), .val (.long (own_v0_7 y3)), .second, .val (.int (x4 &&& (63 : Int32))), .val (.int (own_v0_8 x4)), .val (.int (x5 &&& (3 : Int32))), .val (.int (own_v0_9 x5)), .val (.int (own_j0_1 x5)), .val (.int (own_v0_10 x5)), .val (.ref b76), .val (.int (x5 &&& (3 : Int32))), .val (.int (own_j0_5 x4)), .val (.int (own_j0_6 x4)), .val (.int (own_j0_9 x0 x1 x2 y3 x4 x5)), .val (.int (own_j0_2 x4))]) rfl k) ?_
      show own_Goes p e below _ (T166.setTop (mkF m 701 #[.val (.int x0), .val (.int x1), .val (.int x2), .val (.long y3), .second, .val (.int x4), .val (.int x5), .val (.int (own_v0_1 x0)), .val (.int (own_v0_2 x1)), .val (.int (own_v0_3 x1)), .val (.int (own_v0_4 x2)), .val (.int (own_v0_5 x2)), .val (.int (own_v0_6 y3)), .val (.long (own_v0_7 y3)), .second, .val (.int (x4 &&& (63 : Int32))), .val (.int (own_v0_8 x4)), .val (.int (x5 &&& (3 : Int32))), .val (.int (own_v0_9 x5)), .val (.int (own_j0_1 x5)), .val (.int (own_v0_10 x5)), .val (.ref b76), .val (.int (x5 &&& (3 : Int32))), .val (.int (own_j0_5 x4)), .val (.int (own_j0_6 x4)), .val (.int (own_j0_9 x0 x1 x2 y3 x4 x5)), .val (.int (own_j0_2 x4))] []))
      refine own_go (fun t k => XS.aload X166.here hx rfl (hb hby at_701) rfl rfl k) ?_
      show own_Goes p e below _ (T166.setTop (mkF m 703 #[.val (.int x0), .val (.int x1), .val (.int x2), .val (.long y3), .second, .val (.int x4), .val (.int x5), .val (.int (own_v0_1 x0)), .val (.int (own_v0_2 x1)), .val (.int (own_v0_3 x1)), .val (.int (own_v0_4 x2)), .val (.int (own_v0_5 x2)), .val (.int (own_v0_6 y3)), .val (.long (own_v0_7 y3)), .second, .val (.int (x4 &&& (63 : Int32))), .val (.int (own_v0_8 x4)), .val (.int (x5 &&& (3 : Int32))), .val (.int (own_v0_9 x5)), .val (.int (own_j0_1 x5)), .val (.int (own_v0_10 x5)), .val (.ref b76), .val (.int (x5 &&& (3 : Int32))), .val (.int (own_j0_5 x4)), .val (.int (own_j0_6 x4)), .val (.int (own_j0_9 x0 x1 x2 y3 x4 x5)), .val (.int (own_j0_2 x4))] [(.ref b76)]))
      refine own_go (fun t k => XS.iload X166.here hx rfl (hb hby at_703) rfl k) ?_
      show own_Goes p e below _ (T166.setTop (mkF m 705 #[.val (.int x0), .val (.int x1), .val (.int x2), .val (.long y3), .second, .val (.int x4), .val (.int x5), .val (.int (own_v0_1 x0)), .val (.int (own_v0_2 x1)), .val (.int (own_v0_3 x1)), .val (.int (own_v0_4 x2)), .val (.int (own_v0_5 x2)), .val (.int (own_v0_6 y3)), .val (.long (own_v0_7 y3)), .second, .val (.int (x4 &&& (63 : Int32))), .val (.int (own_v0_8 x4)), .val (.int (x5 &&& (3 : Int32))), .val (.int (own_v0_9 x5)), .val (.int (own_j0_1 x5)), .val (.int (own_v0_10 x5)), .val (.ref b76), .val (.int (x5 &&& (3 : Int32))), .val (.int (own_j0_5 x4)), .val (.int (own_j0_6 x4)), .val (.int (own_j0_9 x0 x1 x2 y3 x4 x5)), .val (.int (own_j0_2 x4))] [(.int (x5 &&& (3 : Int32))), (.ref b76)]))
      refine own_go (fun t k => XS.iload X166.here hx rfl (hb hby at_705) rfl k) ?_
      show own_Goes p e below _ (T166.setTop (mkF m 707 #[.val (.int x0), .val (.int x1), .val (.int x2), .val (.long y3), .second, .val (.int x4), .val (.int x5), .val (.int (own_v0_1 x0)), .val (.int (own_v0_2 x1)), .val (.int (own_v0_3 x1)), .val (.int (own_v0_4 x2)), .val (.int (own_v0_5 x2)), .val (.int (own_v0_6 y3)), .val (.long (own_v0_7 y3)), .second, .val (.int (x4 &&& (63 : Int32))), .val (.int (own_v0_8 x4)), .val (.int (x5 &&& (3 : Int32))), .val (.int (own_v0_9 x5)), .val (.int (own_j0_1 x5)), .val (.int (own_v0_10 x5)), .val (.ref b76), .val (.int (x5 &&& (3 : Int32))), .val (.int (own_j0_5 x4)), .val (.int (own_j0_6 x4)), .val (.int (own_j0_9 x0 x1 x2 y3 x4 x5)), .val (.int (own_j0_2 x4))] [(.int (own_v0_10 x5)), (.int (x5 &&& (3 : Int32))), (.ref b76)]))
      obtain ⟨cl168, Ar168, sa168, ha168⟩ := id V155
      have oo169 : Old Z n0 h155 := (((((((((((((((((((((((((((((O0.ext E76).wr W78 g_b76).wr W80 g_b76).wr W82 g_b76).wr W84 g_b76).wr W85 g_b76).wr W87 g_b76).wr W89 g_b76).wr W90 g_b76).wr W92 g_b76).wr W94 g_b76).wr W95 g_b76).wr W97 g_b76).wr W99 g_b76).wr W100 g_b76).wr W102 g_b76).wr W104 g_b76).wr W105 g_b76).wr W107 g_b76).wr W109 g_b76).wr W110 g_b76).wr W112 g_b76).wr W114 g_b76).wr W116 g_b76).wr W118 g_b76).wr W120 g_b76).wr W122 g_b76).wr W123 g_b76).wr W155 g_b76)
      obtain ⟨_, T167, L167, X167, ⟨rfl, N167q, e167⟩, st167⟩ := own_callS X166 hx hZ hown (hw _ own_t17) (hw _ own_t18) (hw _ own_t19) (hw _ own_t20) (by decide) (as := [(.ref b76), (.int (x5 &&& (3 : Int32))), (.int (own_v0_10 x5))]) (rm3 l Z a0 hw [] b76 (x5 &&& (3 : Int32)) (own_v0_10 x5) (own_G0_28 x0 x1 x2 y3 x4 x5) cl168 cl_F s_F h155 n0 Ar168 sa168 ha168 (A_F.ext oo169.2) z_F t_F (own_fr x5) (S_s_F.ext oo169.2)) e166 own_pd4 rfl (pc := 707) (Ls := #[.val (.int x0), .val (.int x1), .val (.int x2), .val (.long y3), .second, .val (.int x4), .val (.int x5), .val (.int (own_v0_1 x0)), .val (.int (own_v0_2 x1)), .val (.int (own_v0_3 x1)), .val (.int (own_v0_4 x2)), .val (.int (own_v0_5 x2)), .val (.int (own_v0_6 y3)), .val (.long (own_v0_7 y3)), .second, .val (.int (x4 &&& (63 : Int32))), .val (.int (own_v0_8 x4)), .val (.int (x5 &&& (3 : Int32))), .val (.int (own_v0_9 x5)), .val (.int (own_j0_1 x5)), .val (.int (own_v0_10 x5)), .val (.ref b76), .val (.int (x5 &&& (3 : Int32))), .val (.int (own_j0_5 x4)), .val (.int (own_j0_6 x4)), .val (.int (own_j0_9 x0 x1 x2 y3 x4 x5)), .val (.int (own_j0_2 x4))]) (rest := []) (W := 0) (by rw [hml]; rfl) (Nat.le_of_eq rfl) (by decide) (by decide) (hb hby at_707) (by decide) (by decide)
      have N167 := Fr.app N166 N167q
      refine own_go st167 ?_
      show own_Goes p e below _ (T167.setTop (mkF m 710 #[.val (.int x0), .val (.int x1), .val (.int x2), .val (.long y3), .second, .val (.int x4), .val (.int x5), .val (.int (own_v0_1 x0)), .val (.int (own_v0_2 x1)), .val (.int (own_v0_3 x1)), .val (.int (own_v0_4 x2)), .val (.int (own_v0_5 x2)), .val (.int (own_v0_6 y3)), .val (.long (own_v0_7 y3)), .second, .val (.int (x4 &&& (63 : Int32))), .val (.int (own_v0_8 x4)), .val (.int (x5 &&& (3 : Int32))), .val (.int (own_v0_9 x5)), .val (.int (own_j0_1 x5)), .val (.int (own_v0_10 x5)), .val (.ref b76), .val (.int (x5 &&& (3 : Int32))), .val (.int (own_j0_5 x4)), .val (.int (own_j0_6 x4)), .val (.int (own_j0_9 x0 x1 x2 y3 x4 x5)), .val (.int (own_j0_2 x4))] [(.int (own_rt (x5 &&& (3 : Int32)) (own_v0_10 x5) (own_G0_28 x0 x1 x2 y3 x4 x5)))]))
      refine own_go (fun t k => XS.istore X167.here hx rfl (hb hby at_710) rfl (l' := #[.val (.int x0), .val (.int x1), .val (.int x2), .val (.long y3), .second, .val (.int x4), .val (.int x5), .val (.int (own_v0_1 x0)), .val (.int (own_v0_2 x1)), .val (.int (own_v0_3 x1)), .val (.int (own_v0_4 x2)), .val (.int (own_v0_5 x2)), .val (.int (own_v0_6 y3)), .val (.long (own_v0_7 y3)), .second, .val (.int (x4 &&& (63 : Int32))), .val (.int (own_v0_8 x4)), .val (.int (x5 &&& (3 : Int32))), .val (.int (own_v0_9 x5)), .val (.int (own_j0_1 x5)), .val (.int (own_v0_10 x5)), .val (.ref b76), .val (.int (x5 &&& (3 : Int32))), .val (.int (own_j0_5 x4)), .val (.int (own_j0_6 x4)), .val (.int (own_j0_9 x0 x1 x2 y3 x4 x5)), .val (.int (own_v0_12 x0 x1 x2 y3 x4 x5))]) rfl k) ?_
      show own_Goes p e below _ (T167.setTop (mkF m 712 #[.val (.int x0), .val (.int x1), .val (.int x2), .val (.long y3), .second, .val (.int x4), .val (.int x5), .val (.int (own_v0_1 x0)), .val (.int (own_v0_2 x1)), .val (.int (own_v0_3 x1)), .val (.int (own_v0_4 x2)), .val (.int (own_v0_5 x2)), .val (.int (own_v0_6 y3)), .val (.long (own_v0_7 y3)), .second, .val (.int (x4 &&& (63 : Int32))), .val (.int (own_v0_8 x4)), .val (.int (x5 &&& (3 : Int32))), .val (.int (own_v0_9 x5)), .val (.int (own_j0_1 x5)), .val (.int (own_v0_10 x5)), .val (.ref b76), .val (.int (x5 &&& (3 : Int32))), .val (.int (own_j0_5 x4)), .val (.int (own_j0_6 x4)), .val (.int (own_j0_9 x0 x1 x2 y3 x4 x5)), .val (.int (own_v0_12 x0 x1 x2 y3 x4 x5))] []))
      refine own_go (fun t k => XS.iload X167.here hx rfl (hb hby at_712) rfl k) ?_
      show own_Goes p e below _ (T167.setTop (mkF m 714 #[.val (.int x0), .val (.int x1), .val (.int x2), .val (.long y3), .second, .val (.int x4), .val (.int x5), .val (.int (own_v0_1 x0)), .val (.int (own_v0_2 x1)), .val (.int (own_v0_3 x1)), .val (.int (own_v0_4 x2)), .val (.int (own_v0_5 x2)), .val (.int (own_v0_6 y3)), .val (.long (own_v0_7 y3)), .second, .val (.int (x4 &&& (63 : Int32))), .val (.int (own_v0_8 x4)), .val (.int (x5 &&& (3 : Int32))), .val (.int (own_v0_9 x5)), .val (.int (own_j0_1 x5)), .val (.int (own_v0_10 x5)), .val (.ref b76), .val (.int (x5 &&& (3 : Int32))), .val (.int (own_j0_5 x4)), .val (.int (own_j0_6 x4)), .val (.int (own_j0_9 x0 x1 x2 y3 x4 x5)), .val (.int (own_v0_12 x0 x1 x2 y3 x4 x5))] [(.int (own_v0_12 x0 x1 x2 y3 x4 x5))]))
      refine own_go (fun t k => XS.iload X167.here hx rfl (hb hby at_714) rfl k) ?_
      show own_Goes p e below _ (T167.setTop (mkF m 716 #[.val (.int x0), .val (.int x1), .val (.int x2), .val (.long y3), .second, .val (.int x4), .val (.int x5), .val (.int (own_v0_1 x0)), .val (.int (own_v0_2 x1)), .val (.int (own_v0_3 x1)), .val (.int (own_v0_4 x2)), .val (.int (own_v0_5 x2)), .val (.int (own_v0_6 y3)), .val (.long (own_v0_7 y3)), .second, .val (.int (x4 &&& (63 : Int32))), .val (.int (own_v0_8 x4)), .val (.int (x5 &&& (3 : Int32))), .val (.int (own_v0_9 x5)), .val (.int (own_j0_1 x5)), .val (.int (own_v0_10 x5)), .val (.ref b76), .val (.int (x5 &&& (3 : Int32))), .val (.int (own_j0_5 x4)), .val (.int (own_j0_6 x4)), .val (.int (own_j0_9 x0 x1 x2 y3 x4 x5)), .val (.int (own_v0_12 x0 x1 x2 y3 x4 x5))] [(.int (own_j0_9 x0 x1 x2 y3 x4 x5)), (.int (own_v0_12 x0 x1 x2 y3 x4 x5))]))
      suffices HH171 : own_Goes p e below (own_End s room_1 (own_Q0 x0 x1 x2 y3 x4 x5 s_F h0 n0)) (T167.setTop (mkF m 724 #[.val (.int x0), .val (.int x1), .val (.int x2), .val (.long y3), .second, .val (.int x4), .val (.int x5), .val (.int (own_v0_1 x0)), .val (.int (own_v0_2 x1)), .val (.int (own_v0_3 x1)), .val (.int (own_v0_4 x2)), .val (.int (own_v0_5 x2)), .val (.int (own_v0_6 y3)), .val (.long (own_v0_7 y3)), .second, .val (.int (x4 &&& (63 : Int32))), .val (.int (own_v0_8 x4)), .val (.int (x5 &&& (3 : Int32))), .val (.int (own_v0_9 x5)), .val (.int (own_j0_1 x5)), .val (.int (own_v0_10 x5)), .val (.ref b76), .val (.int (x5 &&& (3 : Int32))), .val (.int (own_j0_5 x4)), .val (.int (own_j0_6 x4)), .val (.int (own_j0_9 x0 x1 x2 y3 x4 x5)), .val (.int (own_v0_12 x0 x1 x2 y3 x4 x5))] [(.int (own_j0_10 x0 x1 x2 y3 x4 x5))])) by
        by_cases hc170 : (own_v0_12 x0 x1 x2 y3 x4 x5) = (own_j0_9 x0 x1 x2 y3 x4 x5)
        · refine own_go (fun t k => XS.icmpNo X167.here hx rfl (hb hby at_716) rfl (teq hc170).2 k) ?_
          show own_Goes p e below _ (T167.setTop (mkF m 719 #[.val (.int x0), .val (.int x1), .val (.int x2), .val (.long y3), .second, .val (.int x4), .val (.int x5), .val (.int (own_v0_1 x0)), .val (.int (own_v0_2 x1)), .val (.int (own_v0_3 x1)), .val (.int (own_v0_4 x2)), .val (.int (own_v0_5 x2)), .val (.int (own_v0_6 y3)), .val (.long (own_v0_7 y3)), .second, .val (.int (x4 &&& (63 : Int32))), .val (.int (own_v0_8 x4)), .val (.int (x5 &&& (3 : Int32))), .val (.int (own_v0_9 x5)), .val (.int (own_j0_1 x5)), .val (.int (own_v0_10 x5)), .val (.ref b76), .val (.int (x5 &&& (3 : Int32))), .val (.int (own_j0_5 x4)), .val (.int (own_j0_6 x4)), .val (.int (own_j0_9 x0 x1 x2 y3 x4 x5)), .val (.int (own_v0_12 x0 x1 x2 y3 x4 x5))] []))
          refine own_go (fun t k => XS.iconst X167.here hx rfl (hb hby at_719) k) ?_
          show own_Goes p e below _ (T167.setTop (mkF m 720 #[.val (.int x0), .val (.int x1), .val (.int x2), .val (.long y3), .second, .val (.int x4), .val (.int x5), .val (.int (own_v0_1 x0)), .val (.int (own_v0_2 x1)), .val (.int (own_v0_3 x1)), .val (.int (own_v0_4 x2)), .val (.int (own_v0_5 x2)), .val (.int (own_v0_6 y3)), .val (.long (own_v0_7 y3)), .second, .val (.int (x4 &&& (63 : Int32))), .val (.int (own_v0_8 x4)), .val (.int (x5 &&& (3 : Int32))), .val (.int (own_v0_9 x5)), .val (.int (own_j0_1 x5)), .val (.int (own_v0_10 x5)), .val (.ref b76), .val (.int (x5 &&& (3 : Int32))), .val (.int (own_j0_5 x4)), .val (.int (own_j0_6 x4)), .val (.int (own_j0_9 x0 x1 x2 y3 x4 x5)), .val (.int (own_v0_12 x0 x1 x2 y3 x4 x5))] [(.int (1 : Int32))]))
          refine own_go (fun t k => XS.goto X167.here hx rfl (pc0 := 720) (pc' := 724) rfl (hb hby at_720) (by decide) (by decide) k) ?_
          rw [show (own_j0_10 x0 x1 x2 y3 x4 x5) = (1 : Int32) from by rw [own_j0_10, if_pos hc170]] at HH171
          exact HH171
        · refine own_go (fun t k => XS.icmpYes X167.here hx rfl (pc0 := 716) (pc' := 723) rfl (hb hby at_716) rfl (feq hc170).2 (by decide) (by decide) k) ?_
          show own_Goes p e below _ (T167.setTop (mkF m 723 #[.val (.int x0), .val (.int x1), .val (.int x2), .val (.long y3), .second, .val (.int x4), .val (.int x5), .val (.int (own_v0_1 x0)), .val (.int (own_v0_2 x1)), .val (.int (own_v0_3 x1)), .val (.int (own_v0_4 x2)), .val (.int (own_v0_5 x2)), .val (.int (own_v0_6 y3)), .val (.long (own_v0_7 y3)), .second, .val (.int (x4 &&& (63 : Int32))), .val (.int (own_v0_8 x4)), .val (.int (x5 &&& (3 : Int32))), .val (.int (own_v0_9 x5)), .val (.int (own_j0_1 x5)), .val (.int (own_v0_10 x5)), .val (.ref b76), .val (.int (x5 &&& (3 : Int32))), .val (.int (own_j0_5 x4)), .val (.int (own_j0_6 x4)), .val (.int (own_j0_9 x0 x1 x2 y3 x4 x5)), .val (.int (own_v0_12 x0 x1 x2 y3 x4 x5))] []))
          refine own_go (fun t k => XS.iconst X167.here hx rfl (hb hby at_723) k) ?_
          rw [show (own_j0_10 x0 x1 x2 y3 x4 x5) = (0 : Int32) from by rw [own_j0_10, if_neg hc170]] at HH171
          exact HH171
      show own_Goes p e below _ (T167.setTop (mkF m 724 #[.val (.int x0), .val (.int x1), .val (.int x2), .val (.long y3), .second, .val (.int x4), .val (.int x5), .val (.int (own_v0_1 x0)), .val (.int (own_v0_2 x1)), .val (.int (own_v0_3 x1)), .val (.int (own_v0_4 x2)), .val (.int (own_v0_5 x2)), .val (.int (own_v0_6 y3)), .val (.long (own_v0_7 y3)), .second, .val (.int (x4 &&& (63 : Int32))), .val (.int (own_v0_8 x4)), .val (.int (x5 &&& (3 : Int32))), .val (.int (own_v0_9 x5)), .val (.int (own_j0_1 x5)), .val (.int (own_v0_10 x5)), .val (.ref b76), .val (.int (x5 &&& (3 : Int32))), .val (.int (own_j0_5 x4)), .val (.int (own_j0_6 x4)), .val (.int (own_j0_9 x0 x1 x2 y3 x4 x5)), .val (.int (own_v0_12 x0 x1 x2 y3 x4 x5))] [(.int (own_j0_10 x0 x1 x2 y3 x4 x5))]))
      exact own_retN X167 hx hlk hret (by simp) (z' := ((own_j0_10 x0 x1 x2 y3 x4 x5) &&& 1)) rfl (hb hby at_724) (by decide) (by decide) ⟨by rw [own_f0, if_pos hc124, if_neg hc138], N167, trivial⟩
  · refine own_go (fun t k => XS.icmpYes X123.here hx rfl (pc0 := 552) (pc' := 615) rfl (hb hby at_552) rfl (flt hc124).2.1 (by decide) (by decide) k) ?_
    show own_Goes p e below _ (T123.setTop (mkF m 615 #[.val (.int x0), .val (.int x1), .val (.int x2), .val (.long y3), .second, .val (.int x4), .val (.int x5), .val (.int (own_v0_1 x0)), .val (.int (own_v0_2 x1)), .val (.int (own_v0_3 x1)), .val (.int (own_v0_4 x2)), .val (.int (own_v0_5 x2)), .val (.int (own_v0_6 y3)), .val (.long (own_v0_7 y3)), .second, .val (.int (x4 &&& (63 : Int32))), .val (.int (own_v0_8 x4)), .val (.int (x5 &&& (3 : Int32))), .val (.int (own_v0_9 x5)), .val (.int (own_j0_1 x5)), .val (.int (own_v0_10 x5)), .val (.ref b76), .val (.int (x5 &&& (3 : Int32))), .val (.int (0 : Int32)), .val (.int (1 : Int32)), .unset, .unset] []))
    refine own_go (fun t k => XS.iload X123.here hx rfl (hb hby at_615) rfl k) ?_
    show own_Goes p e below _ (T123.setTop (mkF m 617 #[.val (.int x0), .val (.int x1), .val (.int x2), .val (.long y3), .second, .val (.int x4), .val (.int x5), .val (.int (own_v0_1 x0)), .val (.int (own_v0_2 x1)), .val (.int (own_v0_3 x1)), .val (.int (own_v0_4 x2)), .val (.int (own_v0_5 x2)), .val (.int (own_v0_6 y3)), .val (.long (own_v0_7 y3)), .second, .val (.int (x4 &&& (63 : Int32))), .val (.int (own_v0_8 x4)), .val (.int (x5 &&& (3 : Int32))), .val (.int (own_v0_9 x5)), .val (.int (own_j0_1 x5)), .val (.int (own_v0_10 x5)), .val (.ref b76), .val (.int (x5 &&& (3 : Int32))), .val (.int (0 : Int32)), .val (.int (1 : Int32)), .unset, .unset] [(.int (0 : Int32))]))
    have hd172 : (0 : Int32) = (0 : Int32) := (by decide)
    refine own_go (fun t k => XS.ifYes X123.here hx rfl (pc0 := 617) (pc' := 630) rfl (hb hby at_617) rfl ((if0 _ _).trans (teq hd172).1) (by decide) (by decide) k) ?_
    show own_Goes p e below _ (T123.setTop (mkF m 630 #[.val (.int x0), .val (.int x1), .val (.int x2), .val (.long y3), .second, .val (.int x4), .val (.int x5), .val (.int (own_v0_1 x0)), .val (.int (own_v0_2 x1)), .val (.int (own_v0_3 x1)), .val (.int (own_v0_4 x2)), .val (.int (own_v0_5 x2)), .val (.int (own_v0_6 y3)), .val (.long (own_v0_7 y3)), .second, .val (.int (x4 &&& (63 : Int32))), .val (.int (own_v0_8 x4)), .val (.int (x5 &&& (3 : Int32))), .val (.int (own_v0_9 x5)), .val (.int (own_j0_1 x5)), .val (.int (own_v0_10 x5)), .val (.ref b76), .val (.int (x5 &&& (3 : Int32))), .val (.int (0 : Int32)), .val (.int (1 : Int32)), .unset, .unset] []))
    refine own_go (fun t k => XS.iload X123.here hx rfl (hb hby at_630) rfl k) ?_
    show own_Goes p e below _ (T123.setTop (mkF m 632 #[.val (.int x0), .val (.int x1), .val (.int x2), .val (.long y3), .second, .val (.int x4), .val (.int x5), .val (.int (own_v0_1 x0)), .val (.int (own_v0_2 x1)), .val (.int (own_v0_3 x1)), .val (.int (own_v0_4 x2)), .val (.int (own_v0_5 x2)), .val (.int (own_v0_6 y3)), .val (.long (own_v0_7 y3)), .second, .val (.int (x4 &&& (63 : Int32))), .val (.int (own_v0_8 x4)), .val (.int (x5 &&& (3 : Int32))), .val (.int (own_v0_9 x5)), .val (.int (own_j0_1 x5)), .val (.int (own_v0_10 x5)), .val (.ref b76), .val (.int (x5 &&& (3 : Int32))), .val (.int (0 : Int32)), .val (.int (1 : Int32)), .unset, .unset] [(.int (own_j0_1 x5))]))
    refine own_go (fun t k => XS.bipush X123.here hx rfl (hb hby at_632) k) ?_
    show own_Goes p e below _ (T123.setTop (mkF m 634 #[.val (.int x0), .val (.int x1), .val (.int x2), .val (.long y3), .second, .val (.int x4), .val (.int x5), .val (.int (own_v0_1 x0)), .val (.int (own_v0_2 x1)), .val (.int (own_v0_3 x1)), .val (.int (own_v0_4 x2)), .val (.int (own_v0_5 x2)), .val (.int (own_v0_6 y3)), .val (.long (own_v0_7 y3)), .second, .val (.int (x4 &&& (63 : Int32))), .val (.int (own_v0_8 x4)), .val (.int (x5 &&& (3 : Int32))), .val (.int (own_v0_9 x5)), .val (.int (own_j0_1 x5)), .val (.int (own_v0_10 x5)), .val (.ref b76), .val (.int (x5 &&& (3 : Int32))), .val (.int (0 : Int32)), .val (.int (1 : Int32)), .unset, .unset] [(.int (27 : Int32)), (.int (own_j0_1 x5))]))
    suffices HH183 : ∀ (T183 : State) (L183 : List Loc) (X183 : Stand p l e room_1 s m #[(.int x0), (.int x1), (.int x2), (.long y3), (.int x4), (.int x5)] below meth c T183 L183 1 32) (e183 : T183.heap = h123) (N183 : Fr n0 L183), own_Goes p e below (own_End s room_1 (own_Q0 x0 x1 x2 y3 x4 x5 s_F h0 n0)) (T183.setTop (mkF m 699 #[.val (.int x0), .val (.int x1), .val (.int x2), .val (.long y3), .second, .val (.int x4), .val (.int x5), .val (.int (own_v0_1 x0)), .val (.int (own_v0_2 x1)), .val (.int (own_v0_3 x1)), .val (.int (own_v0_4 x2)), .val (.int (own_v0_5 x2)), .val (.int (own_v0_6 y3)), .val (.long (own_v0_7 y3)), .second, .val (.int (x4 &&& (63 : Int32))), .val (.int (own_v0_8 x4)), .val (.int (x5 &&& (3 : Int32))), .val (.int (own_v0_9 x5)), .val (.int (own_j0_1 x5)), .val (.int (own_v0_10 x5)), .val (.ref b76), .val (.int (x5 &&& (3 : Int32))), .val (.int (0 : Int32)), .val (.int (1 : Int32)), .unset, .unset] [(.int (own_j0_11 x0 x1 x2 y3 x5))])) by
      by_cases hc173 : (own_j0_1 x5) = (27 : Int32)
      · refine own_go (fun t k => XS.icmpNo X123.here hx rfl (hb hby at_634) rfl (teq hc173).2 k) ?_
        show own_Goes p e below _ (T123.setTop (mkF m 637 #[.val (.int x0), .val (.int x1), .val (.int x2), .val (.long y3), .second, .val (.int x4), .val (.int x5), .val (.int (own_v0_1 x0)), .val (.int (own_v0_2 x1)), .val (.int (own_v0_3 x1)), .val (.int (own_v0_4 x2)), .val (.int (own_v0_5 x2)), .val (.int (own_v0_6 y3)), .val (.long (own_v0_7 y3)), .second, .val (.int (x4 &&& (63 : Int32))), .val (.int (own_v0_8 x4)), .val (.int (x5 &&& (3 : Int32))), .val (.int (own_v0_9 x5)), .val (.int (own_j0_1 x5)), .val (.int (own_v0_10 x5)), .val (.ref b76), .val (.int (x5 &&& (3 : Int32))), .val (.int (0 : Int32)), .val (.int (1 : Int32)), .unset, .unset] []))
        refine own_go (fun t k => XS.iload X123.here hx rfl (hb hby at_637) rfl k) ?_
        show own_Goes p e below _ (T123.setTop (mkF m 639 #[.val (.int x0), .val (.int x1), .val (.int x2), .val (.long y3), .second, .val (.int x4), .val (.int x5), .val (.int (own_v0_1 x0)), .val (.int (own_v0_2 x1)), .val (.int (own_v0_3 x1)), .val (.int (own_v0_4 x2)), .val (.int (own_v0_5 x2)), .val (.int (own_v0_6 y3)), .val (.long (own_v0_7 y3)), .second, .val (.int (x4 &&& (63 : Int32))), .val (.int (own_v0_8 x4)), .val (.int (x5 &&& (3 : Int32))), .val (.int (own_v0_9 x5)), .val (.int (own_j0_1 x5)), .val (.int (own_v0_10 x5)), .val (.ref b76), .val (.int (x5 &&& (3 : Int32))), .val (.int (0 : Int32)), .val (.int (1 : Int32)), .unset, .unset] [(.int (1 : Int32))]))
        have hd174 : ¬ ((1 : Int32) = (0 : Int32)) := (by decide)
        refine own_go (fun t k => XS.ifNo X123.here hx rfl (hb hby at_639) rfl ((if0 _ _).trans (feq hd174).1) k) ?_
        show own_Goes p e below _ (T123.setTop (mkF m 642 #[.val (.int x0), .val (.int x1), .val (.int x2), .val (.long y3), .second, .val (.int x4), .val (.int x5), .val (.int (own_v0_1 x0)), .val (.int (own_v0_2 x1)), .val (.int (own_v0_3 x1)), .val (.int (own_v0_4 x2)), .val (.int (own_v0_5 x2)), .val (.int (own_v0_6 y3)), .val (.long (own_v0_7 y3)), .second, .val (.int (x4 &&& (63 : Int32))), .val (.int (own_v0_8 x4)), .val (.int (x5 &&& (3 : Int32))), .val (.int (own_v0_9 x5)), .val (.int (own_j0_1 x5)), .val (.int (own_v0_10 x5)), .val (.ref b76), .val (.int (x5 &&& (3 : Int32))), .val (.int (0 : Int32)), .val (.int (1 : Int32)), .unset, .unset] []))
        refine own_go (fun t k => XS.iload X123.here hx rfl (hb hby at_642) rfl k) ?_
        show own_Goes p e below _ (T123.setTop (mkF m 644 #[.val (.int x0), .val (.int x1), .val (.int x2), .val (.long y3), .second, .val (.int x4), .val (.int x5), .val (.int (own_v0_1 x0)), .val (.int (own_v0_2 x1)), .val (.int (own_v0_3 x1)), .val (.int (own_v0_4 x2)), .val (.int (own_v0_5 x2)), .val (.int (own_v0_6 y3)), .val (.long (own_v0_7 y3)), .second, .val (.int (x4 &&& (63 : Int32))), .val (.int (own_v0_8 x4)), .val (.int (x5 &&& (3 : Int32))), .val (.int (own_v0_9 x5)), .val (.int (own_j0_1 x5)), .val (.int (own_v0_10 x5)), .val (.ref b76), .val (.int (x5 &&& (3 : Int32))), .val (.int (0 : Int32)), .val (.int (1 : Int32)), .unset, .unset] [(.int (own_v0_2 x1))]))
        refine own_go (fun t k => XS.iconst X123.here hx rfl (hb hby at_644) k) ?_
        show own_Goes p e below _ (T123.setTop (mkF m 645 #[.val (.int x0), .val (.int x1), .val (.int x2), .val (.long y3), .second, .val (.int x4), .val (.int x5), .val (.int (own_v0_1 x0)), .val (.int (own_v0_2 x1)), .val (.int (own_v0_3 x1)), .val (.int (own_v0_4 x2)), .val (.int (own_v0_5 x2)), .val (.int (own_v0_6 y3)), .val (.long (own_v0_7 y3)), .second, .val (.int (x4 &&& (63 : Int32))), .val (.int (own_v0_8 x4)), .val (.int (x5 &&& (3 : Int32))), .val (.int (own_v0_9 x5)), .val (.int (own_j0_1 x5)), .val (.int (own_v0_10 x5)), .val (.ref b76), .val (.int (x5 &&& (3 : Int32))), .val (.int (0 : Int32)), .val (.int (1 : Int32)), .unset, .unset] [(.int (1 : Int32)), (.int (own_v0_2 x1))]))
        by_cases hc175 : (own_v0_2 x1) < (1 : Int32)
        · refine own_go (fun t k => XS.icmpYes X123.here hx rfl (pc0 := 645) (pc' := 698) rfl (hb hby at_645) rfl (tlt hc175).1 (by decide) (by decide) k) ?_
          show own_Goes p e below _ (T123.setTop (mkF m 698 #[.val (.int x0), .val (.int x1), .val (.int x2), .val (.long y3), .second, .val (.int x4), .val (.int x5), .val (.int (own_v0_1 x0)), .val (.int (own_v0_2 x1)), .val (.int (own_v0_3 x1)), .val (.int (own_v0_4 x2)), .val (.int (own_v0_5 x2)), .val (.int (own_v0_6 y3)), .val (.long (own_v0_7 y3)), .second, .val (.int (x4 &&& (63 : Int32))), .val (.int (own_v0_8 x4)), .val (.int (x5 &&& (3 : Int32))), .val (.int (own_v0_9 x5)), .val (.int (own_j0_1 x5)), .val (.int (own_v0_10 x5)), .val (.ref b76), .val (.int (x5 &&& (3 : Int32))), .val (.int (0 : Int32)), .val (.int (1 : Int32)), .unset, .unset] []))
          refine own_go (fun t k => XS.iconst X123.here hx rfl (hb hby at_698) k) ?_
          rw [show (own_j0_11 x0 x1 x2 y3 x5) = (0 : Int32) from by rw [own_j0_11, if_pos hc173, if_pos hc175]] at HH183
          exact HH183 _ _ X123 e123 N123
        · refine own_go (fun t k => XS.icmpNo X123.here hx rfl (hb hby at_645) rfl (flt hc175).1 k) ?_
          show own_Goes p e below _ (T123.setTop (mkF m 648 #[.val (.int x0), .val (.int x1), .val (.int x2), .val (.long y3), .second, .val (.int x4), .val (.int x5), .val (.int (own_v0_1 x0)), .val (.int (own_v0_2 x1)), .val (.int (own_v0_3 x1)), .val (.int (own_v0_4 x2)), .val (.int (own_v0_5 x2)), .val (.int (own_v0_6 y3)), .val (.long (own_v0_7 y3)), .second, .val (.int (x4 &&& (63 : Int32))), .val (.int (own_v0_8 x4)), .val (.int (x5 &&& (3 : Int32))), .val (.int (own_v0_9 x5)), .val (.int (own_j0_1 x5)), .val (.int (own_v0_10 x5)), .val (.ref b76), .val (.int (x5 &&& (3 : Int32))), .val (.int (0 : Int32)), .val (.int (1 : Int32)), .unset, .unset] []))
          refine own_go (fun t k => XS.iload X123.here hx rfl (hb hby at_648) rfl k) ?_
          show own_Goes p e below _ (T123.setTop (mkF m 650 #[.val (.int x0), .val (.int x1), .val (.int x2), .val (.long y3), .second, .val (.int x4), .val (.int x5), .val (.int (own_v0_1 x0)), .val (.int (own_v0_2 x1)), .val (.int (own_v0_3 x1)), .val (.int (own_v0_4 x2)), .val (.int (own_v0_5 x2)), .val (.int (own_v0_6 y3)), .val (.long (own_v0_7 y3)), .second, .val (.int (x4 &&& (63 : Int32))), .val (.int (own_v0_8 x4)), .val (.int (x5 &&& (3 : Int32))), .val (.int (own_v0_9 x5)), .val (.int (own_j0_1 x5)), .val (.int (own_v0_10 x5)), .val (.ref b76), .val (.int (x5 &&& (3 : Int32))), .val (.int (0 : Int32)), .val (.int (1 : Int32)), .unset, .unset] [(.int (own_v0_2 x1))]))
          refine own_go (fun t k => XS.bipush X123.here hx rfl (hb hby at_650) k) ?_
          show own_Goes p e below _ (T123.setTop (mkF m 652 #[.val (.int x0), .val (.int x1), .val (.int x2), .val (.long y3), .second, .val (.int x4), .val (.int x5), .val (.int (own_v0_1 x0)), .val (.int (own_v0_2 x1)), .val (.int (own_v0_3 x1)), .val (.int (own_v0_4 x2)), .val (.int (own_v0_5 x2)), .val (.int (own_v0_6 y3)), .val (.long (own_v0_7 y3)), .second, .val (.int (x4 &&& (63 : Int32))), .val (.int (own_v0_8 x4)), .val (.int (x5 &&& (3 : Int32))), .val (.int (own_v0_9 x5)), .val (.int (own_j0_1 x5)), .val (.int (own_v0_10 x5)), .val (.ref b76), .val (.int (x5 &&& (3 : Int32))), .val (.int (0 : Int32)), .val (.int (1 : Int32)), .unset, .unset] [(.int (12 : Int32)), (.int (own_v0_2 x1))]))
          by_cases hc176 : (12 : Int32) < (own_v0_2 x1)
          · refine own_go (fun t k => XS.icmpYes X123.here hx rfl (pc0 := 652) (pc' := 698) rfl (hb hby at_652) rfl (tlt hc176).2.2.1 (by decide) (by decide) k) ?_
            show own_Goes p e below _ (T123.setTop (mkF m 698 #[.val (.int x0), .val (.int x1), .val (.int x2), .val (.long y3), .second, .val (.int x4), .val (.int x5), .val (.int (own_v0_1 x0)), .val (.int (own_v0_2 x1)), .val (.int (own_v0_3 x1)), .val (.int (own_v0_4 x2)), .val (.int (own_v0_5 x2)), .val (.int (own_v0_6 y3)), .val (.long (own_v0_7 y3)), .second, .val (.int (x4 &&& (63 : Int32))), .val (.int (own_v0_8 x4)), .val (.int (x5 &&& (3 : Int32))), .val (.int (own_v0_9 x5)), .val (.int (own_j0_1 x5)), .val (.int (own_v0_10 x5)), .val (.ref b76), .val (.int (x5 &&& (3 : Int32))), .val (.int (0 : Int32)), .val (.int (1 : Int32)), .unset, .unset] []))
            refine own_go (fun t k => XS.iconst X123.here hx rfl (hb hby at_698) k) ?_
            rw [show (own_j0_11 x0 x1 x2 y3 x5) = (0 : Int32) from by rw [own_j0_11, if_pos hc173, if_neg hc175, if_pos hc176]] at HH183
            exact HH183 _ _ X123 e123 N123
          · refine own_go (fun t k => XS.icmpNo X123.here hx rfl (hb hby at_652) rfl (flt hc176).2.2.1 k) ?_
            show own_Goes p e below _ (T123.setTop (mkF m 655 #[.val (.int x0), .val (.int x1), .val (.int x2), .val (.long y3), .second, .val (.int x4), .val (.int x5), .val (.int (own_v0_1 x0)), .val (.int (own_v0_2 x1)), .val (.int (own_v0_3 x1)), .val (.int (own_v0_4 x2)), .val (.int (own_v0_5 x2)), .val (.int (own_v0_6 y3)), .val (.long (own_v0_7 y3)), .second, .val (.int (x4 &&& (63 : Int32))), .val (.int (own_v0_8 x4)), .val (.int (x5 &&& (3 : Int32))), .val (.int (own_v0_9 x5)), .val (.int (own_j0_1 x5)), .val (.int (own_v0_10 x5)), .val (.ref b76), .val (.int (x5 &&& (3 : Int32))), .val (.int (0 : Int32)), .val (.int (1 : Int32)), .unset, .unset] []))
            refine own_go (fun t k => XS.iload X123.here hx rfl (hb hby at_655) rfl k) ?_
            show own_Goes p e below _ (T123.setTop (mkF m 657 #[.val (.int x0), .val (.int x1), .val (.int x2), .val (.long y3), .second, .val (.int x4), .val (.int x5), .val (.int (own_v0_1 x0)), .val (.int (own_v0_2 x1)), .val (.int (own_v0_3 x1)), .val (.int (own_v0_4 x2)), .val (.int (own_v0_5 x2)), .val (.int (own_v0_6 y3)), .val (.long (own_v0_7 y3)), .second, .val (.int (x4 &&& (63 : Int32))), .val (.int (own_v0_8 x4)), .val (.int (x5 &&& (3 : Int32))), .val (.int (own_v0_9 x5)), .val (.int (own_j0_1 x5)), .val (.int (own_v0_10 x5)), .val (.ref b76), .val (.int (x5 &&& (3 : Int32))), .val (.int (0 : Int32)), .val (.int (1 : Int32)), .unset, .unset] [(.int (own_v0_3 x1))]))
            refine own_go (fun t k => XS.iconst X123.here hx rfl (hb hby at_657) k) ?_
            show own_Goes p e below _ (T123.setTop (mkF m 658 #[.val (.int x0), .val (.int x1), .val (.int x2), .val (.long y3), .second, .val (.int x4), .val (.int x5), .val (.int (own_v0_1 x0)), .val (.int (own_v0_2 x1)), .val (.int (own_v0_3 x1)), .val (.int (own_v0_4 x2)), .val (.int (own_v0_5 x2)), .val (.int (own_v0_6 y3)), .val (.long (own_v0_7 y3)), .second, .val (.int (x4 &&& (63 : Int32))), .val (.int (own_v0_8 x4)), .val (.int (x5 &&& (3 : Int32))), .val (.int (own_v0_9 x5)), .val (.int (own_j0_1 x5)), .val (.int (own_v0_10 x5)), .val (.ref b76), .val (.int (x5 &&& (3 : Int32))), .val (.int (0 : Int32)), .val (.int (1 : Int32)), .unset, .unset] [(.int (1 : Int32)), (.int (own_v0_3 x1))]))
            by_cases hc177 : (own_v0_3 x1) < (1 : Int32)
            · refine own_go (fun t k => XS.icmpYes X123.here hx rfl (pc0 := 658) (pc' := 698) rfl (hb hby at_658) rfl (tlt hc177).1 (by decide) (by decide) k) ?_
              show own_Goes p e below _ (T123.setTop (mkF m 698 #[.val (.int x0), .val (.int x1), .val (.int x2), .val (.long y3), .second, .val (.int x4), .val (.int x5), .val (.int (own_v0_1 x0)), .val (.int (own_v0_2 x1)), .val (.int (own_v0_3 x1)), .val (.int (own_v0_4 x2)), .val (.int (own_v0_5 x2)), .val (.int (own_v0_6 y3)), .val (.long (own_v0_7 y3)), .second, .val (.int (x4 &&& (63 : Int32))), .val (.int (own_v0_8 x4)), .val (.int (x5 &&& (3 : Int32))), .val (.int (own_v0_9 x5)), .val (.int (own_j0_1 x5)), .val (.int (own_v0_10 x5)), .val (.ref b76), .val (.int (x5 &&& (3 : Int32))), .val (.int (0 : Int32)), .val (.int (1 : Int32)), .unset, .unset] []))
              refine own_go (fun t k => XS.iconst X123.here hx rfl (hb hby at_698) k) ?_
              rw [show (own_j0_11 x0 x1 x2 y3 x5) = (0 : Int32) from by rw [own_j0_11, if_pos hc173, if_neg hc175, if_neg hc176, if_pos hc177]] at HH183
              exact HH183 _ _ X123 e123 N123
            · refine own_go (fun t k => XS.icmpNo X123.here hx rfl (hb hby at_658) rfl (flt hc177).1 k) ?_
              show own_Goes p e below _ (T123.setTop (mkF m 661 #[.val (.int x0), .val (.int x1), .val (.int x2), .val (.long y3), .second, .val (.int x4), .val (.int x5), .val (.int (own_v0_1 x0)), .val (.int (own_v0_2 x1)), .val (.int (own_v0_3 x1)), .val (.int (own_v0_4 x2)), .val (.int (own_v0_5 x2)), .val (.int (own_v0_6 y3)), .val (.long (own_v0_7 y3)), .second, .val (.int (x4 &&& (63 : Int32))), .val (.int (own_v0_8 x4)), .val (.int (x5 &&& (3 : Int32))), .val (.int (own_v0_9 x5)), .val (.int (own_j0_1 x5)), .val (.int (own_v0_10 x5)), .val (.ref b76), .val (.int (x5 &&& (3 : Int32))), .val (.int (0 : Int32)), .val (.int (1 : Int32)), .unset, .unset] []))
              refine own_go (fun t k => XS.iload X123.here hx rfl (hb hby at_661) rfl k) ?_
              show own_Goes p e below _ (T123.setTop (mkF m 663 #[.val (.int x0), .val (.int x1), .val (.int x2), .val (.long y3), .second, .val (.int x4), .val (.int x5), .val (.int (own_v0_1 x0)), .val (.int (own_v0_2 x1)), .val (.int (own_v0_3 x1)), .val (.int (own_v0_4 x2)), .val (.int (own_v0_5 x2)), .val (.int (own_v0_6 y3)), .val (.long (own_v0_7 y3)), .second, .val (.int (x4 &&& (63 : Int32))), .val (.int (own_v0_8 x4)), .val (.int (x5 &&& (3 : Int32))), .val (.int (own_v0_9 x5)), .val (.int (own_j0_1 x5)), .val (.int (own_v0_10 x5)), .val (.ref b76), .val (.int (x5 &&& (3 : Int32))), .val (.int (0 : Int32)), .val (.int (1 : Int32)), .unset, .unset] [(.int (own_v0_3 x1))]))
              refine own_go (fun t k => XS.iload X123.here hx rfl (hb hby at_663) rfl k) ?_
              show own_Goes p e below _ (T123.setTop (mkF m 665 #[.val (.int x0), .val (.int x1), .val (.int x2), .val (.long y3), .second, .val (.int x4), .val (.int x5), .val (.int (own_v0_1 x0)), .val (.int (own_v0_2 x1)), .val (.int (own_v0_3 x1)), .val (.int (own_v0_4 x2)), .val (.int (own_v0_5 x2)), .val (.int (own_v0_6 y3)), .val (.long (own_v0_7 y3)), .second, .val (.int (x4 &&& (63 : Int32))), .val (.int (own_v0_8 x4)), .val (.int (x5 &&& (3 : Int32))), .val (.int (own_v0_9 x5)), .val (.int (own_j0_1 x5)), .val (.int (own_v0_10 x5)), .val (.ref b76), .val (.int (x5 &&& (3 : Int32))), .val (.int (0 : Int32)), .val (.int (1 : Int32)), .unset, .unset] [(.int (own_v0_2 x1)), (.int (own_v0_3 x1))]))
              refine own_go (fun t k => XS.iload X123.here hx rfl (hb hby at_665) rfl k) ?_
              show own_Goes p e below _ (T123.setTop (mkF m 667 #[.val (.int x0), .val (.int x1), .val (.int x2), .val (.long y3), .second, .val (.int x4), .val (.int x5), .val (.int (own_v0_1 x0)), .val (.int (own_v0_2 x1)), .val (.int (own_v0_3 x1)), .val (.int (own_v0_4 x2)), .val (.int (own_v0_5 x2)), .val (.int (own_v0_6 y3)), .val (.long (own_v0_7 y3)), .second, .val (.int (x4 &&& (63 : Int32))), .val (.int (own_v0_8 x4)), .val (.int (x5 &&& (3 : Int32))), .val (.int (own_v0_9 x5)), .val (.int (own_j0_1 x5)), .val (.int (own_v0_10 x5)), .val (.ref b76), .val (.int (x5 &&& (3 : Int32))), .val (.int (0 : Int32)), .val (.int (1 : Int32)), .unset, .unset] [(.int (own_v0_1 x0)), (.int (own_v0_2 x1)), (.int (own_v0_3 x1))]))
              obtain ⟨_, T178, L178, X178, ⟨rfl, N178q, e178⟩, st178⟩ := own_callS X123 hx hZ hown (hw _ own_t26) (hw _ own_t27) (hw _ own_t9) (hw _ own_t28) (by decide) (as := [(.int (own_v0_2 x1)), (.int (own_v0_1 x0))]) (rm5 l Z a0 hw [] (own_v0_2 x1) (own_v0_1 x0) h123 n0) e123 own_pd1 rfl (pc := 667) (Ls := #[.val (.int x0), .val (.int x1), .val (.int x2), .val (.long y3), .second, .val (.int x4), .val (.int x5), .val (.int (own_v0_1 x0)), .val (.int (own_v0_2 x1)), .val (.int (own_v0_3 x1)), .val (.int (own_v0_4 x2)), .val (.int (own_v0_5 x2)), .val (.int (own_v0_6 y3)), .val (.long (own_v0_7 y3)), .second, .val (.int (x4 &&& (63 : Int32))), .val (.int (own_v0_8 x4)), .val (.int (x5 &&& (3 : Int32))), .val (.int (own_v0_9 x5)), .val (.int (own_j0_1 x5)), .val (.int (own_v0_10 x5)), .val (.ref b76), .val (.int (x5 &&& (3 : Int32))), .val (.int (0 : Int32)), .val (.int (1 : Int32)), .unset, .unset]) (rest := [(.int (own_v0_3 x1))]) (W := 1) (by rw [hml]; rfl) (Nat.le_of_eq rfl) (by decide) (by decide) (hb hby at_667) (by decide) (by decide)
              have N178 := Fr.app N123 N178q
              refine own_go st178 ?_
              show own_Goes p e below _ (T178.setTop (mkF m 670 #[.val (.int x0), .val (.int x1), .val (.int x2), .val (.long y3), .second, .val (.int x4), .val (.int x5), .val (.int (own_v0_1 x0)), .val (.int (own_v0_2 x1)), .val (.int (own_v0_3 x1)), .val (.int (own_v0_4 x2)), .val (.int (own_v0_5 x2)), .val (.int (own_v0_6 y3)), .val (.long (own_v0_7 y3)), .second, .val (.int (x4 &&& (63 : Int32))), .val (.int (own_v0_8 x4)), .val (.int (x5 &&& (3 : Int32))), .val (.int (own_v0_9 x5)), .val (.int (own_j0_1 x5)), .val (.int (own_v0_10 x5)), .val (.ref b76), .val (.int (x5 &&& (3 : Int32))), .val (.int (0 : Int32)), .val (.int (1 : Int32)), .unset, .unset] [(.int (own_f5 (own_v0_2 x1) (own_v0_1 x0))), (.int (own_v0_3 x1))]))
              by_cases hc179 : (own_f5 (own_v0_2 x1) (own_v0_1 x0)) < (own_v0_3 x1)
              · refine own_go (fun t k => XS.icmpYes X178.here hx rfl (pc0 := 670) (pc' := 698) rfl (hb hby at_670) rfl (tlt hc179).2.2.1 (by decide) (by decide) k) ?_
                show own_Goes p e below _ (T178.setTop (mkF m 698 #[.val (.int x0), .val (.int x1), .val (.int x2), .val (.long y3), .second, .val (.int x4), .val (.int x5), .val (.int (own_v0_1 x0)), .val (.int (own_v0_2 x1)), .val (.int (own_v0_3 x1)), .val (.int (own_v0_4 x2)), .val (.int (own_v0_5 x2)), .val (.int (own_v0_6 y3)), .val (.long (own_v0_7 y3)), .second, .val (.int (x4 &&& (63 : Int32))), .val (.int (own_v0_8 x4)), .val (.int (x5 &&& (3 : Int32))), .val (.int (own_v0_9 x5)), .val (.int (own_j0_1 x5)), .val (.int (own_v0_10 x5)), .val (.ref b76), .val (.int (x5 &&& (3 : Int32))), .val (.int (0 : Int32)), .val (.int (1 : Int32)), .unset, .unset] []))
                refine own_go (fun t k => XS.iconst X178.here hx rfl (hb hby at_698) k) ?_
                rw [show (own_j0_11 x0 x1 x2 y3 x5) = (0 : Int32) from by rw [own_j0_11, if_pos hc173, if_neg hc175, if_neg hc176, if_neg hc177, if_pos hc179]] at HH183
                exact HH183 _ _ X178 e178 N178
              · refine own_go (fun t k => XS.icmpNo X178.here hx rfl (hb hby at_670) rfl (flt hc179).2.2.1 k) ?_
                show own_Goes p e below _ (T178.setTop (mkF m 673 #[.val (.int x0), .val (.int x1), .val (.int x2), .val (.long y3), .second, .val (.int x4), .val (.int x5), .val (.int (own_v0_1 x0)), .val (.int (own_v0_2 x1)), .val (.int (own_v0_3 x1)), .val (.int (own_v0_4 x2)), .val (.int (own_v0_5 x2)), .val (.int (own_v0_6 y3)), .val (.long (own_v0_7 y3)), .second, .val (.int (x4 &&& (63 : Int32))), .val (.int (own_v0_8 x4)), .val (.int (x5 &&& (3 : Int32))), .val (.int (own_v0_9 x5)), .val (.int (own_j0_1 x5)), .val (.int (own_v0_10 x5)), .val (.ref b76), .val (.int (x5 &&& (3 : Int32))), .val (.int (0 : Int32)), .val (.int (1 : Int32)), .unset, .unset] []))
                refine own_go (fun t k => XS.iload X178.here hx rfl (hb hby at_673) rfl k) ?_
                show own_Goes p e below _ (T178.setTop (mkF m 675 #[.val (.int x0), .val (.int x1), .val (.int x2), .val (.long y3), .second, .val (.int x4), .val (.int x5), .val (.int (own_v0_1 x0)), .val (.int (own_v0_2 x1)), .val (.int (own_v0_3 x1)), .val (.int (own_v0_4 x2)), .val (.int (own_v0_5 x2)), .val (.int (own_v0_6 y3)), .val (.long (own_v0_7 y3)), .second, .val (.int (x4 &&& (63 : Int32))), .val (.int (own_v0_8 x4)), .val (.int (x5 &&& (3 : Int32))), .val (.int (own_v0_9 x5)), .val (.int (own_j0_1 x5)), .val (.int (own_v0_10 x5)), .val (.ref b76), .val (.int (x5 &&& (3 : Int32))), .val (.int (0 : Int32)), .val (.int (1 : Int32)), .unset, .unset] [(.int (own_v0_4 x2))]))
                refine own_go (fun t k => XS.bipush X178.here hx rfl (hb hby at_675) k) ?_
                show own_Goes p e below _ (T178.setTop (mkF m 677 #[.val (.int x0), .val (.int x1), .val (.int x2), .val (.long y3), .second, .val (.int x4), .val (.int x5), .val (.int (own_v0_1 x0)), .val (.int (own_v0_2 x1)), .val (.int (own_v0_3 x1)), .val (.int (own_v0_4 x2)), .val (.int (own_v0_5 x2)), .val (.int (own_v0_6 y3)), .val (.long (own_v0_7 y3)), .second, .val (.int (x4 &&& (63 : Int32))), .val (.int (own_v0_8 x4)), .val (.int (x5 &&& (3 : Int32))), .val (.int (own_v0_9 x5)), .val (.int (own_j0_1 x5)), .val (.int (own_v0_10 x5)), .val (.ref b76), .val (.int (x5 &&& (3 : Int32))), .val (.int (0 : Int32)), .val (.int (1 : Int32)), .unset, .unset] [(.int (23 : Int32)), (.int (own_v0_4 x2))]))
                by_cases hc180 : (23 : Int32) < (own_v0_4 x2)
                · refine own_go (fun t k => XS.icmpYes X178.here hx rfl (pc0 := 677) (pc' := 698) rfl (hb hby at_677) rfl (tlt hc180).2.2.1 (by decide) (by decide) k) ?_
                  show own_Goes p e below _ (T178.setTop (mkF m 698 #[.val (.int x0), .val (.int x1), .val (.int x2), .val (.long y3), .second, .val (.int x4), .val (.int x5), .val (.int (own_v0_1 x0)), .val (.int (own_v0_2 x1)), .val (.int (own_v0_3 x1)), .val (.int (own_v0_4 x2)), .val (.int (own_v0_5 x2)), .val (.int (own_v0_6 y3)), .val (.long (own_v0_7 y3)), .second, .val (.int (x4 &&& (63 : Int32))), .val (.int (own_v0_8 x4)), .val (.int (x5 &&& (3 : Int32))), .val (.int (own_v0_9 x5)), .val (.int (own_j0_1 x5)), .val (.int (own_v0_10 x5)), .val (.ref b76), .val (.int (x5 &&& (3 : Int32))), .val (.int (0 : Int32)), .val (.int (1 : Int32)), .unset, .unset] []))
                  refine own_go (fun t k => XS.iconst X178.here hx rfl (hb hby at_698) k) ?_
                  rw [show (own_j0_11 x0 x1 x2 y3 x5) = (0 : Int32) from by rw [own_j0_11, if_pos hc173, if_neg hc175, if_neg hc176, if_neg hc177, if_neg hc179, if_pos hc180]] at HH183
                  exact HH183 _ _ X178 e178 N178
                · refine own_go (fun t k => XS.icmpNo X178.here hx rfl (hb hby at_677) rfl (flt hc180).2.2.1 k) ?_
                  show own_Goes p e below _ (T178.setTop (mkF m 680 #[.val (.int x0), .val (.int x1), .val (.int x2), .val (.long y3), .second, .val (.int x4), .val (.int x5), .val (.int (own_v0_1 x0)), .val (.int (own_v0_2 x1)), .val (.int (own_v0_3 x1)), .val (.int (own_v0_4 x2)), .val (.int (own_v0_5 x2)), .val (.int (own_v0_6 y3)), .val (.long (own_v0_7 y3)), .second, .val (.int (x4 &&& (63 : Int32))), .val (.int (own_v0_8 x4)), .val (.int (x5 &&& (3 : Int32))), .val (.int (own_v0_9 x5)), .val (.int (own_j0_1 x5)), .val (.int (own_v0_10 x5)), .val (.ref b76), .val (.int (x5 &&& (3 : Int32))), .val (.int (0 : Int32)), .val (.int (1 : Int32)), .unset, .unset] []))
                  refine own_go (fun t k => XS.iload X178.here hx rfl (hb hby at_680) rfl k) ?_
                  show own_Goes p e below _ (T178.setTop (mkF m 682 #[.val (.int x0), .val (.int x1), .val (.int x2), .val (.long y3), .second, .val (.int x4), .val (.int x5), .val (.int (own_v0_1 x0)), .val (.int (own_v0_2 x1)), .val (.int (own_v0_3 x1)), .val (.int (own_v0_4 x2)), .val (.int (own_v0_5 x2)), .val (.int (own_v0_6 y3)), .val (.long (own_v0_7 y3)), .second, .val (.int (x4 &&& (63 : Int32))), .val (.int (own_v0_8 x4)), .val (.int (x5 &&& (3 : Int32))), .val (.int (own_v0_9 x5)), .val (.int (own_j0_1 x5)), .val (.int (own_v0_10 x5)), .val (.ref b76), .val (.int (x5 &&& (3 : Int32))), .val (.int (0 : Int32)), .val (.int (1 : Int32)), .unset, .unset] [(.int (own_v0_5 x2))]))
                  refine own_go (fun t k => XS.bipush X178.here hx rfl (hb hby at_682) k) ?_
                  show own_Goes p e below _ (T178.setTop (mkF m 684 #[.val (.int x0), .val (.int x1), .val (.int x2), .val (.long y3), .second, .val (.int x4), .val (.int x5), .val (.int (own_v0_1 x0)), .val (.int (own_v0_2 x1)), .val (.int (own_v0_3 x1)), .val (.int (own_v0_4 x2)), .val (.int (own_v0_5 x2)), .val (.int (own_v0_6 y3)), .val (.long (own_v0_7 y3)), .second, .val (.int (x4 &&& (63 : Int32))), .val (.int (own_v0_8 x4)), .val (.int (x5 &&& (3 : Int32))), .val (.int (own_v0_9 x5)), .val (.int (own_j0_1 x5)), .val (.int (own_v0_10 x5)), .val (.ref b76), .val (.int (x5 &&& (3 : Int32))), .val (.int (0 : Int32)), .val (.int (1 : Int32)), .unset, .unset] [(.int (59 : Int32)), (.int (own_v0_5 x2))]))
                  by_cases hc181 : (59 : Int32) < (own_v0_5 x2)
                  · refine own_go (fun t k => XS.icmpYes X178.here hx rfl (pc0 := 684) (pc' := 698) rfl (hb hby at_684) rfl (tlt hc181).2.2.1 (by decide) (by decide) k) ?_
                    show own_Goes p e below _ (T178.setTop (mkF m 698 #[.val (.int x0), .val (.int x1), .val (.int x2), .val (.long y3), .second, .val (.int x4), .val (.int x5), .val (.int (own_v0_1 x0)), .val (.int (own_v0_2 x1)), .val (.int (own_v0_3 x1)), .val (.int (own_v0_4 x2)), .val (.int (own_v0_5 x2)), .val (.int (own_v0_6 y3)), .val (.long (own_v0_7 y3)), .second, .val (.int (x4 &&& (63 : Int32))), .val (.int (own_v0_8 x4)), .val (.int (x5 &&& (3 : Int32))), .val (.int (own_v0_9 x5)), .val (.int (own_j0_1 x5)), .val (.int (own_v0_10 x5)), .val (.ref b76), .val (.int (x5 &&& (3 : Int32))), .val (.int (0 : Int32)), .val (.int (1 : Int32)), .unset, .unset] []))
                    refine own_go (fun t k => XS.iconst X178.here hx rfl (hb hby at_698) k) ?_
                    rw [show (own_j0_11 x0 x1 x2 y3 x5) = (0 : Int32) from by rw [own_j0_11, if_pos hc173, if_neg hc175, if_neg hc176, if_neg hc177, if_neg hc179, if_neg hc180, if_pos hc181]] at HH183
                    exact HH183 _ _ X178 e178 N178
                  · refine own_go (fun t k => XS.icmpNo X178.here hx rfl (hb hby at_684) rfl (flt hc181).2.2.1 k) ?_
                    show own_Goes p e below _ (T178.setTop (mkF m 687 #[.val (.int x0), .val (.int x1), .val (.int x2), .val (.long y3), .second, .val (.int x4), .val (.int x5), .val (.int (own_v0_1 x0)), .val (.int (own_v0_2 x1)), .val (.int (own_v0_3 x1)), .val (.int (own_v0_4 x2)), .val (.int (own_v0_5 x2)), .val (.int (own_v0_6 y3)), .val (.long (own_v0_7 y3)), .second, .val (.int (x4 &&& (63 : Int32))), .val (.int (own_v0_8 x4)), .val (.int (x5 &&& (3 : Int32))), .val (.int (own_v0_9 x5)), .val (.int (own_j0_1 x5)), .val (.int (own_v0_10 x5)), .val (.ref b76), .val (.int (x5 &&& (3 : Int32))), .val (.int (0 : Int32)), .val (.int (1 : Int32)), .unset, .unset] []))
                    refine own_go (fun t k => XS.iload X178.here hx rfl (hb hby at_687) rfl k) ?_
                    show own_Goes p e below _ (T178.setTop (mkF m 689 #[.val (.int x0), .val (.int x1), .val (.int x2), .val (.long y3), .second, .val (.int x4), .val (.int x5), .val (.int (own_v0_1 x0)), .val (.int (own_v0_2 x1)), .val (.int (own_v0_3 x1)), .val (.int (own_v0_4 x2)), .val (.int (own_v0_5 x2)), .val (.int (own_v0_6 y3)), .val (.long (own_v0_7 y3)), .second, .val (.int (x4 &&& (63 : Int32))), .val (.int (own_v0_8 x4)), .val (.int (x5 &&& (3 : Int32))), .val (.int (own_v0_9 x5)), .val (.int (own_j0_1 x5)), .val (.int (own_v0_10 x5)), .val (.ref b76), .val (.int (x5 &&& (3 : Int32))), .val (.int (0 : Int32)), .val (.int (1 : Int32)), .unset, .unset] [(.int (own_v0_6 y3))]))
                    refine own_go (fun t k => XS.bipush X178.here hx rfl (hb hby at_689) k) ?_
                    show own_Goes p e below _ (T178.setTop (mkF m 691 #[.val (.int x0), .val (.int x1), .val (.int x2), .val (.long y3), .second, .val (.int x4), .val (.int x5), .val (.int (own_v0_1 x0)), .val (.int (own_v0_2 x1)), .val (.int (own_v0_3 x1)), .val (.int (own_v0_4 x2)), .val (.int (own_v0_5 x2)), .val (.int (own_v0_6 y3)), .val (.long (own_v0_7 y3)), .second, .val (.int (x4 &&& (63 : Int32))), .val (.int (own_v0_8 x4)), .val (.int (x5 &&& (3 : Int32))), .val (.int (own_v0_9 x5)), .val (.int (own_j0_1 x5)), .val (.int (own_v0_10 x5)), .val (.ref b76), .val (.int (x5 &&& (3 : Int32))), .val (.int (0 : Int32)), .val (.int (1 : Int32)), .unset, .unset] [(.int (59 : Int32)), (.int (own_v0_6 y3))]))
                    by_cases hc182 : (59 : Int32) < (own_v0_6 y3)
                    · refine own_go (fun t k => XS.icmpYes X178.here hx rfl (pc0 := 691) (pc' := 698) rfl (hb hby at_691) rfl (tlt hc182).2.2.1 (by decide) (by decide) k) ?_
                      show own_Goes p e below _ (T178.setTop (mkF m 698 #[.val (.int x0), .val (.int x1), .val (.int x2), .val (.long y3), .second, .val (.int x4), .val (.int x5), .val (.int (own_v0_1 x0)), .val (.int (own_v0_2 x1)), .val (.int (own_v0_3 x1)), .val (.int (own_v0_4 x2)), .val (.int (own_v0_5 x2)), .val (.int (own_v0_6 y3)), .val (.long (own_v0_7 y3)), .second, .val (.int (x4 &&& (63 : Int32))), .val (.int (own_v0_8 x4)), .val (.int (x5 &&& (3 : Int32))), .val (.int (own_v0_9 x5)), .val (.int (own_j0_1 x5)), .val (.int (own_v0_10 x5)), .val (.ref b76), .val (.int (x5 &&& (3 : Int32))), .val (.int (0 : Int32)), .val (.int (1 : Int32)), .unset, .unset] []))
                      refine own_go (fun t k => XS.iconst X178.here hx rfl (hb hby at_698) k) ?_
                      rw [show (own_j0_11 x0 x1 x2 y3 x5) = (0 : Int32) from by rw [own_j0_11, if_pos hc173, if_neg hc175, if_neg hc176, if_neg hc177, if_neg hc179, if_neg hc180, if_neg hc181, if_pos hc182]] at HH183
                      exact HH183 _ _ X178 e178 N178
                    · refine own_go (fun t k => XS.icmpNo X178.here hx rfl (hb hby at_691) rfl (flt hc182).2.2.1 k) ?_
                      show own_Goes p e below _ (T178.setTop (mkF m 694 #[.val (.int x0), .val (.int x1), .val (.int x2), .val (.long y3), .second, .val (.int x4), .val (.int x5), .val (.int (own_v0_1 x0)), .val (.int (own_v0_2 x1)), .val (.int (own_v0_3 x1)), .val (.int (own_v0_4 x2)), .val (.int (own_v0_5 x2)), .val (.int (own_v0_6 y3)), .val (.long (own_v0_7 y3)), .second, .val (.int (x4 &&& (63 : Int32))), .val (.int (own_v0_8 x4)), .val (.int (x5 &&& (3 : Int32))), .val (.int (own_v0_9 x5)), .val (.int (own_j0_1 x5)), .val (.int (own_v0_10 x5)), .val (.ref b76), .val (.int (x5 &&& (3 : Int32))), .val (.int (0 : Int32)), .val (.int (1 : Int32)), .unset, .unset] []))
                      refine own_go (fun t k => XS.iconst X178.here hx rfl (hb hby at_694) k) ?_
                      show own_Goes p e below _ (T178.setTop (mkF m 695 #[.val (.int x0), .val (.int x1), .val (.int x2), .val (.long y3), .second, .val (.int x4), .val (.int x5), .val (.int (own_v0_1 x0)), .val (.int (own_v0_2 x1)), .val (.int (own_v0_3 x1)), .val (.int (own_v0_4 x2)), .val (.int (own_v0_5 x2)), .val (.int (own_v0_6 y3)), .val (.long (own_v0_7 y3)), .second, .val (.int (x4 &&& (63 : Int32))), .val (.int (own_v0_8 x4)), .val (.int (x5 &&& (3 : Int32))), .val (.int (own_v0_9 x5)), .val (.int (own_j0_1 x5)), .val (.int (own_v0_10 x5)), .val (.ref b76), .val (.int (x5 &&& (3 : Int32))), .val (.int (0 : Int32)), .val (.int (1 : Int32)), .unset, .unset] [(.int (1 : Int32))]))
                      refine own_go (fun t k => XS.goto X178.here hx rfl (pc0 := 695) (pc' := 699) rfl (hb hby at_695) (by decide) (by decide) k) ?_
                      rw [show (own_j0_11 x0 x1 x2 y3 x5) = (1 : Int32) from by rw [own_j0_11, if_pos hc173, if_neg hc175, if_neg hc176, if_neg hc177, if_neg hc179, if_neg hc180, if_neg hc181, if_neg hc182]] at HH183
                      exact HH183 _ _ X178 e178 N178
      · refine own_go (fun t k => XS.icmpYes X123.here hx rfl (pc0 := 634) (pc' := 698) rfl (hb hby at_634) rfl (feq hc173).2 (by decide) (by decide) k) ?_
        show own_Goes p e below _ (T123.setTop (mkF m 698 #[.val (.int x0), .val (.int x1), .val (.int x2), .val (.long y3), .second, .val (.int x4), .val (.int x5), .val (.int (own_v0_1 x0)), .val (.int (own_v0_2 x1)), .val (.int (own_v0_3 x1)), .val (.int (own_v0_4 x2)), .val (.int (own_v0_5 x2)), .val (.int (own_v0_6 y3)), .val (.long (own_v0_7 y3)), .second, .val (.int (x4 &&& (63 : Int32))), .val (.int (own_v0_8 x4)), .val (.int (x5 &&& (3 : Int32))), .val (.int (own_v0_9 x5)), .val (.int (own_j0_1 x5)), .val (.int (own_v0_10 x5)), .val (.ref b76), .val (.int (x5 &&& (3 : Int32))), .val (.int (0 : Int32)), .val (.int (1 : Int32)), .unset, .unset] []))
        refine own_go (fun t k => XS.iconst X123.here hx rfl (hb hby at_698) k) ?_
        rw [show (own_j0_11 x0 x1 x2 y3 x5) = (0 : Int32) from by rw [own_j0_11, if_neg hc173]] at HH183
        exact HH183 _ _ X123 e123 N123
    intro T183 L183 X183 e183 N183
    show own_Goes p e below _ (T183.setTop (mkF m 699 #[.val (.int x0), .val (.int x1), .val (.int x2), .val (.long y3), .second, .val (.int x4), .val (.int x5), .val (.int (own_v0_1 x0)), .val (.int (own_v0_2 x1)), .val (.int (own_v0_3 x1)), .val (.int (own_v0_4 x2)), .val (.int (own_v0_5 x2)), .val (.int (own_v0_6 y3)), .val (.long (own_v0_7 y3)), .second, .val (.int (x4 &&& (63 : Int32))), .val (.int (own_v0_8 x4)), .val (.int (x5 &&& (3 : Int32))), .val (.int (own_v0_9 x5)), .val (.int (own_j0_1 x5)), .val (.int (own_v0_10 x5)), .val (.ref b76), .val (.int (x5 &&& (3 : Int32))), .val (.int (0 : Int32)), .val (.int (1 : Int32)), .unset, .unset] [(.int (own_j0_11 x0 x1 x2 y3 x5))]))
    refine own_go (fun t k => XS.istore X183.here hx rfl (hb hby at_699) rfl (l' := #[.val (.int x0), .val (.int x1), .val (.int x2), .val (.long y3), .second, .val (.int x4), .val (.int x5), .val (.int (own_v0_1 x0)), .val (.int (own_v0_2 x1)), .val (.int (own_v0_3 x1)), .val (.int (own_v0_4 x2)), .val (.int (own_v0_5 x2)), .val (.int (own_v0_6 y3)), .val (.long (own_v0_7 y3)), .second, .val (.int (x4 &&& (63 : Int32))), .val (.int (own_v0_8 x4)), .val (.int (x5 &&& (3 : Int32))), .val (.int (own_v0_9 x5)), .val (.int (own_j0_1 x5)), .val (.int (own_v0_10 x5)), .val (.ref b76), .val (.int (x5 &&& (3 : Int32))), .val (.int (0 : Int32)), .val (.int (1 : Int32)), .val (.int (own_j0_11 x0 x1 x2 y3 x5)), .unset]) rfl k) ?_
    show own_Goes p e below _ (T183.setTop (mkF m 701 #[.val (.int x0), .val (.int x1), .val (.int x2), .val (.long y3), .second, .val (.int x4), .val (.int x5), .val (.int (own_v0_1 x0)), .val (.int (own_v0_2 x1)), .val (.int (own_v0_3 x1)), .val (.int (own_v0_4 x2)), .val (.int (own_v0_5 x2)), .val (.int (own_v0_6 y3)), .val (.long (own_v0_7 y3)), .second, .val (.int (x4 &&& (63 : Int32))), .val (.int (own_v0_8 x4)), .val (.int (x5 &&& (3 : Int32))), .val (.int (own_v0_9 x5)), .val (.int (own_j0_1 x5)), .val (.int (own_v0_10 x5)), .val (.ref b76), .val (.int (x5 &&& (3 : Int32))), .val (.int (0 : Int32)), .val (.int (1 : Int32)), .val (.int (own_j0_11 x0 x1 x2 y3 x5)), .unset] []))
    refine own_go (fun t k => XS.aload X183.here hx rfl (hb hby at_701) rfl rfl k) ?_
    show own_Goes p e below _ (T183.setTop (mkF m 703 #[.val (.int x0), .val (.int x1), .val (.int x2), .val (.long y3), .second, .val (.int x4), .val (.int x5), .val (.int (own_v0_1 x0)), .val (.int (own_v0_2 x1)), .val (.int (own_v0_3 x1)), .val (.int (own_v0_4 x2)), .val (.int (own_v0_5 x2)), .val (.int (own_v0_6 y3)), .val (.long (own_v0_7 y3)), .second, .val (.int (x4 &&& (63 : Int32))), .val (.int (own_v0_8 x4)), .val (.int (x5 &&& (3 : Int32))), .val (.int (own_v0_9 x5)), .val (.int (own_j0_1 x5)), .val (.int (own_v0_10 x5)), .val (.ref b76), .val (.int (x5 &&& (3 : Int32))), .val (.int (0 : Int32)), .val (.int (1 : Int32)), .val (.int (own_j0_11 x0 x1 x2 y3 x5)), .unset] [(.ref b76)]))
    refine own_go (fun t k => XS.iload X183.here hx rfl (hb hby at_703) rfl k) ?_
    show own_Goes p e below _ (T183.setTop (mkF m 705 #[.val (.int x0), .val (.int x1), .val (.int x2), .val (.long y3), .second, .val (.int x4), .val (.int x5), .val (.int (own_v0_1 x0)), .val (.int (own_v0_2 x1)), .val (.int (own_v0_3 x1)), .val (.int (own_v0_4 x2)), .val (.int (own_v0_5 x2)), .val (.int (own_v0_6 y3)), .val (.long (own_v0_7 y3)), .second, .val (.int (x4 &&& (63 : Int32))), .val (.int (own_v0_8 x4)), .val (.int (x5 &&& (3 : Int32))), .val (.int (own_v0_9 x5)), .val (.int (own_j0_1 x5)), .val (.int (own_v0_10 x5)), .val (.ref b76), .val (.int (x5 &&& (3 : Int32))), .val (.int (0 : Int32)), .val (.int (1 : Int32)), .val (.int (own_j0_11 x0 x1 x2 y3 x5)), .unset] [(.int (x5 &&& (3 : Int32))), (.ref b76)]))
    refine own_go (fun t k => XS.iload X183.here hx rfl (hb hby at_705) rfl k) ?_
    show own_Goes p e below _ (T183.setTop (mkF m 707 #[.val (.int x0), .val (.int x1), .val (.int x2), .val (.long y3), .second, .val (.int x4), .val (.int x5), .val (.int (own_v0_1 x0)), .val (.int (own_v0_2 x1)), .val (.int (own_v0_3 x1)), .val (.int (own_v0_4 x2)), .val (.int (own_v0_5 x2)), .val (.int (own_v0_6 y3)), .val (.long (own_v0_7 y3)), .second, .val (.int (x4 &&& (63 : Int32))), .val (.int (own_v0_8 x4)), .val (.int (x5 &&& (3 : Int32))), .val (.int (own_v0_9 x5)), .val (.int (own_j0_1 x5)), .val (.int (own_v0_10 x5)), .val (.ref b76), .val (.int (x5 &&& (3 : Int32))), .val (.int (0 : Int32)), .val (.int (1 : Int32)), .val (.int (own_j0_11 x0 x1 x2 y3 x5)), .unset] [(.int (own_v0_10 x5)), (.int (x5 &&& (3 : Int32))), (.ref b76)]))
    obtain ⟨cl185, Ar185, sa185, ha185⟩ := id V123
    have oo186 : Old Z n0 h123 := ((((((((((((((((((((((((((((O0.ext E76).wr W78 g_b76).wr W80 g_b76).wr W82 g_b76).wr W84 g_b76).wr W85 g_b76).wr W87 g_b76).wr W89 g_b76).wr W90 g_b76).wr W92 g_b76).wr W94 g_b76).wr W95 g_b76).wr W97 g_b76).wr W99 g_b76).wr W100 g_b76).wr W102 g_b76).wr W104 g_b76).wr W105 g_b76).wr W107 g_b76).wr W109 g_b76).wr W110 g_b76).wr W112 g_b76).wr W114 g_b76).wr W116 g_b76).wr W118 g_b76).wr W120 g_b76).wr W122 g_b76).wr W123 g_b76)
    obtain ⟨_, T184, L184, X184, ⟨rfl, N184q, e184⟩, st184⟩ := own_callS X183 hx hZ hown (hw _ own_t17) (hw _ own_t18) (hw _ own_t19) (hw _ own_t20) (by decide) (as := [(.ref b76), (.int (x5 &&& (3 : Int32))), (.int (own_v0_10 x5))]) (rm3 l Z a0 hw [] b76 (x5 &&& (3 : Int32)) (own_v0_10 x5) (own_G0_27 x0 x1 x2 y3 x5) cl185 cl_F s_F h123 n0 Ar185 sa185 ha185 (A_F.ext oo186.2) z_F t_F (own_fr x5) (S_s_F.ext oo186.2)) e183 own_pd4 rfl (pc := 707) (Ls := #[.val (.int x0), .val (.int x1), .val (.int x2), .val (.long y3), .second, .val (.int x4), .val (.int x5), .val (.int (own_v0_1 x0)), .val (.int (own_v0_2 x1)), .val (.int (own_v0_3 x1)), .val (.int (own_v0_4 x2)), .val (.int (own_v0_5 x2)), .val (.int (own_v0_6 y3)), .val (.long (own_v0_7 y3)), .second, .val (.int (x4 &&& (63 : Int32))), .val (.int (own_v0_8 x4)), .val (.int (x5 &&& (3 : Int32))), .val (.int (own_v0_9 x5)), .val (.int (own_j0_1 x5)), .val (.int (own_v0_10 x5)), .val (.ref b76), .val (.int (x5 &&& (3 : Int32))), .val (.int (0 : Int32)), .val (.int (1 : Int32)), .val (.int (own_j0_11 x0 x1 x2 y3 x5)), .unset]) (rest := []) (W := 0) (by rw [hml]; rfl) (Nat.le_of_eq rfl) (by decide) (by decide) (hb hby at_707) (by decide) (by decide)
    have N184 := Fr.app N183 N184q
    refine own_go st184 ?_
    show own_Goes p e below _ (T184.setTop (mkF m 710 #[.val (.int x0), .val (.int x1), .val (.int x2), .val (.long y3), .second, .val (.int x4), .val (.int x5), .val (.int (own_v0_1 x0)), .val (.int (own_v0_2 x1)), .val (.int (own_v0_3 x1)), .val (.int (own_v0_4 x2)), .val (.int (own_v0_5 x2)), .val (.int (own_v0_6 y3)), .val (.long (own_v0_7 y3)), .second, .val (.int (x4 &&& (63 : Int32))), .val (.int (own_v0_8 x4)), .val (.int (x5 &&& (3 : Int32))), .val (.int (own_v0_9 x5)), .val (.int (own_j0_1 x5)), .val (.int (own_v0_10 x5)), .val (.ref b76), .val (.int (x5 &&& (3 : Int32))), .val (.int (0 : Int32)), .val (.int (1 : Int32)), .val (.int (own_j0_11 x0 x1 x2 y3 x5)), .unset] [(.int (own_rt (x5 &&& (3 : Int32)) (own_v0_10 x5) (own_G0_27 x0 x1 x2 y3 x5)))]))
    refine own_go (fun t k => XS.istore X184.here hx rfl (hb hby at_710) rfl (l' := #[.val (.int x0), .val (.int x1), .val (.int x2), .val (.long y3), .second, .val (.int x4), .val (.int x5), .val (.int (own_v0_1 x0)), .val (.int (own_v0_2 x1)), .val (.int (own_v0_3 x1)), .val (.int (own_v0_4 x2)), .val (.int (own_v0_5 x2)), .val (.int (own_v0_6 y3)), .val (.long (own_v0_7 y3)), .second, .val (.int (x4 &&& (63 : Int32))), .val (.int (own_v0_8 x4)), .val (.int (x5 &&& (3 : Int32))), .val (.int (own_v0_9 x5)), .val (.int (own_j0_1 x5)), .val (.int (own_v0_10 x5)), .val (.ref b76), .val (.int (x5 &&& (3 : Int32))), .val (.int (0 : Int32)), .val (.int (1 : Int32)), .val (.int (own_j0_11 x0 x1 x2 y3 x5)), .val (.int (own_v0_11 x0 x1 x2 y3 x5))]) rfl k) ?_
    show own_Goes p e below _ (T184.setTop (mkF m 712 #[.val (.int x0), .val (.int x1), .val (.int x2), .val (.long y3), .second, .val (.int x4), .val (.int x5), .val (.int (own_v0_1 x0)), .val (.int (own_v0_2 x1)), .val (.int (own_v0_3 x1)), .val (.int (own_v0_4 x2)), .val (.int (own_v0_5 x2)), .val (.int (own_v0_6 y3)), .val (.long (own_v0_7 y3)), .second, .val (.int (x4 &&& (63 : Int32))), .val (.int (own_v0_8 x4)), .val (.int (x5 &&& (3 : Int32))), .val (.int (own_v0_9 x5)), .val (.int (own_j0_1 x5)), .val (.int (own_v0_10 x5)), .val (.ref b76), .val (.int (x5 &&& (3 : Int32))), .val (.int (0 : Int32)), .val (.int (1 : Int32)), .val (.int (own_j0_11 x0 x1 x2 y3 x5)), .val (.int (own_v0_11 x0 x1 x2 y3 x5))] []))
    refine own_go (fun t k => XS.iload X184.here hx rfl (hb hby at_712) rfl k) ?_
    show own_Goes p e below _ (T184.setTop (mkF m 714 #[.val (.int x0), .val (.int x1), .val (.int x2), .val (.long y3), .second, .val (.int x4), .val (.int x5), .val (.int (own_v0_1 x0)), .val (.int (own_v0_2 x1)), .val (.int (own_v0_3 x1)), .val (.int (own_v0_4 x2)), .val (.int (own_v0_5 x2)), .val (.int (own_v0_6 y3)), .val (.long (own_v0_7 y3)), .second, .val (.int (x4 &&& (63 : Int32))), .val (.int (own_v0_8 x4)), .val (.int (x5 &&& (3 : Int32))), .val (.int (own_v0_9 x5)), .val (.int (own_j0_1 x5)), .val (.int (own_v0_10 x5)), .val (.ref b76), .val (.int (x5 &&& (3 : Int32))), .val (.int (0 : Int32)), .val (.int (1 : Int32)), .val (.int (own_j0_11 x0 x1 x2 y3 x5)), .val (.int (own_v0_11 x0 x1 x2 y3 x5))] [(.int (own_v0_11 x0 x1 x2 y3 x5))]))
    refine own_go (fun t k => XS.iload X184.here hx rfl (hb hby at_714) rfl k) ?_
    show own_Goes p e below _ (T184.setTop (mkF m 716 #[.val (.int x0), .val (.int x1), .val (.int x2), .val (.long y3), .second, .val (.int x4), .val (.int x5), .val (.int (own_v0_1 x0)), .val (.int (own_v0_2 x1)), .val (.int (own_v0_3 x1)), .val (.int (own_v0_4 x2)), .val (.int (own_v0_5 x2)), .val (.int (own_v0_6 y3)), .val (.long (own_v0_7 y3)), .second, .val (.int (x4 &&& (63 : Int32))), .val (.int (own_v0_8 x4)), .val (.int (x5 &&& (3 : Int32))), .val (.int (own_v0_9 x5)), .val (.int (own_j0_1 x5)), .val (.int (own_v0_10 x5)), .val (.ref b76), .val (.int (x5 &&& (3 : Int32))), .val (.int (0 : Int32)), .val (.int (1 : Int32)), .val (.int (own_j0_11 x0 x1 x2 y3 x5)), .val (.int (own_v0_11 x0 x1 x2 y3 x5))] [(.int (own_j0_11 x0 x1 x2 y3 x5)), (.int (own_v0_11 x0 x1 x2 y3 x5))]))
    suffices HH188 : own_Goes p e below (own_End s room_1 (own_Q0 x0 x1 x2 y3 x4 x5 s_F h0 n0)) (T184.setTop (mkF m 724 #[.val (.int x0), .val (.int x1), .val (.int x2), .val (.long y3), .second, .val (.int x4), .val (.int x5), .val (.int (own_v0_1 x0)), .val (.int (own_v0_2 x1)), .val (.int (own_v0_3 x1)), .val (.int (own_v0_4 x2)), .val (.int (own_v0_5 x2)), .val (.int (own_v0_6 y3)), .val (.long (own_v0_7 y3)), .second, .val (.int (x4 &&& (63 : Int32))), .val (.int (own_v0_8 x4)), .val (.int (x5 &&& (3 : Int32))), .val (.int (own_v0_9 x5)), .val (.int (own_j0_1 x5)), .val (.int (own_v0_10 x5)), .val (.ref b76), .val (.int (x5 &&& (3 : Int32))), .val (.int (0 : Int32)), .val (.int (1 : Int32)), .val (.int (own_j0_11 x0 x1 x2 y3 x5)), .val (.int (own_v0_11 x0 x1 x2 y3 x5))] [(.int (own_j0_12 x0 x1 x2 y3 x5))])) by
      by_cases hc187 : (own_v0_11 x0 x1 x2 y3 x5) = (own_j0_11 x0 x1 x2 y3 x5)
      · refine own_go (fun t k => XS.icmpNo X184.here hx rfl (hb hby at_716) rfl (teq hc187).2 k) ?_
        show own_Goes p e below _ (T184.setTop (mkF m 719 #[.val (.int x0), .val (.int x1), .val (.int x2), .val (.long y3), .second, .val (.int x4), .val (.int x5), .val (.int (own_v0_1 x0)), .val (.int (own_v0_2 x1)), .val (.int (own_v0_3 x1)), .val (.int (own_v0_4 x2)), .val (.int (own_v0_5 x2)), .val (.int (own_v0_6 y3)), .val (.long (own_v0_7 y3)), .second, .val (.int (x4 &&& (63 : Int32))), .val (.int (own_v0_8 x4)), .val (.int (x5 &&& (3 : Int32))), .val (.int (own_v0_9 x5)), .val (.int (own_j0_1 x5)), .val (.int (own_v0_10 x5)), .val (.ref b76), .val (.int (x5 &&& (3 : Int32))), .val (.int (0 : Int32)), .val (.int (1 : Int32)), .val (.int (own_j0_11 x0 x1 x2 y3 x5)), .val (.int (own_v0_11 x0 x1 x2 y3 x5))] []))
        refine own_go (fun t k => XS.iconst X184.here hx rfl (hb hby at_719) k) ?_
        show own_Goes p e below _ (T184.setTop (mkF m 720 #[.val (.int x0), .val (.int x1), .val (.int x2), .val (.long y3), .second, .val (.int x4), .val (.int x5), .val (.int (own_v0_1 x0)), .val (.int (own_v0_2 x1)), .val (.int (own_v0_3 x1)), .val (.int (own_v0_4 x2)), .val (.int (own_v0_5 x2)), .val (.int (own_v0_6 y3)), .val (.long (own_v0_7 y3)), .second, .val (.int (x4 &&& (63 : Int32))), .val (.int (own_v0_8 x4)), .val (.int (x5 &&& (3 : Int32))), .val (.int (own_v0_9 x5)), .val (.int (own_j0_1 x5)), .val (.int (own_v0_10 x5)), .val (.ref b76), .val (.int (x5 &&& (3 : Int32))), .val (.int (0 : Int32)), .val (.int (1 : Int32)), .val (.int (own_j0_11 x0 x1 x2 y3 x5)), .val (.int (own_v0_11 x0 x1 x2 y3 x5))] [(.int (1 : Int32))]))
        refine own_go (fun t k => XS.goto X184.here hx rfl (pc0 := 720) (pc' := 724) rfl (hb hby at_720) (by decide) (by decide) k) ?_
        rw [show (own_j0_12 x0 x1 x2 y3 x5) = (1 : Int32) from by rw [own_j0_12, if_pos hc187]] at HH188
        exact HH188
      · refine own_go (fun t k => XS.icmpYes X184.here hx rfl (pc0 := 716) (pc' := 723) rfl (hb hby at_716) rfl (feq hc187).2 (by decide) (by decide) k) ?_
        show own_Goes p e below _ (T184.setTop (mkF m 723 #[.val (.int x0), .val (.int x1), .val (.int x2), .val (.long y3), .second, .val (.int x4), .val (.int x5), .val (.int (own_v0_1 x0)), .val (.int (own_v0_2 x1)), .val (.int (own_v0_3 x1)), .val (.int (own_v0_4 x2)), .val (.int (own_v0_5 x2)), .val (.int (own_v0_6 y3)), .val (.long (own_v0_7 y3)), .second, .val (.int (x4 &&& (63 : Int32))), .val (.int (own_v0_8 x4)), .val (.int (x5 &&& (3 : Int32))), .val (.int (own_v0_9 x5)), .val (.int (own_j0_1 x5)), .val (.int (own_v0_10 x5)), .val (.ref b76), .val (.int (x5 &&& (3 : Int32))), .val (.int (0 : Int32)), .val (.int (1 : Int32)), .val (.int (own_j0_11 x0 x1 x2 y3 x5)), .val (.int (own_v0_11 x0 x1 x2 y3 x5))] []))
        refine own_go (fun t k => XS.iconst X184.here hx rfl (hb hby at_723) k) ?_
        rw [show (own_j0_12 x0 x1 x2 y3 x5) = (0 : Int32) from by rw [own_j0_12, if_neg hc187]] at HH188
        exact HH188
    show own_Goes p e below _ (T184.setTop (mkF m 724 #[.val (.int x0), .val (.int x1), .val (.int x2), .val (.long y3), .second, .val (.int x4), .val (.int x5), .val (.int (own_v0_1 x0)), .val (.int (own_v0_2 x1)), .val (.int (own_v0_3 x1)), .val (.int (own_v0_4 x2)), .val (.int (own_v0_5 x2)), .val (.int (own_v0_6 y3)), .val (.long (own_v0_7 y3)), .second, .val (.int (x4 &&& (63 : Int32))), .val (.int (own_v0_8 x4)), .val (.int (x5 &&& (3 : Int32))), .val (.int (own_v0_9 x5)), .val (.int (own_j0_1 x5)), .val (.int (own_v0_10 x5)), .val (.ref b76), .val (.int (x5 &&& (3 : Int32))), .val (.int (0 : Int32)), .val (.int (1 : Int32)), .val (.int (own_j0_11 x0 x1 x2 y3 x5)), .val (.int (own_v0_11 x0 x1 x2 y3 x5))] [(.int (own_j0_12 x0 x1 x2 y3 x5))]))
    exact own_retN X184 hx hlk hret (by simp) (z' := ((own_j0_12 x0 x1 x2 y3 x5) &&& 1)) rfl (hb hby at_724) (by decide) (by decide) ⟨by rw [own_f0, if_neg hc124], N184, trivial⟩
theorem own_elem {args : Array Value} {s : State} {t b : Term} {x : Addr} {cl : Cell} {j k : Int32} (ht : t.eval args s none [] s = some (.ref x)) (hs : t.eval args s none [j.toNatClampNeg] s = t.eval args s none [] s) (ha : s.arrayAt? x = some cl) (hj : ¬ j < 0) (h : (Jvm.Cond.eq (Term.elem t (Term.index 0)) b).value args s none s [j.toNatClampNeg] = some true) (hb : b.eval args s none [j.toNatClampNeg] s = some (.int k)) : cl.slots[j.toNatClampNeg]? = some (.int k) := by
  have e := own_eqI h hb
  rwa [elem_f (hs.trans ht) (idx_at hj) ha hj] at e
theorem own_elem1 {args : Array Value} {s : State} {t : Term} {x : Addr} {cl : Cell} {i k : Int32} (ht : t.eval args s none [] s = some (.ref x)) (ha : s.arrayAt? x = some cl) (hi : ¬ i < 0) (h : (Jvm.Cond.eq (Term.elem t (Term.int i)) (Term.int k)).value args s none s [] = some true) : cl.slots[i.toNatClampNeg]? = some (.int k) := by
  have e := own_eqI h (Term.int_eval _)
  rwa [elem_f ht (Term.int_eval _) ha hi] at e
theorem own_one {j : Int32} {a b : Int32} (h1 : ¬ j < a) (h2 : j < b) (h : b.toInt = a.toInt + 1) : j = a := by
  rw [← Int32.toInt_inj]
  rw [Int32.lt_iff_toInt_lt] at h1 h2
  omega
theorem own_lt1 {j a b : Int32} (h : j < a) (h' : a.toInt ≤ b.toInt) : j < b := by
  rw [Int32.lt_iff_toInt_lt] at h ⊢
  omega
theorem own_len {args : Array Value} {s : State} {t : Term} {x : Addr} {cl : Cell} {z : Int32} (ht : t.eval args s none [] s = some (.ref x)) (ha : s.arrayAt? x = some cl) (h : (Term.length t).eval args s none [] s = some (.int z)) : cl.slots.size = z.toNatClampNeg := by
  by_cases q : cl.slots.size < 2 ^ 31
  · rw [len_f ht ha q] at h
    rw [← Value.int.inj (Option.some.inj h)]
    simp only [Int32.toNatClampNeg, len_toInt q]
    rfl
  · simp [Term.eval, ht, ha, q] at h
theorem own_narrow {args : Array Value} {s : State} (hn : narrow_1.value args s none s [] = some true) (hw : ∀ d ∈ tables_1, d.before args s = true) : ∃ (a : Addr) (cl : Cell), Sta s s.heap "com/example/kleio/kleio/RecordTime" "FORM" "[C" (.ref a) ∧ Arr s s.heap a cl .char ∧ cl.slots.size = (27 : Int32).toNatClampNeg ∧ ∀ j : Int32, ¬ j < 0 → j < 27 → cl.slots[j.toNatClampNeg]? = some (.int (own_tab j)) := by
  obtain ⟨n1, m1⟩ := and_e hn
  obtain ⟨n2, m2⟩ := and_e m1
  obtain ⟨n3, m3⟩ := and_e m2
  obtain ⟨n4, m4⟩ := and_e m3
  obtain ⟨n5, m5⟩ := and_e m4
  obtain ⟨n6, m6⟩ := and_e m5
  obtain ⟨n7, m7⟩ := and_e m6
  obtain ⟨n8, m8⟩ := and_e m7
  obtain ⟨n9, m9⟩ := and_e m8
  obtain ⟨n10, m10⟩ := and_e m9
  obtain ⟨n11, m11⟩ := and_e m10
  obtain ⟨n12, m12⟩ := and_e m11
  obtain ⟨n13, m13⟩ := and_e m12
  obtain ⟨n14, m14⟩ := and_e m13
  obtain ⟨n15, m15⟩ := and_e m14
  obtain ⟨n16, m16⟩ := and_e m15
  obtain ⟨n17, m17⟩ := and_e m16
  obtain ⟨n18, m18⟩ := and_e m17
  obtain ⟨n19, m19⟩ := and_e m18
  obtain ⟨n20, m20⟩ := and_e m19
  have n21 := m20
  obtain ⟨a, v⟩ := arr_v n1
  obtain ⟨cl, A⟩ := Arr.start v n1
  have ha : s.arrayAt? a = some cl := Arr.fin (Vm.Alike.refl _) A
  have hsz : cl.slots.size = (27 : Int32).toNatClampNeg := own_len v ha (own_eqI n2 (Term.int_eval _))
  have hb : ∀ j : Int32, ¬ j < 0 → j < 27 → j.toNatClampNeg < cl.slots.size := fun j h1 h2 => by
    have q := inb_of (c := cl) (z := (27 : Int32)) hsz ⟨h1, h2⟩
    omega
  refine ⟨a, cl, Sta.start v (Or.inr ⟨(hw _ own_t19), (hw _ own_t22)⟩), A, hsz, fun j hj hj2 => ?_⟩
  unfold own_tab
  by_cases q0 : j < 4
  · rw [if_pos q0]
    exact own_elem v rfl ha hj (own_or (Cond.all_elim v ha n3 _ (hb j hj hj2)) (own_ixle hj q0)) (Term.int_eval _)
  · rw [if_neg q0]
    by_cases q1 : j < 5
    · rw [if_pos q1]
      have e := own_one q0 q1 rfl
      subst e
      exact own_elem1 v ha (by decide) n4
    · rw [if_neg q1]
      by_cases q2 : j < 6
      · rw [if_pos q2]
        have e := own_one q1 q2 rfl
        subst e
        exact own_elem1 v ha (by decide) n5
      · rw [if_neg q2]
        by_cases q3 : j < 7
        · rw [if_pos q3]
          have e := own_one q2 q3 rfl
          subst e
          exact own_elem1 v ha (by decide) n6
        · rw [if_neg q3]
          by_cases q4 : j < 8
          · rw [if_pos q4]
            have e := own_one q3 q4 rfl
            subst e
            exact own_elem1 v ha (by decide) n7
          · rw [if_neg q4]
            by_cases q5 : j < 9
            · rw [if_pos q5]
              have e := own_one q4 q5 rfl
              subst e
              exact own_elem1 v ha (by decide) n8
            · rw [if_neg q5]
              by_cases q6 : j < 10
              · rw [if_pos q6]
                have e := own_one q5 q6 rfl
                subst e
                exact own_elem1 v ha (by decide) n9
              · rw [if_neg q6]
                by_cases q7 : j < 11
                · rw [if_pos q7]
                  have e := own_one q6 q7 rfl
                  subst e
                  exact own_elem1 v ha (by decide) n10
                · rw [if_neg q7]
                  by_cases q8 : j < 12
                  · rw [if_pos q8]
                    have e := own_one q7 q8 rfl
                    subst e
                    exact own_elem1 v ha (by decide) n11
                  · rw [if_neg q8]
                    by_cases q9 : j < 13
                    · rw [if_pos q9]
                      have e := own_one q8 q9 rfl
                      subst e
                      exact own_elem1 v ha (by decide) n12
                    · rw [if_neg q9]
                      by_cases q10 : j < 14
                      · rw [if_pos q10]
                        have e := own_one q9 q10 rfl
                        subst e
                        exact own_elem1 v ha (by decide) n13
                      · rw [if_neg q10]
                        by_cases q11 : j < 15
                        · rw [if_pos q11]
                          have e := own_one q10 q11 rfl
                          subst e
                          exact own_elem1 v ha (by decide) n14
                        · rw [if_neg q11]
                          by_cases q12 : j < 16
                          · rw [if_pos q12]
                            have e := own_one q11 q12 rfl
                            subst e
                            exact own_elem1 v ha (by decide) n15
                          · rw [if_neg q12]
                            by_cases q13 : j < 17
                            · rw [if_pos q13]
                              have e := own_one q12 q13 rfl
                              subst e
                              exact own_elem1 v ha (by decide) n16
                            · rw [if_neg q13]
                              by_cases q14 : j < 18
                              · rw [if_pos q14]
                                have e := own_one q13 q14 rfl
                                subst e
                                exact own_elem1 v ha (by decide) n17
                              · rw [if_neg q14]
                                by_cases q15 : j < 19
                                · rw [if_pos q15]
                                  have e := own_one q14 q15 rfl
                                  subst e
                                  exact own_elem1 v ha (by decide) n18
                                · rw [if_neg q15]
                                  by_cases q16 : j < 20
                                  · rw [if_pos q16]
                                    have e := own_one q15 q16 rfl
                                    subst e
                                    exact own_elem1 v ha (by decide) n19
                                  · rw [if_neg q16]
                                    by_cases q17 : j < 26
                                    · rw [if_pos q17]
                                      exact own_elem v rfl ha hj (own_or (own_or (Cond.all_elim v ha n20 _ (hb j hj hj2)) (own_ixlt hj q16)) (own_ixle hj q17)) (Term.int_eval _)
                                    · rw [if_neg q17]
                                      have e := own_one q17 hj2 rfl
                                      subst e
                                      exact own_elem1 v ha (by decide) n21
theorem own_chid (n : Nat) (h : n < 256) : nar .char ((((Int32.ofNat n).toUInt32.toUInt16.toUInt32.toInt32).toUInt32.toUInt16.toUInt32.toInt32)) = Int32.ofNat n := by
  have t : ∀ k : Fin 256, nar .char ((((Int32.ofNat k.val).toUInt32.toUInt16.toUInt32.toInt32).toUInt32.toUInt16.toUInt32.toInt32)) = Int32.ofNat k.val := by decide +kernel
  exact t ⟨n, h⟩
theorem own_dig (v p : Int64) (hv : 0 ≤ v.toInt) (hp : 0 < p.toInt) : (nar .char (own_f1 v p)).toInt = 48 + v.toInt / p.toInt % 10 := by
  unfold own_f1
  have e1 : (v / p).toInt = v.toInt / p.toInt := by
    rw [Jvm.Kit.i64_div (by omega), Int.tdiv_eq_ediv_of_nonneg hv]
  have e1n : 0 ≤ v.toInt / p.toInt := Int.ediv_nonneg hv (by omega)
  have e2 : ((v / p) - ((v / p) / (10 : Int64)) * (10 : Int64)).toInt = v.toInt / p.toInt % 10 := by
    rw [Jvm.Kit.i64_rem_nonneg (by omega), e1]; rfl
  have e3 : (((v / p) - ((v / p) / (10 : Int64)) * (10 : Int64)).toInt32).toInt = v.toInt / p.toInt % 10 := by
    rw [Jvm.Kit.i32_of_i64 (by omega) (by omega), e2]
  have e4 : ((48 : Int32) + ((v / p) - ((v / p) / (10 : Int64)) * (10 : Int64)).toInt32).toInt = 48 + v.toInt / p.toInt % 10 := by
    rw [own_add _ _ (by rw [e3, show (48 : Int32).toInt = 48 from rfl]; omega), e3]; rfl
  generalize hw : (48 : Int32) + ((v / p) - ((v / p) / (10 : Int64)) * (10 : Int64)).toInt32 = w at e4
  have e5 : Int32.ofNat w.toInt.toNat = w := by
    rw [← Int32.toInt_inj, Int32.toInt_ofNat_of_lt (by omega)]; omega
  have e6 := own_chid w.toInt.toNat (by omega)
  rw [e5] at e6
  rw [e6]; exact e4
theorem own_iushr16 (x : Int32) : 0 ≤ ((x.toUInt32 >>> ((16 : Int32) &&& 31).toUInt32).toInt32).toInt := by
  show 0 ≤ (x.toBitVec >>> (((16 : Int32) &&& 31).toUInt32.toBitVec % 32)).toInt
  rw [show (((16 : Int32) &&& 31).toUInt32.toBitVec % 32) = 16#32 from by decide]
  have h : (x.toBitVec >>> (16#32)).toNat < 2 ^ 16 := by
    rw [BitVec.ushiftRight_eq', BitVec.toNat_ushiftRight, Nat.shiftRight_eq_div_pow]
    have := x.toBitVec.isLt
    exact Nat.div_lt_of_lt_mul (by simpa using this)
  rw [BitVec.toInt_eq_toNat_of_lt (by omega)]
  omega
theorem own_lushr16 (x : Int64) : 0 ≤ ((x.toUInt64 >>> ((16 : Int32) &&& 0x3f).toInt64.toUInt64).toInt64).toInt := by
  show 0 ≤ (x.toBitVec >>> (((16 : Int32) &&& 0x3f).toInt64.toUInt64.toBitVec % 64)).toInt
  rw [show (((16 : Int32) &&& 0x3f).toInt64.toUInt64.toBitVec % 64) = 16#64 from by decide]
  have h : (x.toBitVec >>> (16#64)).toNat < 2 ^ 48 := by
    rw [BitVec.ushiftRight_eq', BitVec.toNat_ushiftRight, Nat.shiftRight_eq_div_pow]
    have := x.toBitVec.isLt
    exact Nat.div_lt_of_lt_mul (by simpa using this)
  rw [BitVec.toInt_eq_toNat_of_lt (by omega)]
  omega
theorem own_b1 (x : Int32) : 0 ≤ (own_v0_1 x).toInt ∧ (own_v0_1 x).toInt < 10000 := by
  unfold own_v0_1
  have e1 : (x &&& 2147483647).toInt = x.toInt % 2 ^ 31 := Jvm.Kit.i32_mask x 2147483647 (k := 31) (by decide) (by decide)
  rw [Jvm.Kit.i32_rem_nonneg (by omega), show (10000 : Int32).toInt = 10000 from rfl]; omega
theorem own_b2 (x : Int32) : 0 ≤ (own_v0_2 x).toInt ∧ (own_v0_2 x).toInt < 100 := by
  unfold own_v0_2
  have e1 : (x &&& 65535).toInt = x.toInt % 2 ^ 16 := Jvm.Kit.i32_mask x 65535 (k := 16) (by decide) (by decide)
  rw [Jvm.Kit.i32_rem_nonneg (by omega), show (100 : Int32).toInt = 100 from rfl]; omega
theorem own_b4 (x : Int32) : 0 ≤ (own_v0_4 x).toInt ∧ (own_v0_4 x).toInt < 100 := own_b2 x
theorem own_b3 (x : Int32) : 0 ≤ (own_v0_3 x).toInt ∧ (own_v0_3 x).toInt < 100 := by
  unfold own_v0_3
  have e1 := own_iushr16 x
  rw [Jvm.Kit.i32_rem_nonneg e1, show (100 : Int32).toInt = 100 from rfl]; omega
theorem own_b5 (x : Int32) : 0 ≤ (own_v0_5 x).toInt ∧ (own_v0_5 x).toInt < 100 := own_b3 x
theorem own_b6 (x : Int64) : 0 ≤ (own_v0_6 x).toInt ∧ (own_v0_6 x).toInt < 100 := by
  unfold own_v0_6
  have e1 : (x &&& 65535).toInt = x.toInt % 2 ^ 16 := Jvm.Kit.i64_mask x 65535 (k := 16) (by decide) (by decide)
  have e2 : ((x &&& 65535) - ((x &&& 65535) / 100) * 100).toInt = (x &&& 65535).toInt % (100 : Int64).toInt := Jvm.Kit.i64_rem_nonneg (by omega)
  rw [show (100 : Int64).toInt = 100 from rfl] at e2
  rw [Jvm.Kit.i32_of_i64 (by omega) (by omega)]; omega
theorem own_b7 (x : Int64) : 0 ≤ (own_v0_7 x).toInt ∧ (own_v0_7 x).toInt < 1000000 := by
  unfold own_v0_7
  have e1 := own_lushr16 x
  generalize (x.toUInt64 >>> ((16 : Int32) &&& 0x3f).toInt64.toUInt64).toInt64 = u at e1
  have e2 : (u - (u / 1000000) * 1000000).toInt = u.toInt % (1000000 : Int64).toInt := Jvm.Kit.i64_rem_nonneg (by omega)
  rw [show (1000000 : Int64).toInt = 1000000 from rfl] at e2
  omega
def own_val (x0 x1 x2 : Int32) (y3 : Int64) : Nat → Int32
  | 0 => nar .char (own_f1 ((own_v0_1 x0).toInt64) (1000 : Int64))
  | 1 => nar .char (own_f1 ((own_v0_1 x0).toInt64) (100 : Int64))
  | 2 => nar .char (own_f1 ((own_v0_1 x0).toInt64) (10 : Int64))
  | 3 => nar .char (own_f1 ((own_v0_1 x0).toInt64) (1 : Int64))
  | 4 => nar .char (45 : Int32)
  | 5 => nar .char (own_f1 ((own_v0_2 x1).toInt64) (10 : Int64))
  | 6 => nar .char (own_f1 ((own_v0_2 x1).toInt64) (1 : Int64))
  | 7 => nar .char (45 : Int32)
  | 8 => nar .char (own_f1 ((own_v0_3 x1).toInt64) (10 : Int64))
  | 9 => nar .char (own_f1 ((own_v0_3 x1).toInt64) (1 : Int64))
  | 10 => nar .char (84 : Int32)
  | 11 => nar .char (own_f1 ((own_v0_4 x2).toInt64) (10 : Int64))
  | 12 => nar .char (own_f1 ((own_v0_4 x2).toInt64) (1 : Int64))
  | 13 => nar .char (58 : Int32)
  | 14 => nar .char (own_f1 ((own_v0_5 x2).toInt64) (10 : Int64))
  | 15 => nar .char (own_f1 ((own_v0_5 x2).toInt64) (1 : Int64))
  | 16 => nar .char (58 : Int32)
  | 17 => nar .char (own_f1 ((own_v0_6 y3).toInt64) (10 : Int64))
  | 18 => nar .char (own_f1 ((own_v0_6 y3).toInt64) (1 : Int64))
  | 19 => nar .char (46 : Int32)
  | 20 => nar .char (own_f1 (own_v0_7 y3) (100000 : Int64))
  | 21 => nar .char (own_f1 (own_v0_7 y3) (10000 : Int64))
  | 22 => nar .char (own_f1 (own_v0_7 y3) (1000 : Int64))
  | 23 => nar .char (own_f1 (own_v0_7 y3) (100 : Int64))
  | 24 => nar .char (own_f1 (own_v0_7 y3) (10 : Int64))
  | 25 => nar .char (own_f1 (own_v0_7 y3) (1 : Int64))
  | 26 => nar .char (90 : Int32)
  | _ => 0
theorem own_cn (o a b : Int32) (h : ¬ a = b) : ¬ o + a = o + b := fun q => h (by
  have := congrArg (fun z => z - o) q
  simpa [Int32.add_comm o, Int32.add_sub_cancel] using this)
theorem own_cn0 (o a : Int32) (h : ¬ a = 0) : ¬ o + a = o := fun q => h (by
  have := congrArg (fun z => z - o) q
  simpa [Int32.add_comm o, Int32.add_sub_cancel] using this)
theorem own_g0 (x0 x1 x2 : Int32) (y3 : Int64) (x5 : Int32) : own_G0_27 x0 x1 x2 y3 x5 (x5 &&& (3 : Int32)) = own_val x0 x1 x2 y3 0 := by
  show _ = nar .char (own_f1 ((own_v0_1 x0).toInt64) (1000 : Int64))
  rw [own_G0_27, if_neg (fun q => own_cn0 _ _ (by decide) q.symm)]
  rw [own_G0_26, if_neg (fun q => own_cn0 _ _ (by decide) q.symm)]
  rw [own_G0_25, if_neg (fun q => own_cn0 _ _ (by decide) q.symm)]
  rw [own_G0_24, if_neg (fun q => own_cn0 _ _ (by decide) q.symm)]
  rw [own_G0_23, if_neg (fun q => own_cn0 _ _ (by decide) q.symm)]
  rw [own_G0_22, if_neg (fun q => own_cn0 _ _ (by decide) q.symm)]
  rw [own_G0_21, if_neg (fun q => own_cn0 _ _ (by decide) q.symm)]
  rw [own_G0_20, if_neg (fun q => own_cn0 _ _ (by decide) q.symm)]
  rw [own_G0_19, if_neg (fun q => own_cn0 _ _ (by decide) q.symm)]
  rw [own_G0_18, if_neg (fun q => own_cn0 _ _ (by decide) q.symm)]
  rw [own_G0_17, if_neg (fun q => own_cn0 _ _ (by decide) q.symm)]
  rw [own_G0_16, if_neg (fun q => own_cn0 _ _ (by decide) q.symm)]
  rw [own_G0_15, if_neg (fun q => own_cn0 _ _ (by decide) q.symm)]
  rw [own_G0_14, if_neg (fun q => own_cn0 _ _ (by decide) q.symm)]
  rw [own_G0_13, if_neg (fun q => own_cn0 _ _ (by decide) q.symm)]
  rw [own_G0_12, if_neg (fun q => own_cn0 _ _ (by decide) q.symm)]
  rw [own_G0_11, if_neg (fun q => own_cn0 _ _ (by decide) q.symm)]
  rw [own_G0_10, if_neg (fun q => own_cn0 _ _ (by decide) q.symm)]
  rw [own_G0_9, if_neg (fun q => own_cn0 _ _ (by decide) q.symm)]
  rw [own_G0_8, if_neg (fun q => own_cn0 _ _ (by decide) q.symm)]
  rw [own_G0_7, if_neg (fun q => own_cn0 _ _ (by decide) q.symm)]
  rw [own_G0_6, if_neg (fun q => own_cn0 _ _ (by decide) q.symm)]
  rw [own_G0_5, if_neg (fun q => own_cn0 _ _ (by decide) q.symm)]
  rw [own_G0_4, if_neg (fun q => own_cn0 _ _ (by decide) q.symm)]
  rw [own_G0_3, if_neg (fun q => own_cn0 _ _ (by decide) q.symm)]
  rw [own_G0_2, if_neg (fun q => own_cn0 _ _ (by decide) q.symm)]
  rw [own_G0_1, if_pos rfl]
theorem own_g1 (x0 x1 x2 : Int32) (y3 : Int64) (x5 : Int32) : own_G0_27 x0 x1 x2 y3 x5 ((x5 &&& (3 : Int32)) + (1 : Int32)) = own_val x0 x1 x2 y3 1 := by
  show _ = nar .char (own_f1 ((own_v0_1 x0).toInt64) (100 : Int64))
  rw [own_G0_27, if_neg (own_cn _ _ _ (by decide))]
  rw [own_G0_26, if_neg (own_cn _ _ _ (by decide))]
  rw [own_G0_25, if_neg (own_cn _ _ _ (by decide))]
  rw [own_G0_24, if_neg (own_cn _ _ _ (by decide))]
  rw [own_G0_23, if_neg (own_cn _ _ _ (by decide))]
  rw [own_G0_22, if_neg (own_cn _ _ _ (by decide))]
  rw [own_G0_21, if_neg (own_cn _ _ _ (by decide))]
  rw [own_G0_20, if_neg (own_cn _ _ _ (by decide))]
  rw [own_G0_19, if_neg (own_cn _ _ _ (by decide))]
  rw [own_G0_18, if_neg (own_cn _ _ _ (by decide))]
  rw [own_G0_17, if_neg (own_cn _ _ _ (by decide))]
  rw [own_G0_16, if_neg (own_cn _ _ _ (by decide))]
  rw [own_G0_15, if_neg (own_cn _ _ _ (by decide))]
  rw [own_G0_14, if_neg (own_cn _ _ _ (by decide))]
  rw [own_G0_13, if_neg (own_cn _ _ _ (by decide))]
  rw [own_G0_12, if_neg (own_cn _ _ _ (by decide))]
  rw [own_G0_11, if_neg (own_cn _ _ _ (by decide))]
  rw [own_G0_10, if_neg (own_cn _ _ _ (by decide))]
  rw [own_G0_9, if_neg (own_cn _ _ _ (by decide))]
  rw [own_G0_8, if_neg (own_cn _ _ _ (by decide))]
  rw [own_G0_7, if_neg (own_cn _ _ _ (by decide))]
  rw [own_G0_6, if_neg (own_cn _ _ _ (by decide))]
  rw [own_G0_5, if_neg (own_cn _ _ _ (by decide))]
  rw [own_G0_4, if_neg (own_cn _ _ _ (by decide))]
  rw [own_G0_3, if_neg (own_cn _ _ _ (by decide))]
  rw [own_G0_2, if_pos rfl]
theorem own_g2 (x0 x1 x2 : Int32) (y3 : Int64) (x5 : Int32) : own_G0_27 x0 x1 x2 y3 x5 ((x5 &&& (3 : Int32)) + (2 : Int32)) = own_val x0 x1 x2 y3 2 := by
  show _ = nar .char (own_f1 ((own_v0_1 x0).toInt64) (10 : Int64))
  rw [own_G0_27, if_neg (own_cn _ _ _ (by decide))]
  rw [own_G0_26, if_neg (own_cn _ _ _ (by decide))]
  rw [own_G0_25, if_neg (own_cn _ _ _ (by decide))]
  rw [own_G0_24, if_neg (own_cn _ _ _ (by decide))]
  rw [own_G0_23, if_neg (own_cn _ _ _ (by decide))]
  rw [own_G0_22, if_neg (own_cn _ _ _ (by decide))]
  rw [own_G0_21, if_neg (own_cn _ _ _ (by decide))]
  rw [own_G0_20, if_neg (own_cn _ _ _ (by decide))]
  rw [own_G0_19, if_neg (own_cn _ _ _ (by decide))]
  rw [own_G0_18, if_neg (own_cn _ _ _ (by decide))]
  rw [own_G0_17, if_neg (own_cn _ _ _ (by decide))]
  rw [own_G0_16, if_neg (own_cn _ _ _ (by decide))]
  rw [own_G0_15, if_neg (own_cn _ _ _ (by decide))]
  rw [own_G0_14, if_neg (own_cn _ _ _ (by decide))]
  rw [own_G0_13, if_neg (own_cn _ _ _ (by decide))]
  rw [own_G0_12, if_neg (own_cn _ _ _ (by decide))]
  rw [own_G0_11, if_neg (own_cn _ _ _ (by decide))]
  rw [own_G0_10, if_neg (own_cn _ _ _ (by decide))]
  rw [own_G0_9, if_neg (own_cn _ _ _ (by decide))]
  rw [own_G0_8, if_neg (own_cn _ _ _ (by decide))]
  rw [own_G0_7, if_neg (own_cn _ _ _ (by decide))]
  rw [own_G0_6, if_neg (own_cn _ _ _ (by decide))]
  rw [own_G0_5, if_neg (own_cn _ _ _ (by decide))]
  rw [own_G0_4, if_neg (own_cn _ _ _ (by decide))]
  rw [own_G0_3, if_pos rfl]
theorem own_g3 (x0 x1 x2 : Int32) (y3 : Int64) (x5 : Int32) : own_G0_27 x0 x1 x2 y3 x5 ((x5 &&& (3 : Int32)) + (3 : Int32)) = own_val x0 x1 x2 y3 3 := by
  show _ = nar .char (own_f1 ((own_v0_1 x0).toInt64) (1 : Int64))
  rw [own_G0_27, if_neg (own_cn _ _ _ (by decide))]
  rw [own_G0_26, if_neg (own_cn _ _ _ (by decide))]
  rw [own_G0_25, if_neg (own_cn _ _ _ (by decide))]
  rw [own_G0_24, if_neg (own_cn _ _ _ (by decide))]
  rw [own_G0_23, if_neg (own_cn _ _ _ (by decide))]
  rw [own_G0_22, if_neg (own_cn _ _ _ (by decide))]
  rw [own_G0_21, if_neg (own_cn _ _ _ (by decide))]
  rw [own_G0_20, if_neg (own_cn _ _ _ (by decide))]
  rw [own_G0_19, if_neg (own_cn _ _ _ (by decide))]
  rw [own_G0_18, if_neg (own_cn _ _ _ (by decide))]
  rw [own_G0_17, if_neg (own_cn _ _ _ (by decide))]
  rw [own_G0_16, if_neg (own_cn _ _ _ (by decide))]
  rw [own_G0_15, if_neg (own_cn _ _ _ (by decide))]
  rw [own_G0_14, if_neg (own_cn _ _ _ (by decide))]
  rw [own_G0_13, if_neg (own_cn _ _ _ (by decide))]
  rw [own_G0_12, if_neg (own_cn _ _ _ (by decide))]
  rw [own_G0_11, if_neg (own_cn _ _ _ (by decide))]
  rw [own_G0_10, if_neg (own_cn _ _ _ (by decide))]
  rw [own_G0_9, if_neg (own_cn _ _ _ (by decide))]
  rw [own_G0_8, if_neg (own_cn _ _ _ (by decide))]
  rw [own_G0_7, if_neg (own_cn _ _ _ (by decide))]
  rw [own_G0_6, if_neg (own_cn _ _ _ (by decide))]
  rw [own_G0_5, if_neg (own_cn _ _ _ (by decide))]
  rw [own_G0_4, if_pos rfl]
theorem own_g4 (x0 x1 x2 : Int32) (y3 : Int64) (x5 : Int32) : own_G0_27 x0 x1 x2 y3 x5 ((x5 &&& (3 : Int32)) + (4 : Int32)) = own_val x0 x1 x2 y3 4 := by
  show _ = nar .char (45 : Int32)
  rw [own_G0_27, if_neg (own_cn _ _ _ (by decide))]
  rw [own_G0_26, if_neg (own_cn _ _ _ (by decide))]
  rw [own_G0_25, if_neg (own_cn _ _ _ (by decide))]
  rw [own_G0_24, if_neg (own_cn _ _ _ (by decide))]
  rw [own_G0_23, if_neg (own_cn _ _ _ (by decide))]
  rw [own_G0_22, if_neg (own_cn _ _ _ (by decide))]
  rw [own_G0_21, if_neg (own_cn _ _ _ (by decide))]
  rw [own_G0_20, if_neg (own_cn _ _ _ (by decide))]
  rw [own_G0_19, if_neg (own_cn _ _ _ (by decide))]
  rw [own_G0_18, if_neg (own_cn _ _ _ (by decide))]
  rw [own_G0_17, if_neg (own_cn _ _ _ (by decide))]
  rw [own_G0_16, if_neg (own_cn _ _ _ (by decide))]
  rw [own_G0_15, if_neg (own_cn _ _ _ (by decide))]
  rw [own_G0_14, if_neg (own_cn _ _ _ (by decide))]
  rw [own_G0_13, if_neg (own_cn _ _ _ (by decide))]
  rw [own_G0_12, if_neg (own_cn _ _ _ (by decide))]
  rw [own_G0_11, if_neg (own_cn _ _ _ (by decide))]
  rw [own_G0_10, if_neg (own_cn _ _ _ (by decide))]
  rw [own_G0_9, if_neg (own_cn _ _ _ (by decide))]
  rw [own_G0_8, if_neg (own_cn _ _ _ (by decide))]
  rw [own_G0_7, if_neg (own_cn _ _ _ (by decide))]
  rw [own_G0_6, if_neg (own_cn _ _ _ (by decide))]
  rw [own_G0_5, if_pos rfl]
theorem own_g5 (x0 x1 x2 : Int32) (y3 : Int64) (x5 : Int32) : own_G0_27 x0 x1 x2 y3 x5 ((x5 &&& (3 : Int32)) + (5 : Int32)) = own_val x0 x1 x2 y3 5 := by
  show _ = nar .char (own_f1 ((own_v0_2 x1).toInt64) (10 : Int64))
  rw [own_G0_27, if_neg (own_cn _ _ _ (by decide))]
  rw [own_G0_26, if_neg (own_cn _ _ _ (by decide))]
  rw [own_G0_25, if_neg (own_cn _ _ _ (by decide))]
  rw [own_G0_24, if_neg (own_cn _ _ _ (by decide))]
  rw [own_G0_23, if_neg (own_cn _ _ _ (by decide))]
  rw [own_G0_22, if_neg (own_cn _ _ _ (by decide))]
  rw [own_G0_21, if_neg (own_cn _ _ _ (by decide))]
  rw [own_G0_20, if_neg (own_cn _ _ _ (by decide))]
  rw [own_G0_19, if_neg (own_cn _ _ _ (by decide))]
  rw [own_G0_18, if_neg (own_cn _ _ _ (by decide))]
  rw [own_G0_17, if_neg (own_cn _ _ _ (by decide))]
  rw [own_G0_16, if_neg (own_cn _ _ _ (by decide))]
  rw [own_G0_15, if_neg (own_cn _ _ _ (by decide))]
  rw [own_G0_14, if_neg (own_cn _ _ _ (by decide))]
  rw [own_G0_13, if_neg (own_cn _ _ _ (by decide))]
  rw [own_G0_12, if_neg (own_cn _ _ _ (by decide))]
  rw [own_G0_11, if_neg (own_cn _ _ _ (by decide))]
  rw [own_G0_10, if_neg (own_cn _ _ _ (by decide))]
  rw [own_G0_9, if_neg (own_cn _ _ _ (by decide))]
  rw [own_G0_8, if_neg (own_cn _ _ _ (by decide))]
  rw [own_G0_7, if_neg (own_cn _ _ _ (by decide))]
  rw [own_G0_6, if_pos rfl]
theorem own_g6 (x0 x1 x2 : Int32) (y3 : Int64) (x5 : Int32) : own_G0_27 x0 x1 x2 y3 x5 ((x5 &&& (3 : Int32)) + (6 : Int32)) = own_val x0 x1 x2 y3 6 := by
  show _ = nar .char (own_f1 ((own_v0_2 x1).toInt64) (1 : Int64))
  rw [own_G0_27, if_neg (own_cn _ _ _ (by decide))]
  rw [own_G0_26, if_neg (own_cn _ _ _ (by decide))]
  rw [own_G0_25, if_neg (own_cn _ _ _ (by decide))]
  rw [own_G0_24, if_neg (own_cn _ _ _ (by decide))]
  rw [own_G0_23, if_neg (own_cn _ _ _ (by decide))]
  rw [own_G0_22, if_neg (own_cn _ _ _ (by decide))]
  rw [own_G0_21, if_neg (own_cn _ _ _ (by decide))]
  rw [own_G0_20, if_neg (own_cn _ _ _ (by decide))]
  rw [own_G0_19, if_neg (own_cn _ _ _ (by decide))]
  rw [own_G0_18, if_neg (own_cn _ _ _ (by decide))]
  rw [own_G0_17, if_neg (own_cn _ _ _ (by decide))]
  rw [own_G0_16, if_neg (own_cn _ _ _ (by decide))]
  rw [own_G0_15, if_neg (own_cn _ _ _ (by decide))]
  rw [own_G0_14, if_neg (own_cn _ _ _ (by decide))]
  rw [own_G0_13, if_neg (own_cn _ _ _ (by decide))]
  rw [own_G0_12, if_neg (own_cn _ _ _ (by decide))]
  rw [own_G0_11, if_neg (own_cn _ _ _ (by decide))]
  rw [own_G0_10, if_neg (own_cn _ _ _ (by decide))]
  rw [own_G0_9, if_neg (own_cn _ _ _ (by decide))]
  rw [own_G0_8, if_neg (own_cn _ _ _ (by decide))]
  rw [own_G0_7, if_pos rfl]
theorem own_g7 (x0 x1 x2 : Int32) (y3 : Int64) (x5 : Int32) : own_G0_27 x0 x1 x2 y3 x5 ((x5 &&& (3 : Int32)) + (7 : Int32)) = own_val x0 x1 x2 y3 7 := by
  show _ = nar .char (45 : Int32)
  rw [own_G0_27, if_neg (own_cn _ _ _ (by decide))]
  rw [own_G0_26, if_neg (own_cn _ _ _ (by decide))]
  rw [own_G0_25, if_neg (own_cn _ _ _ (by decide))]
  rw [own_G0_24, if_neg (own_cn _ _ _ (by decide))]
  rw [own_G0_23, if_neg (own_cn _ _ _ (by decide))]
  rw [own_G0_22, if_neg (own_cn _ _ _ (by decide))]
  rw [own_G0_21, if_neg (own_cn _ _ _ (by decide))]
  rw [own_G0_20, if_neg (own_cn _ _ _ (by decide))]
  rw [own_G0_19, if_neg (own_cn _ _ _ (by decide))]
  rw [own_G0_18, if_neg (own_cn _ _ _ (by decide))]
  rw [own_G0_17, if_neg (own_cn _ _ _ (by decide))]
  rw [own_G0_16, if_neg (own_cn _ _ _ (by decide))]
  rw [own_G0_15, if_neg (own_cn _ _ _ (by decide))]
  rw [own_G0_14, if_neg (own_cn _ _ _ (by decide))]
  rw [own_G0_13, if_neg (own_cn _ _ _ (by decide))]
  rw [own_G0_12, if_neg (own_cn _ _ _ (by decide))]
  rw [own_G0_11, if_neg (own_cn _ _ _ (by decide))]
  rw [own_G0_10, if_neg (own_cn _ _ _ (by decide))]
  rw [own_G0_9, if_neg (own_cn _ _ _ (by decide))]
  rw [own_G0_8, if_pos rfl]
theorem own_g8 (x0 x1 x2 : Int32) (y3 : Int64) (x5 : Int32) : own_G0_27 x0 x1 x2 y3 x5 ((x5 &&& (3 : Int32)) + (8 : Int32)) = own_val x0 x1 x2 y3 8 := by
  show _ = nar .char (own_f1 ((own_v0_3 x1).toInt64) (10 : Int64))
  rw [own_G0_27, if_neg (own_cn _ _ _ (by decide))]
  rw [own_G0_26, if_neg (own_cn _ _ _ (by decide))]
  rw [own_G0_25, if_neg (own_cn _ _ _ (by decide))]
  rw [own_G0_24, if_neg (own_cn _ _ _ (by decide))]
  rw [own_G0_23, if_neg (own_cn _ _ _ (by decide))]
  rw [own_G0_22, if_neg (own_cn _ _ _ (by decide))]
  rw [own_G0_21, if_neg (own_cn _ _ _ (by decide))]
  rw [own_G0_20, if_neg (own_cn _ _ _ (by decide))]
  rw [own_G0_19, if_neg (own_cn _ _ _ (by decide))]
  rw [own_G0_18, if_neg (own_cn _ _ _ (by decide))]
  rw [own_G0_17, if_neg (own_cn _ _ _ (by decide))]
  rw [own_G0_16, if_neg (own_cn _ _ _ (by decide))]
  rw [own_G0_15, if_neg (own_cn _ _ _ (by decide))]
  rw [own_G0_14, if_neg (own_cn _ _ _ (by decide))]
  rw [own_G0_13, if_neg (own_cn _ _ _ (by decide))]
  rw [own_G0_12, if_neg (own_cn _ _ _ (by decide))]
  rw [own_G0_11, if_neg (own_cn _ _ _ (by decide))]
  rw [own_G0_10, if_neg (own_cn _ _ _ (by decide))]
  rw [own_G0_9, if_pos rfl]
theorem own_g9 (x0 x1 x2 : Int32) (y3 : Int64) (x5 : Int32) : own_G0_27 x0 x1 x2 y3 x5 ((x5 &&& (3 : Int32)) + (9 : Int32)) = own_val x0 x1 x2 y3 9 := by
  show _ = nar .char (own_f1 ((own_v0_3 x1).toInt64) (1 : Int64))
  rw [own_G0_27, if_neg (own_cn _ _ _ (by decide))]
  rw [own_G0_26, if_neg (own_cn _ _ _ (by decide))]
  rw [own_G0_25, if_neg (own_cn _ _ _ (by decide))]
  rw [own_G0_24, if_neg (own_cn _ _ _ (by decide))]
  rw [own_G0_23, if_neg (own_cn _ _ _ (by decide))]
  rw [own_G0_22, if_neg (own_cn _ _ _ (by decide))]
  rw [own_G0_21, if_neg (own_cn _ _ _ (by decide))]
  rw [own_G0_20, if_neg (own_cn _ _ _ (by decide))]
  rw [own_G0_19, if_neg (own_cn _ _ _ (by decide))]
  rw [own_G0_18, if_neg (own_cn _ _ _ (by decide))]
  rw [own_G0_17, if_neg (own_cn _ _ _ (by decide))]
  rw [own_G0_16, if_neg (own_cn _ _ _ (by decide))]
  rw [own_G0_15, if_neg (own_cn _ _ _ (by decide))]
  rw [own_G0_14, if_neg (own_cn _ _ _ (by decide))]
  rw [own_G0_13, if_neg (own_cn _ _ _ (by decide))]
  rw [own_G0_12, if_neg (own_cn _ _ _ (by decide))]
  rw [own_G0_11, if_neg (own_cn _ _ _ (by decide))]
  rw [own_G0_10, if_pos rfl]
theorem own_g10 (x0 x1 x2 : Int32) (y3 : Int64) (x5 : Int32) : own_G0_27 x0 x1 x2 y3 x5 ((x5 &&& (3 : Int32)) + (10 : Int32)) = own_val x0 x1 x2 y3 10 := by
  show _ = nar .char (84 : Int32)
  rw [own_G0_27, if_neg (own_cn _ _ _ (by decide))]
  rw [own_G0_26, if_neg (own_cn _ _ _ (by decide))]
  rw [own_G0_25, if_neg (own_cn _ _ _ (by decide))]
  rw [own_G0_24, if_neg (own_cn _ _ _ (by decide))]
  rw [own_G0_23, if_neg (own_cn _ _ _ (by decide))]
  rw [own_G0_22, if_neg (own_cn _ _ _ (by decide))]
  rw [own_G0_21, if_neg (own_cn _ _ _ (by decide))]
  rw [own_G0_20, if_neg (own_cn _ _ _ (by decide))]
  rw [own_G0_19, if_neg (own_cn _ _ _ (by decide))]
  rw [own_G0_18, if_neg (own_cn _ _ _ (by decide))]
  rw [own_G0_17, if_neg (own_cn _ _ _ (by decide))]
  rw [own_G0_16, if_neg (own_cn _ _ _ (by decide))]
  rw [own_G0_15, if_neg (own_cn _ _ _ (by decide))]
  rw [own_G0_14, if_neg (own_cn _ _ _ (by decide))]
  rw [own_G0_13, if_neg (own_cn _ _ _ (by decide))]
  rw [own_G0_12, if_neg (own_cn _ _ _ (by decide))]
  rw [own_G0_11, if_pos rfl]
theorem own_g11 (x0 x1 x2 : Int32) (y3 : Int64) (x5 : Int32) : own_G0_27 x0 x1 x2 y3 x5 ((x5 &&& (3 : Int32)) + (11 : Int32)) = own_val x0 x1 x2 y3 11 := by
  show _ = nar .char (own_f1 ((own_v0_4 x2).toInt64) (10 : Int64))
  rw [own_G0_27, if_neg (own_cn _ _ _ (by decide))]
  rw [own_G0_26, if_neg (own_cn _ _ _ (by decide))]
  rw [own_G0_25, if_neg (own_cn _ _ _ (by decide))]
  rw [own_G0_24, if_neg (own_cn _ _ _ (by decide))]
  rw [own_G0_23, if_neg (own_cn _ _ _ (by decide))]
  rw [own_G0_22, if_neg (own_cn _ _ _ (by decide))]
  rw [own_G0_21, if_neg (own_cn _ _ _ (by decide))]
  rw [own_G0_20, if_neg (own_cn _ _ _ (by decide))]
  rw [own_G0_19, if_neg (own_cn _ _ _ (by decide))]
  rw [own_G0_18, if_neg (own_cn _ _ _ (by decide))]
  rw [own_G0_17, if_neg (own_cn _ _ _ (by decide))]
  rw [own_G0_16, if_neg (own_cn _ _ _ (by decide))]
  rw [own_G0_15, if_neg (own_cn _ _ _ (by decide))]
  rw [own_G0_14, if_neg (own_cn _ _ _ (by decide))]
  rw [own_G0_13, if_neg (own_cn _ _ _ (by decide))]
  rw [own_G0_12, if_pos rfl]
theorem own_g12 (x0 x1 x2 : Int32) (y3 : Int64) (x5 : Int32) : own_G0_27 x0 x1 x2 y3 x5 ((x5 &&& (3 : Int32)) + (12 : Int32)) = own_val x0 x1 x2 y3 12 := by
  show _ = nar .char (own_f1 ((own_v0_4 x2).toInt64) (1 : Int64))
  rw [own_G0_27, if_neg (own_cn _ _ _ (by decide))]
  rw [own_G0_26, if_neg (own_cn _ _ _ (by decide))]
  rw [own_G0_25, if_neg (own_cn _ _ _ (by decide))]
  rw [own_G0_24, if_neg (own_cn _ _ _ (by decide))]
  rw [own_G0_23, if_neg (own_cn _ _ _ (by decide))]
  rw [own_G0_22, if_neg (own_cn _ _ _ (by decide))]
  rw [own_G0_21, if_neg (own_cn _ _ _ (by decide))]
  rw [own_G0_20, if_neg (own_cn _ _ _ (by decide))]
  rw [own_G0_19, if_neg (own_cn _ _ _ (by decide))]
  rw [own_G0_18, if_neg (own_cn _ _ _ (by decide))]
  rw [own_G0_17, if_neg (own_cn _ _ _ (by decide))]
  rw [own_G0_16, if_neg (own_cn _ _ _ (by decide))]
  rw [own_G0_15, if_neg (own_cn _ _ _ (by decide))]
  rw [own_G0_14, if_neg (own_cn _ _ _ (by decide))]
  rw [own_G0_13, if_pos rfl]
theorem own_g13 (x0 x1 x2 : Int32) (y3 : Int64) (x5 : Int32) : own_G0_27 x0 x1 x2 y3 x5 ((x5 &&& (3 : Int32)) + (13 : Int32)) = own_val x0 x1 x2 y3 13 := by
  show _ = nar .char (58 : Int32)
  rw [own_G0_27, if_neg (own_cn _ _ _ (by decide))]
  rw [own_G0_26, if_neg (own_cn _ _ _ (by decide))]
  rw [own_G0_25, if_neg (own_cn _ _ _ (by decide))]
  rw [own_G0_24, if_neg (own_cn _ _ _ (by decide))]
  rw [own_G0_23, if_neg (own_cn _ _ _ (by decide))]
  rw [own_G0_22, if_neg (own_cn _ _ _ (by decide))]
  rw [own_G0_21, if_neg (own_cn _ _ _ (by decide))]
  rw [own_G0_20, if_neg (own_cn _ _ _ (by decide))]
  rw [own_G0_19, if_neg (own_cn _ _ _ (by decide))]
  rw [own_G0_18, if_neg (own_cn _ _ _ (by decide))]
  rw [own_G0_17, if_neg (own_cn _ _ _ (by decide))]
  rw [own_G0_16, if_neg (own_cn _ _ _ (by decide))]
  rw [own_G0_15, if_neg (own_cn _ _ _ (by decide))]
  rw [own_G0_14, if_pos rfl]
theorem own_g14 (x0 x1 x2 : Int32) (y3 : Int64) (x5 : Int32) : own_G0_27 x0 x1 x2 y3 x5 ((x5 &&& (3 : Int32)) + (14 : Int32)) = own_val x0 x1 x2 y3 14 := by
  show _ = nar .char (own_f1 ((own_v0_5 x2).toInt64) (10 : Int64))
  rw [own_G0_27, if_neg (own_cn _ _ _ (by decide))]
  rw [own_G0_26, if_neg (own_cn _ _ _ (by decide))]
  rw [own_G0_25, if_neg (own_cn _ _ _ (by decide))]
  rw [own_G0_24, if_neg (own_cn _ _ _ (by decide))]
  rw [own_G0_23, if_neg (own_cn _ _ _ (by decide))]
  rw [own_G0_22, if_neg (own_cn _ _ _ (by decide))]
  rw [own_G0_21, if_neg (own_cn _ _ _ (by decide))]
  rw [own_G0_20, if_neg (own_cn _ _ _ (by decide))]
  rw [own_G0_19, if_neg (own_cn _ _ _ (by decide))]
  rw [own_G0_18, if_neg (own_cn _ _ _ (by decide))]
  rw [own_G0_17, if_neg (own_cn _ _ _ (by decide))]
  rw [own_G0_16, if_neg (own_cn _ _ _ (by decide))]
  rw [own_G0_15, if_pos rfl]
theorem own_g15 (x0 x1 x2 : Int32) (y3 : Int64) (x5 : Int32) : own_G0_27 x0 x1 x2 y3 x5 ((x5 &&& (3 : Int32)) + (15 : Int32)) = own_val x0 x1 x2 y3 15 := by
  show _ = nar .char (own_f1 ((own_v0_5 x2).toInt64) (1 : Int64))
  rw [own_G0_27, if_neg (own_cn _ _ _ (by decide))]
  rw [own_G0_26, if_neg (own_cn _ _ _ (by decide))]
  rw [own_G0_25, if_neg (own_cn _ _ _ (by decide))]
  rw [own_G0_24, if_neg (own_cn _ _ _ (by decide))]
  rw [own_G0_23, if_neg (own_cn _ _ _ (by decide))]
  rw [own_G0_22, if_neg (own_cn _ _ _ (by decide))]
  rw [own_G0_21, if_neg (own_cn _ _ _ (by decide))]
  rw [own_G0_20, if_neg (own_cn _ _ _ (by decide))]
  rw [own_G0_19, if_neg (own_cn _ _ _ (by decide))]
  rw [own_G0_18, if_neg (own_cn _ _ _ (by decide))]
  rw [own_G0_17, if_neg (own_cn _ _ _ (by decide))]
  rw [own_G0_16, if_pos rfl]
theorem own_g16 (x0 x1 x2 : Int32) (y3 : Int64) (x5 : Int32) : own_G0_27 x0 x1 x2 y3 x5 ((x5 &&& (3 : Int32)) + (16 : Int32)) = own_val x0 x1 x2 y3 16 := by
  show _ = nar .char (58 : Int32)
  rw [own_G0_27, if_neg (own_cn _ _ _ (by decide))]
  rw [own_G0_26, if_neg (own_cn _ _ _ (by decide))]
  rw [own_G0_25, if_neg (own_cn _ _ _ (by decide))]
  rw [own_G0_24, if_neg (own_cn _ _ _ (by decide))]
  rw [own_G0_23, if_neg (own_cn _ _ _ (by decide))]
  rw [own_G0_22, if_neg (own_cn _ _ _ (by decide))]
  rw [own_G0_21, if_neg (own_cn _ _ _ (by decide))]
  rw [own_G0_20, if_neg (own_cn _ _ _ (by decide))]
  rw [own_G0_19, if_neg (own_cn _ _ _ (by decide))]
  rw [own_G0_18, if_neg (own_cn _ _ _ (by decide))]
  rw [own_G0_17, if_pos rfl]
theorem own_g17 (x0 x1 x2 : Int32) (y3 : Int64) (x5 : Int32) : own_G0_27 x0 x1 x2 y3 x5 ((x5 &&& (3 : Int32)) + (17 : Int32)) = own_val x0 x1 x2 y3 17 := by
  show _ = nar .char (own_f1 ((own_v0_6 y3).toInt64) (10 : Int64))
  rw [own_G0_27, if_neg (own_cn _ _ _ (by decide))]
  rw [own_G0_26, if_neg (own_cn _ _ _ (by decide))]
  rw [own_G0_25, if_neg (own_cn _ _ _ (by decide))]
  rw [own_G0_24, if_neg (own_cn _ _ _ (by decide))]
  rw [own_G0_23, if_neg (own_cn _ _ _ (by decide))]
  rw [own_G0_22, if_neg (own_cn _ _ _ (by decide))]
  rw [own_G0_21, if_neg (own_cn _ _ _ (by decide))]
  rw [own_G0_20, if_neg (own_cn _ _ _ (by decide))]
  rw [own_G0_19, if_neg (own_cn _ _ _ (by decide))]
  rw [own_G0_18, if_pos rfl]
theorem own_g18 (x0 x1 x2 : Int32) (y3 : Int64) (x5 : Int32) : own_G0_27 x0 x1 x2 y3 x5 ((x5 &&& (3 : Int32)) + (18 : Int32)) = own_val x0 x1 x2 y3 18 := by
  show _ = nar .char (own_f1 ((own_v0_6 y3).toInt64) (1 : Int64))
  rw [own_G0_27, if_neg (own_cn _ _ _ (by decide))]
  rw [own_G0_26, if_neg (own_cn _ _ _ (by decide))]
  rw [own_G0_25, if_neg (own_cn _ _ _ (by decide))]
  rw [own_G0_24, if_neg (own_cn _ _ _ (by decide))]
  rw [own_G0_23, if_neg (own_cn _ _ _ (by decide))]
  rw [own_G0_22, if_neg (own_cn _ _ _ (by decide))]
  rw [own_G0_21, if_neg (own_cn _ _ _ (by decide))]
  rw [own_G0_20, if_neg (own_cn _ _ _ (by decide))]
  rw [own_G0_19, if_pos rfl]
theorem own_g19 (x0 x1 x2 : Int32) (y3 : Int64) (x5 : Int32) : own_G0_27 x0 x1 x2 y3 x5 ((x5 &&& (3 : Int32)) + (19 : Int32)) = own_val x0 x1 x2 y3 19 := by
  show _ = nar .char (46 : Int32)
  rw [own_G0_27, if_neg (own_cn _ _ _ (by decide))]
  rw [own_G0_26, if_neg (own_cn _ _ _ (by decide))]
  rw [own_G0_25, if_neg (own_cn _ _ _ (by decide))]
  rw [own_G0_24, if_neg (own_cn _ _ _ (by decide))]
  rw [own_G0_23, if_neg (own_cn _ _ _ (by decide))]
  rw [own_G0_22, if_neg (own_cn _ _ _ (by decide))]
  rw [own_G0_21, if_neg (own_cn _ _ _ (by decide))]
  rw [own_G0_20, if_pos rfl]
theorem own_g20 (x0 x1 x2 : Int32) (y3 : Int64) (x5 : Int32) : own_G0_27 x0 x1 x2 y3 x5 ((x5 &&& (3 : Int32)) + (20 : Int32)) = own_val x0 x1 x2 y3 20 := by
  show _ = nar .char (own_f1 (own_v0_7 y3) (100000 : Int64))
  rw [own_G0_27, if_neg (own_cn _ _ _ (by decide))]
  rw [own_G0_26, if_neg (own_cn _ _ _ (by decide))]
  rw [own_G0_25, if_neg (own_cn _ _ _ (by decide))]
  rw [own_G0_24, if_neg (own_cn _ _ _ (by decide))]
  rw [own_G0_23, if_neg (own_cn _ _ _ (by decide))]
  rw [own_G0_22, if_neg (own_cn _ _ _ (by decide))]
  rw [own_G0_21, if_pos rfl]
theorem own_g21 (x0 x1 x2 : Int32) (y3 : Int64) (x5 : Int32) : own_G0_27 x0 x1 x2 y3 x5 ((x5 &&& (3 : Int32)) + (21 : Int32)) = own_val x0 x1 x2 y3 21 := by
  show _ = nar .char (own_f1 (own_v0_7 y3) (10000 : Int64))
  rw [own_G0_27, if_neg (own_cn _ _ _ (by decide))]
  rw [own_G0_26, if_neg (own_cn _ _ _ (by decide))]
  rw [own_G0_25, if_neg (own_cn _ _ _ (by decide))]
  rw [own_G0_24, if_neg (own_cn _ _ _ (by decide))]
  rw [own_G0_23, if_neg (own_cn _ _ _ (by decide))]
  rw [own_G0_22, if_pos rfl]
theorem own_g22 (x0 x1 x2 : Int32) (y3 : Int64) (x5 : Int32) : own_G0_27 x0 x1 x2 y3 x5 ((x5 &&& (3 : Int32)) + (22 : Int32)) = own_val x0 x1 x2 y3 22 := by
  show _ = nar .char (own_f1 (own_v0_7 y3) (1000 : Int64))
  rw [own_G0_27, if_neg (own_cn _ _ _ (by decide))]
  rw [own_G0_26, if_neg (own_cn _ _ _ (by decide))]
  rw [own_G0_25, if_neg (own_cn _ _ _ (by decide))]
  rw [own_G0_24, if_neg (own_cn _ _ _ (by decide))]
  rw [own_G0_23, if_pos rfl]
theorem own_g23 (x0 x1 x2 : Int32) (y3 : Int64) (x5 : Int32) : own_G0_27 x0 x1 x2 y3 x5 ((x5 &&& (3 : Int32)) + (23 : Int32)) = own_val x0 x1 x2 y3 23 := by
  show _ = nar .char (own_f1 (own_v0_7 y3) (100 : Int64))
  rw [own_G0_27, if_neg (own_cn _ _ _ (by decide))]
  rw [own_G0_26, if_neg (own_cn _ _ _ (by decide))]
  rw [own_G0_25, if_neg (own_cn _ _ _ (by decide))]
  rw [own_G0_24, if_pos rfl]
theorem own_g24 (x0 x1 x2 : Int32) (y3 : Int64) (x5 : Int32) : own_G0_27 x0 x1 x2 y3 x5 ((x5 &&& (3 : Int32)) + (24 : Int32)) = own_val x0 x1 x2 y3 24 := by
  show _ = nar .char (own_f1 (own_v0_7 y3) (10 : Int64))
  rw [own_G0_27, if_neg (own_cn _ _ _ (by decide))]
  rw [own_G0_26, if_neg (own_cn _ _ _ (by decide))]
  rw [own_G0_25, if_pos rfl]
theorem own_g25 (x0 x1 x2 : Int32) (y3 : Int64) (x5 : Int32) : own_G0_27 x0 x1 x2 y3 x5 ((x5 &&& (3 : Int32)) + (25 : Int32)) = own_val x0 x1 x2 y3 25 := by
  show _ = nar .char (own_f1 (own_v0_7 y3) (1 : Int64))
  rw [own_G0_27, if_neg (own_cn _ _ _ (by decide))]
  rw [own_G0_26, if_pos rfl]
theorem own_g26 (x0 x1 x2 : Int32) (y3 : Int64) (x5 : Int32) : own_G0_27 x0 x1 x2 y3 x5 ((x5 &&& (3 : Int32)) + (26 : Int32)) = own_val x0 x1 x2 y3 26 := by
  show _ = nar .char (90 : Int32)
  rw [own_G0_27, if_pos rfl]
theorem own_g (x0 x1 x2 : Int32) (y3 : Int64) (x5 : Int32) (k : Nat) (hk : k < 27) : own_G0_27 x0 x1 x2 y3 x5 ((x5 &&& (3 : Int32)) + Int32.ofNat k) = own_val x0 x1 x2 y3 k := by
  match k, hk with
  | 0, _ => rw [show (x5 &&& (3 : Int32)) + Int32.ofNat 0 = (x5 &&& 3) from Int32.add_zero _]; exact own_g0 ..
  | 1, _ => exact own_g1 ..
  | 2, _ => exact own_g2 ..
  | 3, _ => exact own_g3 ..
  | 4, _ => exact own_g4 ..
  | 5, _ => exact own_g5 ..
  | 6, _ => exact own_g6 ..
  | 7, _ => exact own_g7 ..
  | 8, _ => exact own_g8 ..
  | 9, _ => exact own_g9 ..
  | 10, _ => exact own_g10 ..
  | 11, _ => exact own_g11 ..
  | 12, _ => exact own_g12 ..
  | 13, _ => exact own_g13 ..
  | 14, _ => exact own_g14 ..
  | 15, _ => exact own_g15 ..
  | 16, _ => exact own_g16 ..
  | 17, _ => exact own_g17 ..
  | 18, _ => exact own_g18 ..
  | 19, _ => exact own_g19 ..
  | 20, _ => exact own_g20 ..
  | 21, _ => exact own_g21 ..
  | 22, _ => exact own_g22 ..
  | 23, _ => exact own_g23 ..
  | 24, _ => exact own_g24 ..
  | 25, _ => exact own_g25 ..
  | 26, _ => exact own_g26 ..
  | n + 27, h => exact absurd h (by omega)
theorem own_i2l (x : Int32) : x.toInt64.toInt = x.toInt := Jvm.Kit.i64_of_i32 x
/-- the places' values as plain numbers -/
theorem own_chk_iff (x1 : Int32) (F : Int32 → Int32) : ∀ (k i : Nat), i + k = 27 → (own_chk k (Int32.ofNat i) x1 F = true ↔ ∀ j, i ≤ j → j < 27 → ¬ own_j3_2 x1 F (Int32.ofNat j) = 0)
  | 0, i, h => ⟨fun _ j h1 h2 => absurd h2 (by omega), fun _ => rfl⟩
  | k + 1, i, h => by
    have e : Int32.ofNat i + 1 = Int32.ofNat (i + 1) := (Int32.ofNat_succ i)
    rw [own_chk, e]
    by_cases q : own_j3_2 x1 F (Int32.ofNat i) = 0
    · rw [if_pos q]
      exact ⟨fun z => absurd z (by decide), fun z => absurd q (z i (Nat.le_refl _) (by omega))⟩
    · rw [if_neg q, own_chk_iff x1 F k (i + 1) (by omega)]
      exact ⟨fun z j h1 h2 => if e : j = i then by rw [e]; exact q else z j (by omega) h2, fun z j h1 h2 => z j (by omega) h2⟩
theorem own_good_dig {x1 i : Int32} {F : Int32 → Int32} (ht : own_tab i = 48) (h : 48 ≤ (F (x1 + i)).toInt ∧ (F (x1 + i)).toInt ≤ 57) : ¬ own_j3_2 x1 F i = 0 := by
  unfold own_j3_2
  rw [if_pos ht, if_neg (by rw [Int32.lt_iff_toInt_lt, show (48 : Int32).toInt = 48 from rfl]; omega), if_neg (by rw [Int32.lt_iff_toInt_lt, show (57 : Int32).toInt = 57 from rfl]; omega)]
  decide
theorem own_good_sep {x1 i : Int32} {F : Int32 → Int32} (ht : ¬ own_tab i = 48) (h : F (x1 + i) = own_tab i) : ¬ own_j3_2 x1 F i = 0 := by
  unfold own_j3_2
  rw [if_neg ht, if_pos h]
  decide
theorem own_dg (v : Int32) (p : Int64) (hv : 0 ≤ v.toInt) (hp : 0 < p.toInt) : (nar .char (own_f1 v.toInt64 p)).toInt = 48 + v.toInt / p.toInt % 10 := by
  rw [own_dig _ _ (by rw [own_i2l]; exact hv) hp, own_i2l]
/-- every place of the law's own text is well formed -/
theorem own_good (x0 x1 x2 : Int32) (y3 : Int64) (o : Int32) (F : Int32 → Int32) (hF : ∀ k, k < 27 → F (o + Int32.ofNat k) = own_val x0 x1 x2 y3 k) : own_chk 27 0 o F = true := by
  refine (own_chk_iff o F 27 0 rfl).mpr fun j _ hj => ?_
  have b1 := own_b1 x0
  have b2 := own_b2 x1
  have b3 := own_b3 x1
  have b4 := own_b4 x2
  have b5 := own_b5 x2
  have b6 := own_b6 y3
  have b7 := own_b7 y3
  have e := hF j hj
  match j, hj with
  | 0, _ => exact own_good_dig rfl (by rw [e]; show 48 ≤ (nar .char _).toInt ∧ (nar .char _).toInt ≤ 57; rw [own_dg _ 1000 b1.1 (by decide)]; omega)
  | 1, _ => exact own_good_dig rfl (by rw [e]; show 48 ≤ (nar .char _).toInt ∧ (nar .char _).toInt ≤ 57; rw [own_dg _ 100 b1.1 (by decide)]; omega)
  | 2, _ => exact own_good_dig rfl (by rw [e]; show 48 ≤ (nar .char _).toInt ∧ (nar .char _).toInt ≤ 57; rw [own_dg _ 10 b1.1 (by decide)]; omega)
  | 3, _ => exact own_good_dig rfl (by rw [e]; show 48 ≤ (nar .char _).toInt ∧ (nar .char _).toInt ≤ 57; rw [own_dg _ 1 b1.1 (by decide)]; omega)
  | 4, _ => exact own_good_sep (by decide) (e.trans rfl)
  | 5, _ => exact own_good_dig rfl (by rw [e]; show 48 ≤ (nar .char _).toInt ∧ (nar .char _).toInt ≤ 57; rw [own_dg _ 10 b2.1 (by decide)]; omega)
  | 6, _ => exact own_good_dig rfl (by rw [e]; show 48 ≤ (nar .char _).toInt ∧ (nar .char _).toInt ≤ 57; rw [own_dg _ 1 b2.1 (by decide)]; omega)
  | 7, _ => exact own_good_sep (by decide) (e.trans rfl)
  | 8, _ => exact own_good_dig rfl (by rw [e]; show 48 ≤ (nar .char _).toInt ∧ (nar .char _).toInt ≤ 57; rw [own_dg _ 10 b3.1 (by decide)]; omega)
  | 9, _ => exact own_good_dig rfl (by rw [e]; show 48 ≤ (nar .char _).toInt ∧ (nar .char _).toInt ≤ 57; rw [own_dg _ 1 b3.1 (by decide)]; omega)
  | 10, _ => exact own_good_sep (by decide) (e.trans rfl)
  | 11, _ => exact own_good_dig rfl (by rw [e]; show 48 ≤ (nar .char _).toInt ∧ (nar .char _).toInt ≤ 57; rw [own_dg _ 10 b4.1 (by decide)]; omega)
  | 12, _ => exact own_good_dig rfl (by rw [e]; show 48 ≤ (nar .char _).toInt ∧ (nar .char _).toInt ≤ 57; rw [own_dg _ 1 b4.1 (by decide)]; omega)
  | 13, _ => exact own_good_sep (by decide) (e.trans rfl)
  | 14, _ => exact own_good_dig rfl (by rw [e]; show 48 ≤ (nar .char _).toInt ∧ (nar .char _).toInt ≤ 57; rw [own_dg _ 10 b5.1 (by decide)]; omega)
  | 15, _ => exact own_good_dig rfl (by rw [e]; show 48 ≤ (nar .char _).toInt ∧ (nar .char _).toInt ≤ 57; rw [own_dg _ 1 b5.1 (by decide)]; omega)
  | 16, _ => exact own_good_sep (by decide) (e.trans rfl)
  | 17, _ => exact own_good_dig rfl (by rw [e]; show 48 ≤ (nar .char _).toInt ∧ (nar .char _).toInt ≤ 57; rw [own_dg _ 10 b6.1 (by decide)]; omega)
  | 18, _ => exact own_good_dig rfl (by rw [e]; show 48 ≤ (nar .char _).toInt ∧ (nar .char _).toInt ≤ 57; rw [own_dg _ 1 b6.1 (by decide)]; omega)
  | 19, _ => exact own_good_sep (by decide) (e.trans rfl)
  | 20, _ => exact own_good_dig rfl (by rw [e]; show 48 ≤ (nar .char _).toInt ∧ (nar .char _).toInt ≤ 57; rw [own_dig _ 100000 b7.1 (by decide)]; omega)
  | 21, _ => exact own_good_dig rfl (by rw [e]; show 48 ≤ (nar .char _).toInt ∧ (nar .char _).toInt ≤ 57; rw [own_dig _ 10000 b7.1 (by decide)]; omega)
  | 22, _ => exact own_good_dig rfl (by rw [e]; show 48 ≤ (nar .char _).toInt ∧ (nar .char _).toInt ≤ 57; rw [own_dig _ 1000 b7.1 (by decide)]; omega)
  | 23, _ => exact own_good_dig rfl (by rw [e]; show 48 ≤ (nar .char _).toInt ∧ (nar .char _).toInt ≤ 57; rw [own_dig _ 100 b7.1 (by decide)]; omega)
  | 24, _ => exact own_good_dig rfl (by rw [e]; show 48 ≤ (nar .char _).toInt ∧ (nar .char _).toInt ≤ 57; rw [own_dig _ 10 b7.1 (by decide)]; omega)
  | 25, _ => exact own_good_dig rfl (by rw [e]; show 48 ≤ (nar .char _).toInt ∧ (nar .char _).toInt ≤ 57; rw [own_dig _ 1 b7.1 (by decide)]; omega)
  | 26, _ => exact own_good_sep (by decide) (e.trans rfl)
  | n + 27, h => exact absurd h (by omega)
theorem own_step (a f : Int32) (d : Int) (ha : 0 ≤ a.toInt ∧ a.toInt ≤ 999) (hf : f.toInt = 48 + d) (hd : 0 ≤ d ∧ d ≤ 9) : (a * 10 + (f - 48)).toInt = a.toInt * 10 + d := by
  have e1 : (a * 10).toInt = a.toInt * (10 : Int32).toInt := Jvm.Kit.i32_mul (by rw [show (10 : Int32).toInt = 10 from rfl]; omega) (by rw [show (10 : Int32).toInt = 10 from rfl]; omega)
  have e2 : (f - 48).toInt = f.toInt - (48 : Int32).toInt := Jvm.Kit.i32_sub (by rw [show (48 : Int32).toInt = 48 from rfl]; omega) (by rw [show (48 : Int32).toInt = 48 from rfl]; omega)
  rw [show (10 : Int32).toInt = 10 from rfl] at e1
  rw [show (48 : Int32).toInt = 48 from rfl] at e2
  rw [own_add _ _ (by omega), e1, e2]; omega
theorem own_two (x : Int32) (F : Int32 → Int32) (a b : Int) (h1 : (F x).toInt = 48 + a) (h2 : (F (x + 1)).toInt = 48 + b) (ha : 0 ≤ a ∧ a ≤ 9) (hb : 0 ≤ b ∧ b ≤ 9) : (own_f4_2 x F).toInt = a * 10 + b := by
  unfold own_f4_2
  have s1 := own_step 0 (F x) a (by decide) h1 ha
  rw [show (0 : Int32).toInt = 0 from rfl] at s1
  have s2 := own_step _ (F (x + 1)) b (by rw [s1]; omega) h2 hb
  rw [s2, s1]; omega
theorem own_four (x : Int32) (F : Int32 → Int32) (a b c d : Int) (h1 : (F x).toInt = 48 + a) (h2 : (F (x + 1)).toInt = 48 + b) (h3 : (F (x + 1 + 1)).toInt = 48 + c) (h4 : (F (x + 1 + 1 + 1)).toInt = 48 + d) (ha : 0 ≤ a ∧ a ≤ 9) (hb : 0 ≤ b ∧ b ≤ 9) (hc : 0 ≤ c ∧ c ≤ 9) (hd : 0 ≤ d ∧ d ≤ 9) : (own_f4_4 x F).toInt = ((a * 10 + b) * 10 + c) * 10 + d := by
  unfold own_f4_4
  have s1 := own_step 0 (F x) a (by decide) h1 ha
  rw [show (0 : Int32).toInt = 0 from rfl] at s1
  have s2 := own_step _ (F (x + 1)) b (by rw [s1]; omega) h2 hb
  have s3 := own_step _ (F (x + 1 + 1)) c (by rw [s2, s1]; omega) h3 hc
  have s4 := own_step _ (F (x + 1 + 1 + 1)) d (by rw [s3, s2, s1]; omega) h4 hd
  rw [s4, s3, s2, s1]; omega
def own_E (y m d h n s : Int32) : Int32 := if m < 1 then 0 else if 12 < m then 0 else if d < 1 then 0 else if own_f5 m y < d then 0 else if 23 < h then 0 else if 59 < n then 0 else if 59 < s then 0 else 1
theorem own_f56 (m y : Int32) (h1 : ¬ m < 1) (h2 : ¬ 12 < m) : own_f6 m y = own_f5 m y := by
  unfold own_f6 own_j6_2 own_f5 own_j5_2
  have e : own_j6_1 y = own_j5_1 y := by
    unfold own_j6_1 own_j5_1
    by_cases a : y % 400 = 0
    · have a1 : y.toInt.tmod 400 = 0 := by have := congrArg Int32.toInt a; rw [Int32.toInt_mod] at this; exact this
      have a0 : (400 : Int) ∣ y.toInt := Int.dvd_of_tmod_eq_zero a1
      have a2 : y % 4 = 0 := by rw [← Int32.toInt_inj, Int32.toInt_mod]; exact Int.tmod_eq_zero_of_dvd (Int.dvd_trans (by decide) a0)
      have a3 : y % 100 = 0 := by rw [← Int32.toInt_inj, Int32.toInt_mod]; exact Int.tmod_eq_zero_of_dvd (Int.dvd_trans (by decide) a0)
      simp only [if_pos a, if_pos a2, if_pos a3]
    · by_cases b : y % 4 = 0
      · simp only [if_pos b, if_neg a]
      · simp only [if_neg b, if_neg a]
  rw [e]
  have q : m = 1 ∨ m = 2 ∨ m = 3 ∨ m = 4 ∨ m = 5 ∨ m = 6 ∨ m = 7 ∨ m = 8 ∨ m = 9 ∨ m = 10 ∨ m = 11 ∨ m = 12 := by
    simp only [← Int32.toInt_inj]
    rw [Int32.lt_iff_toInt_lt, show (1 : Int32).toInt = 1 from rfl] at h1
    rw [Int32.lt_iff_toInt_lt, show (12 : Int32).toInt = 12 from rfl] at h2
    rw [show (1 : Int32).toInt = 1 from rfl, show (2 : Int32).toInt = 2 from rfl, show (3 : Int32).toInt = 3 from rfl, show (4 : Int32).toInt = 4 from rfl, show (5 : Int32).toInt = 5 from rfl, show (6 : Int32).toInt = 6 from rfl, show (7 : Int32).toInt = 7 from rfl, show (8 : Int32).toInt = 8 from rfl, show (9 : Int32).toInt = 9 from rfl, show (10 : Int32).toInt = 10 from rfl, show (11 : Int32).toInt = 11 from rfl, show (12 : Int32).toInt = 12 from rfl]
    omega
  rcases q with rfl | rfl | rfl | rfl | rfl | rfl | rfl | rfl | rfl | rfl | rfl | rfl <;> rfl
/-- what the tail says of such a text -/
theorem own_tl (x0 x1 x2 : Int32) (y3 : Int64) (o : Int32) (F : Int32 → Int32) (hF : ∀ k, k < 27 → F (o + Int32.ofNat k) = own_val x0 x1 x2 y3 k) : own_f3t o F = own_E (own_v0_1 x0) (own_v0_2 x1) (own_v0_3 x1) (own_v0_4 x2) (own_v0_5 x2) (own_v0_6 y3) := by
  have b1 := own_b1 x0
  have b2 := own_b2 x1
  have b3 := own_b3 x1
  have b4 := own_b4 x2
  have b5 := own_b5 x2
  have b6 := own_b6 y3
  have f0 : F o = own_val x0 x1 x2 y3 0 := by have := hF 0 (by decide); rwa [show o + Int32.ofNat 0 = o from Int32.add_zero _] at this
  have A : ∀ a b : Int32, o + a + b = o + (a + b) := fun a b => Int32.add_assoc o a b
  have f1 : F (o + 1) = own_val x0 x1 x2 y3 1 := hF 1 (by decide)
  have f2 : F (o + 1 + 1) = own_val x0 x1 x2 y3 2 := by rw [A]; exact hF 2 (by decide)
  have f3 : F (o + 1 + 1 + 1) = own_val x0 x1 x2 y3 3 := by rw [A, A]; exact hF 3 (by decide)
  have Y : own_f4_4 o F = own_v0_1 x0 := by
    rw [← Int32.toInt_inj, own_four o F ((own_v0_1 x0).toInt / 1000 % 10) ((own_v0_1 x0).toInt / 100 % 10) ((own_v0_1 x0).toInt / 10 % 10) ((own_v0_1 x0).toInt / 1 % 10) (by rw [f0]; exact own_dg _ 1000 b1.1 (by decide)) (by rw [f1]; exact own_dg _ 100 b1.1 (by decide)) (by rw [f2]; exact own_dg _ 10 b1.1 (by decide)) (by rw [f3]; exact own_dg _ 1 b1.1 (by decide)) (by omega) (by omega) (by omega) (by omega)]
    omega
  have two : ∀ (a : Int32) (v : Int32), 0 ≤ v.toInt ∧ v.toInt < 100 → F (o + a) = nar .char (own_f1 v.toInt64 10) → F (o + (a + 1)) = nar .char (own_f1 v.toInt64 1) → own_f4_2 (o + a) F = v := fun a v bv g1 g2 => by
    rw [← Int32.toInt_inj, own_two (o + a) F (v.toInt / 10 % 10) (v.toInt / 1 % 10) (by rw [g1]; exact own_dg _ 10 bv.1 (by decide)) (by rw [A, g2]; exact own_dg _ 1 bv.1 (by decide)) (by omega) (by omega)]
    omega
  have M : own_f4_2 (o + 5) F = own_v0_2 x1 := two 5 _ b2 (hF 5 (by decide)) (hF 6 (by decide))
  have D : own_f4_2 (o + 8) F = own_v0_3 x1 := two 8 _ b3 (hF 8 (by decide)) (hF 9 (by decide))
  have H : own_f4_2 (o + 11) F = own_v0_4 x2 := two 11 _ b4 (hF 11 (by decide)) (hF 12 (by decide))
  have N : own_f4_2 (o + 14) F = own_v0_5 x2 := two 14 _ b5 (hF 14 (by decide)) (hF 15 (by decide))
  have S : own_f4_2 (o + 17) F = own_v0_6 y3 := two 17 _ b6 (hF 17 (by decide)) (hF 18 (by decide))
  unfold own_f3t own_j3_1
  rw [M, D, H, N, S, Y]
  generalize own_v0_2 x1 = m
  generalize own_v0_1 x0 = y
  generalize own_v0_3 x1 = d
  generalize own_v0_4 x2 = hh
  generalize own_v0_5 x2 = n
  generalize own_v0_6 y3 = s
  unfold own_E
  by_cases h1 : m < 1
  · simp only [if_pos h1]; rfl
  · by_cases h2 : 12 < m
    · simp only [if_neg h1, if_pos h2]; rfl
    · rw [own_f56 m y h1 h2]
      simp only [if_neg h1, if_neg h2]
      by_cases h3 : d < 1
      · simp only [if_pos h3]; rfl
      · by_cases h4 : own_f5 m y < d
        · simp only [if_neg h3, if_pos h4]; rfl
        · by_cases h5 : 23 < hh
          · simp only [if_neg h3, if_neg h4, if_pos h5]; rfl
          · by_cases h6 : 59 < n
            · simp only [if_neg h3, if_neg h4, if_neg h5, if_pos h6]; rfl
            · by_cases h7 : 59 < s
              · simp only [if_neg h3, if_neg h4, if_neg h5, if_neg h6, if_pos h7]; rfl
              · simp only [if_neg h3, if_neg h4, if_neg h5, if_neg h6, if_neg h7]; rfl
theorem own_rtF (x0 x1 x2 : Int32) (y3 : Int64) (o w : Int32) (F : Int32 → Int32) (hF : ∀ k, k < 27 → F (o + Int32.ofNat k) = own_val x0 x1 x2 y3 k) : own_rt o (o + w) F = if w = 27 then own_E (own_v0_1 x0) (own_v0_2 x1) (own_v0_3 x1) (own_v0_4 x2) (own_v0_5 x2) (own_v0_6 y3) else 0 := by
  unfold own_rt
  rw [show o + w - o = w from by rw [Int32.add_comm, Int32.add_sub_cancel], own_good x0 x1 x2 y3 o F hF, own_tl x0 x1 x2 y3 o F hF, if_pos rfl]
theorem own_rt0 (o w : Int32) (F : Int32 → Int32) (k : Nat) (hk : k < 27) (h : own_j3_2 o F (Int32.ofNat k) = 0) : own_rt o (o + w) F = 0 := by
  unfold own_rt
  have q : ¬ own_chk 27 0 o F = true := fun z => (own_chk_iff o F 27 0 rfl).mp z k (Nat.zero_le _) hk h
  rw [if_neg q, ite_self]
/-- the law's own word on the places: where there is a mark, and which -/
theorem own_sepTab : ∀ k : Fin 27, (own_f2 (Int32.ofNat k.val) = 0 → own_tab (Int32.ofNat k.val) = 48) ∧ (¬ own_f2 (Int32.ofNat k.val) = 0 → own_tab (Int32.ofNat k.val) = own_f2 (Int32.ofNat k.val) ∧ ¬ own_tab (Int32.ofNat k.val) = 48) := by decide +kernel
theorem own_sepVal (x0 x1 x2 : Int32) (y3 : Int64) (k : Nat) (hk : k < 27) (h : ¬ own_f2 (Int32.ofNat k) = 0) : own_val x0 x1 x2 y3 k = own_f2 (Int32.ofNat k) := by
  match k, hk with
  | 0, _ => exact absurd rfl h
  | 1, _ => exact absurd rfl h
  | 2, _ => exact absurd rfl h
  | 3, _ => exact absurd rfl h
  | 4, _ => rfl
  | 5, _ => exact absurd rfl h
  | 6, _ => exact absurd rfl h
  | 7, _ => rfl
  | 8, _ => exact absurd rfl h
  | 9, _ => exact absurd rfl h
  | 10, _ => rfl
  | 11, _ => exact absurd rfl h
  | 12, _ => exact absurd rfl h
  | 13, _ => rfl
  | 14, _ => exact absurd rfl h
  | 15, _ => exact absurd rfl h
  | 16, _ => rfl
  | 17, _ => exact absurd rfl h
  | 18, _ => exact absurd rfl h
  | 19, _ => rfl
  | 20, _ => exact absurd rfl h
  | 21, _ => exact absurd rfl h
  | 22, _ => exact absurd rfl h
  | 23, _ => exact absurd rfl h
  | 24, _ => exact absurd rfl h
  | 25, _ => exact absurd rfl h
  | 26, _ => rfl
  | n + 27, h' => exact absurd h' (by omega)
theorem own_c8 (x : Int32) : nar .char (own_v0_8 x) = own_v0_8 x := by
  unfold own_v0_8
  have t : ∀ k : Fin 256, nar .char ((Int32.ofNat k.val).toUInt32.toUInt16.toUInt32.toInt32) = (Int32.ofNat k.val).toUInt32.toUInt16.toUInt32.toInt32 := by decide +kernel
  generalize (x.toUInt32 >>> ((8 : Int32) &&& 31).toUInt32).toInt32 = u
  have h : (u &&& 255).toInt = u.toInt % 2 ^ 8 := Jvm.Kit.i32_mask u 255 (k := 8) (by decide) (by decide)
  have e : Int32.ofNat (u &&& 255).toInt.toNat = (u &&& 255) := by
    rw [← Int32.toInt_inj, Int32.toInt_ofNat_of_lt (by omega)]; omega
  have q := t ⟨(u &&& 255).toInt.toNat, by omega⟩
  simp only [e] at q
  exact q
theorem own_law (x0 x1 x2 : Int32) (y3 : Int64) (x4 x5 : Int32) : own_f0 x0 x1 x2 y3 x4 x5 = 1 := by
  have hE : own_v0_11 x0 x1 x2 y3 x5 = if own_j0_1 x5 = 27 then own_E (own_v0_1 x0) (own_v0_2 x1) (own_v0_3 x1) (own_v0_4 x2) (own_v0_5 x2) (own_v0_6 y3) else 0 := own_rtF x0 x1 x2 y3 _ _ _ (own_g x0 x1 x2 y3 x5)
  unfold own_f0
  by_cases hp : (x4 &&& 63) < 27
  · rw [if_pos hp]
    have bp := own_pb x4 hp
    have hp' : (x4 &&& 63).toInt < 27 := Int32.lt_iff_toInt_lt.mp hp
    have ek : Int32.ofNat (x4 &&& 63).toInt.toNat = (x4 &&& 63) := by rw [← Int32.toInt_inj, Int32.toInt_ofNat_of_lt (by omega)]; omega
    have hk : (x4 &&& 63).toInt.toNat < 27 := by omega
    have sT := own_sepTab ⟨(x4 &&& 63).toInt.toNat, hk⟩
    simp only [ek] at sT
    by_cases ha : own_j0_5 x4 = 0
    · rw [if_pos ha]
      have h6 : own_j0_6 x4 = 1 := by
        unfold own_j0_5 at ha
        unfold own_j0_6
        by_cases q1 : own_f2 (x4 &&& 63) = 0
        · rw [if_pos q1] at ha ⊢
          by_cases q2 : own_j0_2 x4 = 0
          · rw [if_pos q2] at ha; exact absurd ha (by decide)
          · rw [if_neg q2]
        · rw [if_neg q1] at ha; exact absurd ha (by decide)
      unfold own_j0_8
      rw [if_pos (show own_v0_11 x0 x1 x2 y3 x5 = own_j0_7 x0 x1 x2 y3 x4 x5 from by
        rw [hE]; unfold own_j0_7; rw [h6, if_neg (show ¬ (1 : Int32) = 0 by decide)]; rfl)]
      rfl
    · rw [if_neg ha]
      have hG : ∀ k, k < 27 → ¬ k = (x4 &&& 63).toInt.toNat → own_G0_28 x0 x1 x2 y3 x4 x5 ((x5 &&& 3) + Int32.ofNat k) = own_val x0 x1 x2 y3 k := fun k h1 h2 => by
        rw [own_G0_28, if_neg, own_g x0 x1 x2 y3 x5 k h1]
        refine own_cn _ _ _ fun q => h2 ?_
        have := congrArg Int32.toInt q
        rw [Int32.toInt_ofNat_of_lt (by omega)] at this
        omega
      have hGp : own_G0_28 x0 x1 x2 y3 x4 x5 ((x5 &&& 3) + (x4 &&& 63)) = own_v0_8 x4 := by rw [own_G0_28, if_pos rfl, own_c8]
      unfold own_j0_10
      rw [if_pos (show own_v0_12 x0 x1 x2 y3 x4 x5 = own_j0_9 x0 x1 x2 y3 x4 x5 from ?_)]
      · rfl
      · by_cases h6 : own_j0_6 x4 = 0
        · have e9 : own_j0_9 x0 x1 x2 y3 x4 x5 = 0 := by unfold own_j0_9; rw [if_pos h6, ite_self]
          rw [e9]
          refine own_rt0 _ _ _ (x4 &&& 63).toInt.toNat hk ?_
          rw [ek]
          unfold own_j3_2
          rw [hGp]
          unfold own_j0_5 at ha
          unfold own_j0_6 at h6
          by_cases q1 : own_f2 (x4 &&& 63) = 0
          · rw [if_pos q1] at ha
            rw [if_pos (sT.1 q1)]
            by_cases q2 : own_j0_2 x4 = 0
            · unfold own_j0_2 at q2
              by_cases q3 : own_v0_8 x4 < 48
              · rw [if_pos q3]
              · rw [if_neg q3] at q2 ⊢
                by_cases q4 : 57 < own_v0_8 x4
                · rw [if_pos q4]
                · rw [if_neg q4] at q2; exact absurd q2 (by decide)
            · rw [if_neg q2] at ha; exact absurd rfl ha
          · rw [if_neg q1] at h6
            rw [if_neg (sT.2 q1).2]
            unfold own_j0_4 at h6
            rw [if_neg q1] at h6
            by_cases q2 : own_v0_8 x4 = own_f2 (x4 &&& 63)
            · rw [if_pos q2] at h6; exact absurd h6 (by decide)
            · rw [(sT.2 q1).1, if_neg q2]
        · have hF : ∀ k, k < 27 → own_G0_28 x0 x1 x2 y3 x4 x5 ((x5 &&& 3) + Int32.ofNat k) = own_val x0 x1 x2 y3 k := fun k h1 => by
            by_cases e : k = (x4 &&& 63).toInt.toNat
            · have q1 : ¬ own_f2 (x4 &&& 63) = 0 := fun q1 => by
                unfold own_j0_5 at ha
                unfold own_j0_6 at h6
                rw [if_pos q1] at ha h6
                by_cases q2 : own_j0_2 x4 = 0
                · rw [if_pos q2] at h6
                  unfold own_j0_3 at h6
                  rw [if_pos q1] at h6; exact absurd rfl h6
                · rw [if_neg q2] at ha; exact absurd rfl ha
              have q2 : own_v0_8 x4 = own_f2 (x4 &&& 63) := by
                unfold own_j0_6 at h6
                rw [if_neg q1] at h6
                unfold own_j0_4 at h6
                rw [if_neg q1] at h6
                by_cases q2 : own_v0_8 x4 = own_f2 (x4 &&& 63)
                · exact q2
                · rw [if_neg q2] at h6; exact absurd rfl h6
              rw [e, ek, hGp, q2]
              have := own_sepVal x0 x1 x2 y3 (x4 &&& 63).toInt.toNat hk (by rw [ek]; exact q1)
              rw [this, ek]
            · exact hG k h1 e
          unfold own_v0_12 own_v0_10
          rw [own_rtF x0 x1 x2 y3 _ _ _ hF]
          unfold own_j0_9
          rw [if_neg h6]; rfl
  · rw [if_neg hp]
    unfold own_j0_12
    rw [if_pos (show own_v0_11 x0 x1 x2 y3 x5 = own_j0_11 x0 x1 x2 y3 x5 from by rw [hE]; rfl)]
    rfl
set_option maxRecDepth 65536 in
set_option maxHeartbeats 40000000 in
theorem comes_1 {Post : Tables → Env → Array Value → State → Outcome → State → Prop} (hpost : ∀ tb e args s v u, (limb_1_1.after args s (.returned v) u = true ∧ limb_1_2.after args s (.returned v) u = true) → FrameEnd s (.returned v) u (Jvm.fieldLocs frame_1_writes args s ++ Jvm.arrayLocs frame_1_arrays args s ++ Jvm.staticLocs frame_1_statics s) 16 128 → Post tb e args s (.returned v) u) :
    ArmFor flags0 classFile x code maxLocals ret World_1 tables_1 room_1 Calls_1 rest_1 Pre_1 Post := by
  intro l hfl _ _ p e ha hc hk s m args below hf hA hF happ hP
  obtain ⟨hcalls, hrest, hpre⟩ := hP
  obtain ⟨-, -, -, hnamed, -, -, -, hat⟩ := (Spec.applies_iff hf).mp happ
  obtain ⟨hg, hn⟩ := and_e (Cond.before_iff.mp (show (Jvm.Cond.and given_1 narrow_1).before args s = true from hpre))
  obtain ⟨gg1, gg2⟩ := and_e hg
  obtain ⟨gg3, gg4⟩ := and_e gg2
  obtain ⟨gg5, gg6⟩ := and_e gg4
  obtain ⟨gg7, gg8⟩ := and_e gg6
  obtain ⟨gg9, gg10⟩ := and_e gg8
  obtain ⟨gg11, gg12⟩ := and_e gg10
  obtain ⟨w0, w1, w2, w3, w4, w5, rfl⟩ : ∃ w0 w1 w2 w3 w4 w5 : Value, args = #[w0, w1, w2, w3, w4, w5] := by
    have hs : args.size = 6 := by simpa [Cond.value, given_1] using gg1
    obtain ⟨L⟩ := args
    match L, hs with
    | [w0, w1, w2, w3, w4, w5], _ => exact ⟨w0, w1, w2, w3, w4, w5, rfl⟩
  have hw := fun d (hd : d ∈ tables_1) => atoms_spec (ws := Jvm.Cond.code x code maxLocals ret :: tables_1) hat d (List.mem_cons_of_mem _ hd)
  have hfit : Fit s := fun {y c} hc i hi => by
    obtain ⟨ha, rfl⟩ := Array.getElem?_eq_some_iff.mp hc
    have q := List.all_eq_true.mp ((Array.all_eq_true_iff_forall_mem.mp hF) _ (Array.getElem_mem ha)) i (List.mem_range.mpr hi)
    simpa [Array.getElem?_eq_getElem hi] using q
  obtain ⟨i0, ei0⟩ := is_v gg3
  obtain rfl : w0 = (.int i0) := Option.some.inj ei0
  obtain ⟨i1, ei1⟩ := is_v gg5
  obtain rfl : w1 = (.int i1) := Option.some.inj ei1
  obtain ⟨i2, ei2⟩ := is_v gg7
  obtain rfl : w2 = (.int i2) := Option.some.inj ei2
  obtain ⟨i3, ei3⟩ := isL_v gg9
  obtain rfl : w3 = (.long i3) := Option.some.inj ei3
  obtain ⟨i4, ei4⟩ := is_v gg11
  obtain rfl : w4 = (.int i4) := Option.some.inj ei4
  obtain ⟨i5, ei5⟩ := is_v gg12
  obtain rfl : w5 = (.int i5) := Option.some.inj ei5
  obtain ⟨s_F, cl_F, S_F, A_F, z_F, t_F⟩ := own_narrow hn hw
  obtain ⟨n, o, h1, h2, h3, v, L, rfl, hQ, hq⟩ := rm0 l s _ hw tables_1 i0 i1 i2 i3 i4 i5 cl_F s_F s.heap s.heap.size (Nat.le_refl _) (Old.start s) A_F z_F t_F S_F p e ha hc hk s m _ below hf ((Spec.applies_iff_loose hf).mp happ).1 ⟨rfl, State.Warmed39.refl s, rfl⟩ trivial
  obtain ⟨hv, N, -⟩ := hQ
  rw [show (own_f0 i0 i1 i2 i3 i4 i5 : Int32) = 1 from own_law i0 i1 i2 i3 i4 i5] at hv
  subst hv
  refine ⟨n, _, h1, h2, h3, hpost _ _ _ _ _ _ ⟨Cond.after_iff.mpr rfl, Cond.after_iff.mpr (eq_i res_at (Term.int_eval (1)) rfl)⟩ ⟨hq.1, hq.2.1, (hq.2.2.sift fun y hy => Or.inr (N y hy)).mono (by decide) (by decide)⟩⟩
theorem main_1_1 : Claimed_1_1 := comes_1 fun _ _ _ _ _ _ h hF => ⟨h.1, hF⟩
theorem main_1_2 : Claimed_1_2 := comes_1 fun _ _ _ _ _ _ h hF => ⟨h.2, hF⟩
end Jvm.Pilot.@@N@@
namespace Jvm.Pilot.@@N@@
open Jvm Jvm.ClassFile Sem Op Lib Jvm.Free Jvm.Stand Jvm.Pilot.@@N@@.Jvm.D
/-! MADE BY PROGRAM (witnessworld.py) out of the Statement's table words and the real class files: 11 classes; the members and pool entries that the words name. The judged class is class 1, her method 4. -/
namespace start1
open Jvm.ClassFile
def u (s : String) : CpInfo := .utf8 (stringToUtf16 s)
/-- a pool by its gaps: so many unusable entries, then the entry; so many at the end -/
def gap : Nat → List CpInfo → List CpInfo
  | 0, r => r
  | n + 1, r => .unusable :: gap n r
def poolList (es : List (Nat × CpInfo)) (last : Nat) : List CpInfo := es.foldr (fun e r => gap e.1 (e.2 :: r)) (gap last [])
def pool (es : List (Nat × CpInfo)) (last : Nat) : Array CpInfo := ⟨poolList es last⟩
def fileOf (pool : Array CpInfo) (this : Nat) (attrs : Array Attribute := #[]) (ms : Array MethodInfo := #[]) (fl : Nat := 33) (sup : Nat := 0) (ifs : Array Nat := #[]) (fds : Array FieldInfo := #[]) : ClassFile where
  minorVersion := 0
  majorVersion := 65
  constantPool := pool
  accessFlags := fl
  thisClass := this
  superClass := sup
  interfaces := ifs
  fields := fds
  methods := ms
  attributes := attrs
def plain (name : String) (sup : Option ClassId) : Class where
  name := name
  kind := .ordinary
  loader := none
  accessFlags := 33
  super := sup
  interfaces := #[]
  cf := none
  fields := #[]
  methods := #[]
  instanceTypes := #[]
  staticTypes := #[]
  resolved := #[]
  callSites := []
  init := .initialized
  statics := none
  mirror := none

def pool0 : Array CpInfo := pool [(5, u "<init>"), (0, u "()V"), (1, .class_ 10), (1, u "java/lang/Object")] 113

def k0m0 : Method := { name := "<init>", desc := "()V", sig := { parameters := [], returnType := none }, accessFlags := 1, code := none }
/-- java/lang/Object -/
def k0 : Class := { plain "java/lang/Object" none with
  accessFlags := 33
  interfaces := #[]
  cf := some (fileOf pool0 8 #[] #[{ accessFlags := 1, nameIndex := 5, descriptorIndex := 6, attributes := #[] }] 33 0 #[] #[])
  fields := #[]
  methods := #[k0m0]
  instanceTypes := #[]
  staticTypes := #[]
  resolved := Array.replicate 124 none
  statics := none }

def pool1 : Array CpInfo := pool [(2, .class_ 4), (1, u "java/lang/Object"), (0, u "<init>"), (0, u "()V"), (0, .long 10), (1, .integer 2147483647), (0, .integer 65535), (0, .long 65535), (1, .long 100), (1, .long 1000000), (1, .long 1000), (1, .methodref 20 21), (0, .class_ 22), (0, .nameAndType 23 24), (0, u "com/example/kleio/kleio/RecordTimeIsRecordTimePinLaw"), (0, u "dig"), (0, u "(JJ)C"), (0, .long 100000), (1, .long 10000), (1, .methodref 20 30), (0, .nameAndType 31 32), (0, u "sepAt"), (0, u "(I)C"), (0, .methodref 20 34), (0, .nameAndType 35 36), (0, u "daysOf"), (0, u "(II)I"), (0, .methodref 38 39), (0, .class_ 40), (0, .nameAndType 41 42), (0, u "com/example/kleio/kleio/RecordTime"), (0, u "isRecordTime"), (0, u "([CII)Z"), (3, u "law"), (0, u "(IIIJII)Z")] 4

def k1m0 : Method := { name := "<init>", desc := "()V", sig := { parameters := [], returnType := none }, accessFlags := 2, code := none }
def k1c1 : Code := { maxStack := 5, maxLocals := 4, code := method_2_code, exceptionTable := #[], attributes := #[] }
def k1m1 : Method := { name := "dig", desc := "(JJ)C", sig := { parameters := [.long, .long], returnType := some .char }, accessFlags := 10, code := some k1c1 }
def k1c2 : Code := { maxStack := 2, maxLocals := 1, code := method_3_code, exceptionTable := #[], attributes := #[] }
def k1m2 : Method := { name := "sepAt", desc := "(I)C", sig := { parameters := [.int], returnType := some .char }, accessFlags := 10, code := some k1c2 }
def k1c3 : Code := { maxStack := 2, maxLocals := 3, code := method_4_code, exceptionTable := #[], attributes := #[] }
def k1m3 : Method := { name := "daysOf", desc := "(II)I", sig := { parameters := [.int, .int], returnType := some .int }, accessFlags := 10, code := some k1c3 }
def k1c4 : Code := { maxStack := 6, maxLocals := 27, code := code, exceptionTable := #[], attributes := #[] }
def k1m4 : Method := { name := "law", desc := "(IIIJII)Z", sig := { parameters := [.int, .int, .int, .long, .int, .int], returnType := some .boolean }, accessFlags := 9, code := some k1c4 }
/-- com/example/kleio/kleio/RecordTimeIsRecordTimePinLaw -/
def k1 : Class := { plain "com/example/kleio/kleio/RecordTimeIsRecordTimePinLaw" (some 0) with
  accessFlags := 49
  interfaces := #[]
  cf := some (fileOf pool1 20 #[] #[{ accessFlags := 2, nameIndex := 5, descriptorIndex := 6, attributes := #[] }, { accessFlags := 10, nameIndex := 23, descriptorIndex := 24, attributes := #[] }, { accessFlags := 10, nameIndex := 31, descriptorIndex := 32, attributes := #[] }, { accessFlags := 10, nameIndex := 35, descriptorIndex := 36, attributes := #[] }, { accessFlags := 9, nameIndex := 46, descriptorIndex := 47, attributes := #[] }] 49 2 #[] #[])
  fields := #[]
  methods := #[k1m0, k1m1, k1m2, k1m3, k1m4]
  instanceTypes := #[]
  staticTypes := #[]
  resolved := Array.replicate 52 none
  statics := none }

def pool2 : Array CpInfo := pool [(2, .class_ 4), (1, u "java/lang/Object"), (0, u "<init>"), (0, u "()V"), (1, .class_ 10), (1, u "com/example/kleio/kleio/RecordTime$Formats"), (33, .class_ 45), (0, u "com/example/kleio/kleio/RecordTime"), (107, .fieldref 44 154), (0, .nameAndType 155 156), (0, u "FORM"), (0, u "[C"), (0, .methodref 44 158), (0, .nameAndType 159 160), (0, u "digits"), (0, u "([CII)I"), (0, .methodref 44 162), (0, .nameAndType 163 164), (0, u "daysIn"), (0, u "(II)I"), (6, u "MAX_FRACTION_DIGITS"), (0, u "I"), (6, u "isRecordTime"), (0, u "([CII)Z")] 24

def k2m0 : Method := { name := "<init>", desc := "()V", sig := { parameters := [], returnType := none }, accessFlags := 2, code := none }
def k2c1 : Code := { maxStack := 3, maxLocals := 6, code := prog_25_method_4_code, exceptionTable := #[], attributes := #[] }
def k2m1 : Method := { name := "isRecordTime", desc := "([CII)Z", sig := { parameters := [(.array .char), .int, .int], returnType := some .boolean }, accessFlags := 8, code := some k2c1 }
def k2c2 : Code := { maxStack := 3, maxLocals := 5, code := prog_25_method_5_code, exceptionTable := #[], attributes := #[] }
def k2m2 : Method := { name := "digits", desc := "([CII)I", sig := { parameters := [(.array .char), .int, .int], returnType := some .int }, accessFlags := 10, code := some k2c2 }
def k2c3 : Code := { maxStack := 2, maxLocals := 3, code := prog_25_method_6_code, exceptionTable := #[], attributes := #[] }
def k2m3 : Method := { name := "daysIn", desc := "(II)I", sig := { parameters := [.int, .int], returnType := some .int }, accessFlags := 10, code := some k2c3 }
/-- com/example/kleio/kleio/RecordTime -/
def k2 : Class := { plain "com/example/kleio/kleio/RecordTime" (some 0) with
  accessFlags := 48
  interfaces := #[]
  cf := some (fileOf pool2 44 #[.nestMembers #[8]] #[{ accessFlags := 2, nameIndex := 5, descriptorIndex := 6, attributes := #[] }, { accessFlags := 8, nameIndex := 179, descriptorIndex := 180, attributes := #[] }, { accessFlags := 10, nameIndex := 159, descriptorIndex := 160, attributes := #[] }, { accessFlags := 10, nameIndex := 163, descriptorIndex := 164, attributes := #[] }] 48 2 #[] #[{ accessFlags := 26, nameIndex := 171, descriptorIndex := 172, attributes := #[] }, { accessFlags := 26, nameIndex := 155, descriptorIndex := 156, attributes := #[] }])
  fields := #[{ name := "MAX_FRACTION_DIGITS", type := .int, accessFlags := 26, slot := 0, constantValue := 0 }, { name := "FORM", type := (.array .char), accessFlags := 26, slot := 1, constantValue := 0 }]
  methods := #[k2m0, k2m1, k2m2, k2m3]
  instanceTypes := #[]
  staticTypes := #[.int, (.array .char)]
  resolved := Array.replicate 205 none
  statics := some 0 }

def pool3 : Array CpInfo := pool [(1, u "java/lang/Cloneable"), (0, .class_ 1), (0, u "java/lang/Object"), (0, .class_ 3)] 3

/-- java/lang/Cloneable -/
def k3 : Class := { plain "java/lang/Cloneable" (some 0) with
  accessFlags := 1537
  interfaces := #[]
  cf := some (fileOf pool3 2 #[] #[] 1537 4 #[] #[])
  fields := #[]
  methods := #[]
  instanceTypes := #[]
  staticTypes := #[]
  resolved := Array.replicate 8 none
  statics := none }

def pool4 : Array CpInfo := pool [(1, u "java/io/Serializable"), (0, .class_ 1), (0, u "java/lang/Object"), (0, .class_ 3)] 3

/-- java/io/Serializable -/
def k4 : Class := { plain "java/io/Serializable" (some 0) with
  accessFlags := 1537
  interfaces := #[]
  cf := some (fileOf pool4 2 #[] #[] 1537 4 #[] #[])
  fields := #[]
  methods := #[]
  instanceTypes := #[]
  staticTypes := #[]
  resolved := Array.replicate 8 none
  statics := none }

/-- the primitive byte -/
def k5 : Class := { plain "byte" none with kind := .primitive 'B', accessFlags := 0x411 }
/-- [B -/
def k6 : Class := { plain "[B" (some 0) with kind := .array 5 .byte, interfaces := #[3, 4], accessFlags := 1041 }

/-- the primitive char -/
def k7 : Class := { plain "char" none with kind := .primitive 'C', accessFlags := 0x411 }
/-- [C -/
def k8 : Class := { plain "[C" (some 0) with kind := .array 7 .char, interfaces := #[3, 4], accessFlags := 1041 }

/-- the primitive int -/
def k9 : Class := { plain "int" none with kind := .primitive 'I', accessFlags := 0x411 }
/-- [I -/
def k10 : Class := { plain "[I" (some 0) with kind := .array 9 .int, interfaces := #[3, 4], accessFlags := 1041 }

def heap : Heap := #[{ cls := 2, slots := #[.int 0, .ref 1], vm := .statics 2 },
  { cls := 8, slots := #[.int 48, .int 48, .int 48, .int 48, .int 45, .int 48, .int 48, .int 45, .int 48, .int 48, .int 84, .int 48, .int 48, .int 58, .int 48, .int 48, .int 58, .int 48, .int 48, .int 46, .int 48, .int 48, .int 48, .int 48, .int 48, .int 48, .int 90], vm := .none }]
def classes : Array Class := #[k0, k1, k2, k3, k4, k5, k6, k7, k8, k9, k10]
def interned : List (Array UInt16 × Addr) := []
def slotsUsed : Nat := 29
def theMethod : MethodId := ⟨1, 4⟩
def args0 : Array Value := #[.int 5, .int 7, .int 9, .long 11, .int 63, .int 1]
def aboutOver (below : List Frame) : State where
  vm := { classes := classes, interned := interned.toArray }
  heap := heap
  slotsUsed := slotsUsed
  threads := #[{ frames := .invoking theMethod args0 :: below }]
def below0 : List Frame := [.native { method := ⟨0, 0⟩, args := #[] }]
def about1 : State := aboutOver below0
def p0 : Program := .bare "" "" ""
def e0 : Env := launch0.env 0 0 0
theorem w_frames : about1.frames = Frame.invoking theMethod args0 :: below0 := rfl
set_option maxRecDepth 65536 in
theorem w_args : argsFit about1.vm theMethod args0 = true := by decide +kernel
set_option maxRecDepth 65536 in
theorem w_heap : heapFits about1 = true := by decide +kernel
set_option maxRecDepth 65536 in
theorem w_runnable : about1.curStatus? = some .runnable := by decide +kernel
set_option maxRecDepth 65536 in
theorem w_alone : about1.alone = true := by decide +kernel
set_option maxRecDepth 65536 in
theorem w_named : about1.methodNamed? x = some theMethod := by decide +kernel
set_option maxRecDepth 65536 in
theorem w_hears : about1.hears theMethod below0 = true := by decide +kernel
set_option maxRecDepth 65536 in
theorem w_ripe : about1.ripe theMethod args0 below0 = true := by decide +kernel
theorem w_running : about1.status = .running := rfl
set_option maxRecDepth 65536 in
theorem w_room : about1.hasRoom e0.platform room_1 = true :=
  launch0.hasRoom_least _ room_1 (by decide +kernel) (by decide +kernel) (by decide +kernel) (by decide +kernel) (by decide +kernel) (by decide +kernel)
theorem allAtoms_all (ts : List Jvm.Cond) (a : Array Jvm.Value) (st : Jvm.State) : (allAtoms ts).before a st = ts.all (fun c => c.before a st) := by
  induction ts with
  | nil => rfl
  | cons c t ih =>
    show (Jvm.Cond.and c (allAtoms t)).before a st = _
    rw [Jvm.Cond.before_and, ih, List.all_cons]
def words1 : List Jvm.Cond := Jvm.Cond.code x code maxLocals ret :: tables_1
/-- a 'code' word, met by the world's own term for the bytes: nothing is compared byte by byte -/
theorem code_word {y : MethodName} {bytes : ByteArray} {mx : Nat} {rt : Option FieldType} {a : Array Value} {s : State} {m : MethodId} {meth : Method} {c : Code} (h1 : s.methodNamed? y = some m) (h2 : s.vm.method? m = some meth) (h3 : meth.code = some c) (h4 : c.code = bytes)
    (h5 : (c.maxLocals == mx && c.exceptionTable.isEmpty && decide (c.maxStack ≤ mostOperands) && decide (meth.sig.returnType = rt) && !meth.locks && decide (parseMethodDescriptor y.desc = some meth.sig)) = true) : (Jvm.Cond.code y bytes mx rt).before a s = true := by
  simp only [Bool.and_eq_true, beq_iff_eq, Bool.not_eq_true', decide_eq_true_eq] at h5
  obtain ⟨⟨⟨⟨⟨g1, g2⟩, g3⟩, g4⟩, g5⟩, g6⟩ := h5
  simp [Cond.before, Cond.holds, Cond.value, h1, h2, h3, h4, g1, g2, g3, g4, g5, g6]
def isCode : Jvm.Cond → Bool
  | .code _ _ _ _ => true
  | _ => false
theorem all_split {L : List Jvm.Cond} {P : Jvm.Cond → Bool} (h1 : L.all (fun c => isCode c || P c) = true) (h2 : ∀ c ∈ L.filter isCode, P c = true) : L.all P = true := by
  refine List.all_eq_true.mpr fun c hc => ?_
  have h := List.all_eq_true.mp h1 c hc
  rcases Bool.eq_false_or_eq_true (isCode c) with hi | hi
  · exact h2 c (List.mem_filter.mpr ⟨hc, hi⟩)
  · simpa [hi] using h
set_option maxRecDepth 65536 in
theorem w_c0 : (Jvm.Cond.code x code maxLocals ret).before args0 about1 = true := code_word (m := ⟨1, 4⟩) (meth := k1m4) (c := k1c4) (by decide +kernel) rfl rfl rfl (by decide +kernel)
set_option maxRecDepth 65536 in
theorem w_c1 : (Jvm.Cond.code ({ cls := "com/example/kleio/kleio/RecordTimeIsRecordTimePinLaw", name := "dig", desc := "(JJ)C" } : Jvm.MethodName) method_2_code (4 : Nat) (Option.some Jvm.ClassFile.FieldType.char)).before args0 about1 = true := code_word (m := ⟨1, 1⟩) (meth := k1m1) (c := k1c1) (by decide +kernel) rfl rfl rfl (by decide +kernel)
set_option maxRecDepth 65536 in
theorem w_c2 : (Jvm.Cond.code ({ cls := "com/example/kleio/kleio/RecordTimeIsRecordTimePinLaw", name := "sepAt", desc := "(I)C" } : Jvm.MethodName) method_3_code (1 : Nat) (Option.some Jvm.ClassFile.FieldType.char)).before args0 about1 = true := code_word (m := ⟨1, 2⟩) (meth := k1m2) (c := k1c2) (by decide +kernel) rfl rfl rfl (by decide +kernel)
set_option maxRecDepth 65536 in
theorem w_c3 : (Jvm.Cond.code ({ cls := "com/example/kleio/kleio/RecordTime", name := "isRecordTime", desc := "([CII)Z" } : Jvm.MethodName) prog_25_method_4_code (6 : Nat) (Option.some Jvm.ClassFile.FieldType.boolean)).before args0 about1 = true := code_word (m := ⟨2, 1⟩) (meth := k2m1) (c := k2c1) (by decide +kernel) rfl rfl rfl (by decide +kernel)
set_option maxRecDepth 65536 in
theorem w_c4 : (Jvm.Cond.code ({ cls := "com/example/kleio/kleio/RecordTime", name := "digits", desc := "([CII)I" } : Jvm.MethodName) prog_25_method_5_code (5 : Nat) (Option.some Jvm.ClassFile.FieldType.int)).before args0 about1 = true := code_word (m := ⟨2, 2⟩) (meth := k2m2) (c := k2c2) (by decide +kernel) rfl rfl rfl (by decide +kernel)
set_option maxRecDepth 65536 in
theorem w_c5 : (Jvm.Cond.code ({ cls := "com/example/kleio/kleio/RecordTimeIsRecordTimePinLaw", name := "daysOf", desc := "(II)I" } : Jvm.MethodName) method_4_code (3 : Nat) (Option.some Jvm.ClassFile.FieldType.int)).before args0 about1 = true := code_word (m := ⟨1, 3⟩) (meth := k1m3) (c := k1c3) (by decide +kernel) rfl rfl rfl (by decide +kernel)
set_option maxRecDepth 65536 in
theorem w_c6 : (Jvm.Cond.code ({ cls := "com/example/kleio/kleio/RecordTime", name := "daysIn", desc := "(II)I" } : Jvm.MethodName) prog_25_method_6_code (3 : Nat) (Option.some Jvm.ClassFile.FieldType.int)).before args0 about1 = true := code_word (m := ⟨2, 3⟩) (meth := k2m3) (c := k2c3) (by decide +kernel) rfl rfl rfl (by decide +kernel)
def codes1 : List Jvm.Cond := [Jvm.Cond.code x code maxLocals ret, Jvm.Cond.code ({ cls := "com/example/kleio/kleio/RecordTimeIsRecordTimePinLaw", name := "dig", desc := "(JJ)C" } : Jvm.MethodName) method_2_code (4 : Nat) (Option.some Jvm.ClassFile.FieldType.char), Jvm.Cond.code ({ cls := "com/example/kleio/kleio/RecordTimeIsRecordTimePinLaw", name := "sepAt", desc := "(I)C" } : Jvm.MethodName) method_3_code (1 : Nat) (Option.some Jvm.ClassFile.FieldType.char), Jvm.Cond.code ({ cls := "com/example/kleio/kleio/RecordTime", name := "isRecordTime", desc := "([CII)Z" } : Jvm.MethodName) prog_25_method_4_code (6 : Nat) (Option.some Jvm.ClassFile.FieldType.boolean), Jvm.Cond.code ({ cls := "com/example/kleio/kleio/RecordTime", name := "digits", desc := "([CII)I" } : Jvm.MethodName) prog_25_method_5_code (5 : Nat) (Option.some Jvm.ClassFile.FieldType.int), Jvm.Cond.code ({ cls := "com/example/kleio/kleio/RecordTimeIsRecordTimePinLaw", name := "daysOf", desc := "(II)I" } : Jvm.MethodName) method_4_code (3 : Nat) (Option.some Jvm.ClassFile.FieldType.int), Jvm.Cond.code ({ cls := "com/example/kleio/kleio/RecordTime", name := "daysIn", desc := "(II)I" } : Jvm.MethodName) prog_25_method_6_code (3 : Nat) (Option.some Jvm.ClassFile.FieldType.int)]
set_option maxRecDepth 65536 in
theorem codes_eq : words1.filter isCode = codes1 := rfl
theorem w_codes : ∀ c ∈ words1.filter isCode, c.before args0 about1 = true := by
  rw [codes_eq]
  intro c hc
  simp only [codes1, List.mem_cons, List.not_mem_nil, or_false] at hc
  rcases hc with rfl | rfl | rfl | rfl | rfl | rfl | rfl
  · exact w_c0
  · exact w_c1
  · exact w_c2
  · exact w_c3
  · exact w_c4
  · exact w_c5
  · exact w_c6
set_option maxRecDepth 65536 in
theorem w_t1 : (words1.take 24).all (fun c => isCode c || c.before args0 about1) = true := by decide +kernel
set_option maxRecDepth 65536 in
theorem w_t2 : (words1.drop 24).all (fun c => isCode c || c.before args0 about1) = true := by decide +kernel
theorem w_tables : (allAtoms (Jvm.Cond.code x code maxLocals ret :: tables_1)).before args0 about1 = true := by
  rw [allAtoms_all]
  show words1.all (fun c => c.before args0 about1) = true
  refine all_split ?_ w_codes
  rw [← List.take_append_drop 24 words1, List.all_append, w_t1, w_t2]
  rfl
set_option maxRecDepth 65536 in
theorem w_case : (Jvm.Cond.and given_1 narrow_1).before args0 about1 = true := by decide +kernel
theorem w_applies : (headSpec (Jvm.Cond.code x code maxLocals ret :: tables_1) room_1).applies x e0.platform about1 = true :=
  (Spec.applies_iff w_frames).mpr ⟨w_running, w_runnable, w_alone, w_named, w_hears, w_ripe, w_room, w_tables⟩
theorem atStart : AtStart classFile x code maxLocals ret World_1 tables_1 room_1 Calls_1 rest_1 Pre_1 launch0 p0 e0 about1 theMethod args0 below0 :=
  ⟨lists_1, trivial, launch0.admits_env _ _ _, launch0.least_env, fairChoices_fair.cas, fairChoices_fair.clock, w_frames, w_args, w_heap, w_applies, trivial, trivial, w_case⟩
end start1
theorem witness_1 : WitnessClaimed_1 := ⟨start1.p0, start1.e0, start1.about1, start1.theMethod, start1.args0, start1.below0, start1.atStart⟩
end Jvm.Pilot.@@N@@
