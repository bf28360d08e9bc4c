import JvmDerived
import JvmDerived.Pilot.@@N@@Statement
import JvmDerived.Pilot.@@N@@Code
set_option linter.unusedVariables false
set_option linter.unusedSimpArgs false
@@BLOCK:NumsL.lean.txt@@
namespace Jvm.Pilot.@@N@@
open Jvm Jvm.ClassFile Sem Op Lib Jvm.Free Jvm.Stand Jvm.LawKit Jvm.RoadKit Bundle Jvm.Pilot.@@N@@.Jvm.D
section Own
variable {p : Program} {l : Launch} {e : Env} {R rm : Room} {s : State} {m : MethodId} {args : Array Value} {below : List Frame} {meth : Method} {c : Code} {T : State} {locs : List Loc} {cells slots : Nat} {Z : State} {a0 : Array Value} {h : Heap}
/-- the run comes to the end of the invocation, and what is asked holds there -/
def own_Goes (p : Program) (e : Env) (below : List Frame) (G : Outcome → State → Prop) (S : State) : Prop := ∃ s₂ o, Steps p.tables e below S s₂ ∧ s₂.status = .running ∧ Ended s₂ below o ∧ G o s₂
theorem own_go {G : Outcome → State → Prop} {S S' : State} (h : ∀ t, Steps p.tables e below S' t → Steps p.tables e below S t) (k : own_Goes p e below G S') : own_Goes p e below G S := by
  obtain ⟨s₂, o, h1, h2⟩ := k
  exact ⟨s₂, o, h _ h1, h2⟩
theorem own_tr {G : Outcome → State → Prop} {S S' : State} (h : Steps p.tables e below S S') (k : own_Goes p e below G S') : own_Goes p e below G S := own_go (fun _ q => h.trans q) k
abbrev own_End (s : State) (rm : Room) (Q : Option Value → Heap → List Loc → Prop) : Outcome → State → Prop := fun o U' => ∃ v L, o = .returned v ∧ Q v U'.heap L ∧ FrameEnd s o U' L rm.cells rm.slots
/-- a body's contract: with these arguments, over this heap, it returns and leaves what Q says -/
def own_Met (l : Launch) (Z : State) (y : MethodName) (bytes : ByteArray) (maxL : Nat) (ret : Option FieldType) (ws : List Jvm.Cond) (rm : Room) (as : Array Value) (h0 : Heap) (Q : Option Value → Heap → List Loc → Prop) : Prop :=
  MetFree l y (head1 (Jvm.Cond.code y bytes maxL ret :: ws) rm) (fun a U => a = as ∧ Z.Warmed39 U.vm ∧ U.heap = h0) (fun _ _ _ _ _ => True) (fun _ U o U' => ∃ v L, o = .returned v ∧ Q v U'.heap L ∧ FrameEnd U o U' L rm.cells rm.slots)
theorem own_met {y : MethodName} {bytes : ByteArray} {maxL : Nat} {ret : Option FieldType} {ws : List Jvm.Cond} {as : Array Value} {h0 : Heap} {Q : Option Value → Heap → List Loc → Prop} (hp : plainFor y = true)
    (body : ∀ (p : Program) (e : Env) (s : State) (m : MethodId) (below : List Frame) (meth : Method) (c : Code) (s₁ : State), p.tables.exec = Jvm.exec → c.code = bytes → c.maxLocals = maxL → s.vm.findClass y.cls = some m.cls → meth.name = y.name → meth.sig.returnType = ret → meth.locks = false → Z.Warmed39 s.vm → s₁.heap = h0 →
      Stand p l e rm s m as below meth c s₁ [] 0 0 → own_Goes p e below (own_End s rm Q) (s₁.setTop (entryFrame m as maxL))) : own_Met l Z y bytes maxL ret ws rm as h0 Q := by
  refine MetFree.of_bodySF hp hisR ?_
  intro p e s m args below meth c s₁ Bd hml hP hK
  obtain ⟨rfl, hZ, hh⟩ := hP
  exact body p e s m below meth c s₁ Bd.exec Bd.bytes hml (findClass_of_methodNamed Bd.named) (name_of_methodNamed Bd.named Bd.method).1 Bd.returns Bd.notSynchronized hZ (by rw [← hh, Bd.state]; rfl) (Stand.of_body Bd)
/-- the returns -/
theorem own_retV {Q : Option Value → Heap → List Loc → Prop} (X : Stand p l e rm s m args below meth c T locs cells slots) (hx : p.tables.exec = Jvm.exec) (hlk : meth.locks = false) {pc : Nat} {Ls : Array Slot} {w : Value} {t : FieldType} {i : Instr} {rest : List Value} (hret : meth.sig.returnType = some t) (hn : narrow t w = w)
    (hi : (i = .ireturn ∧ (t = .int ∨ t = .boolean ∨ t = .byte ∨ t = .char ∨ t = .short) ∧ ∃ z, w = .int z) ∨ (i = .lreturn ∧ t = .long ∧ ∃ z, w = .long z) ∨ (i = .dreturn ∧ t = .double ∧ ∃ z, w = .double z) ∨ (i = .freturn ∧ t = .float ∧ ∃ z, w = .float z) ∨ (i = .areturn ∧ t.isReference = true ∧ w.isRef = true))
    (hd : decode c.code pc = .ok (i, 1)) (hc : cells ≤ rm.cells) (hs : slots ≤ rm.slots) (hq : Q (some w) T.heap locs) : own_Goes p e below (own_End s rm Q) (T.setTop (mkF m pc Ls (w :: rest))) := by
  obtain ⟨fs, hr, hrun, hended, hW, hsame⟩ := X.leave (v := some w) (fun h => by rw [hret] at h; cases h) hlk
  exact ⟨_, _, retOut X hx hret hn hi hd hr, hrun, hended, _, _, rfl, hq, ⟨_, rfl⟩, hW, hsame.mono hc hs⟩
theorem own_retI {Q : Option Value → Heap → List Loc → Prop} (X : Stand p l e rm s m args below meth c T locs cells slots) (hx : p.tables.exec = Jvm.exec) (hlk : meth.locks = false) {pc : Nat} {Ls : Array Slot} {z : Int32} {rest : List Value} (hret : meth.sig.returnType = some .int)
    (hd : decode c.code pc = .ok (.ireturn, 1)) (hc : cells ≤ rm.cells) (hs : slots ≤ rm.slots) (hq : Q (some (.int z)) T.heap locs) : own_Goes p e below (own_End s rm Q) (T.setTop (mkF m pc Ls (.int z :: rest))) :=
  own_retV X hx hlk hret rfl (Or.inl ⟨rfl, Or.inl rfl, z, rfl⟩) hd hc hs hq
theorem own_retJ {Q : Option Value → Heap → List Loc → Prop} (X : Stand p l e rm s m args below meth c T locs cells slots) (hx : p.tables.exec = Jvm.exec) (hlk : meth.locks = false) {pc : Nat} {Ls : Array Slot} {z : Int64} {rest : List Value} (hret : meth.sig.returnType = some .long)
    (hd : decode c.code pc = .ok (.lreturn, 1)) (hc : cells ≤ rm.cells) (hs : slots ≤ rm.slots) (hq : Q (some (.long z)) T.heap locs) : own_Goes p e below (own_End s rm Q) (T.setTop (mkF m pc Ls (.long z :: rest))) :=
  own_retV X hx hlk hret rfl (Or.inr (Or.inl ⟨rfl, rfl, z, rfl⟩)) hd hc hs hq
theorem own_retR {Q : Option Value → Heap → List Loc → Prop} (X : Stand p l e rm s m args below meth c T locs cells slots) (hx : p.tables.exec = Jvm.exec) (hlk : meth.locks = false) {pc : Nat} {Ls : Array Slot} {w : Value} {t : FieldType} {rest : List Value} (hret : meth.sig.returnType = some t) (ht : t.isReference = true) (hw : w.isRef = true)
    (hd : decode c.code pc = .ok (.areturn, 1)) (hc : cells ≤ rm.cells) (hs : slots ≤ rm.slots) (hq : Q (some w) T.heap locs) : own_Goes p e below (own_End s rm Q) (T.setTop (mkF m pc Ls (w :: rest))) :=
  own_retV X hx hlk hret (by cases t <;> first | rfl | cases ht) (Or.inr (Or.inr (Or.inr (Or.inr ⟨rfl, ht, hw⟩)))) hd hc hs hq
theorem own_retN {Q : Option Value → Heap → List Loc → Prop} (X : Stand p l e rm s m args below meth c T locs cells slots) (hx : p.tables.exec = Jvm.exec) (hlk : meth.locks = false) {pc : Nat} {Ls : Array Slot} {z z' : Int32} {t : FieldType} {rest : List Value} (hret : meth.sig.returnType = some t) (ht : t = .boolean ∨ t = .byte ∨ t = .char ∨ t = .short) (hz : nar t z = z')
    (hd : decode c.code pc = .ok (.ireturn, 1)) (hc : cells ≤ rm.cells) (hs : slots ≤ rm.slots) (hq : Q (some (.int z')) T.heap locs) : own_Goes p e below (own_End s rm Q) (T.setTop (mkF m pc Ls (.int z :: rest))) := by
  subst hz
  obtain ⟨fs, hr, hrun, hended, hW, hsame⟩ := X.leave (v := some (.int (nar t z))) (fun h => by rw [hret] at h; cases h) hlk
  exact ⟨_, _, retN X hx hret ht hd hr, hrun, hended, _, _, rfl, hq, ⟨_, rfl⟩, hW, hsame.mono hc hs⟩
theorem own_ret0 {Q : Option Value → Heap → List Loc → Prop} (X : Stand p l e rm s m args below meth c T locs cells slots) (hx : p.tables.exec = Jvm.exec) (hlk : meth.locks = false) {pc : Nat} {Ls : Array Slot} (hret : meth.sig.returnType = none)
    (hd : decode c.code pc = .ok (.return_, 1)) (hc : cells ≤ rm.cells) (hs : slots ≤ rm.slots) (hq : Q none T.heap locs) : own_Goes p e below (own_End s rm Q) (T.setTop (mkF m pc Ls [])) := by
  obtain ⟨fs, hr, hrun, hended, hW, hsame⟩ := X.leave (v := none) (fun _ => rfl) hlk
  exact ⟨_, _, X.returnOut hx hret hd hr, hrun, hended, _, _, rfl, hq, ⟨_, rfl⟩, hW, hsame.mono hc hs⟩
/-- a static call by the callee's contract -/
theorem own_callS (X : Stand p l e R s m args below meth c T locs cells slots) (hx : p.tables.exec = Jvm.exec) (hZ : Z.Warmed39 s.vm) {own : String} {index : Nat} {y : MethodName} {bytes : ByteArray} {maxL : Nat} {ret : Option FieldType} (hown : s.vm.findClass own = some m.cls)
    (w1 : (Jvm.Cond.methodLink own index y).before a0 Z = true) (w2 : (Jvm.Cond.static y).before a0 Z = true) (w3 : (Jvm.Cond.initialized y.cls).before a0 Z = true) (w4 : (Jvm.Cond.code y bytes maxL ret).before a0 Z = true) (hy : y.cls ≠ "java/lang/invoke/MethodHandle" ∧ y.cls ≠ "java/lang/invoke/VarHandle")
    {as : List Value} {Q : Option Value → Heap → List Loc → Prop} (hM : own_Met l Z y bytes maxL ret [] rm as.toArray h Q) (eT : T.heap = h) {ps : List FieldType} {rt : Option FieldType} (hpd : parseMethodDescriptor y.desc = some ⟨ps, rt⟩) (hlen : as.length = ps.length)
    {pc : Nat} {Ls : Array Slot} {rest : List Value} {W : Nat} (hsize : Ls.size = c.maxLocals) (hW : (rest.map fun v => v.category).sum ≤ W) (hf : rm.frames + 1 ≤ R.frames) (hl : W + (maxL + 11) + rm.locals ≤ R.locals) (hd : decode c.code pc = .ok (.invokestatic index, 3)) (hc : cells + rm.cells ≤ R.cells) (hs : slots + rm.slots ≤ R.slots) :
    ∃ (v : Option Value) (T' : State) (L' : List Loc), Stand p l e R s m args below meth c T' (locs ++ L') (cells + rm.cells) (slots + rm.slots) ∧ Q v T'.heap L' ∧ ∀ target, Steps p.tables e below (T'.setTop (mkF m (pc + 3) Ls (v.toList ++ rest))) target → Steps p.tables e below (T.setTop (mkF m pc Ls (as.reverse ++ rest))) target := by
  obtain ⟨v, _, ⟨T', L', k', n'⟩, -, X', ⟨Lc, hQ, hl', hk', hn'⟩, st⟩ := Jvm.LawKit.callS X hx (y := y) hown (mvT hZ w1) (mvT hZ w2) (mvT hZ w3) (mvT hZ w4) hy (backOf (W := W) hM hZ w4 w3 hf hl) (g := mkF m pc Ls (as.reverse ++ rest)) rfl hsize (argsL := as) (rest := rest) (lenOf hpd hlen) rfl (by show 2 * 0 + _ ≤ _; omega) hd (fun _ _ => ⟨rfl, eT, hc, hs⟩)
  dsimp only [Pt.U, Pt.locs, Pt.cells, Pt.slots] at X' hl' hk' hn' st hQ
  subst hl' hk' hn'
  exact ⟨v, T', Lc, X', hQ, st⟩
/-- an instance method by the contract of the body that the receiver's class selects -/
theorem own_callV (X : Stand p l e R s m args below meth c T locs cells slots) (hx : p.tables.exec = Jvm.exec) (hZ : Z.Warmed39 s.vm) {own C : String} {index : Nat} {y : MethodName} {bytes : ByteArray} {maxL : Nat} {ret : Option FieldType} (hown : s.vm.findClass own = some m.cls)
    (w1 : (Jvm.Cond.methodLink own index y).before a0 Z = true) (w2 : (Jvm.Cond.declares y).before a0 Z = true) (w3 : (Jvm.Cond.selects C y y).before a0 Z = true) (w4 : (Jvm.Cond.instanceMethod y).before a0 Z = true) (w5 : (Jvm.Cond.initialized y.cls).before a0 Z = true) (w6 : (Jvm.Cond.code y bytes maxL ret).before a0 Z = true) (hy : y.cls ≠ "java/lang/invoke/MethodHandle" ∧ y.cls ≠ "java/lang/invoke/VarHandle")
    {b : Addr} {as : List Value} {Q : Option Value → Heap → List Loc → Prop} (hM : own_Met l Z y bytes maxL ret [] rm (Value.ref b :: as).toArray h Q) (eT : T.heap = h) (E : Exa Z h b C) {ps : List FieldType} {rt : Option FieldType} (hpd : parseMethodDescriptor y.desc = some ⟨ps, rt⟩) (hlen : as.length = ps.length)
    {pc : Nat} {Ls : Array Slot} {rest : List Value} {W : Nat} (hsize : Ls.size = c.maxLocals) (hW : (rest.map fun v => v.category).sum ≤ W) (hf : rm.frames + 1 ≤ R.frames) (hl : W + (maxL + 11) + rm.locals ≤ R.locals) (hd : decode c.code pc = .ok (.invokevirtual index, 3)) (hc : cells + rm.cells ≤ R.cells) (hs : slots + rm.slots ≤ R.slots) :
    ∃ (v : Option Value) (T' : State) (L' : List Loc), Stand p l e R s m args below meth c T' (locs ++ L') (cells + rm.cells) (slots + rm.slots) ∧ Q v T'.heap L' ∧ ∀ target, Steps p.tables e below (T'.setTop (mkF m (pc + 3) Ls (v.toList ++ rest))) target → Steps p.tables e below (T.setTop (mkF m pc Ls (as.reverse ++ Value.ref b :: rest))) target := by
  obtain ⟨cq, kq, qa, qb, qc⟩ := isOf hZ eT E
  obtain ⟨v, _, ⟨T', L', k', n'⟩, -, X', ⟨Lc, hQ, hl', hk', hn'⟩, st⟩ := X.virtualBack hx (y := y) (z := y) hown (mvT hZ w1) (mvT hZ w2) (notFace_of_selects (args := #[]) (mvT hZ w3)) (mvT hZ w3) (mvT hZ w4) hy (backOf (W := W) hM hZ w6 w5 hf hl) qa qc (g := mkF m pc Ls (as.reverse ++ Value.ref b :: rest)) rfl hsize (Steps.refl _) (argsL := as) (rest := rest) (lenOf hpd hlen) rfl (by show 2 * 0 + _ ≤ _; omega) hd (fun _ _ => ⟨rfl, eT, hc, hs⟩)
  dsimp only [Pt.U, Pt.locs, Pt.cells, Pt.slots] at X' hl' hk' hn' st hQ
  subst hl' hk' hn'
  exact ⟨v, T', Lc, X', hQ, fun _ q => st.trans q⟩
/-- a constructor by its contract -/
theorem own_callI (X : Stand p l e R s m args below meth c T locs cells slots) (hx : p.tables.exec = Jvm.exec) (hZ : Z.Warmed39 s.vm) {own : String} {index : Nat} {y : MethodName} {bytes : ByteArray} {maxL : Nat} (hy1 : y.name = "<init>") (hown : s.vm.findClass own = some m.cls)
    (w1 : (Jvm.Cond.methodLink own index y).before a0 Z = true) (w4 : (Jvm.Cond.instanceMethod y).before a0 Z = true) (w5 : (Jvm.Cond.initialized y.cls).before a0 Z = true) (w6 : (Jvm.Cond.code y bytes maxL none).before a0 Z = true) (hy : y.cls ≠ "java/lang/invoke/MethodHandle" ∧ y.cls ≠ "java/lang/invoke/VarHandle")
    {b : Addr} {as : List Value} {Q : Option Value → Heap → List Loc → Prop} (hM : own_Met l Z y bytes maxL none [] rm (Value.ref b :: as).toArray h Q) (eT : T.heap = h) {ps : List FieldType} {rt : Option FieldType} (hpd : parseMethodDescriptor y.desc = some ⟨ps, rt⟩) (hlen : as.length = ps.length)
    {pc : Nat} {Ls : Array Slot} {rest : List Value} {W : Nat} (hsize : Ls.size = c.maxLocals) (hW : (rest.map fun v => v.category).sum ≤ W) (hf : rm.frames + 1 ≤ R.frames) (hl : W + (maxL + 11) + rm.locals ≤ R.locals) (hd : decode c.code pc = .ok (.invokespecial index, 3)) (hc : cells + rm.cells ≤ R.cells) (hs : slots + rm.slots ≤ R.slots) :
    ∃ (v : Option Value) (T' : State) (L' : List Loc), Stand p l e R s m args below meth c T' (locs ++ L') (cells + rm.cells) (slots + rm.slots) ∧ Q v T'.heap L' ∧ ∀ target, Steps p.tables e below (T'.setTop (mkF m (pc + 3) Ls (v.toList ++ rest))) target → Steps p.tables e below (T.setTop (mkF m pc Ls (as.reverse ++ Value.ref b :: rest))) target := by
  obtain ⟨v, _, ⟨T', L', k', n'⟩, -, X', ⟨Lc, hQ, hl', hk', hn'⟩, st⟩ := X.specialBack hx (y := y) hy1 hown (mvT hZ w1) (mvT hZ w4) (mvT hZ w6) hy (backOf (W := W) hM hZ w6 w5 hf hl) (g := mkF m pc Ls (as.reverse ++ Value.ref b :: rest)) rfl hsize (Steps.refl _) (a := b) (argsL := as) (rest := rest) (lenOf hpd hlen) rfl (by show 2 * 0 + _ ≤ _; omega) hd (fun _ _ => ⟨rfl, eT, hc, hs⟩)
  dsimp only [Pt.U, Pt.locs, Pt.cells, Pt.slots] at X' hl' hk' hn' st hQ
  subst hl' hk' hn'
  exact ⟨v, T', Lc, X', hQ, fun _ q => st.trans q⟩
end Own
section OwnWords
variable {args : Array Value} {first s : State} {o : Option Outcome} {idx : List Nat} {a b t : Term} {G Y : Jvm.Cond}
theorem own_eqI {k : Int32} (h : (Jvm.Cond.eq a b).value args first o s idx = some true) (hb : b.eval args first o idx s = some (.int k)) : a.eval args first o idx s = some (.int k) := by
  obtain ⟨x, y, h1, h2, h3, h4⟩ := cmp_v (Or.inl h)
  cases hb.symm.trans h2
  obtain ⟨z, rfl⟩ := h4
  simp only [Jvm.Cond.value, h1, hb] at h
  rw [h1]
  simpa using h
theorem own_eqJ {k : Int64} (h : (Jvm.Cond.eq a b).value args first o s idx = some true) (hb : b.eval args first o idx s = some (.long k)) : a.eval args first o idx s = some (.long k) := by
  obtain ⟨x, y, h1, h2, h3, h4⟩ := cmp_v (Or.inl h)
  cases hb.symm.trans h2
  obtain ⟨z, rfl⟩ := h4
  simp only [Jvm.Cond.value, h1, hb] at h
  rw [h1]
  simpa using h
theorem own_or (h : (Jvm.Cond.or G Y).value args first o s idx = some true) (h1 : G.value args first o s idx = some false) : Y.value args first o s idx = some true := by
  simpa [Jvm.Cond.value, h1] using h
theorem own_ixlt {j k : Int32} (hj : ¬ j < 0) (hk : ¬ j < k) : (Jvm.Cond.lt (Jvm.Term.index 0) (Jvm.Term.int k)).value args first o s [j.toNatClampNeg] = some false := by
  have e := idx_at (args := args) (first := first) (o := o) (s := s) hj
  have f : (Jvm.Term.int k).eval args first o [j.toNatClampNeg] s = some (.int k) := Term.int_eval _
  rw [Cond.lt_ints e f]
  simp [hk]
theorem own_ixle {j k : Int32} (hj : ¬ j < 0) (hk : j < k) : (Jvm.Cond.le (Jvm.Term.int k) (Jvm.Term.index 0)).value args first o s [j.toNatClampNeg] = some false := by
  have e := idx_at (args := args) (first := first) (o := o) (s := s) hj
  have f : (Jvm.Term.int k).eval args first o [j.toNatClampNeg] s = some (.int k) := Term.int_eval _
  rw [Cond.le_ints f e]
  simp [Int32.not_le.mpr hk]
theorem own_ixsub {j k : Int32} (hj : ¬ j < 0) : (Jvm.Term.sub (Jvm.Term.index 0) (Jvm.Term.int k)).eval args first o [j.toNatClampNeg] s = some (.int (j - k)) := by
  have e := idx_at (args := args) (first := first) (o := o) (s := s) hj
  have f : (Jvm.Term.int k).eval args first o [j.toNatClampNeg] s = some (.int k) := Term.int_eval _
  rw [Term.eval, e, f]
  rfl
/-- a field that the case says to hold a number -/
theorem own_fldI {C n d : String} {x : Addr} {k : Int32} (ht : t.eval args s none [] s = some (.ref x)) (h : (Jvm.Cond.eq (Term.field t C n d) (Term.int k)).value args s none s [] = some true) : Fld s s.heap x C n d (.int k) := by
  have e := own_eqI h (Term.int_eval _)
  rw [fld_at ht] at e
  exact Fld.start e
theorem own_fldJ {C n d : String} {x : Addr} {k : Int64} (ht : t.eval args s none [] s = some (.ref x)) (h : (Jvm.Cond.eq (Term.field t C n d) (Term.long k)).value args s none s [] = some true) : Fld s s.heap x C n d (.long k) := by
  have e := own_eqJ h (show (Term.long k).eval args s none [] s = some (.long k) by simp [Term.eval])
  rw [fld_at ht] at e
  exact Fld.start e
end OwnWords

def own_tab (j : Int32) : Int32 := if j < 48 then (-1 : Int32) else if j < 58 then j - 48 else if j < 65 then (-1 : Int32) else if j < 71 then j - 55 else if j < 97 then (-1 : Int32) else if j < 103 then j - 87 else (-1 : Int32)
theorem own_t2 : (Jvm.Cond.initialized "com/example/hermod/hermod/codec/PercentEncoding") ∈ tables_1 := List.mem_of_getElem? (i := 2) rfl
theorem own_t5 : (Jvm.Cond.laysStatic "com/example/hermod/hermod/codec/PercentEncoding" "HEX_VALUES" "[B") ∈ tables_1 := List.mem_of_getElem? (i := 5) rfl
theorem own_d1_0 : decode prog_22_method_4_code 0 = .ok (.iload_n 0, 1) := by decide +kernel
theorem own_d1_1 : decode prog_22_method_4_code 1 = .ok (.ifCond .lt 19, 3) := by decide +kernel
theorem own_d1_20 : decode prog_22_method_4_code 20 = .ok (.iconst (-1), 1) := by decide +kernel
theorem own_d1_4 : decode prog_22_method_4_code 4 = .ok (.iload_n 0, 1) := by decide +kernel
theorem own_d1_5 : decode prog_22_method_4_code 5 = .ok (.getstatic 92, 3) := by decide +kernel
theorem own_t4 : (Jvm.Cond.fieldLink "com/example/hermod/hermod/codec/PercentEncoding" (92 : Nat) "com/example/hermod/hermod/codec/PercentEncoding" "HEX_VALUES" "[B") ∈ tables_1 := List.mem_of_getElem? (i := 4) rfl
theorem own_d1_8 : decode prog_22_method_4_code 8 = .ok (.arraylength, 1) := by decide +kernel
theorem own_d1_9 : decode prog_22_method_4_code 9 = .ok (.if_icmp .ge 11, 3) := by decide +kernel
theorem own_d1_12 : decode prog_22_method_4_code 12 = .ok (.getstatic 92, 3) := by decide +kernel
theorem own_d1_15 : decode prog_22_method_4_code 15 = .ok (.iload_n 0, 1) := by decide +kernel
theorem own_d1_16 : decode prog_22_method_4_code 16 = .ok (.baload, 1) := by decide +kernel
theorem own_d1_17 : decode prog_22_method_4_code 17 = .ok (.goto 4, 3) := by decide +kernel
theorem own_pn0 : plainName "com/example/hermod/hermod/codec/PercentEncoding" = true := by first | (simp [plainName, overriddenIn]; done) | decide +kernel
theorem own_d1_21 : decode prog_22_method_4_code 21 = .ok (.ireturn, 1) := by decide +kernel
def own_j1_1 (x0 : Int32) : Int32 := (if x0 < (0 : Int32) then (-1 : Int32) else (if x0 < (128 : Int32) then (own_tab x0) else (-1 : Int32)))
def own_f1 (x0 : Int32) : Int32 := (own_j1_1 x0)
def own_Q1 (x0 : Int32) (s_H : Addr) (h0 : Heap) (n0 : Nat) (v : Option Value) (h : Heap) (L : List Loc) : Prop := v = some (.int (own_f1 x0)) ∧ Fr n0 L ∧ h = h0
abbrev own_R1 : Room := { frames := 0, cells := 0, slots := 0, locals := 0 }
theorem own_ef1 (m : MethodId) (z0 : Int32) : entryFrame m #[(.int z0)] 1 = mkF m 0 #[.val (.int z0)] [] := by first | (simp [entryFrame, mkF, argsToLocals, Value.category]; done) | rfl
set_option maxRecDepth 65536 in
set_option maxHeartbeats 40000000 in
theorem rm1 (l : Launch) (Z : State) (a0 : Array Value) (hw : ∀ d ∈ tables_1, d.before a0 Z = true) (ws : List Jvm.Cond) (x0 : Int32) (cl_H : Cell) (s_H : Addr) (h0 : Heap) (n0 : Nat) (A_H : Arr Z h0 s_H cl_H .byte) (z_H : cl_H.slots.size = (128 : Int32).toNatClampNeg) (t_H : ∀ j : Int32, ¬ j < 0 → j < 128 → cl_H.slots[j.toNatClampNeg]? = some (.int (own_tab j))) (S_s_H : Sta Z h0 "com/example/hermod/hermod/codec/PercentEncoding" "HEX_VALUES" "[B" (.ref s_H)) : own_Met l Z (⟨"com/example/hermod/hermod/codec/PercentEncoding", "hexValue", "(I)I"⟩ : MethodName) prog_22_method_4_code 1 (some .int) ws own_R1 #[(.int x0)] h0 (own_Q1 x0 s_H h0 n0) := by
  refine own_met (plainFor_of_name own_pn0) ?_
  intro p e s m below meth c s₁ hx hby hml hown hnm hret hlk hZ e0 X0
  have N0 := Fr.nil n0
  have hml : c.maxLocals = 1 := hml
  have hown : s.vm.findClass "com/example/hermod/hermod/codec/PercentEncoding" = some m.cls := hown
  have hret : meth.sig.returnType = (some .int) := hret
  have hby : c.code = prog_22_method_4_code := hby
  have hnm : meth.name = "hexValue" := hnm
  rw [own_ef1]
  show own_Goes p e below _ (s₁.setTop (mkF m 0 #[.val (.int x0)] []))
  refine own_go (fun t k => XS.iloadN X0.here hx rfl (hb hby own_d1_0) rfl k) ?_
  show own_Goes p e below _ (s₁.setTop (mkF m 1 #[.val (.int x0)] [(.int x0)]))
  suffices HH5 : ∀ (T5 : State) (L5 : List Loc) (X5 : Stand p l e own_R1 s m #[(.int x0)] below meth c T5 L5 0 0) (e5 : T5.heap = h0) (N5 : Fr n0 L5), own_Goes p e below (own_End s own_R1 (own_Q1 x0 s_H h0 n0)) (T5.setTop (mkF m 21 #[.val (.int x0)] [(.int (own_j1_1 x0))])) by
    by_cases hc1 : x0 < (0 : Int32)
    · refine own_go (fun t k => XS.ifYes X0.here hx rfl (pc0 := 1) (pc' := 20) rfl (hb hby own_d1_1) rfl ((if0 _ _).trans (tlt hc1).1) (by decide) (by decide) k) ?_
      show own_Goes p e below _ (s₁.setTop (mkF m 20 #[.val (.int x0)] []))
      refine own_go (fun t k => XS.iconst X0.here hx rfl (hb hby own_d1_20) k) ?_
      rw [show (own_j1_1 x0) = (-1 : Int32) from by rw [own_j1_1, if_pos hc1]] at HH5
      exact HH5 _ _ X0 e0 N0
    · refine own_go (fun t k => XS.ifNo X0.here hx rfl (hb hby own_d1_1) rfl ((if0 _ _).trans (flt hc1).1) k) ?_
      show own_Goes p e below _ (s₁.setTop (mkF m 4 #[.val (.int x0)] []))
      refine own_go (fun t k => XS.iloadN X0.here hx rfl (hb hby own_d1_4) rfl k) ?_
      show own_Goes p e below _ (s₁.setTop (mkF m 5 #[.val (.int x0)] [(.int x0)]))
      obtain ⟨T2, X2, e2, st2⟩ := getS2 X0 hx hZ hown (host := "") (Or.inl (hw _ own_t4)) Via.refl e0 S_s_H (g := (mkF m 5 #[.val (.int x0)] [(.int x0)])) rfl (hb hby own_d1_5)
      refine own_go st2 ?_
      show own_Goes p e below _ (T2.setTop (mkF m 8 #[.val (.int x0)] [(.ref s_H), (.int x0)]))
      refine own_go (fun t k => X2.arraylength hx (by rw [e2]; exact A_H.1) (State.isArrayOf_alike hZ.alike A_H.2.1) (g := (mkF m 8 #[.val (.int x0)] [(.ref s_H), (.int x0)])) rfl rfl (hb hby own_d1_8) t k) ?_
      rw [len_of z_H (by decide)]
      show own_Goes p e below _ (T2.setTop (mkF m 9 #[.val (.int x0)] [(.int (128 : Int32)), (.int x0)]))
      by_cases hc3 : x0 < (128 : Int32)
      · refine own_go (fun t k => XS.icmpNo X2.here hx rfl (hb hby own_d1_9) rfl (tlt hc3).2.1 k) ?_
        show own_Goes p e below _ (T2.setTop (mkF m 12 #[.val (.int x0)] []))
        obtain ⟨T4, X4, e4, st4⟩ := getS2 X2 hx hZ hown (host := "") (Or.inl (hw _ own_t4)) Via.refl e2 S_s_H (g := (mkF m 12 #[.val (.int x0)] [])) rfl (hb hby own_d1_12)
        refine own_go st4 ?_
        show own_Goes p e below _ (T4.setTop (mkF m 15 #[.val (.int x0)] [(.ref s_H)]))
        refine own_go (fun t k => XS.iloadN X4.here hx rfl (hb hby own_d1_15) rfl k) ?_
        show own_Goes p e below _ (T4.setTop (mkF m 16 #[.val (.int x0)] [(.int x0), (.ref s_H)]))
        refine own_go (fun t k => X4.baloadBytes hx (j := x0) (v := (.int (own_tab x0))) (by rw [e4]; exact A_H.1) (State.isArrayOf_alike hZ.alike A_H.2.1) A_H.2.2 (inb_of z_H ⟨hc1, hc3⟩) (t_H _ hc1 hc3) (g := (mkF m 16 #[.val (.int x0)] [(.int x0), (.ref s_H)])) rfl rfl (hb hby own_d1_16) t k) ?_
        show own_Goes p e below _ (T4.setTop (mkF m 17 #[.val (.int x0)] [(.int (own_tab x0))]))
        refine own_go (fun t k => XS.goto X4.here hx rfl (pc0 := 17) (pc' := 21) rfl (hb hby own_d1_17) (by decide) (by decide) k) ?_
        rw [show (own_j1_1 x0) = (own_tab x0) from by rw [own_j1_1, if_neg hc1, if_pos hc3]] at HH5
        exact HH5 _ _ X4 e4 N0
      · refine own_go (fun t k => XS.icmpYes X2.here hx rfl (pc0 := 9) (pc' := 20) rfl (hb hby own_d1_9) rfl (flt hc3).2.1 (by decide) (by decide) k) ?_
        show own_Goes p e below _ (T2.setTop (mkF m 20 #[.val (.int x0)] []))
        refine own_go (fun t k => XS.iconst X2.here hx rfl (hb hby own_d1_20) k) ?_
        rw [show (own_j1_1 x0) = (-1 : Int32) from by rw [own_j1_1, if_neg hc1, if_neg hc3]] at HH5
        exact HH5 _ _ X2 e2 N0
  intro T5 L5 X5 e5 N5
  show own_Goes p e below _ (T5.setTop (mkF m 21 #[.val (.int x0)] [(.int (own_j1_1 x0))]))
  exact own_retI X5 hx hlk hret (hb hby own_d1_21) (by decide) (by decide) ⟨by rw [own_f1], N5, e5⟩
theorem own_d2_0 : decode method_2_code 0 = .ok (.iload_n 0, 1) := by decide +kernel
theorem own_d2_1 : decode method_2_code 1 = .ok (.bipush 48, 2) := by decide +kernel
theorem own_d2_3 : decode method_2_code 3 = .ok (.if_icmp .lt 14, 3) := by decide +kernel
theorem own_d2_17 : decode method_2_code 17 = .ok (.iload_n 0, 1) := by decide +kernel
theorem own_d2_18 : decode method_2_code 18 = .ok (.bipush 97, 2) := by decide +kernel
theorem own_d2_20 : decode method_2_code 20 = .ok (.if_icmp .lt 17, 3) := by decide +kernel
theorem own_d2_37 : decode method_2_code 37 = .ok (.iload_n 0, 1) := by decide +kernel
theorem own_d2_38 : decode method_2_code 38 = .ok (.bipush 65, 2) := by decide +kernel
theorem own_d2_40 : decode method_2_code 40 = .ok (.if_icmp .lt 17, 3) := by decide +kernel
theorem own_d2_57 : decode method_2_code 57 = .ok (.iconst (-1), 1) := by decide +kernel
theorem own_d2_43 : decode method_2_code 43 = .ok (.iload_n 0, 1) := by decide +kernel
theorem own_d2_44 : decode method_2_code 44 = .ok (.bipush 70, 2) := by decide +kernel
theorem own_d2_46 : decode method_2_code 46 = .ok (.if_icmp .gt 11, 3) := by decide +kernel
theorem own_d2_49 : decode method_2_code 49 = .ok (.iload_n 0, 1) := by decide +kernel
theorem own_d2_50 : decode method_2_code 50 = .ok (.bipush 65, 2) := by decide +kernel
theorem own_d2_52 : decode method_2_code 52 = .ok (.isub, 1) := by decide +kernel
theorem own_d2_53 : decode method_2_code 53 = .ok (.bipush 10, 2) := by decide +kernel
theorem own_d2_55 : decode method_2_code 55 = .ok (.iadd, 1) := by decide +kernel
theorem own_d2_23 : decode method_2_code 23 = .ok (.iload_n 0, 1) := by decide +kernel
theorem own_d2_24 : decode method_2_code 24 = .ok (.bipush 102, 2) := by decide +kernel
theorem own_d2_26 : decode method_2_code 26 = .ok (.if_icmp .gt 11, 3) := by decide +kernel
theorem own_d2_29 : decode method_2_code 29 = .ok (.iload_n 0, 1) := by decide +kernel
theorem own_d2_30 : decode method_2_code 30 = .ok (.bipush 97, 2) := by decide +kernel
theorem own_d2_32 : decode method_2_code 32 = .ok (.isub, 1) := by decide +kernel
theorem own_d2_33 : decode method_2_code 33 = .ok (.bipush 10, 2) := by decide +kernel
theorem own_d2_35 : decode method_2_code 35 = .ok (.iadd, 1) := by decide +kernel
theorem own_d2_6 : decode method_2_code 6 = .ok (.iload_n 0, 1) := by decide +kernel
theorem own_d2_7 : decode method_2_code 7 = .ok (.bipush 57, 2) := by decide +kernel
theorem own_d2_9 : decode method_2_code 9 = .ok (.if_icmp .gt 8, 3) := by decide +kernel
theorem own_d2_12 : decode method_2_code 12 = .ok (.iload_n 0, 1) := by decide +kernel
theorem own_d2_13 : decode method_2_code 13 = .ok (.bipush 48, 2) := by decide +kernel
theorem own_d2_15 : decode method_2_code 15 = .ok (.isub, 1) := by decide +kernel
theorem own_pn1 : plainName "com/example/hermod/hermod/codec/PercentEncodingHexValuePinLaw" = true := by first | (simp [plainName, overriddenIn]; done) | decide +kernel
theorem own_d2_58 : decode method_2_code 58 = .ok (.ireturn, 1) := by decide +kernel
theorem own_d2_56 : decode method_2_code 56 = .ok (.ireturn, 1) := by decide +kernel
theorem own_d2_36 : decode method_2_code 36 = .ok (.ireturn, 1) := by decide +kernel
theorem own_d2_16 : decode method_2_code 16 = .ok (.ireturn, 1) := by decide +kernel
def own_f2 (x0 : Int32) : Int32 := (if x0 < (48 : Int32) then (if x0 < (97 : Int32) then (if x0 < (65 : Int32) then (-1 : Int32) else (if (70 : Int32) < x0 then (-1 : Int32) else ((x0 - (65 : Int32)) + (10 : Int32)))) else (if (102 : Int32) < x0 then (if x0 < (65 : Int32) then (-1 : Int32) else (if (70 : Int32) < x0 then (-1 : Int32) else ((x0 - (65 : Int32)) + (10 : Int32)))) else ((x0 - (97 : Int32)) + (10 : Int32)))) else (if (57 : Int32) < x0 then (if x0 < (97 : Int32) then (if x0 < (65 : Int32) then (-1 : Int32) else (if (70 : Int32) < x0 then (-1 : Int32) else ((x0 - (65 : Int32)) + (10 : Int32)))) else (if (102 : Int32) < x0 then (if x0 < (65 : Int32) then (-1 : Int32) else (if (70 : Int32) < x0 then (-1 : Int32) else ((x0 - (65 : Int32)) + (10 : Int32)))) else ((x0 - (97 : Int32)) + (10 : Int32)))) else (x0 - (48 : Int32))))
def own_Q2 (x0 : Int32) (h0 : Heap) (n0 : Nat) (v : Option Value) (h : Heap) (L : List Loc) : Prop := v = some (.int (own_f2 x0)) ∧ Fr n0 L ∧ h = h0
abbrev own_R2 : Room := { frames := 0, cells := 0, slots := 0, locals := 0 }
theorem own_ef2 (m : MethodId) (z0 : Int32) : entryFrame m #[(.int z0)] 1 = mkF m 0 #[.val (.int z0)] [] := by first | (simp [entryFrame, mkF, argsToLocals, Value.category]; done) | rfl
set_option maxRecDepth 65536 in
set_option maxHeartbeats 40000000 in
theorem rm2 (l : Launch) (Z : State) (a0 : Array Value) (hw : ∀ d ∈ tables_1, d.before a0 Z = true) (ws : List Jvm.Cond) (x0 : Int32) (h0 : Heap) (n0 : Nat) : own_Met l Z (⟨"com/example/hermod/hermod/codec/PercentEncodingHexValuePinLaw", "ref", "(I)I"⟩ : MethodName) method_2_code 1 (some .int) ws own_R2 #[(.int x0)] h0 (own_Q2 x0 h0 n0) := by
  refine own_met (plainFor_of_name own_pn1) ?_
  intro p e s m below meth c s₁ hx hby hml hown hnm hret hlk hZ e0 X0
  have N0 := Fr.nil n0
  have hml : c.maxLocals = 1 := hml
  have hown : s.vm.findClass "com/example/hermod/hermod/codec/PercentEncodingHexValuePinLaw" = some m.cls := hown
  have hret : meth.sig.returnType = (some .int) := hret
  have hby : c.code = method_2_code := hby
  have hnm : meth.name = "ref" := hnm
  rw [own_ef2]
  show own_Goes p e below _ (s₁.setTop (mkF m 0 #[.val (.int x0)] []))
  refine own_go (fun t k => XS.iloadN X0.here hx rfl (hb hby own_d2_0) rfl k) ?_
  show own_Goes p e below _ (s₁.setTop (mkF m 1 #[.val (.int x0)] [(.int x0)]))
  refine own_go (fun t k => XS.bipush X0.here hx rfl (hb hby own_d2_1) k) ?_
  show own_Goes p e below _ (s₁.setTop (mkF m 3 #[.val (.int x0)] [(.int (48 : Int32)), (.int x0)]))
  by_cases hc6 : x0 < (48 : Int32)
  · refine own_go (fun t k => XS.icmpYes X0.here hx rfl (pc0 := 3) (pc' := 17) rfl (hb hby own_d2_3) rfl (tlt hc6).1 (by decide) (by decide) k) ?_
    show own_Goes p e below _ (s₁.setTop (mkF m 17 #[.val (.int x0)] []))
    refine own_go (fun t k => XS.iloadN X0.here hx rfl (hb hby own_d2_17) rfl k) ?_
    show own_Goes p e below _ (s₁.setTop (mkF m 18 #[.val (.int x0)] [(.int x0)]))
    refine own_go (fun t k => XS.bipush X0.here hx rfl (hb hby own_d2_18) k) ?_
    show own_Goes p e below _ (s₁.setTop (mkF m 20 #[.val (.int x0)] [(.int (97 : Int32)), (.int x0)]))
    by_cases hc7 : x0 < (97 : Int32)
    · refine own_go (fun t k => XS.icmpYes X0.here hx rfl (pc0 := 20) (pc' := 37) rfl (hb hby own_d2_20) rfl (tlt hc7).1 (by decide) (by decide) k) ?_
      show own_Goes p e below _ (s₁.setTop (mkF m 37 #[.val (.int x0)] []))
      refine own_go (fun t k => XS.iloadN X0.here hx rfl (hb hby own_d2_37) rfl k) ?_
      show own_Goes p e below _ (s₁.setTop (mkF m 38 #[.val (.int x0)] [(.int x0)]))
      refine own_go (fun t k => XS.bipush X0.here hx rfl (hb hby own_d2_38) k) ?_
      show own_Goes p e below _ (s₁.setTop (mkF m 40 #[.val (.int x0)] [(.int (65 : Int32)), (.int x0)]))
      by_cases hc8 : x0 < (65 : Int32)
      · refine own_go (fun t k => XS.icmpYes X0.here hx rfl (pc0 := 40) (pc' := 57) rfl (hb hby own_d2_40) rfl (tlt hc8).1 (by decide) (by decide) k) ?_
        show own_Goes p e below _ (s₁.setTop (mkF m 57 #[.val (.int x0)] []))
        refine own_go (fun t k => XS.iconst X0.here hx rfl (hb hby own_d2_57) k) ?_
        show own_Goes p e below _ (s₁.setTop (mkF m 58 #[.val (.int x0)] [(.int (-1 : Int32))]))
        exact own_retI X0 hx hlk hret (hb hby own_d2_58) (by decide) (by decide) ⟨by rw [own_f2, if_pos hc6, if_pos hc7, if_pos hc8], N0, e0⟩
      · refine own_go (fun t k => XS.icmpNo X0.here hx rfl (hb hby own_d2_40) rfl (flt hc8).1 k) ?_
        show own_Goes p e below _ (s₁.setTop (mkF m 43 #[.val (.int x0)] []))
        refine own_go (fun t k => XS.iloadN X0.here hx rfl (hb hby own_d2_43) rfl k) ?_
        show own_Goes p e below _ (s₁.setTop (mkF m 44 #[.val (.int x0)] [(.int x0)]))
        refine own_go (fun t k => XS.bipush X0.here hx rfl (hb hby own_d2_44) k) ?_
        show own_Goes p e below _ (s₁.setTop (mkF m 46 #[.val (.int x0)] [(.int (70 : Int32)), (.int x0)]))
        by_cases hc9 : (70 : Int32) < x0
        · refine own_go (fun t k => XS.icmpYes X0.here hx rfl (pc0 := 46) (pc' := 57) rfl (hb hby own_d2_46) rfl (tlt hc9).2.2.1 (by decide) (by decide) k) ?_
          show own_Goes p e below _ (s₁.setTop (mkF m 57 #[.val (.int x0)] []))
          refine own_go (fun t k => XS.iconst X0.here hx rfl (hb hby own_d2_57) k) ?_
          show own_Goes p e below _ (s₁.setTop (mkF m 58 #[.val (.int x0)] [(.int (-1 : Int32))]))
          exact own_retI X0 hx hlk hret (hb hby own_d2_58) (by decide) (by decide) ⟨by rw [own_f2, if_pos hc6, if_pos hc7, if_neg hc8, if_pos hc9], N0, e0⟩
        · refine own_go (fun t k => XS.icmpNo X0.here hx rfl (hb hby own_d2_46) rfl (flt hc9).2.2.1 k) ?_
          show own_Goes p e below _ (s₁.setTop (mkF m 49 #[.val (.int x0)] []))
          refine own_go (fun t k => XS.iloadN X0.here hx rfl (hb hby own_d2_49) rfl k) ?_
          show own_Goes p e below _ (s₁.setTop (mkF m 50 #[.val (.int x0)] [(.int x0)]))
          refine own_go (fun t k => XS.bipush X0.here hx rfl (hb hby own_d2_50) k) ?_
          show own_Goes p e below _ (s₁.setTop (mkF m 52 #[.val (.int x0)] [(.int (65 : Int32)), (.int x0)]))
          refine own_go (fun t k => XS.isub X0.here hx rfl (hb hby own_d2_52) rfl k) ?_
          show own_Goes p e below _ (s₁.setTop (mkF m 53 #[.val (.int x0)] [(.int (x0 - (65 : Int32)))]))
          refine own_go (fun t k => XS.bipush X0.here hx rfl (hb hby own_d2_53) k) ?_
          show own_Goes p e below _ (s₁.setTop (mkF m 55 #[.val (.int x0)] [(.int (10 : Int32)), (.int (x0 - (65 : Int32)))]))
          refine own_go (fun t k => XS.iadd X0.here hx rfl (hb hby own_d2_55) rfl k) ?_
          show own_Goes p e below _ (s₁.setTop (mkF m 56 #[.val (.int x0)] [(.int ((x0 - (65 : Int32)) + (10 : Int32)))]))
          exact own_retI X0 hx hlk hret (hb hby own_d2_56) (by decide) (by decide) ⟨by rw [own_f2, if_pos hc6, if_pos hc7, if_neg hc8, if_neg hc9], N0, e0⟩
    · refine own_go (fun t k => XS.icmpNo X0.here hx rfl (hb hby own_d2_20) rfl (flt hc7).1 k) ?_
      show own_Goes p e below _ (s₁.setTop (mkF m 23 #[.val (.int x0)] []))
      refine own_go (fun t k => XS.iloadN X0.here hx rfl (hb hby own_d2_23) rfl k) ?_
      show own_Goes p e below _ (s₁.setTop (mkF m 24 #[.val (.int x0)] [(.int x0)]))
      refine own_go (fun t k => XS.bipush X0.here hx rfl (hb hby own_d2_24) k) ?_
      show own_Goes p e below _ (s₁.setTop (mkF m 26 #[.val (.int x0)] [(.int (102 : Int32)), (.int x0)]))
      by_cases hc10 : (102 : Int32) < x0
      · refine own_go (fun t k => XS.icmpYes X0.here hx rfl (pc0 := 26) (pc' := 37) rfl (hb hby own_d2_26) rfl (tlt hc10).2.2.1 (by decide) (by decide) k) ?_
        show own_Goes p e below _ (s₁.setTop (mkF m 37 #[.val (.int x0)] []))
        refine own_go (fun t k => XS.iloadN X0.here hx rfl (hb hby own_d2_37) rfl k) ?_
        show own_Goes p e below _ (s₁.setTop (mkF m 38 #[.val (.int x0)] [(.int x0)]))
        refine own_go (fun t k => XS.bipush X0.here hx rfl (hb hby own_d2_38) k) ?_
        show own_Goes p e below _ (s₁.setTop (mkF m 40 #[.val (.int x0)] [(.int (65 : Int32)), (.int x0)]))
        by_cases hc11 : x0 < (65 : Int32)
        · refine own_go (fun t k => XS.icmpYes X0.here hx rfl (pc0 := 40) (pc' := 57) rfl (hb hby own_d2_40) rfl (tlt hc11).1 (by decide) (by decide) k) ?_
          show own_Goes p e below _ (s₁.setTop (mkF m 57 #[.val (.int x0)] []))
          refine own_go (fun t k => XS.iconst X0.here hx rfl (hb hby own_d2_57) k) ?_
          show own_Goes p e below _ (s₁.setTop (mkF m 58 #[.val (.int x0)] [(.int (-1 : Int32))]))
          exact own_retI X0 hx hlk hret (hb hby own_d2_58) (by decide) (by decide) ⟨by rw [own_f2, if_pos hc6, if_neg hc7, if_pos hc10, if_pos hc11], N0, e0⟩
        · refine own_go (fun t k => XS.icmpNo X0.here hx rfl (hb hby own_d2_40) rfl (flt hc11).1 k) ?_
          show own_Goes p e below _ (s₁.setTop (mkF m 43 #[.val (.int x0)] []))
          refine own_go (fun t k => XS.iloadN X0.here hx rfl (hb hby own_d2_43) rfl k) ?_
          show own_Goes p e below _ (s₁.setTop (mkF m 44 #[.val (.int x0)] [(.int x0)]))
          refine own_go (fun t k => XS.bipush X0.here hx rfl (hb hby own_d2_44) k) ?_
          show own_Goes p e below _ (s₁.setTop (mkF m 46 #[.val (.int x0)] [(.int (70 : Int32)), (.int x0)]))
          by_cases hc12 : (70 : Int32) < x0
          · refine own_go (fun t k => XS.icmpYes X0.here hx rfl (pc0 := 46) (pc' := 57) rfl (hb hby own_d2_46) rfl (tlt hc12).2.2.1 (by decide) (by decide) k) ?_
            show own_Goes p e below _ (s₁.setTop (mkF m 57 #[.val (.int x0)] []))
            refine own_go (fun t k => XS.iconst X0.here hx rfl (hb hby own_d2_57) k) ?_
            show own_Goes p e below _ (s₁.setTop (mkF m 58 #[.val (.int x0)] [(.int (-1 : Int32))]))
            exact own_retI X0 hx hlk hret (hb hby own_d2_58) (by decide) (by decide) ⟨by rw [own_f2, if_pos hc6, if_neg hc7, if_pos hc10, if_neg hc11, if_pos hc12], N0, e0⟩
          · refine own_go (fun t k => XS.icmpNo X0.here hx rfl (hb hby own_d2_46) rfl (flt hc12).2.2.1 k) ?_
            show own_Goes p e below _ (s₁.setTop (mkF m 49 #[.val (.int x0)] []))
            refine own_go (fun t k => XS.iloadN X0.here hx rfl (hb hby own_d2_49) rfl k) ?_
            show own_Goes p e below _ (s₁.setTop (mkF m 50 #[.val (.int x0)] [(.int x0)]))
            refine own_go (fun t k => XS.bipush X0.here hx rfl (hb hby own_d2_50) k) ?_
            show own_Goes p e below _ (s₁.setTop (mkF m 52 #[.val (.int x0)] [(.int (65 : Int32)), (.int x0)]))
            refine own_go (fun t k => XS.isub X0.here hx rfl (hb hby own_d2_52) rfl k) ?_
            show own_Goes p e below _ (s₁.setTop (mkF m 53 #[.val (.int x0)] [(.int (x0 - (65 : Int32)))]))
            refine own_go (fun t k => XS.bipush X0.here hx rfl (hb hby own_d2_53) k) ?_
            show own_Goes p e below _ (s₁.setTop (mkF m 55 #[.val (.int x0)] [(.int (10 : Int32)), (.int (x0 - (65 : Int32)))]))
            refine own_go (fun t k => XS.iadd X0.here hx rfl (hb hby own_d2_55) rfl k) ?_
            show own_Goes p e below _ (s₁.setTop (mkF m 56 #[.val (.int x0)] [(.int ((x0 - (65 : Int32)) + (10 : Int32)))]))
            exact own_retI X0 hx hlk hret (hb hby own_d2_56) (by decide) (by decide) ⟨by rw [own_f2, if_pos hc6, if_neg hc7, if_pos hc10, if_neg hc11, if_neg hc12], N0, e0⟩
      · refine own_go (fun t k => XS.icmpNo X0.here hx rfl (hb hby own_d2_26) rfl (flt hc10).2.2.1 k) ?_
        show own_Goes p e below _ (s₁.setTop (mkF m 29 #[.val (.int x0)] []))
        refine own_go (fun t k => XS.iloadN X0.here hx rfl (hb hby own_d2_29) rfl k) ?_
        show own_Goes p e below _ (s₁.setTop (mkF m 30 #[.val (.int x0)] [(.int x0)]))
        refine own_go (fun t k => XS.bipush X0.here hx rfl (hb hby own_d2_30) k) ?_
        show own_Goes p e below _ (s₁.setTop (mkF m 32 #[.val (.int x0)] [(.int (97 : Int32)), (.int x0)]))
        refine own_go (fun t k => XS.isub X0.here hx rfl (hb hby own_d2_32) rfl k) ?_
        show own_Goes p e below _ (s₁.setTop (mkF m 33 #[.val (.int x0)] [(.int (x0 - (97 : Int32)))]))
        refine own_go (fun t k => XS.bipush X0.here hx rfl (hb hby own_d2_33) k) ?_
        show own_Goes p e below _ (s₁.setTop (mkF m 35 #[.val (.int x0)] [(.int (10 : Int32)), (.int (x0 - (97 : Int32)))]))
        refine own_go (fun t k => XS.iadd X0.here hx rfl (hb hby own_d2_35) rfl k) ?_
        show own_Goes p e below _ (s₁.setTop (mkF m 36 #[.val (.int x0)] [(.int ((x0 - (97 : Int32)) + (10 : Int32)))]))
        exact own_retI X0 hx hlk hret (hb hby own_d2_36) (by decide) (by decide) ⟨by rw [own_f2, if_pos hc6, if_neg hc7, if_neg hc10], N0, e0⟩
  · refine own_go (fun t k => XS.icmpNo X0.here hx rfl (hb hby own_d2_3) rfl (flt hc6).1 k) ?_
    show own_Goes p e below _ (s₁.setTop (mkF m 6 #[.val (.int x0)] []))
    refine own_go (fun t k => XS.iloadN X0.here hx rfl (hb hby own_d2_6) rfl k) ?_
    show own_Goes p e below _ (s₁.setTop (mkF m 7 #[.val (.int x0)] [(.int x0)]))
    refine own_go (fun t k => XS.bipush X0.here hx rfl (hb hby own_d2_7) k) ?_
    show own_Goes p e below _ (s₁.setTop (mkF m 9 #[.val (.int x0)] [(.int (57 : Int32)), (.int x0)]))
    by_cases hc13 : (57 : Int32) < x0
    · refine own_go (fun t k => XS.icmpYes X0.here hx rfl (pc0 := 9) (pc' := 17) rfl (hb hby own_d2_9) rfl (tlt hc13).2.2.1 (by decide) (by decide) k) ?_
      show own_Goes p e below _ (s₁.setTop (mkF m 17 #[.val (.int x0)] []))
      refine own_go (fun t k => XS.iloadN X0.here hx rfl (hb hby own_d2_17) rfl k) ?_
      show own_Goes p e below _ (s₁.setTop (mkF m 18 #[.val (.int x0)] [(.int x0)]))
      refine own_go (fun t k => XS.bipush X0.here hx rfl (hb hby own_d2_18) k) ?_
      show own_Goes p e below _ (s₁.setTop (mkF m 20 #[.val (.int x0)] [(.int (97 : Int32)), (.int x0)]))
      by_cases hc14 : x0 < (97 : Int32)
      · refine own_go (fun t k => XS.icmpYes X0.here hx rfl (pc0 := 20) (pc' := 37) rfl (hb hby own_d2_20) rfl (tlt hc14).1 (by decide) (by decide) k) ?_
        show own_Goes p e below _ (s₁.setTop (mkF m 37 #[.val (.int x0)] []))
        refine own_go (fun t k => XS.iloadN X0.here hx rfl (hb hby own_d2_37) rfl k) ?_
        show own_Goes p e below _ (s₁.setTop (mkF m 38 #[.val (.int x0)] [(.int x0)]))
        refine own_go (fun t k => XS.bipush X0.here hx rfl (hb hby own_d2_38) k) ?_
        show own_Goes p e below _ (s₁.setTop (mkF m 40 #[.val (.int x0)] [(.int (65 : Int32)), (.int x0)]))
        by_cases hc15 : x0 < (65 : Int32)
        · refine own_go (fun t k => XS.icmpYes X0.here hx rfl (pc0 := 40) (pc' := 57) rfl (hb hby own_d2_40) rfl (tlt hc15).1 (by decide) (by decide) k) ?_
          show own_Goes p e below _ (s₁.setTop (mkF m 57 #[.val (.int x0)] []))
          refine own_go (fun t k => XS.iconst X0.here hx rfl (hb hby own_d2_57) k) ?_
          show own_Goes p e below _ (s₁.setTop (mkF m 58 #[.val (.int x0)] [(.int (-1 : Int32))]))
          exact own_retI X0 hx hlk hret (hb hby own_d2_58) (by decide) (by decide) ⟨by rw [own_f2, if_neg hc6, if_pos hc13, if_pos hc14, if_pos hc15], N0, e0⟩
        · refine own_go (fun t k => XS.icmpNo X0.here hx rfl (hb hby own_d2_40) rfl (flt hc15).1 k) ?_
          show own_Goes p e below _ (s₁.setTop (mkF m 43 #[.val (.int x0)] []))
          refine own_go (fun t k => XS.iloadN X0.here hx rfl (hb hby own_d2_43) rfl k) ?_
          show own_Goes p e below _ (s₁.setTop (mkF m 44 #[.val (.int x0)] [(.int x0)]))
          refine own_go (fun t k => XS.bipush X0.here hx rfl (hb hby own_d2_44) k) ?_
          show own_Goes p e below _ (s₁.setTop (mkF m 46 #[.val (.int x0)] [(.int (70 : Int32)), (.int x0)]))
          by_cases hc16 : (70 : Int32) < x0
          · refine own_go (fun t k => XS.icmpYes X0.here hx rfl (pc0 := 46) (pc' := 57) rfl (hb hby own_d2_46) rfl (tlt hc16).2.2.1 (by decide) (by decide) k) ?_
            show own_Goes p e below _ (s₁.setTop (mkF m 57 #[.val (.int x0)] []))
            refine own_go (fun t k => XS.iconst X0.here hx rfl (hb hby own_d2_57) k) ?_
            show own_Goes p e below _ (s₁.setTop (mkF m 58 #[.val (.int x0)] [(.int (-1 : Int32))]))
            exact own_retI X0 hx hlk hret (hb hby own_d2_58) (by decide) (by decide) ⟨by rw [own_f2, if_neg hc6, if_pos hc13, if_pos hc14, if_neg hc15, if_pos hc16], N0, e0⟩
          · refine own_go (fun t k => XS.icmpNo X0.here hx rfl (hb hby own_d2_46) rfl (flt hc16).2.2.1 k) ?_
            show own_Goes p e below _ (s₁.setTop (mkF m 49 #[.val (.int x0)] []))
            refine own_go (fun t k => XS.iloadN X0.here hx rfl (hb hby own_d2_49) rfl k) ?_
            show own_Goes p e below _ (s₁.setTop (mkF m 50 #[.val (.int x0)] [(.int x0)]))
            refine own_go (fun t k => XS.bipush X0.here hx rfl (hb hby own_d2_50) k) ?_
            show own_Goes p e below _ (s₁.setTop (mkF m 52 #[.val (.int x0)] [(.int (65 : Int32)), (.int x0)]))
            refine own_go (fun t k => XS.isub X0.here hx rfl (hb hby own_d2_52) rfl k) ?_
            show own_Goes p e below _ (s₁.setTop (mkF m 53 #[.val (.int x0)] [(.int (x0 - (65 : Int32)))]))
            refine own_go (fun t k => XS.bipush X0.here hx rfl (hb hby own_d2_53) k) ?_
            show own_Goes p e below _ (s₁.setTop (mkF m 55 #[.val (.int x0)] [(.int (10 : Int32)), (.int (x0 - (65 : Int32)))]))
            refine own_go (fun t k => XS.iadd X0.here hx rfl (hb hby own_d2_55) rfl k) ?_
            show own_Goes p e below _ (s₁.setTop (mkF m 56 #[.val (.int x0)] [(.int ((x0 - (65 : Int32)) + (10 : Int32)))]))
            exact own_retI X0 hx hlk hret (hb hby own_d2_56) (by decide) (by decide) ⟨by rw [own_f2, if_neg hc6, if_pos hc13, if_pos hc14, if_neg hc15, if_neg hc16], N0, e0⟩
      · refine own_go (fun t k => XS.icmpNo X0.here hx rfl (hb hby own_d2_20) rfl (flt hc14).1 k) ?_
        show own_Goes p e below _ (s₁.setTop (mkF m 23 #[.val (.int x0)] []))
        refine own_go (fun t k => XS.iloadN X0.here hx rfl (hb hby own_d2_23) rfl k) ?_
        show own_Goes p e below _ (s₁.setTop (mkF m 24 #[.val (.int x0)] [(.int x0)]))
        refine own_go (fun t k => XS.bipush X0.here hx rfl (hb hby own_d2_24) k) ?_
        show own_Goes p e below _ (s₁.setTop (mkF m 26 #[.val (.int x0)] [(.int (102 : Int32)), (.int x0)]))
        by_cases hc17 : (102 : Int32) < x0
        · refine own_go (fun t k => XS.icmpYes X0.here hx rfl (pc0 := 26) (pc' := 37) rfl (hb hby own_d2_26) rfl (tlt hc17).2.2.1 (by decide) (by decide) k) ?_
          show own_Goes p e below _ (s₁.setTop (mkF m 37 #[.val (.int x0)] []))
          refine own_go (fun t k => XS.iloadN X0.here hx rfl (hb hby own_d2_37) rfl k) ?_
          show own_Goes p e below _ (s₁.setTop (mkF m 38 #[.val (.int x0)] [(.int x0)]))
          refine own_go (fun t k => XS.bipush X0.here hx rfl (hb hby own_d2_38) k) ?_
          show own_Goes p e below _ (s₁.setTop (mkF m 40 #[.val (.int x0)] [(.int (65 : Int32)), (.int x0)]))
          by_cases hc18 : x0 < (65 : Int32)
          · refine own_go (fun t k => XS.icmpYes X0.here hx rfl (pc0 := 40) (pc' := 57) rfl (hb hby own_d2_40) rfl (tlt hc18).1 (by decide) (by decide) k) ?_
            show own_Goes p e below _ (s₁.setTop (mkF m 57 #[.val (.int x0)] []))
            refine own_go (fun t k => XS.iconst X0.here hx rfl (hb hby own_d2_57) k) ?_
            show own_Goes p e below _ (s₁.setTop (mkF m 58 #[.val (.int x0)] [(.int (-1 : Int32))]))
            exact own_retI X0 hx hlk hret (hb hby own_d2_58) (by decide) (by decide) ⟨by rw [own_f2, if_neg hc6, if_pos hc13, if_neg hc14, if_pos hc17, if_pos hc18], N0, e0⟩
          · refine own_go (fun t k => XS.icmpNo X0.here hx rfl (hb hby own_d2_40) rfl (flt hc18).1 k) ?_
            show own_Goes p e below _ (s₁.setTop (mkF m 43 #[.val (.int x0)] []))
            refine own_go (fun t k => XS.iloadN X0.here hx rfl (hb hby own_d2_43) rfl k) ?_
            show own_Goes p e below _ (s₁.setTop (mkF m 44 #[.val (.int x0)] [(.int x0)]))
            refine own_go (fun t k => XS.bipush X0.here hx rfl (hb hby own_d2_44) k) ?_
            show own_Goes p e below _ (s₁.setTop (mkF m 46 #[.val (.int x0)] [(.int (70 : Int32)), (.int x0)]))
            by_cases hc19 : (70 : Int32) < x0
            · refine own_go (fun t k => XS.icmpYes X0.here hx rfl (pc0 := 46) (pc' := 57) rfl (hb hby own_d2_46) rfl (tlt hc19).2.2.1 (by decide) (by decide) k) ?_
              show own_Goes p e below _ (s₁.setTop (mkF m 57 #[.val (.int x0)] []))
              refine own_go (fun t k => XS.iconst X0.here hx rfl (hb hby own_d2_57) k) ?_
              show own_Goes p e below _ (s₁.setTop (mkF m 58 #[.val (.int x0)] [(.int (-1 : Int32))]))
              exact own_retI X0 hx hlk hret (hb hby own_d2_58) (by decide) (by decide) ⟨by rw [own_f2, if_neg hc6, if_pos hc13, if_neg hc14, if_pos hc17, if_neg hc18, if_pos hc19], N0, e0⟩
            · refine own_go (fun t k => XS.icmpNo X0.here hx rfl (hb hby own_d2_46) rfl (flt hc19).2.2.1 k) ?_
              show own_Goes p e below _ (s₁.setTop (mkF m 49 #[.val (.int x0)] []))
              refine own_go (fun t k => XS.iloadN X0.here hx rfl (hb hby own_d2_49) rfl k) ?_
              show own_Goes p e below _ (s₁.setTop (mkF m 50 #[.val (.int x0)] [(.int x0)]))
              refine own_go (fun t k => XS.bipush X0.here hx rfl (hb hby own_d2_50) k) ?_
              show own_Goes p e below _ (s₁.setTop (mkF m 52 #[.val (.int x0)] [(.int (65 : Int32)), (.int x0)]))
              refine own_go (fun t k => XS.isub X0.here hx rfl (hb hby own_d2_52) rfl k) ?_
              show own_Goes p e below _ (s₁.setTop (mkF m 53 #[.val (.int x0)] [(.int (x0 - (65 : Int32)))]))
              refine own_go (fun t k => XS.bipush X0.here hx rfl (hb hby own_d2_53) k) ?_
              show own_Goes p e below _ (s₁.setTop (mkF m 55 #[.val (.int x0)] [(.int (10 : Int32)), (.int (x0 - (65 : Int32)))]))
              refine own_go (fun t k => XS.iadd X0.here hx rfl (hb hby own_d2_55) rfl k) ?_
              show own_Goes p e below _ (s₁.setTop (mkF m 56 #[.val (.int x0)] [(.int ((x0 - (65 : Int32)) + (10 : Int32)))]))
              exact own_retI X0 hx hlk hret (hb hby own_d2_56) (by decide) (by decide) ⟨by rw [own_f2, if_neg hc6, if_pos hc13, if_neg hc14, if_pos hc17, if_neg hc18, if_neg hc19], N0, e0⟩
        · refine own_go (fun t k => XS.icmpNo X0.here hx rfl (hb hby own_d2_26) rfl (flt hc17).2.2.1 k) ?_
          show own_Goes p e below _ (s₁.setTop (mkF m 29 #[.val (.int x0)] []))
          refine own_go (fun t k => XS.iloadN X0.here hx rfl (hb hby own_d2_29) rfl k) ?_
          show own_Goes p e below _ (s₁.setTop (mkF m 30 #[.val (.int x0)] [(.int x0)]))
          refine own_go (fun t k => XS.bipush X0.here hx rfl (hb hby own_d2_30) k) ?_
          show own_Goes p e below _ (s₁.setTop (mkF m 32 #[.val (.int x0)] [(.int (97 : Int32)), (.int x0)]))
          refine own_go (fun t k => XS.isub X0.here hx rfl (hb hby own_d2_32) rfl k) ?_
          show own_Goes p e below _ (s₁.setTop (mkF m 33 #[.val (.int x0)] [(.int (x0 - (97 : Int32)))]))
          refine own_go (fun t k => XS.bipush X0.here hx rfl (hb hby own_d2_33) k) ?_
          show own_Goes p e below _ (s₁.setTop (mkF m 35 #[.val (.int x0)] [(.int (10 : Int32)), (.int (x0 - (97 : Int32)))]))
          refine own_go (fun t k => XS.iadd X0.here hx rfl (hb hby own_d2_35) rfl k) ?_
          show own_Goes p e below _ (s₁.setTop (mkF m 36 #[.val (.int x0)] [(.int ((x0 - (97 : Int32)) + (10 : Int32)))]))
          exact own_retI X0 hx hlk hret (hb hby own_d2_36) (by decide) (by decide) ⟨by rw [own_f2, if_neg hc6, if_pos hc13, if_neg hc14, if_neg hc17], N0, e0⟩
    · refine own_go (fun t k => XS.icmpNo X0.here hx rfl (hb hby own_d2_9) rfl (flt hc13).2.2.1 k) ?_
      show own_Goes p e below _ (s₁.setTop (mkF m 12 #[.val (.int x0)] []))
      refine own_go (fun t k => XS.iloadN X0.here hx rfl (hb hby own_d2_12) rfl k) ?_
      show own_Goes p e below _ (s₁.setTop (mkF m 13 #[.val (.int x0)] [(.int x0)]))
      refine own_go (fun t k => XS.bipush X0.here hx rfl (hb hby own_d2_13) k) ?_
      show own_Goes p e below _ (s₁.setTop (mkF m 15 #[.val (.int x0)] [(.int (48 : Int32)), (.int x0)]))
      refine own_go (fun t k => XS.isub X0.here hx rfl (hb hby own_d2_15) rfl k) ?_
      show own_Goes p e below _ (s₁.setTop (mkF m 16 #[.val (.int x0)] [(.int (x0 - (48 : Int32)))]))
      exact own_retI X0 hx hlk hret (hb hby own_d2_16) (by decide) (by decide) ⟨by rw [own_f2, if_neg hc6, if_neg hc13], N0, e0⟩
theorem own_t0 : (Jvm.Cond.methodLink "com/example/hermod/hermod/codec/PercentEncodingHexValuePinLaw" (7 : Nat) ({ cls := "com/example/hermod/hermod/codec/PercentEncoding", name := "hexValue", desc := "(I)I" } : Jvm.MethodName)) ∈ tables_1 := List.mem_of_getElem? (i := 0) rfl
theorem own_pd0 : parseMethodDescriptor "(I)I" = some ⟨[.int], some .int⟩ := by decide +kernel
theorem own_t1 : (Jvm.Cond.static ({ cls := "com/example/hermod/hermod/codec/PercentEncoding", name := "hexValue", desc := "(I)I" } : Jvm.MethodName)) ∈ tables_1 := List.mem_of_getElem? (i := 1) rfl
theorem own_t3 : (Jvm.Cond.code ({ cls := "com/example/hermod/hermod/codec/PercentEncoding", name := "hexValue", desc := "(I)I" } : Jvm.MethodName) prog_22_method_4_code (1 : Nat) (Option.some Jvm.ClassFile.FieldType.int)) ∈ tables_1 := List.mem_of_getElem? (i := 3) rfl
theorem own_t6 : (Jvm.Cond.methodLink "com/example/hermod/hermod/codec/PercentEncodingHexValuePinLaw" (13 : Nat) ({ cls := "com/example/hermod/hermod/codec/PercentEncodingHexValuePinLaw", name := "ref", desc := "(I)I" } : Jvm.MethodName)) ∈ tables_1 := List.mem_of_getElem? (i := 6) rfl
theorem own_t7 : (Jvm.Cond.static ({ cls := "com/example/hermod/hermod/codec/PercentEncodingHexValuePinLaw", name := "ref", desc := "(I)I" } : Jvm.MethodName)) ∈ tables_1 := List.mem_of_getElem? (i := 7) rfl
theorem own_t8 : (Jvm.Cond.initialized "com/example/hermod/hermod/codec/PercentEncodingHexValuePinLaw") ∈ tables_1 := List.mem_of_getElem? (i := 8) rfl
theorem own_t9 : (Jvm.Cond.code ({ cls := "com/example/hermod/hermod/codec/PercentEncodingHexValuePinLaw", name := "ref", desc := "(I)I" } : Jvm.MethodName) method_2_code (1 : Nat) (Option.some Jvm.ClassFile.FieldType.int)) ∈ tables_1 := List.mem_of_getElem? (i := 9) rfl
def own_j0_1 (x0 : Int32) : Int32 := (if (own_f1 x0) = (own_f2 x0) then (1 : Int32) else (0 : Int32))
def own_j0_2 (x1 : Int32) : Int32 := (if (own_f1 (x1 &&& (255 : Int32))) = (own_f2 (x1 &&& (255 : Int32))) then (1 : Int32) else (0 : Int32))
def own_j0_3 (x0 : Int32) (x1 : Int32) : Int32 := (if (own_j0_1 x0) = (0 : Int32) then (0 : Int32) else (if (own_j0_2 x1) = (0 : Int32) then (0 : Int32) else (1 : Int32)))
def own_f0 (x0 : Int32) (x1 : Int32) : Int32 := ((own_j0_3 x0 x1) &&& 1)
def own_Q0 (x0 : Int32) (x1 : Int32) (s_H : Addr) (h0 : Heap) (n0 : Nat) (v : Option Value) (h : Heap) (L : List Loc) : Prop := v = some (.int (own_f0 x0 x1)) ∧ Fr n0 L ∧ True
theorem own_ef0 (m : MethodId) (z0 : Int32) (z1 : Int32) : entryFrame m #[(.int z0), (.int z1)] maxLocals = mkF m 0 #[.val (.int z0), .val (.int z1), .unset, .unset, .unset] [] := by first | (simp [entryFrame, mkF, argsToLocals, Value.category, maxLocals]; done) | rfl
set_option maxRecDepth 65536 in
set_option maxHeartbeats 40000000 in
theorem rm0 (l : Launch) (Z : State) (a0 : Array Value) (hw : ∀ d ∈ tables_1, d.before a0 Z = true) (ws : List Jvm.Cond) (x0 : Int32) (x1 : Int32) (cl_H : Cell) (s_H : Addr) (h0 : Heap) (n0 : Nat) (A_H : Arr Z h0 s_H cl_H .byte) (z_H : cl_H.slots.size = (128 : Int32).toNatClampNeg) (t_H : ∀ j : Int32, ¬ j < 0 → j < 128 → cl_H.slots[j.toNatClampNeg]? = some (.int (own_tab j))) (S_s_H : Sta Z h0 "com/example/hermod/hermod/codec/PercentEncoding" "HEX_VALUES" "[B" (.ref s_H)) : own_Met l Z x code maxLocals ret ws room_1 #[(.int x0), (.int x1)] h0 (own_Q0 x0 x1 s_H h0 n0) := by
  refine own_met (plainFor_of_name own_pn1) ?_
  intro p e s m below meth c s₁ hx hby hml hown hnm hret hlk hZ e0 X0
  have N0 := Fr.nil n0
  have hml : c.maxLocals = 5 := hml
  have hown : s.vm.findClass "com/example/hermod/hermod/codec/PercentEncodingHexValuePinLaw" = some m.cls := hown
  have hret : meth.sig.returnType = (some .boolean) := hret
  have hby : c.code = code := hby
  have hnm : meth.name = "law" := hnm
  rw [own_ef0]
  show own_Goes p e below _ (s₁.setTop (mkF m 0 #[.val (.int x0), .val (.int x1), .unset, .unset, .unset] []))
  refine own_go (fun t k => XS.iloadN X0.here hx rfl (hb hby at_0) rfl k) ?_
  show own_Goes p e below _ (s₁.setTop (mkF m 1 #[.val (.int x0), .val (.int x1), .unset, .unset, .unset] [(.int x1)]))
  refine own_go (fun t k => XS.sipush X0.here hx rfl (hb hby at_1) k) ?_
  show own_Goes p e below _ (s₁.setTop (mkF m 4 #[.val (.int x0), .val (.int x1), .unset, .unset, .unset] [(.int (255 : Int32)), (.int x1)]))
  refine own_go (fun t k => XS.iand X0.here hx rfl (hb hby at_4) rfl k) ?_
  show own_Goes p e below _ (s₁.setTop (mkF m 5 #[.val (.int x0), .val (.int x1), .unset, .unset, .unset] [(.int (x1 &&& (255 : Int32)))]))
  refine own_go (fun t k => XS.istoreN X0.here hx rfl (hb hby at_5) rfl (l' := #[.val (.int x0), .val (.int x1), .val (.int (x1 &&& (255 : Int32))), .unset, .unset]) rfl k) ?_
  show own_Goes p e below _ (s₁.setTop (mkF m 6 #[.val (.int x0), .val (.int x1), .val (.int (x1 &&& (255 : Int32))), .unset, .unset] []))
  refine own_go (fun t k => XS.iloadN X0.here hx rfl (hb hby at_6) rfl k) ?_
  show own_Goes p e below _ (s₁.setTop (mkF m 7 #[.val (.int x0), .val (.int x1), .val (.int (x1 &&& (255 : Int32))), .unset, .unset] [(.int x0)]))
  obtain ⟨_, T20, L20, X20, ⟨rfl, N20q, e20⟩, st20⟩ := own_callS X0 hx hZ hown (hw _ own_t0) (hw _ own_t1) (hw _ own_t2) (hw _ own_t3) (by decide) (as := [(.int x0)]) (rm1 l Z a0 hw [] x0 cl_H s_H h0 n0 A_H z_H t_H S_s_H) e0 own_pd0 rfl (pc := 7) (Ls := #[.val (.int x0), .val (.int x1), .val (.int (x1 &&& (255 : Int32))), .unset, .unset]) (rest := []) (W := 0) (by rw [hml]; rfl) (Nat.le_of_eq rfl) (by decide) (by decide) (hb hby at_7) (by decide) (by decide)
  have N20 := Fr.app N0 N20q
  refine own_go st20 ?_
  show own_Goes p e below _ (T20.setTop (mkF m 10 #[.val (.int x0), .val (.int x1), .val (.int (x1 &&& (255 : Int32))), .unset, .unset] [(.int (own_f1 x0))]))
  refine own_go (fun t k => XS.iloadN X20.here hx rfl (hb hby at_10) rfl k) ?_
  show own_Goes p e below _ (T20.setTop (mkF m 11 #[.val (.int x0), .val (.int x1), .val (.int (x1 &&& (255 : Int32))), .unset, .unset] [(.int x0), (.int (own_f1 x0))]))
  obtain ⟨_, T21, L21, X21, ⟨rfl, N21q, e21⟩, st21⟩ := own_callS X20 hx hZ hown (hw _ own_t6) (hw _ own_t7) (hw _ own_t8) (hw _ own_t9) (by decide) (as := [(.int x0)]) (rm2 l Z a0 hw [] x0 h0 n0) e20 own_pd0 rfl (pc := 11) (Ls := #[.val (.int x0), .val (.int x1), .val (.int (x1 &&& (255 : Int32))), .unset, .unset]) (rest := [(.int (own_f1 x0))]) (W := 1) (by rw [hml]; rfl) (Nat.le_of_eq rfl) (by decide) (by decide) (hb hby at_11) (by decide) (by decide)
  have N21 := Fr.app N20 N21q
  refine own_go st21 ?_
  show own_Goes p e below _ (T21.setTop (mkF m 14 #[.val (.int x0), .val (.int x1), .val (.int (x1 &&& (255 : Int32))), .unset, .unset] [(.int (own_f2 x0)), (.int (own_f1 x0))]))
  suffices HH23 : own_Goes p e below (own_End s room_1 (own_Q0 x0 x1 s_H h0 n0)) (T21.setTop (mkF m 22 #[.val (.int x0), .val (.int x1), .val (.int (x1 &&& (255 : Int32))), .unset, .unset] [(.int (own_j0_1 x0))])) by
    by_cases hc22 : (own_f1 x0) = (own_f2 x0)
    · refine own_go (fun t k => XS.icmpNo X21.here hx rfl (hb hby at_14) rfl (teq hc22).2 k) ?_
      show own_Goes p e below _ (T21.setTop (mkF m 17 #[.val (.int x0), .val (.int x1), .val (.int (x1 &&& (255 : Int32))), .unset, .unset] []))
      refine own_go (fun t k => XS.iconst X21.here hx rfl (hb hby at_17) k) ?_
      show own_Goes p e below _ (T21.setTop (mkF m 18 #[.val (.int x0), .val (.int x1), .val (.int (x1 &&& (255 : Int32))), .unset, .unset] [(.int (1 : Int32))]))
      refine own_go (fun t k => XS.goto X21.here hx rfl (pc0 := 18) (pc' := 22) rfl (hb hby at_18) (by decide) (by decide) k) ?_
      rw [show (own_j0_1 x0) = (1 : Int32) from by rw [own_j0_1, if_pos hc22]] at HH23
      exact HH23
    · refine own_go (fun t k => XS.icmpYes X21.here hx rfl (pc0 := 14) (pc' := 21) rfl (hb hby at_14) rfl (feq hc22).2 (by decide) (by decide) k) ?_
      show own_Goes p e below _ (T21.setTop (mkF m 21 #[.val (.int x0), .val (.int x1), .val (.int (x1 &&& (255 : Int32))), .unset, .unset] []))
      refine own_go (fun t k => XS.iconst X21.here hx rfl (hb hby at_21) k) ?_
      rw [show (own_j0_1 x0) = (0 : Int32) from by rw [own_j0_1, if_neg hc22]] at HH23
      exact HH23
  show own_Goes p e below _ (T21.setTop (mkF m 22 #[.val (.int x0), .val (.int x1), .val (.int (x1 &&& (255 : Int32))), .unset, .unset] [(.int (own_j0_1 x0))]))
  refine own_go (fun t k => XS.istoreN X21.here hx rfl (hb hby at_22) rfl (l' := #[.val (.int x0), .val (.int x1), .val (.int (x1 &&& (255 : Int32))), .val (.int (own_j0_1 x0)), .unset]) rfl k) ?_
  show own_Goes p e below _ (T21.setTop (mkF m 23 #[.val (.int x0), .val (.int x1), .val (.int (x1 &&& (255 : Int32))), .val (.int (own_j0_1 x0)), .unset] []))
  refine own_go (fun t k => XS.iloadN X21.here hx rfl (hb hby at_23) rfl k) ?_
  show own_Goes p e below _ (T21.setTop (mkF m 24 #[.val (.int x0), .val (.int x1), .val (.int (x1 &&& (255 : Int32))), .val (.int (own_j0_1 x0)), .unset] [(.int (x1 &&& (255 : Int32)))]))
  obtain ⟨_, T24, L24, X24, ⟨rfl, N24q, e24⟩, st24⟩ := own_callS X21 hx hZ hown (hw _ own_t0) (hw _ own_t1) (hw _ own_t2) (hw _ own_t3) (by decide) (as := [(.int (x1 &&& (255 : Int32)))]) (rm1 l Z a0 hw [] (x1 &&& (255 : Int32)) cl_H s_H h0 n0 A_H z_H t_H S_s_H) e21 own_pd0 rfl (pc := 24) (Ls := #[.val (.int x0), .val (.int x1), .val (.int (x1 &&& (255 : Int32))), .val (.int (own_j0_1 x0)), .unset]) (rest := []) (W := 0) (by rw [hml]; rfl) (Nat.le_of_eq rfl) (by decide) (by decide) (hb hby at_24) (by decide) (by decide)
  have N24 := Fr.app N21 N24q
  refine own_go st24 ?_
  show own_Goes p e below _ (T24.setTop (mkF m 27 #[.val (.int x0), .val (.int x1), .val (.int (x1 &&& (255 : Int32))), .val (.int (own_j0_1 x0)), .unset] [(.int (own_f1 (x1 &&& (255 : Int32))))]))
  refine own_go (fun t k => XS.iloadN X24.here hx rfl (hb hby at_27) rfl k) ?_
  show own_Goes p e below _ (T24.setTop (mkF m 28 #[.val (.int x0), .val (.int x1), .val (.int (x1 &&& (255 : Int32))), .val (.int (own_j0_1 x0)), .unset] [(.int (x1 &&& (255 : Int32))), (.int (own_f1 (x1 &&& (255 : Int32))))]))
  obtain ⟨_, T25, L25, X25, ⟨rfl, N25q, e25⟩, st25⟩ := own_callS X24 hx hZ hown (hw _ own_t6) (hw _ own_t7) (hw _ own_t8) (hw _ own_t9) (by decide) (as := [(.int (x1 &&& (255 : Int32)))]) (rm2 l Z a0 hw [] (x1 &&& (255 : Int32)) h0 n0) e24 own_pd0 rfl (pc := 28) (Ls := #[.val (.int x0), .val (.int x1), .val (.int (x1 &&& (255 : Int32))), .val (.int (own_j0_1 x0)), .unset]) (rest := [(.int (own_f1 (x1 &&& (255 : Int32))))]) (W := 1) (by rw [hml]; rfl) (Nat.le_of_eq rfl) (by decide) (by decide) (hb hby at_28) (by decide) (by decide)
  have N25 := Fr.app N24 N25q
  refine own_go st25 ?_
  show own_Goes p e below _ (T25.setTop (mkF m 31 #[.val (.int x0), .val (.int x1), .val (.int (x1 &&& (255 : Int32))), .val (.int (own_j0_1 x0)), .unset] [(.int (own_f2 (x1 &&& (255 : Int32)))), (.int (own_f1 (x1 &&& (255 : Int32))))]))
  suffices HH27 : own_Goes p e below (own_End s room_1 (own_Q0 x0 x1 s_H h0 n0)) (T25.setTop (mkF m 39 #[.val (.int x0), .val (.int x1), .val (.int (x1 &&& (255 : Int32))), .val (.int (own_j0_1 x0)), .unset] [(.int (own_j0_2 x1))])) by
    by_cases hc26 : (own_f1 (x1 &&& (255 : Int32))) = (own_f2 (x1 &&& (255 : Int32)))
    · refine own_go (fun t k => XS.icmpNo X25.here hx rfl (hb hby at_31) rfl (teq hc26).2 k) ?_
      show own_Goes p e below _ (T25.setTop (mkF m 34 #[.val (.int x0), .val (.int x1), .val (.int (x1 &&& (255 : Int32))), .val (.int (own_j0_1 x0)), .unset] []))
      refine own_go (fun t k => XS.iconst X25.here hx rfl (hb hby at_34) k) ?_
      show own_Goes p e below _ (T25.setTop (mkF m 35 #[.val (.int x0), .val (.int x1), .val (.int (x1 &&& (255 : Int32))), .val (.int (own_j0_1 x0)), .unset] [(.int (1 : Int32))]))
      refine own_go (fun t k => XS.goto X25.here hx rfl (pc0 := 35) (pc' := 39) rfl (hb hby at_35) (by decide) (by decide) k) ?_
      rw [show (own_j0_2 x1) = (1 : Int32) from by rw [own_j0_2, if_pos hc26]] at HH27
      exact HH27
    · refine own_go (fun t k => XS.icmpYes X25.here hx rfl (pc0 := 31) (pc' := 38) rfl (hb hby at_31) rfl (feq hc26).2 (by decide) (by decide) k) ?_
      show own_Goes p e below _ (T25.setTop (mkF m 38 #[.val (.int x0), .val (.int x1), .val (.int (x1 &&& (255 : Int32))), .val (.int (own_j0_1 x0)), .unset] []))
      refine own_go (fun t k => XS.iconst X25.here hx rfl (hb hby at_38) k) ?_
      rw [show (own_j0_2 x1) = (0 : Int32) from by rw [own_j0_2, if_neg hc26]] at HH27
      exact HH27
  show own_Goes p e below _ (T25.setTop (mkF m 39 #[.val (.int x0), .val (.int x1), .val (.int (x1 &&& (255 : Int32))), .val (.int (own_j0_1 x0)), .unset] [(.int (own_j0_2 x1))]))
  refine own_go (fun t k => XS.istore X25.here hx rfl (hb hby at_39) rfl (l' := #[.val (.int x0), .val (.int x1), .val (.int (x1 &&& (255 : Int32))), .val (.int (own_j0_1 x0)), .val (.int (own_j0_2 x1))]) rfl k) ?_
  show own_Goes p e below _ (T25.setTop (mkF m 41 #[.val (.int x0), .val (.int x1), .val (.int (x1 &&& (255 : Int32))), .val (.int (own_j0_1 x0)), .val (.int (own_j0_2 x1))] []))
  refine own_go (fun t k => XS.iloadN X25.here hx rfl (hb hby at_41) rfl k) ?_
  show own_Goes p e below _ (T25.setTop (mkF m 42 #[.val (.int x0), .val (.int x1), .val (.int (x1 &&& (255 : Int32))), .val (.int (own_j0_1 x0)), .val (.int (own_j0_2 x1))] [(.int (own_j0_1 x0))]))
  suffices HH30 : own_Goes p e below (own_End s room_1 (own_Q0 x0 x1 s_H h0 n0)) (T25.setTop (mkF m 55 #[.val (.int x0), .val (.int x1), .val (.int (x1 &&& (255 : Int32))), .val (.int (own_j0_1 x0)), .val (.int (own_j0_2 x1))] [(.int (own_j0_3 x0 x1))])) by
    by_cases hc28 : (own_j0_1 x0) = (0 : Int32)
    · refine own_go (fun t k => XS.ifYes X25.here hx rfl (pc0 := 42) (pc' := 54) rfl (hb hby at_42) rfl ((if0 _ _).trans (teq hc28).1) (by decide) (by decide) k) ?_
      show own_Goes p e below _ (T25.setTop (mkF m 54 #[.val (.int x0), .val (.int x1), .val (.int (x1 &&& (255 : Int32))), .val (.int (own_j0_1 x0)), .val (.int (own_j0_2 x1))] []))
      refine own_go (fun t k => XS.iconst X25.here hx rfl (hb hby at_54) k) ?_
      rw [show (own_j0_3 x0 x1) = (0 : Int32) from by rw [own_j0_3, if_pos hc28]] at HH30
      exact HH30
    · refine own_go (fun t k => XS.ifNo X25.here hx rfl (hb hby at_42) rfl ((if0 _ _).trans (feq hc28).1) k) ?_
      show own_Goes p e below _ (T25.setTop (mkF m 45 #[.val (.int x0), .val (.int x1), .val (.int (x1 &&& (255 : Int32))), .val (.int (own_j0_1 x0)), .val (.int (own_j0_2 x1))] []))
      refine own_go (fun t k => XS.iload X25.here hx rfl (hb hby at_45) rfl k) ?_
      show own_Goes p e below _ (T25.setTop (mkF m 47 #[.val (.int x0), .val (.int x1), .val (.int (x1 &&& (255 : Int32))), .val (.int (own_j0_1 x0)), .val (.int (own_j0_2 x1))] [(.int (own_j0_2 x1))]))
      by_cases hc29 : (own_j0_2 x1) = (0 : Int32)
      · refine own_go (fun t k => XS.ifYes X25.here hx rfl (pc0 := 47) (pc' := 54) rfl (hb hby at_47) rfl ((if0 _ _).trans (teq hc29).1) (by decide) (by decide) k) ?_
        show own_Goes p e below _ (T25.setTop (mkF m 54 #[.val (.int x0), .val (.int x1), .val (.int (x1 &&& (255 : Int32))), .val (.int (own_j0_1 x0)), .val (.int (own_j0_2 x1))] []))
        refine own_go (fun t k => XS.iconst X25.here hx rfl (hb hby at_54) k) ?_
        rw [show (own_j0_3 x0 x1) = (0 : Int32) from by rw [own_j0_3, if_neg hc28, if_pos hc29]] at HH30
        exact HH30
      · refine own_go (fun t k => XS.ifNo X25.here hx rfl (hb hby at_47) rfl ((if0 _ _).trans (feq hc29).1) k) ?_
        show own_Goes p e below _ (T25.setTop (mkF m 50 #[.val (.int x0), .val (.int x1), .val (.int (x1 &&& (255 : Int32))), .val (.int (own_j0_1 x0)), .val (.int (own_j0_2 x1))] []))
        refine own_go (fun t k => XS.iconst X25.here hx rfl (hb hby at_50) k) ?_
        show own_Goes p e below _ (T25.setTop (mkF m 51 #[.val (.int x0), .val (.int x1), .val (.int (x1 &&& (255 : Int32))), .val (.int (own_j0_1 x0)), .val (.int (own_j0_2 x1))] [(.int (1 : Int32))]))
        refine own_go (fun t k => XS.goto X25.here hx rfl (pc0 := 51) (pc' := 55) rfl (hb hby at_51) (by decide) (by decide) k) ?_
        rw [show (own_j0_3 x0 x1) = (1 : Int32) from by rw [own_j0_3, if_neg hc28, if_neg hc29]] at HH30
        exact HH30
  show own_Goes p e below _ (T25.setTop (mkF m 55 #[.val (.int x0), .val (.int x1), .val (.int (x1 &&& (255 : Int32))), .val (.int (own_j0_1 x0)), .val (.int (own_j0_2 x1))] [(.int (own_j0_3 x0 x1))]))
  exact own_retN X25 hx hlk hret (by simp) (z' := ((own_j0_3 x0 x1) &&& 1)) rfl (hb hby at_55) (by decide) (by decide) ⟨by rw [own_f0], N25, trivial⟩
theorem own_elem {args : Array Value} {s : State} {t b : Term} {x : Addr} {cl : Cell} {j k : Int32} (ht : t.eval args s none [] s = some (.ref x)) (hs : t.eval args s none [j.toNatClampNeg] s = t.eval args s none [] s) (ha : s.arrayAt? x = some cl) (hj : ¬ j < 0) (h : (Jvm.Cond.eq (Term.elem t (Term.index 0)) b).value args s none s [j.toNatClampNeg] = some true) (hb : b.eval args s none [j.toNatClampNeg] s = some (.int k)) : cl.slots[j.toNatClampNeg]? = some (.int k) := by
  have e := own_eqI h hb
  rwa [elem_f (hs.trans ht) (idx_at hj) ha hj] at e
theorem own_elem1 {args : Array Value} {s : State} {t : Term} {x : Addr} {cl : Cell} {i k : Int32} (ht : t.eval args s none [] s = some (.ref x)) (ha : s.arrayAt? x = some cl) (hi : ¬ i < 0) (h : (Jvm.Cond.eq (Term.elem t (Term.int i)) (Term.int k)).value args s none s [] = some true) : cl.slots[i.toNatClampNeg]? = some (.int k) := by
  have e := own_eqI h (Term.int_eval _)
  rwa [elem_f ht (Term.int_eval _) ha hi] at e
theorem own_one {j : Int32} {a b : Int32} (h1 : ¬ j < a) (h2 : j < b) (h : b.toInt = a.toInt + 1) : j = a := by
  rw [← Int32.toInt_inj]
  rw [Int32.lt_iff_toInt_lt] at h1 h2
  omega
theorem own_lt1 {j a b : Int32} (h : j < a) (h' : a.toInt ≤ b.toInt) : j < b := by
  rw [Int32.lt_iff_toInt_lt] at h ⊢
  omega
theorem own_len {args : Array Value} {s : State} {t : Term} {x : Addr} {cl : Cell} {z : Int32} (ht : t.eval args s none [] s = some (.ref x)) (ha : s.arrayAt? x = some cl) (h : (Term.length t).eval args s none [] s = some (.int z)) : cl.slots.size = z.toNatClampNeg := by
  by_cases q : cl.slots.size < 2 ^ 31
  · rw [len_f ht ha q] at h
    rw [← Value.int.inj (Option.some.inj h)]
    simp only [Int32.toNatClampNeg, len_toInt q]
    rfl
  · simp [Term.eval, ht, ha, q] at h
theorem own_narrow {args : Array Value} {s : State} (hn : narrow_1.value args s none s [] = some true) (hw : ∀ d ∈ tables_1, d.before args s = true) : ∃ (a : Addr) (cl : Cell), Sta s s.heap "com/example/hermod/hermod/codec/PercentEncoding" "HEX_VALUES" "[B" (.ref a) ∧ Arr s s.heap a cl .byte ∧ cl.slots.size = (128 : Int32).toNatClampNeg ∧ ∀ j : Int32, ¬ j < 0 → j < 128 → cl.slots[j.toNatClampNeg]? = some (.int (own_tab j)) := by
  obtain ⟨n1, m1⟩ := and_e hn
  obtain ⟨n2, m2⟩ := and_e m1
  obtain ⟨n3, m3⟩ := and_e m2
  obtain ⟨n4, m4⟩ := and_e m3
  obtain ⟨n5, m5⟩ := and_e m4
  obtain ⟨n6, m6⟩ := and_e m5
  obtain ⟨n7, m7⟩ := and_e m6
  obtain ⟨n8, m8⟩ := and_e m7
  have n9 := m8
  obtain ⟨a, v⟩ := arr_v n1
  obtain ⟨cl, A⟩ := Arr.start v n1
  have ha : s.arrayAt? a = some cl := Arr.fin (Vm.Alike.refl _) A
  have hsz : cl.slots.size = (128 : Int32).toNatClampNeg := own_len v ha (own_eqI n2 (Term.int_eval _))
  have hb : ∀ j : Int32, ¬ j < 0 → j < 128 → j.toNatClampNeg < cl.slots.size := fun j h1 h2 => by
    have q := inb_of (c := cl) (z := (128 : Int32)) hsz ⟨h1, h2⟩
    omega
  refine ⟨a, cl, Sta.start v (Or.inr ⟨(hw _ own_t2), (hw _ own_t5)⟩), A, hsz, fun j hj hj2 => ?_⟩
  unfold own_tab
  by_cases q0 : j < 48
  · rw [if_pos q0]
    exact own_elem v rfl ha hj (own_or (Cond.all_elim v ha n3 _ (hb j hj hj2)) (own_ixle hj q0)) (Term.int_eval _)
  · rw [if_neg q0]
    by_cases q1 : j < 58
    · rw [if_pos q1]
      exact own_elem v rfl ha hj (own_or (own_or (Cond.all_elim v ha n4 _ (hb j hj hj2)) (own_ixlt hj q0)) (own_ixle hj q1)) (own_ixsub hj)
    · rw [if_neg q1]
      by_cases q2 : j < 65
      · rw [if_pos q2]
        exact own_elem v rfl ha hj (own_or (own_or (Cond.all_elim v ha n5 _ (hb j hj hj2)) (own_ixlt hj q1)) (own_ixle hj q2)) (Term.int_eval _)
      · rw [if_neg q2]
        by_cases q3 : j < 71
        · rw [if_pos q3]
          exact own_elem v rfl ha hj (own_or (own_or (Cond.all_elim v ha n6 _ (hb j hj hj2)) (own_ixlt hj q2)) (own_ixle hj q3)) (own_ixsub hj)
        · rw [if_neg q3]
          by_cases q4 : j < 97
          · rw [if_pos q4]
            exact own_elem v rfl ha hj (own_or (own_or (Cond.all_elim v ha n7 _ (hb j hj hj2)) (own_ixlt hj q3)) (own_ixle hj q4)) (Term.int_eval _)
          · rw [if_neg q4]
            by_cases q5 : j < 103
            · rw [if_pos q5]
              exact own_elem v rfl ha hj (own_or (own_or (Cond.all_elim v ha n8 _ (hb j hj hj2)) (own_ixlt hj q4)) (own_ixle hj q5)) (own_ixsub hj)
            · rw [if_neg q5]
              exact own_elem v rfl ha hj (own_or (Cond.all_elim v ha n9 _ (hb j hj hj2)) (own_ixlt hj q5)) (Term.int_eval _)
theorem own_f12 (c : Int32) : own_f1 c = own_f2 c := by
  by_cases h1 : c.toInt < 0
  · have e1 : c < 0 := Int32.lt_iff_toInt_lt.mpr h1
    have n : ∀ k : Int32, 0 ≤ k.toInt → c < k := fun k hk => Int32.lt_iff_toInt_lt.mpr (by omega)
    unfold own_f1 own_j1_1 own_f2
    rw [if_pos e1, if_pos (n 48 (by decide)), if_pos (n 97 (by decide)), if_pos (n 65 (by decide))]
  · by_cases h2 : 127 < c.toInt
    · have n : ∀ k : Int32, k.toInt ≤ 128 → ¬ c < k := fun k hk q => by rw [Int32.lt_iff_toInt_lt] at q; omega
      have p : ∀ k : Int32, k.toInt ≤ 127 → k < c := fun k hk => by rw [Int32.lt_iff_toInt_lt]; omega
      unfold own_f1 own_j1_1 own_f2
      rw [if_neg (n 0 (by decide)), if_neg (n 128 (by decide)), if_neg (n 48 (by decide)), if_pos (p 57 (by decide)), if_neg (n 97 (by decide)), if_pos (p 102 (by decide)), if_neg (n 65 (by decide)), if_pos (p 70 (by decide))]
    · have key : ∀ n : Fin 128, own_f1 (Int32.ofNat n.val) = own_f2 (Int32.ofNat n.val) := by decide +kernel
      have hk := key ⟨c.toInt.toNat, by omega⟩
      have e : Int32.ofNat c.toInt.toNat = c := by
        rw [← Int32.toInt_inj, Int32.toInt_ofNat_of_lt (by omega)]; omega
      simp only [e] at hk
      exact hk
theorem own_law (x y : Int32) : own_f0 x y = 1 := by
  unfold own_f0 own_j0_3 own_j0_1 own_j0_2
  rw [if_pos (own_f12 _), if_pos (own_f12 _)]; decide
set_option maxRecDepth 65536 in
set_option maxHeartbeats 40000000 in
theorem comes_1 {Post : Tables → Env → Array Value → State → Outcome → State → Prop} (hpost : ∀ tb e args s v u, (limb_1_1.after args s (.returned v) u = true ∧ limb_1_2.after args s (.returned v) u = true) → FrameEnd s (.returned v) u (Jvm.fieldLocs frame_1_writes args s ++ Jvm.arrayLocs frame_1_arrays args s ++ Jvm.staticLocs frame_1_statics s) 0 0 → Post tb e args s (.returned v) u) :
    ArmFor flags0 classFile x code maxLocals ret World_1 tables_1 room_1 Calls_1 rest_1 Pre_1 Post := by
  intro l hfl _ _ p e ha hc hk s m args below hf hA hF happ hP
  obtain ⟨hcalls, hrest, hpre⟩ := hP
  obtain ⟨-, -, -, hnamed, -, -, -, hat⟩ := (Spec.applies_iff hf).mp happ
  obtain ⟨hg, hn⟩ := and_e (Cond.before_iff.mp (show (Jvm.Cond.and given_1 narrow_1).before args s = true from hpre))
  obtain ⟨gg1, gg2⟩ := and_e hg
  obtain ⟨gg3, gg4⟩ := and_e gg2
  obtain ⟨w0, w1, rfl⟩ : ∃ w0 w1 : Value, args = #[w0, w1] := by
    have hs : args.size = 2 := by simpa [Cond.value, given_1] using gg1
    obtain ⟨L⟩ := args
    match L, hs with
    | [w0, w1], _ => exact ⟨w0, w1, rfl⟩
  have hw := fun d (hd : d ∈ tables_1) => atoms_spec (ws := Jvm.Cond.code x code maxLocals ret :: tables_1) hat d (List.mem_cons_of_mem _ hd)
  have hfit : Fit s := fun {y c} hc i hi => by
    obtain ⟨ha, rfl⟩ := Array.getElem?_eq_some_iff.mp hc
    have q := List.all_eq_true.mp ((Array.all_eq_true_iff_forall_mem.mp hF) _ (Array.getElem_mem ha)) i (List.mem_range.mpr hi)
    simpa [Array.getElem?_eq_getElem hi] using q
  obtain ⟨i0, ei0⟩ := is_v gg3
  obtain rfl : w0 = (.int i0) := Option.some.inj ei0
  obtain ⟨i1, ei1⟩ := is_v gg4
  obtain rfl : w1 = (.int i1) := Option.some.inj ei1
  obtain ⟨a_H, cl_H, S_H, A_H, z_H, t_H⟩ := own_narrow hn hw
  obtain ⟨n, o, h1, h2, h3, v, L, rfl, hQ, hq⟩ := rm0 l s _ hw tables_1 i0 i1 cl_H a_H s.heap s.heap.size A_H z_H t_H S_H p e ha hc hk s m _ below hf ((Spec.applies_iff_loose hf).mp happ).1 ⟨rfl, State.Warmed39.refl s, rfl⟩ trivial
  obtain ⟨hv, N, -⟩ := hQ
  rw [show (own_f0 i0 i1 : Int32) = 1 from own_law i0 i1] at hv
  subst hv
  refine ⟨n, _, h1, h2, h3, hpost _ _ _ _ _ _ ⟨Cond.after_iff.mpr rfl, Cond.after_iff.mpr (eq_i res_at (Term.int_eval (1)) rfl)⟩ ⟨hq.1, hq.2.1, (hq.2.2.sift fun y hy => Or.inr (N y hy)).mono (by decide) (by decide)⟩⟩
theorem main_1_1 : Claimed_1_1 := comes_1 fun _ _ _ _ _ _ h hF => ⟨h.1, hF⟩
theorem main_1_2 : Claimed_1_2 := comes_1 fun _ _ _ _ _ _ h hF => ⟨h.2, hF⟩
end Jvm.Pilot.@@N@@
namespace Jvm.Pilot.@@N@@
open Jvm Jvm.ClassFile Sem Op Lib Jvm.Free Jvm.Stand Jvm.Pilot.@@N@@.Jvm.D
/-! MADE BY PROGRAM (witnessworld.py) out of the Statement's table words and the real class files: 9 classes; the members and pool entries that the words name. The judged class is class 1, her method 2. -/
namespace start1
open Jvm.ClassFile
def u (s : String) : CpInfo := .utf8 (stringToUtf16 s)
/-- a pool by its gaps: so many unusable entries, then the entry; so many at the end -/
def gap : Nat → List CpInfo → List CpInfo
  | 0, r => r
  | n + 1, r => .unusable :: gap n r
def poolList (es : List (Nat × CpInfo)) (last : Nat) : List CpInfo := es.foldr (fun e r => gap e.1 (e.2 :: r)) (gap last [])
def pool (es : List (Nat × CpInfo)) (last : Nat) : Array CpInfo := ⟨poolList es last⟩
def fileOf (pool : Array CpInfo) (this : Nat) (attrs : Array Attribute := #[]) (ms : Array MethodInfo := #[]) (fl : Nat := 33) (sup : Nat := 0) (ifs : Array Nat := #[]) (fds : Array FieldInfo := #[]) : ClassFile where
  minorVersion := 0
  majorVersion := 65
  constantPool := pool
  accessFlags := fl
  thisClass := this
  superClass := sup
  interfaces := ifs
  fields := fds
  methods := ms
  attributes := attrs
def plain (name : String) (sup : Option ClassId) : Class where
  name := name
  kind := .ordinary
  loader := none
  accessFlags := 33
  super := sup
  interfaces := #[]
  cf := none
  fields := #[]
  methods := #[]
  instanceTypes := #[]
  staticTypes := #[]
  resolved := #[]
  callSites := []
  init := .initialized
  statics := none
  mirror := none

def pool0 : Array CpInfo := pool [(5, u "<init>"), (0, u "()V"), (1, .class_ 10), (1, u "java/lang/Object")] 113

def k0m0 : Method := { name := "<init>", desc := "()V", sig := { parameters := [], returnType := none }, accessFlags := 1, code := none }
/-- java/lang/Object -/
def k0 : Class := { plain "java/lang/Object" none with
  accessFlags := 33
  interfaces := #[]
  cf := some (fileOf pool0 8 #[] #[{ accessFlags := 1, nameIndex := 5, descriptorIndex := 6, attributes := #[] }] 33 0 #[] #[])
  fields := #[]
  methods := #[k0m0]
  instanceTypes := #[]
  staticTypes := #[]
  resolved := Array.replicate 124 none
  statics := none }

def pool1 : Array CpInfo := pool [(2, .class_ 4), (1, u "java/lang/Object"), (0, u "<init>"), (0, u "()V"), (0, .methodref 8 9), (0, .class_ 10), (0, .nameAndType 11 12), (0, u "com/example/hermod/hermod/codec/PercentEncoding"), (0, u "hexValue"), (0, u "(I)I"), (0, .methodref 14 15), (0, .class_ 16), (0, .nameAndType 17 12), (0, u "com/example/hermod/hermod/codec/PercentEncodingHexValuePinLaw"), (0, u "ref"), (3, u "law"), (0, u "(II)Z")] 2

def k1m0 : Method := { name := "<init>", desc := "()V", sig := { parameters := [], returnType := none }, accessFlags := 2, code := none }
def k1c1 : Code := { maxStack := 2, maxLocals := 1, code := method_2_code, exceptionTable := #[], attributes := #[] }
def k1m1 : Method := { name := "ref", desc := "(I)I", sig := { parameters := [.int], returnType := some .int }, accessFlags := 10, code := some k1c1 }
def k1c2 : Code := { maxStack := 2, maxLocals := 5, code := code, exceptionTable := #[], attributes := #[] }
def k1m2 : Method := { name := "law", desc := "(II)Z", sig := { parameters := [.int, .int], returnType := some .boolean }, accessFlags := 9, code := some k1c2 }
/-- com/example/hermod/hermod/codec/PercentEncodingHexValuePinLaw -/
def k1 : Class := { plain "com/example/hermod/hermod/codec/PercentEncodingHexValuePinLaw" (some 0) with
  accessFlags := 49
  interfaces := #[]
  cf := some (fileOf pool1 14 #[] #[{ accessFlags := 2, nameIndex := 5, descriptorIndex := 6, attributes := #[] }, { accessFlags := 10, nameIndex := 17, descriptorIndex := 12, attributes := #[] }, { accessFlags := 9, nameIndex := 21, descriptorIndex := 22, attributes := #[] }] 49 2 #[] #[])
  fields := #[]
  methods := #[k1m0, k1m1, k1m2]
  instanceTypes := #[]
  staticTypes := #[]
  resolved := Array.replicate 25 none
  statics := none }

def pool2 : Array CpInfo := pool [(2, .class_ 4), (1, u "java/lang/Object"), (0, u "<init>"), (0, u "()V"), (32, .class_ 41), (1, u "com/example/hermod/hermod/codec/PercentEncoding"), (0, u "HEX"), (0, u "Ljava/util/HexFormat;"), (19, u "(I)I"), (6, u "hexValue"), (21, .fieldref 39 93), (0, .nameAndType 94 95), (0, u "HEX_VALUES"), (0, u "[B")] 26

def k2m0 : Method := { name := "<init>", desc := "()V", sig := { parameters := [], returnType := none }, accessFlags := 2, code := none }
def k2c1 : Code := { maxStack := 2, maxLocals := 1, code := prog_22_method_4_code, exceptionTable := #[], attributes := #[] }
def k2m1 : Method := { name := "hexValue", desc := "(I)I", sig := { parameters := [.int], returnType := some .int }, accessFlags := 8, code := some k2c1 }
/-- com/example/hermod/hermod/codec/PercentEncoding -/
def k2 : Class := { plain "com/example/hermod/hermod/codec/PercentEncoding" (some 0) with
  accessFlags := 33
  interfaces := #[]
  cf := some (fileOf pool2 39 #[] #[{ accessFlags := 2, nameIndex := 5, descriptorIndex := 6, attributes := #[] }, { accessFlags := 8, nameIndex := 70, descriptorIndex := 63, attributes := #[] }] 33 2 #[] #[{ accessFlags := 26, nameIndex := 42, descriptorIndex := 43, attributes := #[] }, { accessFlags := 26, nameIndex := 94, descriptorIndex := 95, attributes := #[] }])
  fields := #[{ name := "HEX", type := (.object "java/util/HexFormat"), accessFlags := 26, slot := 0, constantValue := 0 }, { name := "HEX_VALUES", type := (.array .byte), accessFlags := 26, slot := 1, constantValue := 0 }]
  methods := #[k2m0, k2m1]
  instanceTypes := #[]
  staticTypes := #[(.object "java/util/HexFormat"), (.array .byte)]
  resolved := Array.replicate 122 none
  statics := some 0 }

def pool3 : Array CpInfo := pool [(1, u "java/lang/Cloneable"), (0, .class_ 1), (0, u "java/lang/Object"), (0, .class_ 3)] 3

/-- java/lang/Cloneable -/
def k3 : Class := { plain "java/lang/Cloneable" (some 0) with
  accessFlags := 1537
  interfaces := #[]
  cf := some (fileOf pool3 2 #[] #[] 1537 4 #[] #[])
  fields := #[]
  methods := #[]
  instanceTypes := #[]
  staticTypes := #[]
  resolved := Array.replicate 8 none
  statics := none }

def pool4 : Array CpInfo := pool [(1, u "java/io/Serializable"), (0, .class_ 1), (0, u "java/lang/Object"), (0, .class_ 3)] 3

/-- java/io/Serializable -/
def k4 : Class := { plain "java/io/Serializable" (some 0) with
  accessFlags := 1537
  interfaces := #[]
  cf := some (fileOf pool4 2 #[] #[] 1537 4 #[] #[])
  fields := #[]
  methods := #[]
  instanceTypes := #[]
  staticTypes := #[]
  resolved := Array.replicate 8 none
  statics := none }

/-- the primitive byte -/
def k5 : Class := { plain "byte" none with kind := .primitive 'B', accessFlags := 0x411 }
/-- [B -/
def k6 : Class := { plain "[B" (some 0) with kind := .array 5 .byte, interfaces := #[3, 4], accessFlags := 1041 }

/-- the primitive int -/
def k7 : Class := { plain "int" none with kind := .primitive 'I', accessFlags := 0x411 }
/-- [I -/
def k8 : Class := { plain "[I" (some 0) with kind := .array 7 .int, interfaces := #[3, 4], accessFlags := 1041 }

def heap : Heap := #[{ cls := 2, slots := #[.null, .ref 1], vm := .statics 2 },
  { cls := 6, slots := #[.int (-1), .int (-1), .int (-1), .int (-1), .int (-1), .int (-1), .int (-1), .int (-1), .int (-1), .int (-1), .int (-1), .int (-1), .int (-1), .int (-1), .int (-1), .int (-1), .int (-1), .int (-1), .int (-1), .int (-1), .int (-1), .int (-1), .int (-1), .int (-1), .int (-1), .int (-1), .int (-1), .int (-1), .int (-1), .int (-1), .int (-1), .int (-1), .int (-1), .int (-1), .int (-1), .int (-1), .int (-1), .int (-1), .int (-1), .int (-1), .int (-1), .int (-1), .int (-1), .int (-1), .int (-1), .int (-1), .int (-1), .int (-1), .int (0), .int (1), .int (2), .int (3), .int (4), .int (5), .int (6), .int (7), .int (8), .int (9), .int (-1), .int (-1), .int (-1), .int (-1), .int (-1), .int (-1), .int (-1), .int (10), .int (11), .int (12), .int (13), .int (14), .int (15), .int (-1), .int (-1), .int (-1), .int (-1), .int (-1), .int (-1), .int (-1), .int (-1), .int (-1), .int (-1), .int (-1), .int (-1), .int (-1), .int (-1), .int (-1), .int (-1), .int (-1), .int (-1), .int (-1), .int (-1), .int (-1), .int (-1), .int (-1), .int (-1), .int (-1), .int (-1), .int (10), .int (11), .int (12), .int (13), .int (14), .int (15), .int (-1), .int (-1), .int (-1), .int (-1), .int (-1), .int (-1), .int (-1), .int (-1), .int (-1), .int (-1), .int (-1), .int (-1), .int (-1), .int (-1), .int (-1), .int (-1), .int (-1), .int (-1), .int (-1), .int (-1), .int (-1), .int (-1), .int (-1), .int (-1), .int (-1)], vm := .none }]
def classes : Array Class := #[k0, k1, k2, k3, k4, k5, k6, k7, k8]
def interned : List (Array UInt16 × Addr) := []
def slotsUsed : Nat := 130
def theMethod : MethodId := ⟨1, 2⟩
def args0 : Array Value := #[.int 5, .int 7]
def aboutOver (below : List Frame) : State where
  vm := { classes := classes, interned := interned.toArray }
  heap := heap
  slotsUsed := slotsUsed
  threads := #[{ frames := .invoking theMethod args0 :: below }]
def below0 : List Frame := [.native { method := ⟨0, 0⟩, args := #[] }]
def about1 : State := aboutOver below0
def p0 : Program := .bare "" "" ""
def e0 : Env := launch0.env 0 0 0
theorem w_frames : about1.frames = Frame.invoking theMethod args0 :: below0 := rfl
set_option maxRecDepth 65536 in
theorem w_args : argsFit about1.vm theMethod args0 = true := by decide +kernel
set_option maxRecDepth 65536 in
theorem w_heap : heapFits about1 = true := by decide +kernel
set_option maxRecDepth 65536 in
theorem w_runnable : about1.curStatus? = some .runnable := by decide +kernel
set_option maxRecDepth 65536 in
theorem w_alone : about1.alone = true := by decide +kernel
set_option maxRecDepth 65536 in
theorem w_named : about1.methodNamed? x = some theMethod := by decide +kernel
set_option maxRecDepth 65536 in
theorem w_hears : about1.hears theMethod below0 = true := by decide +kernel
set_option maxRecDepth 65536 in
theorem w_ripe : about1.ripe theMethod args0 below0 = true := by decide +kernel
theorem w_running : about1.status = .running := rfl
set_option maxRecDepth 65536 in
theorem w_room : about1.hasRoom e0.platform room_1 = true :=
  launch0.hasRoom_least _ room_1 (by decide +kernel) (by decide +kernel) (by decide +kernel) (by decide +kernel) (by decide +kernel) (by decide +kernel)
theorem allAtoms_all (ts : List Jvm.Cond) (a : Array Jvm.Value) (st : Jvm.State) : (allAtoms ts).before a st = ts.all (fun c => c.before a st) := by
  induction ts with
  | nil => rfl
  | cons c t ih =>
    show (Jvm.Cond.and c (allAtoms t)).before a st = _
    rw [Jvm.Cond.before_and, ih, List.all_cons]
def words1 : List Jvm.Cond := Jvm.Cond.code x code maxLocals ret :: tables_1
/-- a 'code' word, met by the world's own term for the bytes: nothing is compared byte by byte -/
theorem code_word {y : MethodName} {bytes : ByteArray} {mx : Nat} {rt : Option FieldType} {a : Array Value} {s : State} {m : MethodId} {meth : Method} {c : Code} (h1 : s.methodNamed? y = some m) (h2 : s.vm.method? m = some meth) (h3 : meth.code = some c) (h4 : c.code = bytes)
    (h5 : (c.maxLocals == mx && c.exceptionTable.isEmpty && decide (c.maxStack ≤ mostOperands) && decide (meth.sig.returnType = rt) && !meth.locks && decide (parseMethodDescriptor y.desc = some meth.sig)) = true) : (Jvm.Cond.code y bytes mx rt).before a s = true := by
  simp only [Bool.and_eq_true, beq_iff_eq, Bool.not_eq_true', decide_eq_true_eq] at h5
  obtain ⟨⟨⟨⟨⟨g1, g2⟩, g3⟩, g4⟩, g5⟩, g6⟩ := h5
  simp [Cond.before, Cond.holds, Cond.value, h1, h2, h3, h4, g1, g2, g3, g4, g5, g6]
def isCode : Jvm.Cond → Bool
  | .code _ _ _ _ => true
  | _ => false
theorem all_split {L : List Jvm.Cond} {P : Jvm.Cond → Bool} (h1 : L.all (fun c => isCode c || P c) = true) (h2 : ∀ c ∈ L.filter isCode, P c = true) : L.all P = true := by
  refine List.all_eq_true.mpr fun c hc => ?_
  have h := List.all_eq_true.mp h1 c hc
  rcases Bool.eq_false_or_eq_true (isCode c) with hi | hi
  · exact h2 c (List.mem_filter.mpr ⟨hc, hi⟩)
  · simpa [hi] using h
set_option maxRecDepth 65536 in
theorem w_c0 : (Jvm.Cond.code x code maxLocals ret).before args0 about1 = true := code_word (m := ⟨1, 2⟩) (meth := k1m2) (c := k1c2) (by decide +kernel) rfl rfl rfl (by decide +kernel)
set_option maxRecDepth 65536 in
theorem w_c1 : (Jvm.Cond.code ({ cls := "com/example/hermod/hermod/codec/PercentEncoding", name := "hexValue", desc := "(I)I" } : Jvm.MethodName) prog_22_method_4_code (1 : Nat) (Option.some Jvm.ClassFile.FieldType.int)).before args0 about1 = true := code_word (m := ⟨2, 1⟩) (meth := k2m1) (c := k2c1) (by decide +kernel) rfl rfl rfl (by decide +kernel)
set_option maxRecDepth 65536 in
theorem w_c2 : (Jvm.Cond.code ({ cls := "com/example/hermod/hermod/codec/PercentEncodingHexValuePinLaw", name := "ref", desc := "(I)I" } : Jvm.MethodName) method_2_code (1 : Nat) (Option.some Jvm.ClassFile.FieldType.int)).before args0 about1 = true := code_word (m := ⟨1, 1⟩) (meth := k1m1) (c := k1c1) (by decide +kernel) rfl rfl rfl (by decide +kernel)
def codes1 : List Jvm.Cond := [Jvm.Cond.code x code maxLocals ret, Jvm.Cond.code ({ cls := "com/example/hermod/hermod/codec/PercentEncoding", name := "hexValue", desc := "(I)I" } : Jvm.MethodName) prog_22_method_4_code (1 : Nat) (Option.some Jvm.ClassFile.FieldType.int), Jvm.Cond.code ({ cls := "com/example/hermod/hermod/codec/PercentEncodingHexValuePinLaw", name := "ref", desc := "(I)I" } : Jvm.MethodName) method_2_code (1 : Nat) (Option.some Jvm.ClassFile.FieldType.int)]
set_option maxRecDepth 65536 in
theorem codes_eq : words1.filter isCode = codes1 := rfl
theorem w_codes : ∀ c ∈ words1.filter isCode, c.before args0 about1 = true := by
  rw [codes_eq]
  intro c hc
  simp only [codes1, List.mem_cons, List.not_mem_nil, or_false] at hc
  rcases hc with rfl | rfl | rfl
  · exact w_c0
  · exact w_c1
  · exact w_c2
set_option maxRecDepth 65536 in
theorem w_t1 : words1.all (fun c => isCode c || c.before args0 about1) = true := by decide +kernel
theorem w_tables : (allAtoms (Jvm.Cond.code x code maxLocals ret :: tables_1)).before args0 about1 = true := by
  rw [allAtoms_all]
  show words1.all (fun c => c.before args0 about1) = true
  refine all_split ?_ w_codes
  rw [w_t1]
set_option maxRecDepth 65536 in
theorem w_case : (Jvm.Cond.and given_1 narrow_1).before args0 about1 = true := by decide +kernel
theorem w_applies : (headSpec (Jvm.Cond.code x code maxLocals ret :: tables_1) room_1).applies x e0.platform about1 = true :=
  (Spec.applies_iff w_frames).mpr ⟨w_running, w_runnable, w_alone, w_named, w_hears, w_ripe, w_room, w_tables⟩
theorem atStart : AtStart classFile x code maxLocals ret World_1 tables_1 room_1 Calls_1 rest_1 Pre_1 launch0 p0 e0 about1 theMethod args0 below0 :=
  ⟨lists_1, trivial, launch0.admits_env _ _ _, launch0.least_env, fairChoices_fair.cas, fairChoices_fair.clock, w_frames, w_args, w_heap, w_applies, trivial, trivial, w_case⟩
end start1
theorem witness_1 : WitnessClaimed_1 := ⟨start1.p0, start1.e0, start1.about1, start1.theMethod, start1.args0, start1.below0, start1.atStart⟩
end Jvm.Pilot.@@N@@
