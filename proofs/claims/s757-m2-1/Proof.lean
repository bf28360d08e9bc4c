import JvmDerived
import JvmDerived.Pilot.@@N@@Statement
import JvmDerived.Pilot.@@N@@Code
set_option linter.unusedVariables false
set_option linter.unusedSimpArgs false
@@BLOCK:NumsL.lean.txt@@
namespace Jvm.Pilot.@@N@@
open Jvm Jvm.ClassFile Sem Op Lib Jvm.Free Jvm.Stand Jvm.LawKit Jvm.RoadKit Bundle Jvm.Pilot.@@N@@.Jvm.D
section Own
variable {p : Program} {l : Launch} {e : Env} {R rm : Room} {s : State} {m : MethodId} {args : Array Value} {below : List Frame} {meth : Method} {c : Code} {T : State} {locs : List Loc} {cells slots : Nat} {Z : State} {a0 : Array Value} {h : Heap}
/-- the run comes to the end of the invocation, and what is asked holds there -/
def own_Goes (p : Program) (e : Env) (below : List Frame) (G : Outcome → State → Prop) (S : State) : Prop := ∃ s₂ o, Steps p.tables e below S s₂ ∧ s₂.status = .running ∧ Ended s₂ below o ∧ G o s₂
theorem own_go {G : Outcome → State → Prop} {S S' : State} (h : ∀ t, Steps p.tables e below S' t → Steps p.tables e below S t) (k : own_Goes p e below G S') : own_Goes p e below G S := by
  obtain ⟨s₂, o, h1, h2⟩ := k
  exact ⟨s₂, o, h _ h1, h2⟩
theorem own_tr {G : Outcome → State → Prop} {S S' : State} (h : Steps p.tables e below S S') (k : own_Goes p e below G S') : own_Goes p e below G S := own_go (fun _ q => h.trans q) k
abbrev own_End (s : State) (rm : Room) (Q : Option Value → Heap → List Loc → Prop) : Outcome → State → Prop := fun o U' => ∃ v L, o = .returned v ∧ Q v U'.heap L ∧ FrameEnd s o U' L rm.cells rm.slots
/-- a body's contract: with these arguments, over this heap, it returns and leaves what Q says -/
def own_Met (l : Launch) (Z : State) (y : MethodName) (bytes : ByteArray) (maxL : Nat) (ret : Option FieldType) (ws : List Jvm.Cond) (rm : Room) (as : Array Value) (h0 : Heap) (Q : Option Value → Heap → List Loc → Prop) : Prop :=
  MetFree l y (head1 (Jvm.Cond.code y bytes maxL ret :: ws) rm) (fun a U => a = as ∧ Z.Warmed39 U.vm ∧ U.heap = h0) (fun _ _ _ _ _ => True) (fun _ U o U' => ∃ v L, o = .returned v ∧ Q v U'.heap L ∧ FrameEnd U o U' L rm.cells rm.slots)
theorem own_met {y : MethodName} {bytes : ByteArray} {maxL : Nat} {ret : Option FieldType} {ws : List Jvm.Cond} {as : Array Value} {h0 : Heap} {Q : Option Value → Heap → List Loc → Prop} (hp : plainFor y = true)
    (body : ∀ (p : Program) (e : Env) (s : State) (m : MethodId) (below : List Frame) (meth : Method) (c : Code) (s₁ : State), p.tables.exec = Jvm.exec → c.code = bytes → c.maxLocals = maxL → s.vm.findClass y.cls = some m.cls → meth.name = y.name → meth.sig.returnType = ret → meth.locks = false → Z.Warmed39 s.vm → s₁.heap = h0 →
      Stand p l e rm s m as below meth c s₁ [] 0 0 → own_Goes p e below (own_End s rm Q) (s₁.setTop (entryFrame m as maxL))) : own_Met l Z y bytes maxL ret ws rm as h0 Q := by
  refine MetFree.of_bodySF hp hisR ?_
  intro p e s m args below meth c s₁ Bd hml hP hK
  obtain ⟨rfl, hZ, hh⟩ := hP
  exact body p e s m below meth c s₁ Bd.exec Bd.bytes hml (findClass_of_methodNamed Bd.named) (name_of_methodNamed Bd.named Bd.method).1 Bd.returns Bd.notSynchronized hZ (by rw [← hh, Bd.state]; rfl) (Stand.of_body Bd)
/-- the returns -/
theorem own_retV {Q : Option Value → Heap → List Loc → Prop} (X : Stand p l e rm s m args below meth c T locs cells slots) (hx : p.tables.exec = Jvm.exec) (hlk : meth.locks = false) {pc : Nat} {Ls : Array Slot} {w : Value} {t : FieldType} {i : Instr} {rest : List Value} (hret : meth.sig.returnType = some t) (hn : narrow t w = w)
    (hi : (i = .ireturn ∧ (t = .int ∨ t = .boolean ∨ t = .byte ∨ t = .char ∨ t = .short) ∧ ∃ z, w = .int z) ∨ (i = .lreturn ∧ t = .long ∧ ∃ z, w = .long z) ∨ (i = .dreturn ∧ t = .double ∧ ∃ z, w = .double z) ∨ (i = .freturn ∧ t = .float ∧ ∃ z, w = .float z) ∨ (i = .areturn ∧ t.isReference = true ∧ w.isRef = true))
    (hd : decode c.code pc = .ok (i, 1)) (hc : cells ≤ rm.cells) (hs : slots ≤ rm.slots) (hq : Q (some w) T.heap locs) : own_Goes p e below (own_End s rm Q) (T.setTop (mkF m pc Ls (w :: rest))) := by
  obtain ⟨fs, hr, hrun, hended, hW, hsame⟩ := X.leave (v := some w) (fun h => by rw [hret] at h; cases h) hlk
  exact ⟨_, _, retOut X hx hret hn hi hd hr, hrun, hended, _, _, rfl, hq, ⟨_, rfl⟩, hW, hsame.mono hc hs⟩
theorem own_retI {Q : Option Value → Heap → List Loc → Prop} (X : Stand p l e rm s m args below meth c T locs cells slots) (hx : p.tables.exec = Jvm.exec) (hlk : meth.locks = false) {pc : Nat} {Ls : Array Slot} {z : Int32} {rest : List Value} (hret : meth.sig.returnType = some .int)
    (hd : decode c.code pc = .ok (.ireturn, 1)) (hc : cells ≤ rm.cells) (hs : slots ≤ rm.slots) (hq : Q (some (.int z)) T.heap locs) : own_Goes p e below (own_End s rm Q) (T.setTop (mkF m pc Ls (.int z :: rest))) :=
  own_retV X hx hlk hret rfl (Or.inl ⟨rfl, Or.inl rfl, z, rfl⟩) hd hc hs hq
theorem own_retJ {Q : Option Value → Heap → List Loc → Prop} (X : Stand p l e rm s m args below meth c T locs cells slots) (hx : p.tables.exec = Jvm.exec) (hlk : meth.locks = false) {pc : Nat} {Ls : Array Slot} {z : Int64} {rest : List Value} (hret : meth.sig.returnType = some .long)
    (hd : decode c.code pc = .ok (.lreturn, 1)) (hc : cells ≤ rm.cells) (hs : slots ≤ rm.slots) (hq : Q (some (.long z)) T.heap locs) : own_Goes p e below (own_End s rm Q) (T.setTop (mkF m pc Ls (.long z :: rest))) :=
  own_retV X hx hlk hret rfl (Or.inr (Or.inl ⟨rfl, rfl, z, rfl⟩)) hd hc hs hq
theorem own_retR {Q : Option Value → Heap → List Loc → Prop} (X : Stand p l e rm s m args below meth c T locs cells slots) (hx : p.tables.exec = Jvm.exec) (hlk : meth.locks = false) {pc : Nat} {Ls : Array Slot} {w : Value} {t : FieldType} {rest : List Value} (hret : meth.sig.returnType = some t) (ht : t.isReference = true) (hw : w.isRef = true)
    (hd : decode c.code pc = .ok (.areturn, 1)) (hc : cells ≤ rm.cells) (hs : slots ≤ rm.slots) (hq : Q (some w) T.heap locs) : own_Goes p e below (own_End s rm Q) (T.setTop (mkF m pc Ls (w :: rest))) :=
  own_retV X hx hlk hret (by cases t <;> first | rfl | cases ht) (Or.inr (Or.inr (Or.inr (Or.inr ⟨rfl, ht, hw⟩)))) hd hc hs hq
theorem own_retN {Q : Option Value → Heap → List Loc → Prop} (X : Stand p l e rm s m args below meth c T locs cells slots) (hx : p.tables.exec = Jvm.exec) (hlk : meth.locks = false) {pc : Nat} {Ls : Array Slot} {z z' : Int32} {t : FieldType} {rest : List Value} (hret : meth.sig.returnType = some t) (ht : t = .boolean ∨ t = .byte ∨ t = .char ∨ t = .short) (hz : nar t z = z')
    (hd : decode c.code pc = .ok (.ireturn, 1)) (hc : cells ≤ rm.cells) (hs : slots ≤ rm.slots) (hq : Q (some (.int z')) T.heap locs) : own_Goes p e below (own_End s rm Q) (T.setTop (mkF m pc Ls (.int z :: rest))) := by
  subst hz
  obtain ⟨fs, hr, hrun, hended, hW, hsame⟩ := X.leave (v := some (.int (nar t z))) (fun h => by rw [hret] at h; cases h) hlk
  exact ⟨_, _, retN X hx hret ht hd hr, hrun, hended, _, _, rfl, hq, ⟨_, rfl⟩, hW, hsame.mono hc hs⟩
theorem own_ret0 {Q : Option Value → Heap → List Loc → Prop} (X : Stand p l e rm s m args below meth c T locs cells slots) (hx : p.tables.exec = Jvm.exec) (hlk : meth.locks = false) {pc : Nat} {Ls : Array Slot} (hret : meth.sig.returnType = none)
    (hd : decode c.code pc = .ok (.return_, 1)) (hc : cells ≤ rm.cells) (hs : slots ≤ rm.slots) (hq : Q none T.heap locs) : own_Goes p e below (own_End s rm Q) (T.setTop (mkF m pc Ls [])) := by
  obtain ⟨fs, hr, hrun, hended, hW, hsame⟩ := X.leave (v := none) (fun _ => rfl) hlk
  exact ⟨_, _, X.returnOut hx hret hd hr, hrun, hended, _, _, rfl, hq, ⟨_, rfl⟩, hW, hsame.mono hc hs⟩
/-- a static call by the callee's contract -/
theorem own_callS (X : Stand p l e R s m args below meth c T locs cells slots) (hx : p.tables.exec = Jvm.exec) (hZ : Z.Warmed39 s.vm) {own : String} {index : Nat} {y : MethodName} {bytes : ByteArray} {maxL : Nat} {ret : Option FieldType} (hown : s.vm.findClass own = some m.cls)
    (w1 : (Jvm.Cond.methodLink own index y).before a0 Z = true) (w2 : (Jvm.Cond.static y).before a0 Z = true) (w3 : (Jvm.Cond.initialized y.cls).before a0 Z = true) (w4 : (Jvm.Cond.code y bytes maxL ret).before a0 Z = true) (hy : y.cls ≠ "java/lang/invoke/MethodHandle" ∧ y.cls ≠ "java/lang/invoke/VarHandle")
    {as : List Value} {Q : Option Value → Heap → List Loc → Prop} (hM : own_Met l Z y bytes maxL ret [] rm as.toArray h Q) (eT : T.heap = h) {ps : List FieldType} {rt : Option FieldType} (hpd : parseMethodDescriptor y.desc = some ⟨ps, rt⟩) (hlen : as.length = ps.length)
    {pc : Nat} {Ls : Array Slot} {rest : List Value} {W : Nat} (hsize : Ls.size = c.maxLocals) (hW : (rest.map fun v => v.category).sum ≤ W) (hf : rm.frames + 1 ≤ R.frames) (hl : W + (maxL + 11) + rm.locals ≤ R.locals) (hd : decode c.code pc = .ok (.invokestatic index, 3)) (hc : cells + rm.cells ≤ R.cells) (hs : slots + rm.slots ≤ R.slots) :
    ∃ (v : Option Value) (T' : State) (L' : List Loc), Stand p l e R s m args below meth c T' (locs ++ L') (cells + rm.cells) (slots + rm.slots) ∧ Q v T'.heap L' ∧ ∀ target, Steps p.tables e below (T'.setTop (mkF m (pc + 3) Ls (v.toList ++ rest))) target → Steps p.tables e below (T.setTop (mkF m pc Ls (as.reverse ++ rest))) target := by
  obtain ⟨v, _, ⟨T', L', k', n'⟩, -, X', ⟨Lc, hQ, hl', hk', hn'⟩, st⟩ := Jvm.LawKit.callS X hx (y := y) hown (mvT hZ w1) (mvT hZ w2) (mvT hZ w3) (mvT hZ w4) hy (backOf (W := W) hM hZ w4 w3 hf hl) (g := mkF m pc Ls (as.reverse ++ rest)) rfl hsize (argsL := as) (rest := rest) (lenOf hpd hlen) rfl (by show 2 * 0 + _ ≤ _; omega) hd (fun _ _ => ⟨rfl, eT, hc, hs⟩)
  dsimp only [Pt.U, Pt.locs, Pt.cells, Pt.slots] at X' hl' hk' hn' st hQ
  subst hl' hk' hn'
  exact ⟨v, T', Lc, X', hQ, st⟩
/-- an instance method by the contract of the body that the receiver's class selects -/
theorem own_callV (X : Stand p l e R s m args below meth c T locs cells slots) (hx : p.tables.exec = Jvm.exec) (hZ : Z.Warmed39 s.vm) {own C : String} {index : Nat} {y : MethodName} {bytes : ByteArray} {maxL : Nat} {ret : Option FieldType} (hown : s.vm.findClass own = some m.cls)
    (w1 : (Jvm.Cond.methodLink own index y).before a0 Z = true) (w2 : (Jvm.Cond.declares y).before a0 Z = true) (w3 : (Jvm.Cond.selects C y y).before a0 Z = true) (w4 : (Jvm.Cond.instanceMethod y).before a0 Z = true) (w5 : (Jvm.Cond.initialized y.cls).before a0 Z = true) (w6 : (Jvm.Cond.code y bytes maxL ret).before a0 Z = true) (hy : y.cls ≠ "java/lang/invoke/MethodHandle" ∧ y.cls ≠ "java/lang/invoke/VarHandle")
    {b : Addr} {as : List Value} {Q : Option Value → Heap → List Loc → Prop} (hM : own_Met l Z y bytes maxL ret [] rm (Value.ref b :: as).toArray h Q) (eT : T.heap = h) (E : Exa Z h b C) {ps : List FieldType} {rt : Option FieldType} (hpd : parseMethodDescriptor y.desc = some ⟨ps, rt⟩) (hlen : as.length = ps.length)
    {pc : Nat} {Ls : Array Slot} {rest : List Value} {W : Nat} (hsize : Ls.size = c.maxLocals) (hW : (rest.map fun v => v.category).sum ≤ W) (hf : rm.frames + 1 ≤ R.frames) (hl : W + (maxL + 11) + rm.locals ≤ R.locals) (hd : decode c.code pc = .ok (.invokevirtual index, 3)) (hc : cells + rm.cells ≤ R.cells) (hs : slots + rm.slots ≤ R.slots) :
    ∃ (v : Option Value) (T' : State) (L' : List Loc), Stand p l e R s m args below meth c T' (locs ++ L') (cells + rm.cells) (slots + rm.slots) ∧ Q v T'.heap L' ∧ ∀ target, Steps p.tables e below (T'.setTop (mkF m (pc + 3) Ls (v.toList ++ rest))) target → Steps p.tables e below (T.setTop (mkF m pc Ls (as.reverse ++ Value.ref b :: rest))) target := by
  obtain ⟨cq, kq, qa, qb, qc⟩ := isOf hZ eT E
  obtain ⟨v, _, ⟨T', L', k', n'⟩, -, X', ⟨Lc, hQ, hl', hk', hn'⟩, st⟩ := X.virtualBack hx (y := y) (z := y) hown (mvT hZ w1) (mvT hZ w2) (notFace_of_selects (args := #[]) (mvT hZ w3)) (mvT hZ w3) (mvT hZ w4) hy (backOf (W := W) hM hZ w6 w5 hf hl) qa qc (g := mkF m pc Ls (as.reverse ++ Value.ref b :: rest)) rfl hsize (Steps.refl _) (argsL := as) (rest := rest) (lenOf hpd hlen) rfl (by show 2 * 0 + _ ≤ _; omega) hd (fun _ _ => ⟨rfl, eT, hc, hs⟩)
  dsimp only [Pt.U, Pt.locs, Pt.cells, Pt.slots] at X' hl' hk' hn' st hQ
  subst hl' hk' hn'
  exact ⟨v, T', Lc, X', hQ, fun _ q => st.trans q⟩
/-- a constructor by its contract -/
theorem own_callI (X : Stand p l e R s m args below meth c T locs cells slots) (hx : p.tables.exec = Jvm.exec) (hZ : Z.Warmed39 s.vm) {own : String} {index : Nat} {y : MethodName} {bytes : ByteArray} {maxL : Nat} (hy1 : y.name = "<init>") (hown : s.vm.findClass own = some m.cls)
    (w1 : (Jvm.Cond.methodLink own index y).before a0 Z = true) (w4 : (Jvm.Cond.instanceMethod y).before a0 Z = true) (w5 : (Jvm.Cond.initialized y.cls).before a0 Z = true) (w6 : (Jvm.Cond.code y bytes maxL none).before a0 Z = true) (hy : y.cls ≠ "java/lang/invoke/MethodHandle" ∧ y.cls ≠ "java/lang/invoke/VarHandle")
    {b : Addr} {as : List Value} {Q : Option Value → Heap → List Loc → Prop} (hM : own_Met l Z y bytes maxL none [] rm (Value.ref b :: as).toArray h Q) (eT : T.heap = h) {ps : List FieldType} {rt : Option FieldType} (hpd : parseMethodDescriptor y.desc = some ⟨ps, rt⟩) (hlen : as.length = ps.length)
    {pc : Nat} {Ls : Array Slot} {rest : List Value} {W : Nat} (hsize : Ls.size = c.maxLocals) (hW : (rest.map fun v => v.category).sum ≤ W) (hf : rm.frames + 1 ≤ R.frames) (hl : W + (maxL + 11) + rm.locals ≤ R.locals) (hd : decode c.code pc = .ok (.invokespecial index, 3)) (hc : cells + rm.cells ≤ R.cells) (hs : slots + rm.slots ≤ R.slots) :
    ∃ (v : Option Value) (T' : State) (L' : List Loc), Stand p l e R s m args below meth c T' (locs ++ L') (cells + rm.cells) (slots + rm.slots) ∧ Q v T'.heap L' ∧ ∀ target, Steps p.tables e below (T'.setTop (mkF m (pc + 3) Ls (v.toList ++ rest))) target → Steps p.tables e below (T.setTop (mkF m pc Ls (as.reverse ++ Value.ref b :: rest))) target := by
  obtain ⟨v, _, ⟨T', L', k', n'⟩, -, X', ⟨Lc, hQ, hl', hk', hn'⟩, st⟩ := X.specialBack hx (y := y) hy1 hown (mvT hZ w1) (mvT hZ w4) (mvT hZ w6) hy (backOf (W := W) hM hZ w6 w5 hf hl) (g := mkF m pc Ls (as.reverse ++ Value.ref b :: rest)) rfl hsize (Steps.refl _) (a := b) (argsL := as) (rest := rest) (lenOf hpd hlen) rfl (by show 2 * 0 + _ ≤ _; omega) hd (fun _ _ => ⟨rfl, eT, hc, hs⟩)
  dsimp only [Pt.U, Pt.locs, Pt.cells, Pt.slots] at X' hl' hk' hn' st hQ
  subst hl' hk' hn'
  exact ⟨v, T', Lc, X', hQ, fun _ q => st.trans q⟩
end Own
section OwnWords
variable {args : Array Value} {first s : State} {o : Option Outcome} {idx : List Nat} {a b t : Term} {G Y : Jvm.Cond}
theorem own_eqI {k : Int32} (h : (Jvm.Cond.eq a b).value args first o s idx = some true) (hb : b.eval args first o idx s = some (.int k)) : a.eval args first o idx s = some (.int k) := by
  obtain ⟨x, y, h1, h2, h3, h4⟩ := cmp_v (Or.inl h)
  cases hb.symm.trans h2
  obtain ⟨z, rfl⟩ := h4
  simp only [Jvm.Cond.value, h1, hb] at h
  rw [h1]
  simpa using h
theorem own_eqJ {k : Int64} (h : (Jvm.Cond.eq a b).value args first o s idx = some true) (hb : b.eval args first o idx s = some (.long k)) : a.eval args first o idx s = some (.long k) := by
  obtain ⟨x, y, h1, h2, h3, h4⟩ := cmp_v (Or.inl h)
  cases hb.symm.trans h2
  obtain ⟨z, rfl⟩ := h4
  simp only [Jvm.Cond.value, h1, hb] at h
  rw [h1]
  simpa using h
theorem own_or (h : (Jvm.Cond.or G Y).value args first o s idx = some true) (h1 : G.value args first o s idx = some false) : Y.value args first o s idx = some true := by
  simpa [Jvm.Cond.value, h1] using h
theorem own_ixlt {j k : Int32} (hj : ¬ j < 0) (hk : ¬ j < k) : (Jvm.Cond.lt (Jvm.Term.index 0) (Jvm.Term.int k)).value args first o s [j.toNatClampNeg] = some false := by
  have e := idx_at (args := args) (first := first) (o := o) (s := s) hj
  have f : (Jvm.Term.int k).eval args first o [j.toNatClampNeg] s = some (.int k) := Term.int_eval _
  rw [Cond.lt_ints e f]
  simp [hk]
theorem own_ixle {j k : Int32} (hj : ¬ j < 0) (hk : j < k) : (Jvm.Cond.le (Jvm.Term.int k) (Jvm.Term.index 0)).value args first o s [j.toNatClampNeg] = some false := by
  have e := idx_at (args := args) (first := first) (o := o) (s := s) hj
  have f : (Jvm.Term.int k).eval args first o [j.toNatClampNeg] s = some (.int k) := Term.int_eval _
  rw [Cond.le_ints f e]
  simp [Int32.not_le.mpr hk]
theorem own_ixsub {j k : Int32} (hj : ¬ j < 0) : (Jvm.Term.sub (Jvm.Term.index 0) (Jvm.Term.int k)).eval args first o [j.toNatClampNeg] s = some (.int (j - k)) := by
  have e := idx_at (args := args) (first := first) (o := o) (s := s) hj
  have f : (Jvm.Term.int k).eval args first o [j.toNatClampNeg] s = some (.int k) := Term.int_eval _
  rw [Term.eval, e, f]
  rfl
/-- a field that the case says to hold a number -/
theorem own_fldI {C n d : String} {x : Addr} {k : Int32} (ht : t.eval args s none [] s = some (.ref x)) (h : (Jvm.Cond.eq (Term.field t C n d) (Term.int k)).value args s none s [] = some true) : Fld s s.heap x C n d (.int k) := by
  have e := own_eqI h (Term.int_eval _)
  rw [fld_at ht] at e
  exact Fld.start e
theorem own_fldJ {C n d : String} {x : Addr} {k : Int64} (ht : t.eval args s none [] s = some (.ref x)) (h : (Jvm.Cond.eq (Term.field t C n d) (Term.long k)).value args s none s [] = some true) : Fld s s.heap x C n d (.long k) := by
  have e := own_eqJ h (show (Term.long k).eval args s none [] s = some (.long k) by simp [Term.eval])
  rw [fld_at ht] at e
  exact Fld.start e
end OwnWords

def own_tab (j : Int32) : Int32 := if j < 33 then (0 : Int32) else if j < 34 then (1 : Int32) else if j < 35 then (0 : Int32) else if j < 40 then (1 : Int32) else if j < 41 then (0 : Int32) else if j < 42 then (0 : Int32) else if j < 43 then (1 : Int32) else if j < 44 then (1 : Int32) else if j < 45 then (0 : Int32) else if j < 46 then (1 : Int32) else if j < 47 then (1 : Int32) else if j < 48 then (0 : Int32) else if j < 58 then (1 : Int32) else if j < 65 then (0 : Int32) else if j < 91 then (1 : Int32) else if j < 92 then (0 : Int32) else if j < 93 then (0 : Int32) else if j < 94 then (0 : Int32) else if j < 127 then (1 : Int32) else (0 : Int32)
theorem own_t2 : (Jvm.Cond.initialized "com/example/hermod/hermod/header/FieldTokenizer") ∈ tables_1 := List.mem_of_getElem? (i := 2) rfl
theorem own_t5 : (Jvm.Cond.laysStatic "com/example/hermod/hermod/header/FieldTokenizer" "TOKEN_CHARACTERS" "[Z") ∈ tables_1 := List.mem_of_getElem? (i := 5) rfl
theorem own_d1_0 : decode prog_31_method_10_code 0 = .ok (.iload_n 0, 1) := by decide +kernel
theorem own_d1_1 : decode prog_31_method_10_code 1 = .ok (.ifCond .lt 23, 3) := by decide +kernel
theorem own_d1_24 : decode prog_31_method_10_code 24 = .ok (.iconst 0, 1) := by decide +kernel
theorem own_d1_4 : decode prog_31_method_10_code 4 = .ok (.iload_n 0, 1) := by decide +kernel
theorem own_d1_5 : decode prog_31_method_10_code 5 = .ok (.getstatic 86, 3) := by decide +kernel
theorem own_t4 : (Jvm.Cond.fieldLink "com/example/hermod/hermod/header/FieldTokenizer" (86 : Nat) "com/example/hermod/hermod/header/FieldTokenizer" "TOKEN_CHARACTERS" "[Z") ∈ tables_1 := List.mem_of_getElem? (i := 4) rfl
theorem own_d1_8 : decode prog_31_method_10_code 8 = .ok (.arraylength, 1) := by decide +kernel
theorem own_d1_9 : decode prog_31_method_10_code 9 = .ok (.if_icmp .ge 15, 3) := by decide +kernel
theorem own_d1_12 : decode prog_31_method_10_code 12 = .ok (.getstatic 86, 3) := by decide +kernel
theorem own_d1_15 : decode prog_31_method_10_code 15 = .ok (.iload_n 0, 1) := by decide +kernel
theorem own_d1_16 : decode prog_31_method_10_code 16 = .ok (.baload, 1) := by decide +kernel
theorem own_d1_17 : decode prog_31_method_10_code 17 = .ok (.ifCond .eq 7, 3) := by decide +kernel
theorem own_d1_20 : decode prog_31_method_10_code 20 = .ok (.iconst 1, 1) := by decide +kernel
theorem own_d1_21 : decode prog_31_method_10_code 21 = .ok (.goto 4, 3) := by decide +kernel
theorem own_pn0 : plainName "com/example/hermod/hermod/header/FieldTokenizer" = true := by first | (simp [plainName, overriddenIn]; done) | decide +kernel
theorem own_d1_25 : decode prog_31_method_10_code 25 = .ok (.ireturn, 1) := by decide +kernel
def own_j1_1 (x0 : Int32) : Int32 := (if x0 < (0 : Int32) then (0 : Int32) else (if x0 < (128 : Int32) then (if (own_tab x0) = (0 : Int32) then (0 : Int32) else (1 : Int32)) else (0 : Int32)))
def own_f1 (x0 : Int32) : Int32 := ((own_j1_1 x0) &&& 1)
def own_Q1 (x0 : Int32) (s_H : Addr) (h0 : Heap) (n0 : Nat) (v : Option Value) (h : Heap) (L : List Loc) : Prop := v = some (.int (own_f1 x0)) ∧ Fr n0 L ∧ h = h0
abbrev own_R1 : Room := { frames := 0, cells := 0, slots := 0, locals := 0 }
theorem own_ef1 (m : MethodId) (z0 : Int32) : entryFrame m #[(.int z0)] 1 = mkF m 0 #[.val (.int z0)] [] := by first | (simp [entryFrame, mkF, argsToLocals, Value.category]; done) | rfl
set_option maxRecDepth 65536 in
set_option maxHeartbeats 40000000 in
theorem rm1 (l : Launch) (Z : State) (a0 : Array Value) (hw : ∀ d ∈ tables_1, d.before a0 Z = true) (ws : List Jvm.Cond) (x0 : Int32) (cl_H : Cell) (s_H : Addr) (h0 : Heap) (n0 : Nat) (A_H : Arr Z h0 s_H cl_H .boolean) (z_H : cl_H.slots.size = (128 : Int32).toNatClampNeg) (t_H : ∀ j : Int32, ¬ j < 0 → j < 128 → cl_H.slots[j.toNatClampNeg]? = some (.int (own_tab j))) (S_s_H : Sta Z h0 "com/example/hermod/hermod/header/FieldTokenizer" "TOKEN_CHARACTERS" "[Z" (.ref s_H)) : own_Met l Z (⟨"com/example/hermod/hermod/header/FieldTokenizer", "isAsciiTokenCharacter", "(I)Z"⟩ : MethodName) prog_31_method_10_code 1 (some .boolean) ws own_R1 #[(.int x0)] h0 (own_Q1 x0 s_H h0 n0) := by
  refine own_met (plainFor_of_name own_pn0) ?_
  intro p e s m below meth c s₁ hx hby hml hown hnm hret hlk hZ e0 X0
  have N0 := Fr.nil n0
  have hml : c.maxLocals = 1 := hml
  have hown : s.vm.findClass "com/example/hermod/hermod/header/FieldTokenizer" = some m.cls := hown
  have hret : meth.sig.returnType = (some .boolean) := hret
  have hby : c.code = prog_31_method_10_code := hby
  have hnm : meth.name = "isAsciiTokenCharacter" := hnm
  rw [own_ef1]
  show own_Goes p e below _ (s₁.setTop (mkF m 0 #[.val (.int x0)] []))
  refine own_go (fun t k => XS.iloadN X0.here hx rfl (hb hby own_d1_0) rfl k) ?_
  show own_Goes p e below _ (s₁.setTop (mkF m 1 #[.val (.int x0)] [(.int x0)]))
  suffices HH6 : ∀ (T6 : State) (L6 : List Loc) (X6 : Stand p l e own_R1 s m #[(.int x0)] below meth c T6 L6 0 0) (e6 : T6.heap = h0) (N6 : Fr n0 L6), own_Goes p e below (own_End s own_R1 (own_Q1 x0 s_H h0 n0)) (T6.setTop (mkF m 25 #[.val (.int x0)] [(.int (own_j1_1 x0))])) by
    by_cases hc1 : x0 < (0 : Int32)
    · refine own_go (fun t k => XS.ifYes X0.here hx rfl (pc0 := 1) (pc' := 24) rfl (hb hby own_d1_1) rfl ((if0 _ _).trans (tlt hc1).1) (by decide) (by decide) k) ?_
      show own_Goes p e below _ (s₁.setTop (mkF m 24 #[.val (.int x0)] []))
      refine own_go (fun t k => XS.iconst X0.here hx rfl (hb hby own_d1_24) k) ?_
      rw [show (own_j1_1 x0) = (0 : Int32) from by rw [own_j1_1, if_pos hc1]] at HH6
      exact HH6 _ _ X0 e0 N0
    · refine own_go (fun t k => XS.ifNo X0.here hx rfl (hb hby own_d1_1) rfl ((if0 _ _).trans (flt hc1).1) k) ?_
      show own_Goes p e below _ (s₁.setTop (mkF m 4 #[.val (.int x0)] []))
      refine own_go (fun t k => XS.iloadN X0.here hx rfl (hb hby own_d1_4) rfl k) ?_
      show own_Goes p e below _ (s₁.setTop (mkF m 5 #[.val (.int x0)] [(.int x0)]))
      obtain ⟨T2, X2, e2, st2⟩ := getS2 X0 hx hZ hown (host := "") (Or.inl (hw _ own_t4)) Via.refl e0 S_s_H (g := (mkF m 5 #[.val (.int x0)] [(.int x0)])) rfl (hb hby own_d1_5)
      refine own_go st2 ?_
      show own_Goes p e below _ (T2.setTop (mkF m 8 #[.val (.int x0)] [(.ref s_H), (.int x0)]))
      refine own_go (fun t k => X2.arraylength hx (by rw [e2]; exact A_H.1) (State.isArrayOf_alike hZ.alike A_H.2.1) (g := (mkF m 8 #[.val (.int x0)] [(.ref s_H), (.int x0)])) rfl rfl (hb hby own_d1_8) t k) ?_
      rw [len_of z_H (by decide)]
      show own_Goes p e below _ (T2.setTop (mkF m 9 #[.val (.int x0)] [(.int (128 : Int32)), (.int x0)]))
      by_cases hc3 : x0 < (128 : Int32)
      · refine own_go (fun t k => XS.icmpNo X2.here hx rfl (hb hby own_d1_9) rfl (tlt hc3).2.1 k) ?_
        show own_Goes p e below _ (T2.setTop (mkF m 12 #[.val (.int x0)] []))
        obtain ⟨T4, X4, e4, st4⟩ := getS2 X2 hx hZ hown (host := "") (Or.inl (hw _ own_t4)) Via.refl e2 S_s_H (g := (mkF m 12 #[.val (.int x0)] [])) rfl (hb hby own_d1_12)
        refine own_go st4 ?_
        show own_Goes p e below _ (T4.setTop (mkF m 15 #[.val (.int x0)] [(.ref s_H)]))
        refine own_go (fun t k => XS.iloadN X4.here hx rfl (hb hby own_d1_15) rfl k) ?_
        show own_Goes p e below _ (T4.setTop (mkF m 16 #[.val (.int x0)] [(.int x0), (.ref s_H)]))
        refine own_go (fun t k => X4.baloadBooleans hx (j := x0) (v := (.int (own_tab x0))) (by rw [e4]; exact A_H.1) (State.isArrayOf_alike hZ.alike A_H.2.1) A_H.2.2 (inb_of z_H ⟨hc1, hc3⟩) (t_H _ hc1 hc3) (g := (mkF m 16 #[.val (.int x0)] [(.int x0), (.ref s_H)])) rfl rfl (hb hby own_d1_16) t k) ?_
        show own_Goes p e below _ (T4.setTop (mkF m 17 #[.val (.int x0)] [(.int (own_tab x0))]))
        by_cases hc5 : (own_tab x0) = (0 : Int32)
        · refine own_go (fun t k => XS.ifYes X4.here hx rfl (pc0 := 17) (pc' := 24) rfl (hb hby own_d1_17) rfl ((if0 _ _).trans (teq hc5).1) (by decide) (by decide) k) ?_
          show own_Goes p e below _ (T4.setTop (mkF m 24 #[.val (.int x0)] []))
          refine own_go (fun t k => XS.iconst X4.here hx rfl (hb hby own_d1_24) k) ?_
          rw [show (own_j1_1 x0) = (0 : Int32) from by rw [own_j1_1, if_neg hc1, if_pos hc3, if_pos hc5]] at HH6
          exact HH6 _ _ X4 e4 N0
        · refine own_go (fun t k => XS.ifNo X4.here hx rfl (hb hby own_d1_17) rfl ((if0 _ _).trans (feq hc5).1) k) ?_
          show own_Goes p e below _ (T4.setTop (mkF m 20 #[.val (.int x0)] []))
          refine own_go (fun t k => XS.iconst X4.here hx rfl (hb hby own_d1_20) k) ?_
          show own_Goes p e below _ (T4.setTop (mkF m 21 #[.val (.int x0)] [(.int (1 : Int32))]))
          refine own_go (fun t k => XS.goto X4.here hx rfl (pc0 := 21) (pc' := 25) rfl (hb hby own_d1_21) (by decide) (by decide) k) ?_
          rw [show (own_j1_1 x0) = (1 : Int32) from by rw [own_j1_1, if_neg hc1, if_pos hc3, if_neg hc5]] at HH6
          exact HH6 _ _ X4 e4 N0
      · refine own_go (fun t k => XS.icmpYes X2.here hx rfl (pc0 := 9) (pc' := 24) rfl (hb hby own_d1_9) rfl (flt hc3).2.1 (by decide) (by decide) k) ?_
        show own_Goes p e below _ (T2.setTop (mkF m 24 #[.val (.int x0)] []))
        refine own_go (fun t k => XS.iconst X2.here hx rfl (hb hby own_d1_24) k) ?_
        rw [show (own_j1_1 x0) = (0 : Int32) from by rw [own_j1_1, if_neg hc1, if_neg hc3]] at HH6
        exact HH6 _ _ X2 e2 N0
  intro T6 L6 X6 e6 N6
  show own_Goes p e below _ (T6.setTop (mkF m 25 #[.val (.int x0)] [(.int (own_j1_1 x0))]))
  exact own_retN X6 hx hlk hret (by simp) (z' := ((own_j1_1 x0) &&& 1)) rfl (hb hby own_d1_25) (by decide) (by decide) ⟨by rw [own_f1], N6, e6⟩
theorem own_d2_0 : decode method_3_code 0 = .ok (.iload_n 0, 1) := by decide +kernel
theorem own_d2_1 : decode method_3_code 1 = .ok (.bipush 32, 2) := by decide +kernel
theorem own_d2_3 : decode method_3_code 3 = .ok (.if_icmp .gt 5, 3) := by decide +kernel
theorem own_d2_8 : decode method_3_code 8 = .ok (.iload_n 0, 1) := by decide +kernel
theorem own_d2_9 : decode method_3_code 9 = .ok (.bipush 127, 2) := by decide +kernel
theorem own_d2_11 : decode method_3_code 11 = .ok (.if_icmp .lt 5, 3) := by decide +kernel
theorem own_d2_16 : decode method_3_code 16 = .ok (.iload_n 0, 1) := by decide +kernel
theorem own_d2_17 : decode method_3_code 17 = .ok (.bipush 40, 2) := by decide +kernel
theorem own_d2_19 : decode method_3_code 19 = .ok (.if_icmp .eq 91, 3) := by decide +kernel
theorem own_d2_110 : decode method_3_code 110 = .ok (.iconst 0, 1) := by decide +kernel
theorem own_d2_22 : decode method_3_code 22 = .ok (.iload_n 0, 1) := by decide +kernel
theorem own_d2_23 : decode method_3_code 23 = .ok (.bipush 41, 2) := by decide +kernel
theorem own_d2_25 : decode method_3_code 25 = .ok (.if_icmp .eq 85, 3) := by decide +kernel
theorem own_d2_28 : decode method_3_code 28 = .ok (.iload_n 0, 1) := by decide +kernel
theorem own_d2_29 : decode method_3_code 29 = .ok (.bipush 60, 2) := by decide +kernel
theorem own_d2_31 : decode method_3_code 31 = .ok (.if_icmp .eq 79, 3) := by decide +kernel
theorem own_d2_34 : decode method_3_code 34 = .ok (.iload_n 0, 1) := by decide +kernel
theorem own_d2_35 : decode method_3_code 35 = .ok (.bipush 62, 2) := by decide +kernel
theorem own_d2_37 : decode method_3_code 37 = .ok (.if_icmp .eq 73, 3) := by decide +kernel
theorem own_d2_40 : decode method_3_code 40 = .ok (.iload_n 0, 1) := by decide +kernel
theorem own_d2_41 : decode method_3_code 41 = .ok (.bipush 64, 2) := by decide +kernel
theorem own_d2_43 : decode method_3_code 43 = .ok (.if_icmp .eq 67, 3) := by decide +kernel
theorem own_d2_46 : decode method_3_code 46 = .ok (.iload_n 0, 1) := by decide +kernel
theorem own_d2_47 : decode method_3_code 47 = .ok (.bipush 44, 2) := by decide +kernel
theorem own_d2_49 : decode method_3_code 49 = .ok (.if_icmp .eq 61, 3) := by decide +kernel
theorem own_d2_52 : decode method_3_code 52 = .ok (.iload_n 0, 1) := by decide +kernel
theorem own_d2_53 : decode method_3_code 53 = .ok (.bipush 59, 2) := by decide +kernel
theorem own_d2_55 : decode method_3_code 55 = .ok (.if_icmp .eq 55, 3) := by decide +kernel
theorem own_d2_58 : decode method_3_code 58 = .ok (.iload_n 0, 1) := by decide +kernel
theorem own_d2_59 : decode method_3_code 59 = .ok (.bipush 58, 2) := by decide +kernel
theorem own_d2_61 : decode method_3_code 61 = .ok (.if_icmp .eq 49, 3) := by decide +kernel
theorem own_d2_64 : decode method_3_code 64 = .ok (.iload_n 0, 1) := by decide +kernel
theorem own_d2_65 : decode method_3_code 65 = .ok (.bipush 92, 2) := by decide +kernel
theorem own_d2_67 : decode method_3_code 67 = .ok (.if_icmp .eq 43, 3) := by decide +kernel
theorem own_d2_70 : decode method_3_code 70 = .ok (.iload_n 0, 1) := by decide +kernel
theorem own_d2_71 : decode method_3_code 71 = .ok (.bipush 34, 2) := by decide +kernel
theorem own_d2_73 : decode method_3_code 73 = .ok (.if_icmp .eq 37, 3) := by decide +kernel
theorem own_d2_76 : decode method_3_code 76 = .ok (.iload_n 0, 1) := by decide +kernel
theorem own_d2_77 : decode method_3_code 77 = .ok (.bipush 47, 2) := by decide +kernel
theorem own_d2_79 : decode method_3_code 79 = .ok (.if_icmp .eq 31, 3) := by decide +kernel
theorem own_d2_82 : decode method_3_code 82 = .ok (.iload_n 0, 1) := by decide +kernel
theorem own_d2_83 : decode method_3_code 83 = .ok (.bipush 91, 2) := by decide +kernel
theorem own_d2_85 : decode method_3_code 85 = .ok (.if_icmp .eq 25, 3) := by decide +kernel
theorem own_d2_88 : decode method_3_code 88 = .ok (.iload_n 0, 1) := by decide +kernel
theorem own_d2_89 : decode method_3_code 89 = .ok (.bipush 93, 2) := by decide +kernel
theorem own_d2_91 : decode method_3_code 91 = .ok (.if_icmp .eq 19, 3) := by decide +kernel
theorem own_d2_94 : decode method_3_code 94 = .ok (.iload_n 0, 1) := by decide +kernel
theorem own_d2_95 : decode method_3_code 95 = .ok (.bipush 63, 2) := by decide +kernel
theorem own_d2_97 : decode method_3_code 97 = .ok (.if_icmp .eq 13, 3) := by decide +kernel
theorem own_d2_100 : decode method_3_code 100 = .ok (.iload_n 0, 1) := by decide +kernel
theorem own_d2_101 : decode method_3_code 101 = .ok (.bipush 61, 2) := by decide +kernel
theorem own_d2_103 : decode method_3_code 103 = .ok (.if_icmp .eq 7, 3) := by decide +kernel
theorem own_d2_106 : decode method_3_code 106 = .ok (.iconst 1, 1) := by decide +kernel
theorem own_d2_107 : decode method_3_code 107 = .ok (.goto 4, 3) := by decide +kernel
theorem own_d2_14 : decode method_3_code 14 = .ok (.iconst 0, 1) := by decide +kernel
theorem own_d2_6 : decode method_3_code 6 = .ok (.iconst 0, 1) := by decide +kernel
theorem own_pn1 : plainName "com/example/hermod/hermod/header/FieldTokenizerIsAsciiTokenCharacterPinLaw" = true := by first | (simp [plainName, overriddenIn]; done) | decide +kernel
theorem own_d2_111 : decode method_3_code 111 = .ok (.ireturn, 1) := by decide +kernel
theorem own_d2_15 : decode method_3_code 15 = .ok (.ireturn, 1) := by decide +kernel
theorem own_d2_7 : decode method_3_code 7 = .ok (.ireturn, 1) := by decide +kernel
def own_j2_1 (x0 : Int32) : Int32 := (if x0 = (40 : Int32) then (0 : Int32) else (if x0 = (41 : Int32) then (0 : Int32) else (if x0 = (60 : Int32) then (0 : Int32) else (if x0 = (62 : Int32) then (0 : Int32) else (if x0 = (64 : Int32) then (0 : Int32) else (if x0 = (44 : Int32) then (0 : Int32) else (if x0 = (59 : Int32) then (0 : Int32) else (if x0 = (58 : Int32) then (0 : Int32) else (if x0 = (92 : Int32) then (0 : Int32) else (if x0 = (34 : Int32) then (0 : Int32) else (if x0 = (47 : Int32) then (0 : Int32) else (if x0 = (91 : Int32) then (0 : Int32) else (if x0 = (93 : Int32) then (0 : Int32) else (if x0 = (63 : Int32) then (0 : Int32) else (if x0 = (61 : Int32) then (0 : Int32) else (1 : Int32))))))))))))))))
def own_f2 (x0 : Int32) : Int32 := (if (32 : Int32) < x0 then (if x0 < (127 : Int32) then ((own_j2_1 x0) &&& 1) else (0 : Int32)) else (0 : Int32))
def own_Q2 (x0 : Int32) (h0 : Heap) (n0 : Nat) (v : Option Value) (h : Heap) (L : List Loc) : Prop := v = some (.int (own_f2 x0)) ∧ Fr n0 L ∧ h = h0
abbrev own_R2 : Room := { frames := 0, cells := 0, slots := 0, locals := 0 }
theorem own_ef2 (m : MethodId) (z0 : Int32) : entryFrame m #[(.int z0)] 1 = mkF m 0 #[.val (.int z0)] [] := by first | (simp [entryFrame, mkF, argsToLocals, Value.category]; done) | rfl
set_option maxRecDepth 65536 in
set_option maxHeartbeats 40000000 in
theorem rm2 (l : Launch) (Z : State) (a0 : Array Value) (hw : ∀ d ∈ tables_1, d.before a0 Z = true) (ws : List Jvm.Cond) (x0 : Int32) (h0 : Heap) (n0 : Nat) : own_Met l Z (⟨"com/example/hermod/hermod/header/FieldTokenizerIsAsciiTokenCharacterPinLaw", "reference", "(I)Z"⟩ : MethodName) method_3_code 1 (some .boolean) ws own_R2 #[(.int x0)] h0 (own_Q2 x0 h0 n0) := by
  refine own_met (plainFor_of_name own_pn1) ?_
  intro p e s m below meth c s₁ hx hby hml hown hnm hret hlk hZ e0 X0
  have N0 := Fr.nil n0
  have hml : c.maxLocals = 1 := hml
  have hown : s.vm.findClass "com/example/hermod/hermod/header/FieldTokenizerIsAsciiTokenCharacterPinLaw" = some m.cls := hown
  have hret : meth.sig.returnType = (some .boolean) := hret
  have hby : c.code = method_3_code := hby
  have hnm : meth.name = "reference" := hnm
  rw [own_ef2]
  show own_Goes p e below _ (s₁.setTop (mkF m 0 #[.val (.int x0)] []))
  refine own_go (fun t k => XS.iloadN X0.here hx rfl (hb hby own_d2_0) rfl k) ?_
  show own_Goes p e below _ (s₁.setTop (mkF m 1 #[.val (.int x0)] [(.int x0)]))
  refine own_go (fun t k => XS.bipush X0.here hx rfl (hb hby own_d2_1) k) ?_
  show own_Goes p e below _ (s₁.setTop (mkF m 3 #[.val (.int x0)] [(.int (32 : Int32)), (.int x0)]))
  by_cases hc7 : (32 : Int32) < x0
  · refine own_go (fun t k => XS.icmpYes X0.here hx rfl (pc0 := 3) (pc' := 8) rfl (hb hby own_d2_3) rfl (tlt hc7).2.2.1 (by decide) (by decide) k) ?_
    show own_Goes p e below _ (s₁.setTop (mkF m 8 #[.val (.int x0)] []))
    refine own_go (fun t k => XS.iloadN X0.here hx rfl (hb hby own_d2_8) rfl k) ?_
    show own_Goes p e below _ (s₁.setTop (mkF m 9 #[.val (.int x0)] [(.int x0)]))
    refine own_go (fun t k => XS.bipush X0.here hx rfl (hb hby own_d2_9) k) ?_
    show own_Goes p e below _ (s₁.setTop (mkF m 11 #[.val (.int x0)] [(.int (127 : Int32)), (.int x0)]))
    by_cases hc8 : x0 < (127 : Int32)
    · refine own_go (fun t k => XS.icmpYes X0.here hx rfl (pc0 := 11) (pc' := 16) rfl (hb hby own_d2_11) rfl (tlt hc8).1 (by decide) (by decide) k) ?_
      show own_Goes p e below _ (s₁.setTop (mkF m 16 #[.val (.int x0)] []))
      refine own_go (fun t k => XS.iloadN X0.here hx rfl (hb hby own_d2_16) rfl k) ?_
      show own_Goes p e below _ (s₁.setTop (mkF m 17 #[.val (.int x0)] [(.int x0)]))
      refine own_go (fun t k => XS.bipush X0.here hx rfl (hb hby own_d2_17) k) ?_
      show own_Goes p e below _ (s₁.setTop (mkF m 19 #[.val (.int x0)] [(.int (40 : Int32)), (.int x0)]))
      suffices HH24 : own_Goes p e below (own_End s own_R2 (own_Q2 x0 h0 n0)) (s₁.setTop (mkF m 111 #[.val (.int x0)] [(.int (own_j2_1 x0))])) by
        by_cases hc9 : x0 = (40 : Int32)
        · refine own_go (fun t k => XS.icmpYes X0.here hx rfl (pc0 := 19) (pc' := 110) rfl (hb hby own_d2_19) rfl (teq hc9).1 (by decide) (by decide) k) ?_
          show own_Goes p e below _ (s₁.setTop (mkF m 110 #[.val (.int x0)] []))
          refine own_go (fun t k => XS.iconst X0.here hx rfl (hb hby own_d2_110) k) ?_
          rw [show (own_j2_1 x0) = (0 : Int32) from by rw [own_j2_1, if_pos hc9]] at HH24
          exact HH24
        · refine own_go (fun t k => XS.icmpNo X0.here hx rfl (hb hby own_d2_19) rfl (feq hc9).1 k) ?_
          show own_Goes p e below _ (s₁.setTop (mkF m 22 #[.val (.int x0)] []))
          refine own_go (fun t k => XS.iloadN X0.here hx rfl (hb hby own_d2_22) rfl k) ?_
          show own_Goes p e below _ (s₁.setTop (mkF m 23 #[.val (.int x0)] [(.int x0)]))
          refine own_go (fun t k => XS.bipush X0.here hx rfl (hb hby own_d2_23) k) ?_
          show own_Goes p e below _ (s₁.setTop (mkF m 25 #[.val (.int x0)] [(.int (41 : Int32)), (.int x0)]))
          by_cases hc10 : x0 = (41 : Int32)
          · refine own_go (fun t k => XS.icmpYes X0.here hx rfl (pc0 := 25) (pc' := 110) rfl (hb hby own_d2_25) rfl (teq hc10).1 (by decide) (by decide) k) ?_
            show own_Goes p e below _ (s₁.setTop (mkF m 110 #[.val (.int x0)] []))
            refine own_go (fun t k => XS.iconst X0.here hx rfl (hb hby own_d2_110) k) ?_
            rw [show (own_j2_1 x0) = (0 : Int32) from by rw [own_j2_1, if_neg hc9, if_pos hc10]] at HH24
            exact HH24
          · refine own_go (fun t k => XS.icmpNo X0.here hx rfl (hb hby own_d2_25) rfl (feq hc10).1 k) ?_
            show own_Goes p e below _ (s₁.setTop (mkF m 28 #[.val (.int x0)] []))
            refine own_go (fun t k => XS.iloadN X0.here hx rfl (hb hby own_d2_28) rfl k) ?_
            show own_Goes p e below _ (s₁.setTop (mkF m 29 #[.val (.int x0)] [(.int x0)]))
            refine own_go (fun t k => XS.bipush X0.here hx rfl (hb hby own_d2_29) k) ?_
            show own_Goes p e below _ (s₁.setTop (mkF m 31 #[.val (.int x0)] [(.int (60 : Int32)), (.int x0)]))
            by_cases hc11 : x0 = (60 : Int32)
            · refine own_go (fun t k => XS.icmpYes X0.here hx rfl (pc0 := 31) (pc' := 110) rfl (hb hby own_d2_31) rfl (teq hc11).1 (by decide) (by decide) k) ?_
              show own_Goes p e below _ (s₁.setTop (mkF m 110 #[.val (.int x0)] []))
              refine own_go (fun t k => XS.iconst X0.here hx rfl (hb hby own_d2_110) k) ?_
              rw [show (own_j2_1 x0) = (0 : Int32) from by rw [own_j2_1, if_neg hc9, if_neg hc10, if_pos hc11]] at HH24
              exact HH24
            · refine own_go (fun t k => XS.icmpNo X0.here hx rfl (hb hby own_d2_31) rfl (feq hc11).1 k) ?_
              show own_Goes p e below _ (s₁.setTop (mkF m 34 #[.val (.int x0)] []))
              refine own_go (fun t k => XS.iloadN X0.here hx rfl (hb hby own_d2_34) rfl k) ?_
              show own_Goes p e below _ (s₁.setTop (mkF m 35 #[.val (.int x0)] [(.int x0)]))
              refine own_go (fun t k => XS.bipush X0.here hx rfl (hb hby own_d2_35) k) ?_
              show own_Goes p e below _ (s₁.setTop (mkF m 37 #[.val (.int x0)] [(.int (62 : Int32)), (.int x0)]))
              by_cases hc12 : x0 = (62 : Int32)
              · refine own_go (fun t k => XS.icmpYes X0.here hx rfl (pc0 := 37) (pc' := 110) rfl (hb hby own_d2_37) rfl (teq hc12).1 (by decide) (by decide) k) ?_
                show own_Goes p e below _ (s₁.setTop (mkF m 110 #[.val (.int x0)] []))
                refine own_go (fun t k => XS.iconst X0.here hx rfl (hb hby own_d2_110) k) ?_
                rw [show (own_j2_1 x0) = (0 : Int32) from by rw [own_j2_1, if_neg hc9, if_neg hc10, if_neg hc11, if_pos hc12]] at HH24
                exact HH24
              · refine own_go (fun t k => XS.icmpNo X0.here hx rfl (hb hby own_d2_37) rfl (feq hc12).1 k) ?_
                show own_Goes p e below _ (s₁.setTop (mkF m 40 #[.val (.int x0)] []))
                refine own_go (fun t k => XS.iloadN X0.here hx rfl (hb hby own_d2_40) rfl k) ?_
                show own_Goes p e below _ (s₁.setTop (mkF m 41 #[.val (.int x0)] [(.int x0)]))
                refine own_go (fun t k => XS.bipush X0.here hx rfl (hb hby own_d2_41) k) ?_
                show own_Goes p e below _ (s₁.setTop (mkF m 43 #[.val (.int x0)] [(.int (64 : Int32)), (.int x0)]))
                by_cases hc13 : x0 = (64 : Int32)
                · refine own_go (fun t k => XS.icmpYes X0.here hx rfl (pc0 := 43) (pc' := 110) rfl (hb hby own_d2_43) rfl (teq hc13).1 (by decide) (by decide) k) ?_
                  show own_Goes p e below _ (s₁.setTop (mkF m 110 #[.val (.int x0)] []))
                  refine own_go (fun t k => XS.iconst X0.here hx rfl (hb hby own_d2_110) k) ?_
                  rw [show (own_j2_1 x0) = (0 : Int32) from by rw [own_j2_1, if_neg hc9, if_neg hc10, if_neg hc11, if_neg hc12, if_pos hc13]] at HH24
                  exact HH24
                · refine own_go (fun t k => XS.icmpNo X0.here hx rfl (hb hby own_d2_43) rfl (feq hc13).1 k) ?_
                  show own_Goes p e below _ (s₁.setTop (mkF m 46 #[.val (.int x0)] []))
                  refine own_go (fun t k => XS.iloadN X0.here hx rfl (hb hby own_d2_46) rfl k) ?_
                  show own_Goes p e below _ (s₁.setTop (mkF m 47 #[.val (.int x0)] [(.int x0)]))
                  refine own_go (fun t k => XS.bipush X0.here hx rfl (hb hby own_d2_47) k) ?_
                  show own_Goes p e below _ (s₁.setTop (mkF m 49 #[.val (.int x0)] [(.int (44 : Int32)), (.int x0)]))
                  by_cases hc14 : x0 = (44 : Int32)
                  · refine own_go (fun t k => XS.icmpYes X0.here hx rfl (pc0 := 49) (pc' := 110) rfl (hb hby own_d2_49) rfl (teq hc14).1 (by decide) (by decide) k) ?_
                    show own_Goes p e below _ (s₁.setTop (mkF m 110 #[.val (.int x0)] []))
                    refine own_go (fun t k => XS.iconst X0.here hx rfl (hb hby own_d2_110) k) ?_
                    rw [show (own_j2_1 x0) = (0 : Int32) from by rw [own_j2_1, if_neg hc9, if_neg hc10, if_neg hc11, if_neg hc12, if_neg hc13, if_pos hc14]] at HH24
                    exact HH24
                  · refine own_go (fun t k => XS.icmpNo X0.here hx rfl (hb hby own_d2_49) rfl (feq hc14).1 k) ?_
                    show own_Goes p e below _ (s₁.setTop (mkF m 52 #[.val (.int x0)] []))
                    refine own_go (fun t k => XS.iloadN X0.here hx rfl (hb hby own_d2_52) rfl k) ?_
                    show own_Goes p e below _ (s₁.setTop (mkF m 53 #[.val (.int x0)] [(.int x0)]))
                    refine own_go (fun t k => XS.bipush X0.here hx rfl (hb hby own_d2_53) k) ?_
                    show own_Goes p e below _ (s₁.setTop (mkF m 55 #[.val (.int x0)] [(.int (59 : Int32)), (.int x0)]))
                    by_cases hc15 : x0 = (59 : Int32)
                    · refine own_go (fun t k => XS.icmpYes X0.here hx rfl (pc0 := 55) (pc' := 110) rfl (hb hby own_d2_55) rfl (teq hc15).1 (by decide) (by decide) k) ?_
                      show own_Goes p e below _ (s₁.setTop (mkF m 110 #[.val (.int x0)] []))
                      refine own_go (fun t k => XS.iconst X0.here hx rfl (hb hby own_d2_110) k) ?_
                      rw [show (own_j2_1 x0) = (0 : Int32) from by rw [own_j2_1, if_neg hc9, if_neg hc10, if_neg hc11, if_neg hc12, if_neg hc13, if_neg hc14, if_pos hc15]] at HH24
                      exact HH24
                    · refine own_go (fun t k => XS.icmpNo X0.here hx rfl (hb hby own_d2_55) rfl (feq hc15).1 k) ?_
                      show own_Goes p e below _ (s₁.setTop (mkF m 58 #[.val (.int x0)] []))
                      refine own_go (fun t k => XS.iloadN X0.here hx rfl (hb hby own_d2_58) rfl k) ?_
                      show own_Goes p e below _ (s₁.setTop (mkF m 59 #[.val (.int x0)] [(.int x0)]))
                      refine own_go (fun t k => XS.bipush X0.here hx rfl (hb hby own_d2_59) k) ?_
                      show own_Goes p e below _ (s₁.setTop (mkF m 61 #[.val (.int x0)] [(.int (58 : Int32)), (.int x0)]))
                      by_cases hc16 : x0 = (58 : Int32)
                      · refine own_go (fun t k => XS.icmpYes X0.here hx rfl (pc0 := 61) (pc' := 110) rfl (hb hby own_d2_61) rfl (teq hc16).1 (by decide) (by decide) k) ?_
                        show own_Goes p e below _ (s₁.setTop (mkF m 110 #[.val (.int x0)] []))
                        refine own_go (fun t k => XS.iconst X0.here hx rfl (hb hby own_d2_110) k) ?_
                        rw [show (own_j2_1 x0) = (0 : Int32) from by rw [own_j2_1, if_neg hc9, if_neg hc10, if_neg hc11, if_neg hc12, if_neg hc13, if_neg hc14, if_neg hc15, if_pos hc16]] at HH24
                        exact HH24
                      · refine own_go (fun t k => XS.icmpNo X0.here hx rfl (hb hby own_d2_61) rfl (feq hc16).1 k) ?_
                        show own_Goes p e below _ (s₁.setTop (mkF m 64 #[.val (.int x0)] []))
                        refine own_go (fun t k => XS.iloadN X0.here hx rfl (hb hby own_d2_64) rfl k) ?_
                        show own_Goes p e below _ (s₁.setTop (mkF m 65 #[.val (.int x0)] [(.int x0)]))
                        refine own_go (fun t k => XS.bipush X0.here hx rfl (hb hby own_d2_65) k) ?_
                        show own_Goes p e below _ (s₁.setTop (mkF m 67 #[.val (.int x0)] [(.int (92 : Int32)), (.int x0)]))
                        by_cases hc17 : x0 = (92 : Int32)
                        · refine own_go (fun t k => XS.icmpYes X0.here hx rfl (pc0 := 67) (pc' := 110) rfl (hb hby own_d2_67) rfl (teq hc17).1 (by decide) (by decide) k) ?_
                          show own_Goes p e below _ (s₁.setTop (mkF m 110 #[.val (.int x0)] []))
                          refine own_go (fun t k => XS.iconst X0.here hx rfl (hb hby own_d2_110) k) ?_
                          rw [show (own_j2_1 x0) = (0 : Int32) from by rw [own_j2_1, if_neg hc9, if_neg hc10, if_neg hc11, if_neg hc12, if_neg hc13, if_neg hc14, if_neg hc15, if_neg hc16, if_pos hc17]] at HH24
                          exact HH24
                        · refine own_go (fun t k => XS.icmpNo X0.here hx rfl (hb hby own_d2_67) rfl (feq hc17).1 k) ?_
                          show own_Goes p e below _ (s₁.setTop (mkF m 70 #[.val (.int x0)] []))
                          refine own_go (fun t k => XS.iloadN X0.here hx rfl (hb hby own_d2_70) rfl k) ?_
                          show own_Goes p e below _ (s₁.setTop (mkF m 71 #[.val (.int x0)] [(.int x0)]))
                          refine own_go (fun t k => XS.bipush X0.here hx rfl (hb hby own_d2_71) k) ?_
                          show own_Goes p e below _ (s₁.setTop (mkF m 73 #[.val (.int x0)] [(.int (34 : Int32)), (.int x0)]))
                          by_cases hc18 : x0 = (34 : Int32)
                          · refine own_go (fun t k => XS.icmpYes X0.here hx rfl (pc0 := 73) (pc' := 110) rfl (hb hby own_d2_73) rfl (teq hc18).1 (by decide) (by decide) k) ?_
                            show own_Goes p e below _ (s₁.setTop (mkF m 110 #[.val (.int x0)] []))
                            refine own_go (fun t k => XS.iconst X0.here hx rfl (hb hby own_d2_110) k) ?_
                            rw [show (own_j2_1 x0) = (0 : Int32) from by rw [own_j2_1, if_neg hc9, if_neg hc10, if_neg hc11, if_neg hc12, if_neg hc13, if_neg hc14, if_neg hc15, if_neg hc16, if_neg hc17, if_pos hc18]] at HH24
                            exact HH24
                          · refine own_go (fun t k => XS.icmpNo X0.here hx rfl (hb hby own_d2_73) rfl (feq hc18).1 k) ?_
                            show own_Goes p e below _ (s₁.setTop (mkF m 76 #[.val (.int x0)] []))
                            refine own_go (fun t k => XS.iloadN X0.here hx rfl (hb hby own_d2_76) rfl k) ?_
                            show own_Goes p e below _ (s₁.setTop (mkF m 77 #[.val (.int x0)] [(.int x0)]))
                            refine own_go (fun t k => XS.bipush X0.here hx rfl (hb hby own_d2_77) k) ?_
                            show own_Goes p e below _ (s₁.setTop (mkF m 79 #[.val (.int x0)] [(.int (47 : Int32)), (.int x0)]))
                            by_cases hc19 : x0 = (47 : Int32)
                            · refine own_go (fun t k => XS.icmpYes X0.here hx rfl (pc0 := 79) (pc' := 110) rfl (hb hby own_d2_79) rfl (teq hc19).1 (by decide) (by decide) k) ?_
                              show own_Goes p e below _ (s₁.setTop (mkF m 110 #[.val (.int x0)] []))
                              refine own_go (fun t k => XS.iconst X0.here hx rfl (hb hby own_d2_110) k) ?_
                              rw [show (own_j2_1 x0) = (0 : Int32) from by rw [own_j2_1, if_neg hc9, if_neg hc10, if_neg hc11, if_neg hc12, if_neg hc13, if_neg hc14, if_neg hc15, if_neg hc16, if_neg hc17, if_neg hc18, if_pos hc19]] at HH24
                              exact HH24
                            · refine own_go (fun t k => XS.icmpNo X0.here hx rfl (hb hby own_d2_79) rfl (feq hc19).1 k) ?_
                              show own_Goes p e below _ (s₁.setTop (mkF m 82 #[.val (.int x0)] []))
                              refine own_go (fun t k => XS.iloadN X0.here hx rfl (hb hby own_d2_82) rfl k) ?_
                              show own_Goes p e below _ (s₁.setTop (mkF m 83 #[.val (.int x0)] [(.int x0)]))
                              refine own_go (fun t k => XS.bipush X0.here hx rfl (hb hby own_d2_83) k) ?_
                              show own_Goes p e below _ (s₁.setTop (mkF m 85 #[.val (.int x0)] [(.int (91 : Int32)), (.int x0)]))
                              by_cases hc20 : x0 = (91 : Int32)
                              · refine own_go (fun t k => XS.icmpYes X0.here hx rfl (pc0 := 85) (pc' := 110) rfl (hb hby own_d2_85) rfl (teq hc20).1 (by decide) (by decide) k) ?_
                                show own_Goes p e below _ (s₁.setTop (mkF m 110 #[.val (.int x0)] []))
                                refine own_go (fun t k => XS.iconst X0.here hx rfl (hb hby own_d2_110) k) ?_
                                rw [show (own_j2_1 x0) = (0 : Int32) from by rw [own_j2_1, if_neg hc9, if_neg hc10, if_neg hc11, if_neg hc12, if_neg hc13, if_neg hc14, if_neg hc15, if_neg hc16, if_neg hc17, if_neg hc18, if_neg hc19, if_pos hc20]] at HH24
                                exact HH24
                              · refine own_go (fun t k => XS.icmpNo X0.here hx rfl (hb hby own_d2_85) rfl (feq hc20).1 k) ?_
                                show own_Goes p e below _ (s₁.setTop (mkF m 88 #[.val (.int x0)] []))
                                refine own_go (fun t k => XS.iloadN X0.here hx rfl (hb hby own_d2_88) rfl k) ?_
                                show own_Goes p e below _ (s₁.setTop (mkF m 89 #[.val (.int x0)] [(.int x0)]))
                                refine own_go (fun t k => XS.bipush X0.here hx rfl (hb hby own_d2_89) k) ?_
                                show own_Goes p e below _ (s₁.setTop (mkF m 91 #[.val (.int x0)] [(.int (93 : Int32)), (.int x0)]))
                                by_cases hc21 : x0 = (93 : Int32)
                                · refine own_go (fun t k => XS.icmpYes X0.here hx rfl (pc0 := 91) (pc' := 110) rfl (hb hby own_d2_91) rfl (teq hc21).1 (by decide) (by decide) k) ?_
                                  show own_Goes p e below _ (s₁.setTop (mkF m 110 #[.val (.int x0)] []))
                                  refine own_go (fun t k => XS.iconst X0.here hx rfl (hb hby own_d2_110) k) ?_
                                  rw [show (own_j2_1 x0) = (0 : Int32) from by rw [own_j2_1, if_neg hc9, if_neg hc10, if_neg hc11, if_neg hc12, if_neg hc13, if_neg hc14, if_neg hc15, if_neg hc16, if_neg hc17, if_neg hc18, if_neg hc19, if_neg hc20, if_pos hc21]] at HH24
                                  exact HH24
                                · refine own_go (fun t k => XS.icmpNo X0.here hx rfl (hb hby own_d2_91) rfl (feq hc21).1 k) ?_
                                  show own_Goes p e below _ (s₁.setTop (mkF m 94 #[.val (.int x0)] []))
                                  refine own_go (fun t k => XS.iloadN X0.here hx rfl (hb hby own_d2_94) rfl k) ?_
                                  show own_Goes p e below _ (s₁.setTop (mkF m 95 #[.val (.int x0)] [(.int x0)]))
                                  refine own_go (fun t k => XS.bipush X0.here hx rfl (hb hby own_d2_95) k) ?_
                                  show own_Goes p e below _ (s₁.setTop (mkF m 97 #[.val (.int x0)] [(.int (63 : Int32)), (.int x0)]))
                                  by_cases hc22 : x0 = (63 : Int32)
                                  · refine own_go (fun t k => XS.icmpYes X0.here hx rfl (pc0 := 97) (pc' := 110) rfl (hb hby own_d2_97) rfl (teq hc22).1 (by decide) (by decide) k) ?_
                                    show own_Goes p e below _ (s₁.setTop (mkF m 110 #[.val (.int x0)] []))
                                    refine own_go (fun t k => XS.iconst X0.here hx rfl (hb hby own_d2_110) k) ?_
                                    rw [show (own_j2_1 x0) = (0 : Int32) from by rw [own_j2_1, if_neg hc9, if_neg hc10, if_neg hc11, if_neg hc12, if_neg hc13, if_neg hc14, if_neg hc15, if_neg hc16, if_neg hc17, if_neg hc18, if_neg hc19, if_neg hc20, if_neg hc21, if_pos hc22]] at HH24
                                    exact HH24
                                  · refine own_go (fun t k => XS.icmpNo X0.here hx rfl (hb hby own_d2_97) rfl (feq hc22).1 k) ?_
                                    show own_Goes p e below _ (s₁.setTop (mkF m 100 #[.val (.int x0)] []))
                                    refine own_go (fun t k => XS.iloadN X0.here hx rfl (hb hby own_d2_100) rfl k) ?_
                                    show own_Goes p e below _ (s₁.setTop (mkF m 101 #[.val (.int x0)] [(.int x0)]))
                                    refine own_go (fun t k => XS.bipush X0.here hx rfl (hb hby own_d2_101) k) ?_
                                    show own_Goes p e below _ (s₁.setTop (mkF m 103 #[.val (.int x0)] [(.int (61 : Int32)), (.int x0)]))
                                    by_cases hc23 : x0 = (61 : Int32)
                                    · refine own_go (fun t k => XS.icmpYes X0.here hx rfl (pc0 := 103) (pc' := 110) rfl (hb hby own_d2_103) rfl (teq hc23).1 (by decide) (by decide) k) ?_
                                      show own_Goes p e below _ (s₁.setTop (mkF m 110 #[.val (.int x0)] []))
                                      refine own_go (fun t k => XS.iconst X0.here hx rfl (hb hby own_d2_110) k) ?_
                                      rw [show (own_j2_1 x0) = (0 : Int32) from by rw [own_j2_1, if_neg hc9, if_neg hc10, if_neg hc11, if_neg hc12, if_neg hc13, if_neg hc14, if_neg hc15, if_neg hc16, if_neg hc17, if_neg hc18, if_neg hc19, if_neg hc20, if_neg hc21, if_neg hc22, if_pos hc23]] at HH24
                                      exact HH24
                                    · refine own_go (fun t k => XS.icmpNo X0.here hx rfl (hb hby own_d2_103) rfl (feq hc23).1 k) ?_
                                      show own_Goes p e below _ (s₁.setTop (mkF m 106 #[.val (.int x0)] []))
                                      refine own_go (fun t k => XS.iconst X0.here hx rfl (hb hby own_d2_106) k) ?_
                                      show own_Goes p e below _ (s₁.setTop (mkF m 107 #[.val (.int x0)] [(.int (1 : Int32))]))
                                      refine own_go (fun t k => XS.goto X0.here hx rfl (pc0 := 107) (pc' := 111) rfl (hb hby own_d2_107) (by decide) (by decide) k) ?_
                                      rw [show (own_j2_1 x0) = (1 : Int32) from by rw [own_j2_1, if_neg hc9, if_neg hc10, if_neg hc11, if_neg hc12, if_neg hc13, if_neg hc14, if_neg hc15, if_neg hc16, if_neg hc17, if_neg hc18, if_neg hc19, if_neg hc20, if_neg hc21, if_neg hc22, if_neg hc23]] at HH24
                                      exact HH24
      show own_Goes p e below _ (s₁.setTop (mkF m 111 #[.val (.int x0)] [(.int (own_j2_1 x0))]))
      exact own_retN X0 hx hlk hret (by simp) (z' := ((own_j2_1 x0) &&& 1)) rfl (hb hby own_d2_111) (by decide) (by decide) ⟨by rw [own_f2, if_pos hc7, if_pos hc8], N0, e0⟩
    · refine own_go (fun t k => XS.icmpNo X0.here hx rfl (hb hby own_d2_11) rfl (flt hc8).1 k) ?_
      show own_Goes p e below _ (s₁.setTop (mkF m 14 #[.val (.int x0)] []))
      refine own_go (fun t k => XS.iconst X0.here hx rfl (hb hby own_d2_14) k) ?_
      show own_Goes p e below _ (s₁.setTop (mkF m 15 #[.val (.int x0)] [(.int (0 : Int32))]))
      exact own_retN X0 hx hlk hret (by simp) (z' := (0 : Int32)) rfl (hb hby own_d2_15) (by decide) (by decide) ⟨by rw [own_f2, if_pos hc7, if_neg hc8], N0, e0⟩
  · refine own_go (fun t k => XS.icmpNo X0.here hx rfl (hb hby own_d2_3) rfl (flt hc7).2.2.1 k) ?_
    show own_Goes p e below _ (s₁.setTop (mkF m 6 #[.val (.int x0)] []))
    refine own_go (fun t k => XS.iconst X0.here hx rfl (hb hby own_d2_6) k) ?_
    show own_Goes p e below _ (s₁.setTop (mkF m 7 #[.val (.int x0)] [(.int (0 : Int32))]))
    exact own_retN X0 hx hlk hret (by simp) (z' := (0 : Int32)) rfl (hb hby own_d2_7) (by decide) (by decide) ⟨by rw [own_f2, if_neg hc7], N0, e0⟩
theorem own_t0 : (Jvm.Cond.methodLink "com/example/hermod/hermod/header/FieldTokenizerIsAsciiTokenCharacterPinLaw" (7 : Nat) ({ cls := "com/example/hermod/hermod/header/FieldTokenizer", name := "isAsciiTokenCharacter", desc := "(I)Z" } : Jvm.MethodName)) ∈ tables_1 := List.mem_of_getElem? (i := 0) rfl
theorem own_pd0 : parseMethodDescriptor "(I)Z" = some ⟨[.int], some .boolean⟩ := by decide +kernel
theorem own_t1 : (Jvm.Cond.static ({ cls := "com/example/hermod/hermod/header/FieldTokenizer", name := "isAsciiTokenCharacter", desc := "(I)Z" } : Jvm.MethodName)) ∈ tables_1 := List.mem_of_getElem? (i := 1) rfl
theorem own_t3 : (Jvm.Cond.code ({ cls := "com/example/hermod/hermod/header/FieldTokenizer", name := "isAsciiTokenCharacter", desc := "(I)Z" } : Jvm.MethodName) prog_31_method_10_code (1 : Nat) (Option.some Jvm.ClassFile.FieldType.boolean)) ∈ tables_1 := List.mem_of_getElem? (i := 3) rfl
theorem own_t6 : (Jvm.Cond.methodLink "com/example/hermod/hermod/header/FieldTokenizerIsAsciiTokenCharacterPinLaw" (13 : Nat) ({ cls := "com/example/hermod/hermod/header/FieldTokenizerIsAsciiTokenCharacterPinLaw", name := "reference", desc := "(I)Z" } : Jvm.MethodName)) ∈ tables_1 := List.mem_of_getElem? (i := 6) rfl
theorem own_t7 : (Jvm.Cond.static ({ cls := "com/example/hermod/hermod/header/FieldTokenizerIsAsciiTokenCharacterPinLaw", name := "reference", desc := "(I)Z" } : Jvm.MethodName)) ∈ tables_1 := List.mem_of_getElem? (i := 7) rfl
theorem own_t8 : (Jvm.Cond.initialized "com/example/hermod/hermod/header/FieldTokenizerIsAsciiTokenCharacterPinLaw") ∈ tables_1 := List.mem_of_getElem? (i := 8) rfl
theorem own_t9 : (Jvm.Cond.code ({ cls := "com/example/hermod/hermod/header/FieldTokenizerIsAsciiTokenCharacterPinLaw", name := "reference", desc := "(I)Z" } : Jvm.MethodName) method_3_code (1 : Nat) (Option.some Jvm.ClassFile.FieldType.boolean)) ∈ tables_1 := List.mem_of_getElem? (i := 9) rfl
def own_j0_1 (x0 : Int32) : Int32 := (if (own_f1 x0) = (own_f2 x0) then (1 : Int32) else (0 : Int32))
def own_j0_2 (x1 : Int32) : Int32 := (if (own_f1 (x1 &&& (511 : Int32))) = (own_f2 (x1 &&& (511 : Int32))) then (1 : Int32) else (0 : Int32))
def own_j0_3 (x0 : Int32) (x1 : Int32) : Int32 := (if (own_j0_1 x0) = (0 : Int32) then (0 : Int32) else (if (own_j0_2 x1) = (0 : Int32) then (0 : Int32) else (1 : Int32)))
def own_f0 (x0 : Int32) (x1 : Int32) : Int32 := ((own_j0_3 x0 x1) &&& 1)
def own_Q0 (x0 : Int32) (x1 : Int32) (s_H : Addr) (h0 : Heap) (n0 : Nat) (v : Option Value) (h : Heap) (L : List Loc) : Prop := v = some (.int (own_f0 x0 x1)) ∧ Fr n0 L ∧ True
theorem own_ef0 (m : MethodId) (z0 : Int32) (z1 : Int32) : entryFrame m #[(.int z0), (.int z1)] maxLocals = mkF m 0 #[.val (.int z0), .val (.int z1), .unset, .unset, .unset] [] := by first | (simp [entryFrame, mkF, argsToLocals, Value.category, maxLocals]; done) | rfl
set_option maxRecDepth 65536 in
set_option maxHeartbeats 40000000 in
theorem rm0 (l : Launch) (Z : State) (a0 : Array Value) (hw : ∀ d ∈ tables_1, d.before a0 Z = true) (ws : List Jvm.Cond) (x0 : Int32) (x1 : Int32) (cl_H : Cell) (s_H : Addr) (h0 : Heap) (n0 : Nat) (A_H : Arr Z h0 s_H cl_H .boolean) (z_H : cl_H.slots.size = (128 : Int32).toNatClampNeg) (t_H : ∀ j : Int32, ¬ j < 0 → j < 128 → cl_H.slots[j.toNatClampNeg]? = some (.int (own_tab j))) (S_s_H : Sta Z h0 "com/example/hermod/hermod/header/FieldTokenizer" "TOKEN_CHARACTERS" "[Z" (.ref s_H)) : own_Met l Z x code maxLocals ret ws room_1 #[(.int x0), (.int x1)] h0 (own_Q0 x0 x1 s_H h0 n0) := by
  refine own_met (plainFor_of_name own_pn1) ?_
  intro p e s m below meth c s₁ hx hby hml hown hnm hret hlk hZ e0 X0
  have N0 := Fr.nil n0
  have hml : c.maxLocals = 5 := hml
  have hown : s.vm.findClass "com/example/hermod/hermod/header/FieldTokenizerIsAsciiTokenCharacterPinLaw" = some m.cls := hown
  have hret : meth.sig.returnType = (some .boolean) := hret
  have hby : c.code = code := hby
  have hnm : meth.name = "law" := hnm
  rw [own_ef0]
  show own_Goes p e below _ (s₁.setTop (mkF m 0 #[.val (.int x0), .val (.int x1), .unset, .unset, .unset] []))
  refine own_go (fun t k => XS.iloadN X0.here hx rfl (hb hby at_0) rfl k) ?_
  show own_Goes p e below _ (s₁.setTop (mkF m 1 #[.val (.int x0), .val (.int x1), .unset, .unset, .unset] [(.int x1)]))
  refine own_go (fun t k => XS.sipush X0.here hx rfl (hb hby at_1) k) ?_
  show own_Goes p e below _ (s₁.setTop (mkF m 4 #[.val (.int x0), .val (.int x1), .unset, .unset, .unset] [(.int (511 : Int32)), (.int x1)]))
  refine own_go (fun t k => XS.iand X0.here hx rfl (hb hby at_4) rfl k) ?_
  show own_Goes p e below _ (s₁.setTop (mkF m 5 #[.val (.int x0), .val (.int x1), .unset, .unset, .unset] [(.int (x1 &&& (511 : Int32)))]))
  refine own_go (fun t k => XS.istoreN X0.here hx rfl (hb hby at_5) rfl (l' := #[.val (.int x0), .val (.int x1), .val (.int (x1 &&& (511 : Int32))), .unset, .unset]) rfl k) ?_
  show own_Goes p e below _ (s₁.setTop (mkF m 6 #[.val (.int x0), .val (.int x1), .val (.int (x1 &&& (511 : Int32))), .unset, .unset] []))
  refine own_go (fun t k => XS.iloadN X0.here hx rfl (hb hby at_6) rfl k) ?_
  show own_Goes p e below _ (s₁.setTop (mkF m 7 #[.val (.int x0), .val (.int x1), .val (.int (x1 &&& (511 : Int32))), .unset, .unset] [(.int x0)]))
  obtain ⟨_, T25, L25, X25, ⟨rfl, N25q, e25⟩, st25⟩ := own_callS X0 hx hZ hown (hw _ own_t0) (hw _ own_t1) (hw _ own_t2) (hw _ own_t3) (by decide) (as := [(.int x0)]) (rm1 l Z a0 hw [] x0 cl_H s_H h0 n0 A_H z_H t_H S_s_H) e0 own_pd0 rfl (pc := 7) (Ls := #[.val (.int x0), .val (.int x1), .val (.int (x1 &&& (511 : Int32))), .unset, .unset]) (rest := []) (W := 0) (by rw [hml]; rfl) (Nat.le_of_eq rfl) (by decide) (by decide) (hb hby at_7) (by decide) (by decide)
  have N25 := Fr.app N0 N25q
  refine own_go st25 ?_
  show own_Goes p e below _ (T25.setTop (mkF m 10 #[.val (.int x0), .val (.int x1), .val (.int (x1 &&& (511 : Int32))), .unset, .unset] [(.int (own_f1 x0))]))
  refine own_go (fun t k => XS.iloadN X25.here hx rfl (hb hby at_10) rfl k) ?_
  show own_Goes p e below _ (T25.setTop (mkF m 11 #[.val (.int x0), .val (.int x1), .val (.int (x1 &&& (511 : Int32))), .unset, .unset] [(.int x0), (.int (own_f1 x0))]))
  obtain ⟨_, T26, L26, X26, ⟨rfl, N26q, e26⟩, st26⟩ := own_callS X25 hx hZ hown (hw _ own_t6) (hw _ own_t7) (hw _ own_t8) (hw _ own_t9) (by decide) (as := [(.int x0)]) (rm2 l Z a0 hw [] x0 h0 n0) e25 own_pd0 rfl (pc := 11) (Ls := #[.val (.int x0), .val (.int x1), .val (.int (x1 &&& (511 : Int32))), .unset, .unset]) (rest := [(.int (own_f1 x0))]) (W := 1) (by rw [hml]; rfl) (Nat.le_of_eq rfl) (by decide) (by decide) (hb hby at_11) (by decide) (by decide)
  have N26 := Fr.app N25 N26q
  refine own_go st26 ?_
  show own_Goes p e below _ (T26.setTop (mkF m 14 #[.val (.int x0), .val (.int x1), .val (.int (x1 &&& (511 : Int32))), .unset, .unset] [(.int (own_f2 x0)), (.int (own_f1 x0))]))
  suffices HH28 : own_Goes p e below (own_End s room_1 (own_Q0 x0 x1 s_H h0 n0)) (T26.setTop (mkF m 22 #[.val (.int x0), .val (.int x1), .val (.int (x1 &&& (511 : Int32))), .unset, .unset] [(.int (own_j0_1 x0))])) by
    by_cases hc27 : (own_f1 x0) = (own_f2 x0)
    · refine own_go (fun t k => XS.icmpNo X26.here hx rfl (hb hby at_14) rfl (teq hc27).2 k) ?_
      show own_Goes p e below _ (T26.setTop (mkF m 17 #[.val (.int x0), .val (.int x1), .val (.int (x1 &&& (511 : Int32))), .unset, .unset] []))
      refine own_go (fun t k => XS.iconst X26.here hx rfl (hb hby at_17) k) ?_
      show own_Goes p e below _ (T26.setTop (mkF m 18 #[.val (.int x0), .val (.int x1), .val (.int (x1 &&& (511 : Int32))), .unset, .unset] [(.int (1 : Int32))]))
      refine own_go (fun t k => XS.goto X26.here hx rfl (pc0 := 18) (pc' := 22) rfl (hb hby at_18) (by decide) (by decide) k) ?_
      rw [show (own_j0_1 x0) = (1 : Int32) from by rw [own_j0_1, if_pos hc27]] at HH28
      exact HH28
    · refine own_go (fun t k => XS.icmpYes X26.here hx rfl (pc0 := 14) (pc' := 21) rfl (hb hby at_14) rfl (feq hc27).2 (by decide) (by decide) k) ?_
      show own_Goes p e below _ (T26.setTop (mkF m 21 #[.val (.int x0), .val (.int x1), .val (.int (x1 &&& (511 : Int32))), .unset, .unset] []))
      refine own_go (fun t k => XS.iconst X26.here hx rfl (hb hby at_21) k) ?_
      rw [show (own_j0_1 x0) = (0 : Int32) from by rw [own_j0_1, if_neg hc27]] at HH28
      exact HH28
  show own_Goes p e below _ (T26.setTop (mkF m 22 #[.val (.int x0), .val (.int x1), .val (.int (x1 &&& (511 : Int32))), .unset, .unset] [(.int (own_j0_1 x0))]))
  refine own_go (fun t k => XS.istoreN X26.here hx rfl (hb hby at_22) rfl (l' := #[.val (.int x0), .val (.int x1), .val (.int (x1 &&& (511 : Int32))), .val (.int (own_j0_1 x0)), .unset]) rfl k) ?_
  show own_Goes p e below _ (T26.setTop (mkF m 23 #[.val (.int x0), .val (.int x1), .val (.int (x1 &&& (511 : Int32))), .val (.int (own_j0_1 x0)), .unset] []))
  refine own_go (fun t k => XS.iloadN X26.here hx rfl (hb hby at_23) rfl k) ?_
  show own_Goes p e below _ (T26.setTop (mkF m 24 #[.val (.int x0), .val (.int x1), .val (.int (x1 &&& (511 : Int32))), .val (.int (own_j0_1 x0)), .unset] [(.int (x1 &&& (511 : Int32)))]))
  obtain ⟨_, T29, L29, X29, ⟨rfl, N29q, e29⟩, st29⟩ := own_callS X26 hx hZ hown (hw _ own_t0) (hw _ own_t1) (hw _ own_t2) (hw _ own_t3) (by decide) (as := [(.int (x1 &&& (511 : Int32)))]) (rm1 l Z a0 hw [] (x1 &&& (511 : Int32)) cl_H s_H h0 n0 A_H z_H t_H S_s_H) e26 own_pd0 rfl (pc := 24) (Ls := #[.val (.int x0), .val (.int x1), .val (.int (x1 &&& (511 : Int32))), .val (.int (own_j0_1 x0)), .unset]) (rest := []) (W := 0) (by rw [hml]; rfl) (Nat.le_of_eq rfl) (by decide) (by decide) (hb hby at_24) (by decide) (by decide)
  have N29 := Fr.app N26 N29q
  refine own_go st29 ?_
  show own_Goes p e below _ (T29.setTop (mkF m 27 #[.val (.int x0), .val (.int x1), .val (.int (x1 &&& (511 : Int32))), .val (.int (own_j0_1 x0)), .unset] [(.int (own_f1 (x1 &&& (511 : Int32))))]))
  refine own_go (fun t k => XS.iloadN X29.here hx rfl (hb hby at_27) rfl k) ?_
  show own_Goes p e below _ (T29.setTop (mkF m 28 #[.val (.int x0), .val (.int x1), .val (.int (x1 &&& (511 : Int32))), .val (.int (own_j0_1 x0)), .unset] [(.int (x1 &&& (511 : Int32))), (.int (own_f1 (x1 &&& (511 : Int32))))]))
  obtain ⟨_, T30, L30, X30, ⟨rfl, N30q, e30⟩, st30⟩ := own_callS X29 hx hZ hown (hw _ own_t6) (hw _ own_t7) (hw _ own_t8) (hw _ own_t9) (by decide) (as := [(.int (x1 &&& (511 : Int32)))]) (rm2 l Z a0 hw [] (x1 &&& (511 : Int32)) h0 n0) e29 own_pd0 rfl (pc := 28) (Ls := #[.val (.int x0), .val (.int x1), .val (.int (x1 &&& (511 : Int32))), .val (.int (own_j0_1 x0)), .unset]) (rest := [(.int (own_f1 (x1 &&& (511 : Int32))))]) (W := 1) (by rw [hml]; rfl) (Nat.le_of_eq rfl) (by decide) (by decide) (hb hby at_28) (by decide) (by decide)
  have N30 := Fr.app N29 N30q
  refine own_go st30 ?_
  show own_Goes p e below _ (T30.setTop (mkF m 31 #[.val (.int x0), .val (.int x1), .val (.int (x1 &&& (511 : Int32))), .val (.int (own_j0_1 x0)), .unset] [(.int (own_f2 (x1 &&& (511 : Int32)))), (.int (own_f1 (x1 &&& (511 : Int32))))]))
  suffices HH32 : own_Goes p e below (own_End s room_1 (own_Q0 x0 x1 s_H h0 n0)) (T30.setTop (mkF m 39 #[.val (.int x0), .val (.int x1), .val (.int (x1 &&& (511 : Int32))), .val (.int (own_j0_1 x0)), .unset] [(.int (own_j0_2 x1))])) by
    by_cases hc31 : (own_f1 (x1 &&& (511 : Int32))) = (own_f2 (x1 &&& (511 : Int32)))
    · refine own_go (fun t k => XS.icmpNo X30.here hx rfl (hb hby at_31) rfl (teq hc31).2 k) ?_
      show own_Goes p e below _ (T30.setTop (mkF m 34 #[.val (.int x0), .val (.int x1), .val (.int (x1 &&& (511 : Int32))), .val (.int (own_j0_1 x0)), .unset] []))
      refine own_go (fun t k => XS.iconst X30.here hx rfl (hb hby at_34) k) ?_
      show own_Goes p e below _ (T30.setTop (mkF m 35 #[.val (.int x0), .val (.int x1), .val (.int (x1 &&& (511 : Int32))), .val (.int (own_j0_1 x0)), .unset] [(.int (1 : Int32))]))
      refine own_go (fun t k => XS.goto X30.here hx rfl (pc0 := 35) (pc' := 39) rfl (hb hby at_35) (by decide) (by decide) k) ?_
      rw [show (own_j0_2 x1) = (1 : Int32) from by rw [own_j0_2, if_pos hc31]] at HH32
      exact HH32
    · refine own_go (fun t k => XS.icmpYes X30.here hx rfl (pc0 := 31) (pc' := 38) rfl (hb hby at_31) rfl (feq hc31).2 (by decide) (by decide) k) ?_
      show own_Goes p e below _ (T30.setTop (mkF m 38 #[.val (.int x0), .val (.int x1), .val (.int (x1 &&& (511 : Int32))), .val (.int (own_j0_1 x0)), .unset] []))
      refine own_go (fun t k => XS.iconst X30.here hx rfl (hb hby at_38) k) ?_
      rw [show (own_j0_2 x1) = (0 : Int32) from by rw [own_j0_2, if_neg hc31]] at HH32
      exact HH32
  show own_Goes p e below _ (T30.setTop (mkF m 39 #[.val (.int x0), .val (.int x1), .val (.int (x1 &&& (511 : Int32))), .val (.int (own_j0_1 x0)), .unset] [(.int (own_j0_2 x1))]))
  refine own_go (fun t k => XS.istore X30.here hx rfl (hb hby at_39) rfl (l' := #[.val (.int x0), .val (.int x1), .val (.int (x1 &&& (511 : Int32))), .val (.int (own_j0_1 x0)), .val (.int (own_j0_2 x1))]) rfl k) ?_
  show own_Goes p e below _ (T30.setTop (mkF m 41 #[.val (.int x0), .val (.int x1), .val (.int (x1 &&& (511 : Int32))), .val (.int (own_j0_1 x0)), .val (.int (own_j0_2 x1))] []))
  refine own_go (fun t k => XS.iloadN X30.here hx rfl (hb hby at_41) rfl k) ?_
  show own_Goes p e below _ (T30.setTop (mkF m 42 #[.val (.int x0), .val (.int x1), .val (.int (x1 &&& (511 : Int32))), .val (.int (own_j0_1 x0)), .val (.int (own_j0_2 x1))] [(.int (own_j0_1 x0))]))
  suffices HH35 : own_Goes p e below (own_End s room_1 (own_Q0 x0 x1 s_H h0 n0)) (T30.setTop (mkF m 55 #[.val (.int x0), .val (.int x1), .val (.int (x1 &&& (511 : Int32))), .val (.int (own_j0_1 x0)), .val (.int (own_j0_2 x1))] [(.int (own_j0_3 x0 x1))])) by
    by_cases hc33 : (own_j0_1 x0) = (0 : Int32)
    · refine own_go (fun t k => XS.ifYes X30.here hx rfl (pc0 := 42) (pc' := 54) rfl (hb hby at_42) rfl ((if0 _ _).trans (teq hc33).1) (by decide) (by decide) k) ?_
      show own_Goes p e below _ (T30.setTop (mkF m 54 #[.val (.int x0), .val (.int x1), .val (.int (x1 &&& (511 : Int32))), .val (.int (own_j0_1 x0)), .val (.int (own_j0_2 x1))] []))
      refine own_go (fun t k => XS.iconst X30.here hx rfl (hb hby at_54) k) ?_
      rw [show (own_j0_3 x0 x1) = (0 : Int32) from by rw [own_j0_3, if_pos hc33]] at HH35
      exact HH35
    · refine own_go (fun t k => XS.ifNo X30.here hx rfl (hb hby at_42) rfl ((if0 _ _).trans (feq hc33).1) k) ?_
      show own_Goes p e below _ (T30.setTop (mkF m 45 #[.val (.int x0), .val (.int x1), .val (.int (x1 &&& (511 : Int32))), .val (.int (own_j0_1 x0)), .val (.int (own_j0_2 x1))] []))
      refine own_go (fun t k => XS.iload X30.here hx rfl (hb hby at_45) rfl k) ?_
      show own_Goes p e below _ (T30.setTop (mkF m 47 #[.val (.int x0), .val (.int x1), .val (.int (x1 &&& (511 : Int32))), .val (.int (own_j0_1 x0)), .val (.int (own_j0_2 x1))] [(.int (own_j0_2 x1))]))
      by_cases hc34 : (own_j0_2 x1) = (0 : Int32)
      · refine own_go (fun t k => XS.ifYes X30.here hx rfl (pc0 := 47) (pc' := 54) rfl (hb hby at_47) rfl ((if0 _ _).trans (teq hc34).1) (by decide) (by decide) k) ?_
        show own_Goes p e below _ (T30.setTop (mkF m 54 #[.val (.int x0), .val (.int x1), .val (.int (x1 &&& (511 : Int32))), .val (.int (own_j0_1 x0)), .val (.int (own_j0_2 x1))] []))
        refine own_go (fun t k => XS.iconst X30.here hx rfl (hb hby at_54) k) ?_
        rw [show (own_j0_3 x0 x1) = (0 : Int32) from by rw [own_j0_3, if_neg hc33, if_pos hc34]] at HH35
        exact HH35
      · refine own_go (fun t k => XS.ifNo X30.here hx rfl (hb hby at_47) rfl ((if0 _ _).trans (feq hc34).1) k) ?_
        show own_Goes p e below _ (T30.setTop (mkF m 50 #[.val (.int x0), .val (.int x1), .val (.int (x1 &&& (511 : Int32))), .val (.int (own_j0_1 x0)), .val (.int (own_j0_2 x1))] []))
        refine own_go (fun t k => XS.iconst X30.here hx rfl (hb hby at_50) k) ?_
        show own_Goes p e below _ (T30.setTop (mkF m 51 #[.val (.int x0), .val (.int x1), .val (.int (x1 &&& (511 : Int32))), .val (.int (own_j0_1 x0)), .val (.int (own_j0_2 x1))] [(.int (1 : Int32))]))
        refine own_go (fun t k => XS.goto X30.here hx rfl (pc0 := 51) (pc' := 55) rfl (hb hby at_51) (by decide) (by decide) k) ?_
        rw [show (own_j0_3 x0 x1) = (1 : Int32) from by rw [own_j0_3, if_neg hc33, if_neg hc34]] at HH35
        exact HH35
  show own_Goes p e below _ (T30.setTop (mkF m 55 #[.val (.int x0), .val (.int x1), .val (.int (x1 &&& (511 : Int32))), .val (.int (own_j0_1 x0)), .val (.int (own_j0_2 x1))] [(.int (own_j0_3 x0 x1))]))
  exact own_retN X30 hx hlk hret (by simp) (z' := ((own_j0_3 x0 x1) &&& 1)) rfl (hb hby at_55) (by decide) (by decide) ⟨by rw [own_f0], N30, trivial⟩
theorem own_elem {args : Array Value} {s : State} {t b : Term} {x : Addr} {cl : Cell} {j k : Int32} (ht : t.eval args s none [] s = some (.ref x)) (hs : t.eval args s none [j.toNatClampNeg] s = t.eval args s none [] s) (ha : s.arrayAt? x = some cl) (hj : ¬ j < 0) (h : (Jvm.Cond.eq (Term.elem t (Term.index 0)) b).value args s none s [j.toNatClampNeg] = some true) (hb : b.eval args s none [j.toNatClampNeg] s = some (.int k)) : cl.slots[j.toNatClampNeg]? = some (.int k) := by
  have e := own_eqI h hb
  rwa [elem_f (hs.trans ht) (idx_at hj) ha hj] at e
theorem own_elem1 {args : Array Value} {s : State} {t : Term} {x : Addr} {cl : Cell} {i k : Int32} (ht : t.eval args s none [] s = some (.ref x)) (ha : s.arrayAt? x = some cl) (hi : ¬ i < 0) (h : (Jvm.Cond.eq (Term.elem t (Term.int i)) (Term.int k)).value args s none s [] = some true) : cl.slots[i.toNatClampNeg]? = some (.int k) := by
  have e := own_eqI h (Term.int_eval _)
  rwa [elem_f ht (Term.int_eval _) ha hi] at e
theorem own_one {j : Int32} {a b : Int32} (h1 : ¬ j < a) (h2 : j < b) (h : b.toInt = a.toInt + 1) : j = a := by
  rw [← Int32.toInt_inj]
  rw [Int32.lt_iff_toInt_lt] at h1 h2
  omega
theorem own_lt1 {j a b : Int32} (h : j < a) (h' : a.toInt ≤ b.toInt) : j < b := by
  rw [Int32.lt_iff_toInt_lt] at h ⊢
  omega
theorem own_len {args : Array Value} {s : State} {t : Term} {x : Addr} {cl : Cell} {z : Int32} (ht : t.eval args s none [] s = some (.ref x)) (ha : s.arrayAt? x = some cl) (h : (Term.length t).eval args s none [] s = some (.int z)) : cl.slots.size = z.toNatClampNeg := by
  by_cases q : cl.slots.size < 2 ^ 31
  · rw [len_f ht ha q] at h
    rw [← Value.int.inj (Option.some.inj h)]
    simp only [Int32.toNatClampNeg, len_toInt q]
    rfl
  · simp [Term.eval, ht, ha, q] at h
theorem own_narrow {args : Array Value} {s : State} (hn : narrow_1.value args s none s [] = some true) (hw : ∀ d ∈ tables_1, d.before args s = true) : ∃ (a : Addr) (cl : Cell), Sta s s.heap "com/example/hermod/hermod/header/FieldTokenizer" "TOKEN_CHARACTERS" "[Z" (.ref a) ∧ Arr s s.heap a cl .boolean ∧ cl.slots.size = (128 : Int32).toNatClampNeg ∧ ∀ j : Int32, ¬ j < 0 → j < 128 → cl.slots[j.toNatClampNeg]? = some (.int (own_tab j)) := by
  obtain ⟨n1, m1⟩ := and_e hn
  obtain ⟨n2, m2⟩ := and_e m1
  obtain ⟨n3, m3⟩ := and_e m2
  obtain ⟨n4, m4⟩ := and_e m3
  obtain ⟨n5, m5⟩ := and_e m4
  obtain ⟨n6, m6⟩ := and_e m5
  obtain ⟨n7, m7⟩ := and_e m6
  obtain ⟨n8, m8⟩ := and_e m7
  obtain ⟨n9, m9⟩ := and_e m8
  obtain ⟨n10, m10⟩ := and_e m9
  obtain ⟨n11, m11⟩ := and_e m10
  obtain ⟨n12, m12⟩ := and_e m11
  obtain ⟨n13, m13⟩ := and_e m12
  obtain ⟨n14, m14⟩ := and_e m13
  obtain ⟨n15, m15⟩ := and_e m14
  obtain ⟨n16, m16⟩ := and_e m15
  obtain ⟨n17, m17⟩ := and_e m16
  obtain ⟨n18, m18⟩ := and_e m17
  obtain ⟨n19, m19⟩ := and_e m18
  obtain ⟨n20, m20⟩ := and_e m19
  obtain ⟨n21, m21⟩ := and_e m20
  have n22 := m21
  obtain ⟨a, v⟩ := arr_v n1
  obtain ⟨cl, A⟩ := Arr.start v n1
  have ha : s.arrayAt? a = some cl := Arr.fin (Vm.Alike.refl _) A
  have hsz : cl.slots.size = (128 : Int32).toNatClampNeg := own_len v ha (own_eqI n2 (Term.int_eval _))
  have hb : ∀ j : Int32, ¬ j < 0 → j < 128 → j.toNatClampNeg < cl.slots.size := fun j h1 h2 => by
    have q := inb_of (c := cl) (z := (128 : Int32)) hsz ⟨h1, h2⟩
    omega
  refine ⟨a, cl, Sta.start v (Or.inr ⟨(hw _ own_t2), (hw _ own_t5)⟩), A, hsz, fun j hj hj2 => ?_⟩
  unfold own_tab
  by_cases q0 : j < 33
  · rw [if_pos q0]
    exact own_elem v rfl ha hj (own_or (Cond.all_elim v ha n3 _ (hb j hj hj2)) (own_ixle hj q0)) (Term.int_eval _)
  · rw [if_neg q0]
    by_cases q1 : j < 34
    · rw [if_pos q1]
      have e := own_one q0 q1 rfl
      subst e
      exact own_elem1 v ha (by decide) n4
    · rw [if_neg q1]
      by_cases q2 : j < 35
      · rw [if_pos q2]
        have e := own_one q1 q2 rfl
        subst e
        exact own_elem1 v ha (by decide) n5
      · rw [if_neg q2]
        by_cases q3 : j < 40
        · rw [if_pos q3]
          exact own_elem v rfl ha hj (own_or (own_or (Cond.all_elim v ha n6 _ (hb j hj hj2)) (own_ixlt hj q2)) (own_ixle hj q3)) (Term.int_eval _)
        · rw [if_neg q3]
          by_cases q4 : j < 41
          · rw [if_pos q4]
            have e := own_one q3 q4 rfl
            subst e
            exact own_elem1 v ha (by decide) n7
          · rw [if_neg q4]
            by_cases q5 : j < 42
            · rw [if_pos q5]
              have e := own_one q4 q5 rfl
              subst e
              exact own_elem1 v ha (by decide) n8
            · rw [if_neg q5]
              by_cases q6 : j < 43
              · rw [if_pos q6]
                have e := own_one q5 q6 rfl
                subst e
                exact own_elem1 v ha (by decide) n9
              · rw [if_neg q6]
                by_cases q7 : j < 44
                · rw [if_pos q7]
                  have e := own_one q6 q7 rfl
                  subst e
                  exact own_elem1 v ha (by decide) n10
                · rw [if_neg q7]
                  by_cases q8 : j < 45
                  · rw [if_pos q8]
                    have e := own_one q7 q8 rfl
                    subst e
                    exact own_elem1 v ha (by decide) n11
                  · rw [if_neg q8]
                    by_cases q9 : j < 46
                    · rw [if_pos q9]
                      have e := own_one q8 q9 rfl
                      subst e
                      exact own_elem1 v ha (by decide) n12
                    · rw [if_neg q9]
                      by_cases q10 : j < 47
                      · rw [if_pos q10]
                        have e := own_one q9 q10 rfl
                        subst e
                        exact own_elem1 v ha (by decide) n13
                      · rw [if_neg q10]
                        by_cases q11 : j < 48
                        · rw [if_pos q11]
                          have e := own_one q10 q11 rfl
                          subst e
                          exact own_elem1 v ha (by decide) n14
                        · rw [if_neg q11]
                          by_cases q12 : j < 58
                          · rw [if_pos q12]
                            exact own_elem v rfl ha hj (own_or (own_or (Cond.all_elim v ha n15 _ (hb j hj hj2)) (own_ixlt hj q11)) (own_ixle hj q12)) (Term.int_eval _)
                          · rw [if_neg q12]
                            by_cases q13 : j < 65
                            · rw [if_pos q13]
                              exact own_elem v rfl ha hj (own_or (own_or (Cond.all_elim v ha n16 _ (hb j hj hj2)) (own_ixlt hj q12)) (own_ixle hj q13)) (Term.int_eval _)
                            · rw [if_neg q13]
                              by_cases q14 : j < 91
                              · rw [if_pos q14]
                                exact own_elem v rfl ha hj (own_or (own_or (Cond.all_elim v ha n17 _ (hb j hj hj2)) (own_ixlt hj q13)) (own_ixle hj q14)) (Term.int_eval _)
                              · rw [if_neg q14]
                                by_cases q15 : j < 92
                                · rw [if_pos q15]
                                  have e := own_one q14 q15 rfl
                                  subst e
                                  exact own_elem1 v ha (by decide) n18
                                · rw [if_neg q15]
                                  by_cases q16 : j < 93
                                  · rw [if_pos q16]
                                    have e := own_one q15 q16 rfl
                                    subst e
                                    exact own_elem1 v ha (by decide) n19
                                  · rw [if_neg q16]
                                    by_cases q17 : j < 94
                                    · rw [if_pos q17]
                                      have e := own_one q16 q17 rfl
                                      subst e
                                      exact own_elem1 v ha (by decide) n20
                                    · rw [if_neg q17]
                                      by_cases q18 : j < 127
                                      · rw [if_pos q18]
                                        exact own_elem v rfl ha hj (own_or (own_or (Cond.all_elim v ha n21 _ (hb j hj hj2)) (own_ixlt hj q17)) (own_ixle hj q18)) (Term.int_eval _)
                                      · rw [if_neg q18]
                                        have e := own_one q18 hj2 rfl
                                        subst e
                                        exact own_elem1 v ha (by decide) n22
theorem own_f12 (c : Int32) : own_f1 c = own_f2 c := by
  by_cases h1 : c.toInt < 0
  · have e1 : c < 0 := Int32.lt_iff_toInt_lt.mpr h1
    have n : ¬ 32 < c := fun q => by rw [Int32.lt_iff_toInt_lt, show (32 : Int32).toInt = 32 from rfl] at q; omega
    unfold own_f1 own_j1_1 own_f2
    rw [if_pos e1, if_neg n]; rfl
  · by_cases h2 : 127 < c.toInt
    · have n : ∀ k : Int32, k.toInt ≤ 128 → ¬ c < k := fun k hk q => by rw [Int32.lt_iff_toInt_lt] at q; omega
      have p : (32 : Int32) < c := by rw [Int32.lt_iff_toInt_lt, show (32 : Int32).toInt = 32 from rfl]; omega
      unfold own_f1 own_j1_1 own_f2
      rw [if_neg (n 0 (by decide)), if_neg (n 128 (by decide)), if_pos p, if_neg (n 127 (by decide))]; rfl
    · have key : ∀ n : Fin 128, own_f1 (Int32.ofNat n.val) = own_f2 (Int32.ofNat n.val) := by decide +kernel
      have hk := key ⟨c.toInt.toNat, by omega⟩
      have e : Int32.ofNat c.toInt.toNat = c := by
        rw [← Int32.toInt_inj, Int32.toInt_ofNat_of_lt (by omega)]; omega
      simp only [e] at hk
      exact hk
theorem own_law (x y : Int32) : own_f0 x y = 1 := by
  unfold own_f0 own_j0_3 own_j0_1 own_j0_2
  rw [if_pos (own_f12 _), if_pos (own_f12 _)]; decide
set_option maxRecDepth 65536 in
set_option maxHeartbeats 40000000 in
theorem comes_1 {Post : Tables → Env → Array Value → State → Outcome → State → Prop} (hpost : ∀ tb e args s v u, (limb_1_1.after args s (.returned v) u = true ∧ limb_1_2.after args s (.returned v) u = true) → FrameEnd s (.returned v) u (Jvm.fieldLocs frame_1_writes args s ++ Jvm.arrayLocs frame_1_arrays args s ++ Jvm.staticLocs frame_1_statics s) 0 0 → Post tb e args s (.returned v) u) :
    ArmFor flags0 classFile x code maxLocals ret World_1 tables_1 room_1 Calls_1 rest_1 Pre_1 Post := by
  intro l hfl _ _ p e ha hc hk s m args below hf hA hF happ hP
  obtain ⟨hcalls, hrest, hpre⟩ := hP
  obtain ⟨-, -, -, hnamed, -, -, -, hat⟩ := (Spec.applies_iff hf).mp happ
  obtain ⟨hg, hn⟩ := and_e (Cond.before_iff.mp (show (Jvm.Cond.and given_1 narrow_1).before args s = true from hpre))
  obtain ⟨gg1, gg2⟩ := and_e hg
  obtain ⟨gg3, gg4⟩ := and_e gg2
  obtain ⟨w0, w1, rfl⟩ : ∃ w0 w1 : Value, args = #[w0, w1] := by
    have hs : args.size = 2 := by simpa [Cond.value, given_1] using gg1
    obtain ⟨L⟩ := args
    match L, hs with
    | [w0, w1], _ => exact ⟨w0, w1, rfl⟩
  have hw := fun d (hd : d ∈ tables_1) => atoms_spec (ws := Jvm.Cond.code x code maxLocals ret :: tables_1) hat d (List.mem_cons_of_mem _ hd)
  have hfit : Fit s := fun {y c} hc i hi => by
    obtain ⟨ha, rfl⟩ := Array.getElem?_eq_some_iff.mp hc
    have q := List.all_eq_true.mp ((Array.all_eq_true_iff_forall_mem.mp hF) _ (Array.getElem_mem ha)) i (List.mem_range.mpr hi)
    simpa [Array.getElem?_eq_getElem hi] using q
  obtain ⟨i0, ei0⟩ := is_v gg3
  obtain rfl : w0 = (.int i0) := Option.some.inj ei0
  obtain ⟨i1, ei1⟩ := is_v gg4
  obtain rfl : w1 = (.int i1) := Option.some.inj ei1
  obtain ⟨a_H, cl_H, S_H, A_H, z_H, t_H⟩ := own_narrow hn hw
  obtain ⟨n, o, h1, h2, h3, v, L, rfl, hQ, hq⟩ := rm0 l s _ hw tables_1 i0 i1 cl_H a_H s.heap s.heap.size A_H z_H t_H S_H p e ha hc hk s m _ below hf ((Spec.applies_iff_loose hf).mp happ).1 ⟨rfl, State.Warmed39.refl s, rfl⟩ trivial
  obtain ⟨hv, N, -⟩ := hQ
  rw [show (own_f0 i0 i1 : Int32) = 1 from own_law i0 i1] at hv
  subst hv
  refine ⟨n, _, h1, h2, h3, hpost _ _ _ _ _ _ ⟨Cond.after_iff.mpr rfl, Cond.after_iff.mpr (eq_i res_at (Term.int_eval (1)) rfl)⟩ ⟨hq.1, hq.2.1, (hq.2.2.sift fun y hy => Or.inr (N y hy)).mono (by decide) (by decide)⟩⟩
theorem main_1_1 : Claimed_1_1 := comes_1 fun _ _ _ _ _ _ h hF => ⟨h.1, hF⟩
theorem main_1_2 : Claimed_1_2 := comes_1 fun _ _ _ _ _ _ h hF => ⟨h.2, hF⟩
end Jvm.Pilot.@@N@@
namespace Jvm.Pilot.@@N@@
open Jvm Jvm.ClassFile Sem Op Lib Jvm.Free Jvm.Stand Jvm.Pilot.@@N@@.Jvm.D
/-! MADE BY PROGRAM (witnessworld.py) out of the Statement's table words and the real class files: 11 classes; the members and pool entries that the words name. The judged class is class 1, her method 1. -/
namespace start1
open Jvm.ClassFile
def u (s : String) : CpInfo := .utf8 (stringToUtf16 s)
/-- a pool by its gaps: so many unusable entries, then the entry; so many at the end -/
def gap : Nat → List CpInfo → List CpInfo
  | 0, r => r
  | n + 1, r => .unusable :: gap n r
def poolList (es : List (Nat × CpInfo)) (last : Nat) : List CpInfo := es.foldr (fun e r => gap e.1 (e.2 :: r)) (gap last [])
def pool (es : List (Nat × CpInfo)) (last : Nat) : Array CpInfo := ⟨poolList es last⟩
def fileOf (pool : Array CpInfo) (this : Nat) (attrs : Array Attribute := #[]) (ms : Array MethodInfo := #[]) (fl : Nat := 33) (sup : Nat := 0) (ifs : Array Nat := #[]) (fds : Array FieldInfo := #[]) : ClassFile where
  minorVersion := 0
  majorVersion := 65
  constantPool := pool
  accessFlags := fl
  thisClass := this
  superClass := sup
  interfaces := ifs
  fields := fds
  methods := ms
  attributes := attrs
def plain (name : String) (sup : Option ClassId) : Class where
  name := name
  kind := .ordinary
  loader := none
  accessFlags := 33
  super := sup
  interfaces := #[]
  cf := none
  fields := #[]
  methods := #[]
  instanceTypes := #[]
  staticTypes := #[]
  resolved := #[]
  callSites := []
  init := .initialized
  statics := none
  mirror := none

def pool0 : Array CpInfo := pool [(5, u "<init>"), (0, u "()V"), (1, .class_ 10), (1, u "java/lang/Object")] 113

def k0m0 : Method := { name := "<init>", desc := "()V", sig := { parameters := [], returnType := none }, accessFlags := 1, code := none }
/-- java/lang/Object -/
def k0 : Class := { plain "java/lang/Object" none with
  accessFlags := 33
  interfaces := #[]
  cf := some (fileOf pool0 8 #[] #[{ accessFlags := 1, nameIndex := 5, descriptorIndex := 6, attributes := #[] }] 33 0 #[] #[])
  fields := #[]
  methods := #[k0m0]
  instanceTypes := #[]
  staticTypes := #[]
  resolved := Array.replicate 124 none
  statics := none }

def pool1 : Array CpInfo := pool [(2, .class_ 4), (1, u "java/lang/Object"), (0, u "<init>"), (0, u "()V"), (0, .methodref 8 9), (0, .class_ 10), (0, .nameAndType 11 12), (0, u "com/example/hermod/hermod/header/FieldTokenizer"), (0, u "isAsciiTokenCharacter"), (0, u "(I)Z"), (0, .methodref 14 15), (0, .class_ 16), (0, .nameAndType 17 12), (0, u "com/example/hermod/hermod/header/FieldTokenizerIsAsciiTokenCharacterPinLaw"), (0, u "reference"), (2, u "law"), (0, u "(II)Z")] 3

def k1m0 : Method := { name := "<init>", desc := "()V", sig := { parameters := [], returnType := none }, accessFlags := 2, code := none }
def k1c1 : Code := { maxStack := 2, maxLocals := 5, code := code, exceptionTable := #[], attributes := #[] }
def k1m1 : Method := { name := "law", desc := "(II)Z", sig := { parameters := [.int, .int], returnType := some .boolean }, accessFlags := 9, code := some k1c1 }
def k1c2 : Code := { maxStack := 2, maxLocals := 1, code := method_3_code, exceptionTable := #[], attributes := #[] }
def k1m2 : Method := { name := "reference", desc := "(I)Z", sig := { parameters := [.int], returnType := some .boolean }, accessFlags := 10, code := some k1c2 }
/-- com/example/hermod/hermod/header/FieldTokenizerIsAsciiTokenCharacterPinLaw -/
def k1 : Class := { plain "com/example/hermod/hermod/header/FieldTokenizerIsAsciiTokenCharacterPinLaw" (some 0) with
  accessFlags := 49
  interfaces := #[]
  cf := some (fileOf pool1 14 #[] #[{ accessFlags := 2, nameIndex := 5, descriptorIndex := 6, attributes := #[] }, { accessFlags := 9, nameIndex := 20, descriptorIndex := 21, attributes := #[] }, { accessFlags := 10, nameIndex := 17, descriptorIndex := 12, attributes := #[] }] 49 2 #[] #[])
  fields := #[]
  methods := #[k1m0, k1m1, k1m2]
  instanceTypes := #[]
  staticTypes := #[]
  resolved := Array.replicate 25 none
  statics := none }

def pool2 : Array CpInfo := pool [(2, .class_ 4), (1, u "java/lang/Object"), (3, .class_ 10), (1, u "com/example/hermod/hermod/header/FieldTokenizer"), (0, u "text"), (0, u "Ljava/lang/String;"), (5, u "position"), (0, u "I"), (48, u "(I)Z"), (17, .fieldref 8 87), (0, .nameAndType 88 89), (0, u "TOKEN_CHARACTERS"), (0, u "[Z"), (8, u "isAsciiTokenCharacter"), (4, u "SPECIALS")] 32

def k2c0 : Code := { maxStack := 2, maxLocals := 1, code := prog_31_method_10_code, exceptionTable := #[], attributes := #[] }
def k2m0 : Method := { name := "isAsciiTokenCharacter", desc := "(I)Z", sig := { parameters := [.int], returnType := some .boolean }, accessFlags := 8, code := some k2c0 }
/-- com/example/hermod/hermod/header/FieldTokenizer -/
def k2 : Class := { plain "com/example/hermod/hermod/header/FieldTokenizer" (some 0) with
  accessFlags := 32
  interfaces := #[]
  cf := some (fileOf pool2 8 #[] #[{ accessFlags := 8, nameIndex := 98, descriptorIndex := 68, attributes := #[] }] 32 2 #[] #[{ accessFlags := 26, nameIndex := 103, descriptorIndex := 12, attributes := #[] }, { accessFlags := 26, nameIndex := 88, descriptorIndex := 89, attributes := #[] }, { accessFlags := 18, nameIndex := 11, descriptorIndex := 12, attributes := #[] }, { accessFlags := 2, nameIndex := 18, descriptorIndex := 19, attributes := #[] }])
  fields := #[{ name := "SPECIALS", type := (.object "java/lang/String"), accessFlags := 26, slot := 0, constantValue := 0 }, { name := "TOKEN_CHARACTERS", type := (.array .boolean), accessFlags := 26, slot := 1, constantValue := 0 }, { name := "text", type := (.object "java/lang/String"), accessFlags := 18, slot := 0, constantValue := 0 }, { name := "position", type := .int, accessFlags := 2, slot := 1, constantValue := 0 }]
  methods := #[k2m0]
  instanceTypes := #[(.object "java/lang/String"), .int]
  staticTypes := #[(.object "java/lang/String"), (.array .boolean)]
  resolved := Array.replicate 136 none
  statics := some 0 }

def pool3 : Array CpInfo := pool [(1, u "java/lang/Cloneable"), (0, .class_ 1), (0, u "java/lang/Object"), (0, .class_ 3)] 3

/-- java/lang/Cloneable -/
def k3 : Class := { plain "java/lang/Cloneable" (some 0) with
  accessFlags := 1537
  interfaces := #[]
  cf := some (fileOf pool3 2 #[] #[] 1537 4 #[] #[])
  fields := #[]
  methods := #[]
  instanceTypes := #[]
  staticTypes := #[]
  resolved := Array.replicate 8 none
  statics := none }

def pool4 : Array CpInfo := pool [(1, u "java/io/Serializable"), (0, .class_ 1), (0, u "java/lang/Object"), (0, .class_ 3)] 3

/-- java/io/Serializable -/
def k4 : Class := { plain "java/io/Serializable" (some 0) with
  accessFlags := 1537
  interfaces := #[]
  cf := some (fileOf pool4 2 #[] #[] 1537 4 #[] #[])
  fields := #[]
  methods := #[]
  instanceTypes := #[]
  staticTypes := #[]
  resolved := Array.replicate 8 none
  statics := none }

/-- the primitive boolean -/
def k5 : Class := { plain "boolean" none with kind := .primitive 'Z', accessFlags := 0x411 }
/-- [Z -/
def k6 : Class := { plain "[Z" (some 0) with kind := .array 5 .boolean, interfaces := #[3, 4], accessFlags := 1041 }

/-- the primitive byte -/
def k7 : Class := { plain "byte" none with kind := .primitive 'B', accessFlags := 0x411 }
/-- [B -/
def k8 : Class := { plain "[B" (some 0) with kind := .array 7 .byte, interfaces := #[3, 4], accessFlags := 1041 }

/-- the primitive int -/
def k9 : Class := { plain "int" none with kind := .primitive 'I', accessFlags := 0x411 }
/-- [I -/
def k10 : Class := { plain "[I" (some 0) with kind := .array 9 .int, interfaces := #[3, 4], accessFlags := 1041 }

def heap : Heap := #[{ cls := 2, slots := #[.null, .ref 1], vm := .statics 2 },
  { cls := 6, slots := #[.int 0, .int 0, .int 0, .int 0, .int 0, .int 0, .int 0, .int 0, .int 0, .int 0, .int 0, .int 0, .int 0, .int 0, .int 0, .int 0, .int 0, .int 0, .int 0, .int 0, .int 0, .int 0, .int 0, .int 0, .int 0, .int 0, .int 0, .int 0, .int 0, .int 0, .int 0, .int 0, .int 0, .int 1, .int 0, .int 1, .int 1, .int 1, .int 1, .int 1, .int 0, .int 0, .int 1, .int 1, .int 0, .int 1, .int 1, .int 0, .int 1, .int 1, .int 1, .int 1, .int 1, .int 1, .int 1, .int 1, .int 1, .int 1, .int 0, .int 0, .int 0, .int 0, .int 0, .int 0, .int 0, .int 1, .int 1, .int 1, .int 1, .int 1, .int 1, .int 1, .int 1, .int 1, .int 1, .int 1, .int 1, .int 1, .int 1, .int 1, .int 1, .int 1, .int 1, .int 1, .int 1, .int 1, .int 1, .int 1, .int 1, .int 1, .int 1, .int 0, .int 0, .int 0, .int 1, .int 1, .int 1, .int 1, .int 1, .int 1, .int 1, .int 1, .int 1, .int 1, .int 1, .int 1, .int 1, .int 1, .int 1, .int 1, .int 1, .int 1, .int 1, .int 1, .int 1, .int 1, .int 1, .int 1, .int 1, .int 1, .int 1, .int 1, .int 1, .int 1, .int 1, .int 1, .int 1, .int 0], vm := .none }]
def classes : Array Class := #[k0, k1, k2, k3, k4, k5, k6, k7, k8, k9, k10]
def interned : List (Array UInt16 × Addr) := []
def slotsUsed : Nat := 130
def theMethod : MethodId := ⟨1, 1⟩
def args0 : Array Value := #[.int 5, .int 7]
def aboutOver (below : List Frame) : State where
  vm := { classes := classes, interned := interned.toArray }
  heap := heap
  slotsUsed := slotsUsed
  threads := #[{ frames := .invoking theMethod args0 :: below }]
def below0 : List Frame := [.native { method := ⟨0, 0⟩, args := #[] }]
def about1 : State := aboutOver below0
def p0 : Program := .bare "" "" ""
def e0 : Env := launch0.env 0 0 0
theorem w_frames : about1.frames = Frame.invoking theMethod args0 :: below0 := rfl
set_option maxRecDepth 65536 in
theorem w_args : argsFit about1.vm theMethod args0 = true := by decide +kernel
set_option maxRecDepth 65536 in
theorem w_heap : heapFits about1 = true := by decide +kernel
set_option maxRecDepth 65536 in
theorem w_runnable : about1.curStatus? = some .runnable := by decide +kernel
set_option maxRecDepth 65536 in
theorem w_alone : about1.alone = true := by decide +kernel
set_option maxRecDepth 65536 in
theorem w_named : about1.methodNamed? x = some theMethod := by decide +kernel
set_option maxRecDepth 65536 in
theorem w_hears : about1.hears theMethod below0 = true := by decide +kernel
set_option maxRecDepth 65536 in
theorem w_ripe : about1.ripe theMethod args0 below0 = true := by decide +kernel
theorem w_running : about1.status = .running := rfl
set_option maxRecDepth 65536 in
theorem w_room : about1.hasRoom e0.platform room_1 = true :=
  launch0.hasRoom_least _ room_1 (by decide +kernel) (by decide +kernel) (by decide +kernel) (by decide +kernel) (by decide +kernel) (by decide +kernel)
theorem allAtoms_all (ts : List Jvm.Cond) (a : Array Jvm.Value) (st : Jvm.State) : (allAtoms ts).before a st = ts.all (fun c => c.before a st) := by
  induction ts with
  | nil => rfl
  | cons c t ih =>
    show (Jvm.Cond.and c (allAtoms t)).before a st = _
    rw [Jvm.Cond.before_and, ih, List.all_cons]
def words1 : List Jvm.Cond := Jvm.Cond.code x code maxLocals ret :: tables_1
/-- a 'code' word, met by the world's own term for the bytes: nothing is compared byte by byte -/
theorem code_word {y : MethodName} {bytes : ByteArray} {mx : Nat} {rt : Option FieldType} {a : Array Value} {s : State} {m : MethodId} {meth : Method} {c : Code} (h1 : s.methodNamed? y = some m) (h2 : s.vm.method? m = some meth) (h3 : meth.code = some c) (h4 : c.code = bytes)
    (h5 : (c.maxLocals == mx && c.exceptionTable.isEmpty && decide (c.maxStack ≤ mostOperands) && decide (meth.sig.returnType = rt) && !meth.locks && decide (parseMethodDescriptor y.desc = some meth.sig)) = true) : (Jvm.Cond.code y bytes mx rt).before a s = true := by
  simp only [Bool.and_eq_true, beq_iff_eq, Bool.not_eq_true', decide_eq_true_eq] at h5
  obtain ⟨⟨⟨⟨⟨g1, g2⟩, g3⟩, g4⟩, g5⟩, g6⟩ := h5
  simp [Cond.before, Cond.holds, Cond.value, h1, h2, h3, h4, g1, g2, g3, g4, g5, g6]
def isCode : Jvm.Cond → Bool
  | .code _ _ _ _ => true
  | _ => false
theorem all_split {L : List Jvm.Cond} {P : Jvm.Cond → Bool} (h1 : L.all (fun c => isCode c || P c) = true) (h2 : ∀ c ∈ L.filter isCode, P c = true) : L.all P = true := by
  refine List.all_eq_true.mpr fun c hc => ?_
  have h := List.all_eq_true.mp h1 c hc
  rcases Bool.eq_false_or_eq_true (isCode c) with hi | hi
  · exact h2 c (List.mem_filter.mpr ⟨hc, hi⟩)
  · simpa [hi] using h
set_option maxRecDepth 65536 in
theorem w_c0 : (Jvm.Cond.code x code maxLocals ret).before args0 about1 = true := code_word (m := ⟨1, 1⟩) (meth := k1m1) (c := k1c1) (by decide +kernel) rfl rfl rfl (by decide +kernel)
set_option maxRecDepth 65536 in
theorem w_c1 : (Jvm.Cond.code ({ cls := "com/example/hermod/hermod/header/FieldTokenizer", name := "isAsciiTokenCharacter", desc := "(I)Z" } : Jvm.MethodName) prog_31_method_10_code (1 : Nat) (Option.some Jvm.ClassFile.FieldType.boolean)).before args0 about1 = true := code_word (m := ⟨2, 0⟩) (meth := k2m0) (c := k2c0) (by decide +kernel) rfl rfl rfl (by decide +kernel)
set_option maxRecDepth 65536 in
theorem w_c2 : (Jvm.Cond.code ({ cls := "com/example/hermod/hermod/header/FieldTokenizerIsAsciiTokenCharacterPinLaw", name := "reference", desc := "(I)Z" } : Jvm.MethodName) method_3_code (1 : Nat) (Option.some Jvm.ClassFile.FieldType.boolean)).before args0 about1 = true := code_word (m := ⟨1, 2⟩) (meth := k1m2) (c := k1c2) (by decide +kernel) rfl rfl rfl (by decide +kernel)
def codes1 : List Jvm.Cond := [Jvm.Cond.code x code maxLocals ret, Jvm.Cond.code ({ cls := "com/example/hermod/hermod/header/FieldTokenizer", name := "isAsciiTokenCharacter", desc := "(I)Z" } : Jvm.MethodName) prog_31_method_10_code (1 : Nat) (Option.some Jvm.ClassFile.FieldType.boolean), Jvm.Cond.code ({ cls := "com/example/hermod/hermod/header/FieldTokenizerIsAsciiTokenCharacterPinLaw", name := "reference", desc := "(I)Z" } : Jvm.MethodName) method_3_code (1 : Nat) (Option.some Jvm.ClassFile.FieldType.boolean)]
set_option maxRecDepth 65536 in
theorem codes_eq : words1.filter isCode = codes1 := rfl
theorem w_codes : ∀ c ∈ words1.filter isCode, c.before args0 about1 = true := by
  rw [codes_eq]
  intro c hc
  simp only [codes1, List.mem_cons, List.not_mem_nil, or_false] at hc
  rcases hc with rfl | rfl | rfl
  · exact w_c0
  · exact w_c1
  · exact w_c2
set_option maxRecDepth 65536 in
theorem w_t1 : words1.all (fun c => isCode c || c.before args0 about1) = true := by decide +kernel
theorem w_tables : (allAtoms (Jvm.Cond.code x code maxLocals ret :: tables_1)).before args0 about1 = true := by
  rw [allAtoms_all]
  show words1.all (fun c => c.before args0 about1) = true
  refine all_split ?_ w_codes
  rw [w_t1]
set_option maxRecDepth 65536 in
theorem w_case : (Jvm.Cond.and given_1 narrow_1).before args0 about1 = true := by decide +kernel
theorem w_applies : (headSpec (Jvm.Cond.code x code maxLocals ret :: tables_1) room_1).applies x e0.platform about1 = true :=
  (Spec.applies_iff w_frames).mpr ⟨w_running, w_runnable, w_alone, w_named, w_hears, w_ripe, w_room, w_tables⟩
theorem atStart : AtStart classFile x code maxLocals ret World_1 tables_1 room_1 Calls_1 rest_1 Pre_1 launch0 p0 e0 about1 theMethod args0 below0 :=
  ⟨lists_1, trivial, launch0.admits_env _ _ _, launch0.least_env, fairChoices_fair.cas, fairChoices_fair.clock, w_frames, w_args, w_heap, w_applies, trivial, trivial, w_case⟩
end start1
theorem witness_1 : WitnessClaimed_1 := ⟨start1.p0, start1.e0, start1.about1, start1.theMethod, start1.args0, start1.below0, start1.atStart⟩
end Jvm.Pilot.@@N@@
