import JvmDerived
import JvmDerived.Pilot.@@N@@Statement
import JvmDerived.Pilot.@@N@@Code
set_option linter.unusedVariables false
set_option linter.unusedSimpArgs false
@@BLOCK:NumsL.lean.txt@@
namespace Jvm.Pilot.@@N@@
open Jvm Jvm.ClassFile Sem Op Lib Jvm.Free Jvm.Stand Jvm.LawKit Jvm.RoadKit Bundle Jvm.Pilot.@@N@@.Jvm.D
section Own
variable {p : Program} {l : Launch} {e : Env} {R rm : Room} {s : State} {m : MethodId} {args : Array Value} {below : List Frame} {meth : Method} {c : Code} {T : State} {locs : List Loc} {cells slots : Nat} {Z : State} {a0 : Array Value} {h : Heap}
/-- the run comes to the end of the invocation, and what is asked holds there -/
def o_Goes (p : Program) (e : Env) (below : List Frame) (G : Outcome → State → Prop) (S : State) : Prop := ∃ s₂ o, Steps p.tables e below S s₂ ∧ s₂.status = .running ∧ Ended s₂ below o ∧ G o s₂
theorem o_go {G : Outcome → State → Prop} {S S' : State} (h : ∀ t, Steps p.tables e below S' t → Steps p.tables e below S t) (k : o_Goes p e below G S') : o_Goes p e below G S := by
  obtain ⟨s₂, o, h1, h2⟩ := k
  exact ⟨s₂, o, h _ h1, h2⟩
theorem o_tr {G : Outcome → State → Prop} {S S' : State} (h : Steps p.tables e below S S') (k : o_Goes p e below G S') : o_Goes p e below G S := o_go (fun _ q => h.trans q) k
abbrev o_End (s : State) (rm : Room) (Q : Option Value → Heap → List Loc → Prop) : Outcome → State → Prop := fun o U' => ∃ v L, o = .returned v ∧ Q v U'.heap L ∧ FrameEnd s o U' L rm.cells rm.slots
/-- a body's contract: with these arguments, over this heap, it returns and leaves what Q says -/
def o_Met (l : Launch) (Z : State) (y : MethodName) (bytes : ByteArray) (maxL : Nat) (ret : Option FieldType) (ws : List Jvm.Cond) (rm : Room) (as : Array Value) (h0 : Heap) (Q : Option Value → Heap → List Loc → Prop) : Prop :=
  MetFree l y (head1 (Jvm.Cond.code y bytes maxL ret :: ws) rm) (fun a U => a = as ∧ Z.Warmed39 U.vm ∧ U.heap = h0) (fun _ _ _ _ _ => True) (fun _ U o U' => ∃ v L, o = .returned v ∧ Q v U'.heap L ∧ FrameEnd U o U' L rm.cells rm.slots)
theorem o_met {y : MethodName} {bytes : ByteArray} {maxL : Nat} {ret : Option FieldType} {ws : List Jvm.Cond} {as : Array Value} {h0 : Heap} {Q : Option Value → Heap → List Loc → Prop} (hp : plainFor y = true)
    (body : ∀ (p : Program) (e : Env) (s : State) (m : MethodId) (below : List Frame) (meth : Method) (c : Code) (s₁ : State), p.tables.exec = Jvm.exec → c.code = bytes → c.maxLocals = maxL → s.vm.findClass y.cls = some m.cls → meth.name = y.name → meth.sig.returnType = ret → meth.locks = false → Z.Warmed39 s.vm → s₁.heap = h0 →
      Stand p l e rm s m as below meth c s₁ [] 0 0 → o_Goes p e below (o_End s rm Q) (s₁.setTop (entryFrame m as maxL))) : o_Met l Z y bytes maxL ret ws rm as h0 Q := by
  refine MetFree.of_bodySF hp hisR ?_
  intro p e s m args below meth c s₁ Bd hml hP hK
  obtain ⟨rfl, hZ, hh⟩ := hP
  exact body p e s m below meth c s₁ Bd.exec Bd.bytes hml (findClass_of_methodNamed Bd.named) (name_of_methodNamed Bd.named Bd.method).1 Bd.returns Bd.notSynchronized hZ (by rw [← hh, Bd.state]; rfl) (Stand.of_body Bd)
/-- the returns -/
theorem o_retV {Q : Option Value → Heap → List Loc → Prop} (X : Stand p l e rm s m args below meth c T locs cells slots) (hx : p.tables.exec = Jvm.exec) (hlk : meth.locks = false) {pc : Nat} {Ls : Array Slot} {w : Value} {t : FieldType} {i : Instr} {rest : List Value} (hret : meth.sig.returnType = some t) (hn : narrow t w = w)
    (hi : (i = .ireturn ∧ (t = .int ∨ t = .boolean ∨ t = .byte ∨ t = .char ∨ t = .short) ∧ ∃ z, w = .int z) ∨ (i = .lreturn ∧ t = .long ∧ ∃ z, w = .long z) ∨ (i = .dreturn ∧ t = .double ∧ ∃ z, w = .double z) ∨ (i = .freturn ∧ t = .float ∧ ∃ z, w = .float z) ∨ (i = .areturn ∧ t.isReference = true ∧ w.isRef = true))
    (hd : decode c.code pc = .ok (i, 1)) (hc : cells ≤ rm.cells) (hs : slots ≤ rm.slots) (hq : Q (some w) T.heap locs) : o_Goes p e below (o_End s rm Q) (T.setTop (mkF m pc Ls (w :: rest))) := by
  obtain ⟨fs, hr, hrun, hended, hW, hsame⟩ := X.leave (v := some w) (fun h => by rw [hret] at h; cases h) hlk
  exact ⟨_, _, retOut X hx hret hn hi hd hr, hrun, hended, _, _, rfl, hq, ⟨_, rfl⟩, hW, hsame.mono hc hs⟩
theorem o_retI {Q : Option Value → Heap → List Loc → Prop} (X : Stand p l e rm s m args below meth c T locs cells slots) (hx : p.tables.exec = Jvm.exec) (hlk : meth.locks = false) {pc : Nat} {Ls : Array Slot} {z : Int32} {rest : List Value} (hret : meth.sig.returnType = some .int)
    (hd : decode c.code pc = .ok (.ireturn, 1)) (hc : cells ≤ rm.cells) (hs : slots ≤ rm.slots) (hq : Q (some (.int z)) T.heap locs) : o_Goes p e below (o_End s rm Q) (T.setTop (mkF m pc Ls (.int z :: rest))) :=
  o_retV X hx hlk hret rfl (Or.inl ⟨rfl, Or.inl rfl, z, rfl⟩) hd hc hs hq
theorem o_retJ {Q : Option Value → Heap → List Loc → Prop} (X : Stand p l e rm s m args below meth c T locs cells slots) (hx : p.tables.exec = Jvm.exec) (hlk : meth.locks = false) {pc : Nat} {Ls : Array Slot} {z : Int64} {rest : List Value} (hret : meth.sig.returnType = some .long)
    (hd : decode c.code pc = .ok (.lreturn, 1)) (hc : cells ≤ rm.cells) (hs : slots ≤ rm.slots) (hq : Q (some (.long z)) T.heap locs) : o_Goes p e below (o_End s rm Q) (T.setTop (mkF m pc Ls (.long z :: rest))) :=
  o_retV X hx hlk hret rfl (Or.inr (Or.inl ⟨rfl, rfl, z, rfl⟩)) hd hc hs hq
theorem o_retD {Q : Option Value → Heap → List Loc → Prop} (X : Stand p l e rm s m args below meth c T locs cells slots) (hx : p.tables.exec = Jvm.exec) (hlk : meth.locks = false) {pc : Nat} {Ls : Array Slot} {z : UInt64} {rest : List Value} (hret : meth.sig.returnType = some .double)
    (hd : decode c.code pc = .ok (.dreturn, 1)) (hc : cells ≤ rm.cells) (hs : slots ≤ rm.slots) (hq : Q (some (.double z)) T.heap locs) : o_Goes p e below (o_End s rm Q) (T.setTop (mkF m pc Ls (.double z :: rest))) :=
  o_retV X hx hlk hret rfl (Or.inr (Or.inr (Or.inl ⟨rfl, rfl, z, rfl⟩))) hd hc hs hq
theorem o_retR {Q : Option Value → Heap → List Loc → Prop} (X : Stand p l e rm s m args below meth c T locs cells slots) (hx : p.tables.exec = Jvm.exec) (hlk : meth.locks = false) {pc : Nat} {Ls : Array Slot} {w : Value} {t : FieldType} {rest : List Value} (hret : meth.sig.returnType = some t) (ht : t.isReference = true) (hw : w.isRef = true)
    (hd : decode c.code pc = .ok (.areturn, 1)) (hc : cells ≤ rm.cells) (hs : slots ≤ rm.slots) (hq : Q (some w) T.heap locs) : o_Goes p e below (o_End s rm Q) (T.setTop (mkF m pc Ls (w :: rest))) :=
  o_retV X hx hlk hret (by cases t <;> first | rfl | cases ht) (Or.inr (Or.inr (Or.inr (Or.inr ⟨rfl, ht, hw⟩)))) hd hc hs hq
theorem o_retN {Q : Option Value → Heap → List Loc → Prop} (X : Stand p l e rm s m args below meth c T locs cells slots) (hx : p.tables.exec = Jvm.exec) (hlk : meth.locks = false) {pc : Nat} {Ls : Array Slot} {z z' : Int32} {t : FieldType} {rest : List Value} (hret : meth.sig.returnType = some t) (ht : t = .boolean ∨ t = .byte ∨ t = .char ∨ t = .short) (hz : nar t z = z')
    (hd : decode c.code pc = .ok (.ireturn, 1)) (hc : cells ≤ rm.cells) (hs : slots ≤ rm.slots) (hq : Q (some (.int z')) T.heap locs) : o_Goes p e below (o_End s rm Q) (T.setTop (mkF m pc Ls (.int z :: rest))) := by
  subst hz
  obtain ⟨fs, hr, hrun, hended, hW, hsame⟩ := X.leave (v := some (.int (nar t z))) (fun h => by rw [hret] at h; cases h) hlk
  exact ⟨_, _, retN X hx hret ht hd hr, hrun, hended, _, _, rfl, hq, ⟨_, rfl⟩, hW, hsame.mono hc hs⟩
theorem o_ret0 {Q : Option Value → Heap → List Loc → Prop} (X : Stand p l e rm s m args below meth c T locs cells slots) (hx : p.tables.exec = Jvm.exec) (hlk : meth.locks = false) {pc : Nat} {Ls : Array Slot} (hret : meth.sig.returnType = none)
    (hd : decode c.code pc = .ok (.return_, 1)) (hc : cells ≤ rm.cells) (hs : slots ≤ rm.slots) (hq : Q none T.heap locs) : o_Goes p e below (o_End s rm Q) (T.setTop (mkF m pc Ls [])) := by
  obtain ⟨fs, hr, hrun, hended, hW, hsame⟩ := X.leave (v := none) (fun _ => rfl) hlk
  exact ⟨_, _, X.returnOut hx hret hd hr, hrun, hended, _, _, rfl, hq, ⟨_, rfl⟩, hW, hsame.mono hc hs⟩
/-- a static call by the callee's contract -/
theorem o_callS (X : Stand p l e R s m args below meth c T locs cells slots) (hx : p.tables.exec = Jvm.exec) (hZ : Z.Warmed39 s.vm) {own : String} {index : Nat} {y : MethodName} {bytes : ByteArray} {maxL : Nat} {ret : Option FieldType} (hown : s.vm.findClass own = some m.cls)
    (w1 : (Jvm.Cond.methodLink own index y).before a0 Z = true) (w2 : (Jvm.Cond.static y).before a0 Z = true) (w3 : (Jvm.Cond.initialized y.cls).before a0 Z = true) (w4 : (Jvm.Cond.code y bytes maxL ret).before a0 Z = true) (hy : y.cls ≠ "java/lang/invoke/MethodHandle" ∧ y.cls ≠ "java/lang/invoke/VarHandle")
    {as : List Value} {Q : Option Value → Heap → List Loc → Prop} (hM : o_Met l Z y bytes maxL ret [] rm as.toArray h Q) (eT : T.heap = h) {ps : List FieldType} {rt : Option FieldType} (hpd : parseMethodDescriptor y.desc = some ⟨ps, rt⟩) (hlen : as.length = ps.length)
    {pc : Nat} {Ls : Array Slot} {rest : List Value} {W : Nat} (hsize : Ls.size = c.maxLocals) (hW : (rest.map fun v => v.category).sum ≤ W) (hf : rm.frames + 1 ≤ R.frames) (hl : W + (maxL + 11) + rm.locals ≤ R.locals) (hd : decode c.code pc = .ok (.invokestatic index, 3)) (hc : cells + rm.cells ≤ R.cells) (hs : slots + rm.slots ≤ R.slots) :
    ∃ (v : Option Value) (T' : State) (L' : List Loc), Stand p l e R s m args below meth c T' (locs ++ L') (cells + rm.cells) (slots + rm.slots) ∧ Q v T'.heap L' ∧ ∀ target, Steps p.tables e below (T'.setTop (mkF m (pc + 3) Ls (v.toList ++ rest))) target → Steps p.tables e below (T.setTop (mkF m pc Ls (as.reverse ++ rest))) target := by
  obtain ⟨v, _, ⟨T', L', k', n'⟩, -, X', ⟨Lc, hQ, hl', hk', hn'⟩, st⟩ := Jvm.LawKit.callS X hx (y := y) hown (mvT hZ w1) (mvT hZ w2) (mvT hZ w3) (mvT hZ w4) hy (backOf (W := W) hM hZ w4 w3 hf hl) (g := mkF m pc Ls (as.reverse ++ rest)) rfl hsize (argsL := as) (rest := rest) (lenOf hpd hlen) rfl (by show 2 * 0 + _ ≤ _; omega) hd (fun _ _ => ⟨rfl, eT, hc, hs⟩)
  dsimp only [Pt.U, Pt.locs, Pt.cells, Pt.slots] at X' hl' hk' hn' st hQ
  subst hl' hk' hn'
  exact ⟨v, T', Lc, X', hQ, st⟩
/-- an instance method by the contract of the body that the receiver's class selects -/
theorem o_callV (X : Stand p l e R s m args below meth c T locs cells slots) (hx : p.tables.exec = Jvm.exec) (hZ : Z.Warmed39 s.vm) {own C : String} {index : Nat} {y : MethodName} {bytes : ByteArray} {maxL : Nat} {ret : Option FieldType} (hown : s.vm.findClass own = some m.cls)
    (w1 : (Jvm.Cond.methodLink own index y).before a0 Z = true) (w2 : (Jvm.Cond.declares y).before a0 Z = true) (w3 : (Jvm.Cond.selects C y y).before a0 Z = true) (w4 : (Jvm.Cond.instanceMethod y).before a0 Z = true) (w5 : (Jvm.Cond.initialized y.cls).before a0 Z = true) (w6 : (Jvm.Cond.code y bytes maxL ret).before a0 Z = true) (hy : y.cls ≠ "java/lang/invoke/MethodHandle" ∧ y.cls ≠ "java/lang/invoke/VarHandle")
    {b : Addr} {as : List Value} {Q : Option Value → Heap → List Loc → Prop} (hM : o_Met l Z y bytes maxL ret [] rm (Value.ref b :: as).toArray h Q) (eT : T.heap = h) (E : Exa Z h b C) {ps : List FieldType} {rt : Option FieldType} (hpd : parseMethodDescriptor y.desc = some ⟨ps, rt⟩) (hlen : as.length = ps.length)
    {pc : Nat} {Ls : Array Slot} {rest : List Value} {W : Nat} (hsize : Ls.size = c.maxLocals) (hW : (rest.map fun v => v.category).sum ≤ W) (hf : rm.frames + 1 ≤ R.frames) (hl : W + (maxL + 11) + rm.locals ≤ R.locals) (hd : decode c.code pc = .ok (.invokevirtual index, 3)) (hc : cells + rm.cells ≤ R.cells) (hs : slots + rm.slots ≤ R.slots) :
    ∃ (v : Option Value) (T' : State) (L' : List Loc), Stand p l e R s m args below meth c T' (locs ++ L') (cells + rm.cells) (slots + rm.slots) ∧ Q v T'.heap L' ∧ ∀ target, Steps p.tables e below (T'.setTop (mkF m (pc + 3) Ls (v.toList ++ rest))) target → Steps p.tables e below (T.setTop (mkF m pc Ls (as.reverse ++ Value.ref b :: rest))) target := by
  obtain ⟨cq, kq, qa, qb, qc⟩ := isOf hZ eT E
  obtain ⟨v, _, ⟨T', L', k', n'⟩, -, X', ⟨Lc, hQ, hl', hk', hn'⟩, st⟩ := X.virtualBack hx (y := y) (z := y) hown (mvT hZ w1) (mvT hZ w2) (notFace_of_selects (args := #[]) (mvT hZ w3)) (mvT hZ w3) (mvT hZ w4) hy (backOf (W := W) hM hZ w6 w5 hf hl) qa qc (g := mkF m pc Ls (as.reverse ++ Value.ref b :: rest)) rfl hsize (Steps.refl _) (argsL := as) (rest := rest) (lenOf hpd hlen) rfl (by show 2 * 0 + _ ≤ _; omega) hd (fun _ _ => ⟨rfl, eT, hc, hs⟩)
  dsimp only [Pt.U, Pt.locs, Pt.cells, Pt.slots] at X' hl' hk' hn' st hQ
  subst hl' hk' hn'
  exact ⟨v, T', Lc, X', hQ, fun _ q => st.trans q⟩
/-- a constructor by its contract -/
theorem o_callI (X : Stand p l e R s m args below meth c T locs cells slots) (hx : p.tables.exec = Jvm.exec) (hZ : Z.Warmed39 s.vm) {own : String} {index : Nat} {y : MethodName} {bytes : ByteArray} {maxL : Nat} (hy1 : y.name = "<init>") (hown : s.vm.findClass own = some m.cls)
    (w1 : (Jvm.Cond.methodLink own index y).before a0 Z = true) (w4 : (Jvm.Cond.instanceMethod y).before a0 Z = true) (w5 : (Jvm.Cond.initialized y.cls).before a0 Z = true) (w6 : (Jvm.Cond.code y bytes maxL none).before a0 Z = true) (hy : y.cls ≠ "java/lang/invoke/MethodHandle" ∧ y.cls ≠ "java/lang/invoke/VarHandle")
    {b : Addr} {as : List Value} {Q : Option Value → Heap → List Loc → Prop} (hM : o_Met l Z y bytes maxL none [] rm (Value.ref b :: as).toArray h Q) (eT : T.heap = h) {ps : List FieldType} {rt : Option FieldType} (hpd : parseMethodDescriptor y.desc = some ⟨ps, rt⟩) (hlen : as.length = ps.length)
    {pc : Nat} {Ls : Array Slot} {rest : List Value} {W : Nat} (hsize : Ls.size = c.maxLocals) (hW : (rest.map fun v => v.category).sum ≤ W) (hf : rm.frames + 1 ≤ R.frames) (hl : W + (maxL + 11) + rm.locals ≤ R.locals) (hd : decode c.code pc = .ok (.invokespecial index, 3)) (hc : cells + rm.cells ≤ R.cells) (hs : slots + rm.slots ≤ R.slots) :
    ∃ (v : Option Value) (T' : State) (L' : List Loc), Stand p l e R s m args below meth c T' (locs ++ L') (cells + rm.cells) (slots + rm.slots) ∧ Q v T'.heap L' ∧ ∀ target, Steps p.tables e below (T'.setTop (mkF m (pc + 3) Ls (v.toList ++ rest))) target → Steps p.tables e below (T.setTop (mkF m pc Ls (as.reverse ++ Value.ref b :: rest))) target := by
  obtain ⟨v, _, ⟨T', L', k', n'⟩, -, X', ⟨Lc, hQ, hl', hk', hn'⟩, st⟩ := X.specialBack hx (y := y) hy1 hown (mvT hZ w1) (mvT hZ w4) (mvT hZ w6) hy (backOf (W := W) hM hZ w6 w5 hf hl) (g := mkF m pc Ls (as.reverse ++ Value.ref b :: rest)) rfl hsize (Steps.refl _) (a := b) (argsL := as) (rest := rest) (lenOf hpd hlen) rfl (by show 2 * 0 + _ ≤ _; omega) hd (fun _ _ => ⟨rfl, eT, hc, hs⟩)
  dsimp only [Pt.U, Pt.locs, Pt.cells, Pt.slots] at X' hl' hk' hn' st hQ
  subst hl' hk' hn'
  exact ⟨v, T', Lc, X', hQ, fun _ q => st.trans q⟩
end Own
theorem o_gi {p : Program} {e : Env} {below : List Frame} {G : Outcome → State → Prop} {S S' : State} (h : ∀ {t}, Steps p.tables e below S' t → Steps p.tables e below S t) (k : o_Goes p e below G S') : o_Goes p e below G S := o_go (fun _ => h) k
abbrev o_Gs (p : Program) (e : Env) (below : List Frame) (G : Outcome → State → Prop) (T : State) (m : MethodId) (pc : Nat) (Ls : Array Slot) (st : List Value) : Prop := o_Goes p e below G (T.setTop (mkF m pc Ls st))
abbrev o_I (x : Int32) : Slot := .val (.int x)
abbrev o_J (x : Int64) : Slot := .val (.long x)
abbrev o_A (x : Addr) : Slot := .val (.ref x)
abbrev o_u : Slot := .unset
abbrev o_s : Slot := .second
section OwnPrivate
variable {p : Program} {l : Launch} {e : Env} {R rm : Room} {s : State} {m : MethodId} {args : Array Value} {below : List Frame} {meth : Method} {c : Code} {T : State} {locs : List Loc} {cells slots : Nat} {Z : State} {a0 : Array Value} {h : Heap}
/-- a private method by its contract -/
theorem o_callP (X : Stand p l e R s m args below meth c T locs cells slots) (hx : p.tables.exec = Jvm.exec) (hZ : Z.Warmed39 s.vm) {own : String} {index kk : Nat} {y : MethodName} {bytes : ByteArray} {maxL : Nat} {ret : Option FieldType} (hown : s.vm.findClass own = some m.cls)
  (w1 : (Jvm.Cond.methodLink own index y).before a0 Z = true) (wp : (Jvm.Cond.privateMethod y).before a0 Z = true) (wi : (Jvm.Cond.instantiable y.cls kk).before a0 Z = true) (w4 : (Jvm.Cond.instanceMethod y).before a0 Z = true) (w5 : (Jvm.Cond.initialized y.cls).before a0 Z = true) (w6 : (Jvm.Cond.code y bytes maxL ret).before a0 Z = true) (hy : y.cls ≠ "java/lang/invoke/MethodHandle" ∧ y.cls ≠ "java/lang/invoke/VarHandle")
  {b : Addr} {as : List Value} {Q : Option Value → Heap → List Loc → Prop} (hM : o_Met l Z y bytes maxL ret [] rm (Value.ref b :: as).toArray h Q) (eT : T.heap = h) (E : Exa Z h b y.cls) {ps : List FieldType} {rt : Option FieldType} (hpd : parseMethodDescriptor y.desc = some ⟨ps, rt⟩) (hlen : as.length = ps.length)
  {pc : Nat} {Ls : Array Slot} {rest : List Value} {W : Nat} (hsize : Ls.size = c.maxLocals) (hW : (rest.map fun v => v.category).sum ≤ W) (hf : rm.frames + 1 ≤ R.frames) (hl : W + (maxL + 11) + rm.locals ≤ R.locals) (hd : decode c.code pc = .ok (.invokevirtual index, 3)) (hc : cells + rm.cells ≤ R.cells) (hs : slots + rm.slots ≤ R.slots) :
  ∃ (v : Option Value) (T' : State) (L' : List Loc), Stand p l e R s m args below meth c T' (locs ++ L') (cells + rm.cells) (slots + rm.slots) ∧ Q v T'.heap L' ∧ ∀ target, Steps p.tables e below (T'.setTop (mkF m (pc + 3) Ls (v.toList ++ rest))) target → Steps p.tables e below (T.setTop (mkF m pc Ls (as.reverse ++ Value.ref b :: rest))) target := by
 obtain ⟨cell, hc1, hc2⟩ := E.cell
 have hpv : s.PrivateAt y := Cond.privateMethod_at (mvP hZ wp (args := #[]))
 obtain ⟨cI, kI, i1, i2, -, i4, -⟩ := Cond.instantiable_spec (mvT (args := args) hZ wi)
 have hni : kI.isInterface = false := by
  cases hq : kI.isInterface
  ·rfl
  ·rw [hq] at i4; simp at i4
 have hsel : (Jvm.Cond.selects y.cls y y).before args s = true := selects_self_of_private i1 i2 hni hpv (mvT hZ w4) hy
 obtain ⟨v, _, ⟨T', L', k', n'⟩, -, X', ⟨Lc, hQ, hl', hk', hn'⟩, st⟩ := X.privateBack hx (y := y) hown (mvT hZ w1) (mvT hZ w4) hsel hpv (mvT hZ w6) hy (backOf (W := W) hM hZ w6 w5 hf hl) (g := mkF m pc Ls (as.reverse ++ Value.ref b :: rest)) rfl hsize (Steps.refl _) (a := b) (by rw [eT]; exact hc1) hc2 (argsL := as) (rest := rest) (lenOf hpd hlen) rfl (by show 2 * 0 + _ ≤ _; omega) hd (fun _ _ => ⟨rfl, eT, hc, hs⟩)
 dsimp only [Pt.U, Pt.locs, Pt.cells, Pt.slots] at X' hl' hk' hn' st hQ
 subst hl' hk' hn'
 exact ⟨v, T', Lc, X', hQ, fun _ q => st.trans q⟩
end OwnPrivate

theorem o_ch (x : Int32) : ¬ nar .char ((x &&& (255 : Int32)).toUInt32.toUInt16.toUInt32.toInt32) < 0 ∧ ¬ (255 : Int32) < nar .char ((x &&& (255 : Int32)).toUInt32.toUInt16.toUInt32.toInt32) := by
 have t : ∀ k : Fin 256, ¬ nar .char ((Int32.ofNat k.val).toUInt32.toUInt16.toUInt32.toInt32) < 0 ∧ ¬ (255 : Int32) < nar .char ((Int32.ofNat k.val).toUInt32.toUInt16.toUInt32.toInt32) := by decide +kernel
 have h : (x &&& 255).toInt = x.toInt % 2 ^ 8 := Jvm.Kit.i32_mask x 255 (k := 8) (by decide) (by decide)
 have e : Int32.ofNat (x &&& 255).toInt.toNat = (x &&& 255) := by
  rw [← Int32.toInt_inj, Int32.toInt_ofNat_of_lt (by omega)]; omega
 have q := t ⟨(x &&& 255).toInt.toNat, by omega⟩
 simp only [e] at q
 exact q
theorem o_nz {args : Array Value} {s : State} {t : Term} {z : Int32} (v : t.eval args s none [] s = some (.int z)) (h : (Jvm.Cond.not (Jvm.Cond.eq t (Jvm.Term.int 0))).value args s none s [] = some true) : ¬ z = 0 := fun q => by
 have h1 := not_v h
 rw [eq_i v (Term.int_eval _) (by rw [q])] at h1
 cases h1

/-- an array of n places whose j-th holds the int F j -/
def o_Tb (Z : State) (h : Heap) (a : Addr) (ty : FieldType) (n : Int32) (F : Int32 → Int32) : Prop := ∃ cl : Cell, Arr Z h a cl ty ∧ cl.slots.size = n.toNatClampNeg ∧ ¬ n < 0 ∧ ∀ j : Int32, ¬ j < 0 → j < n → cl.slots[j.toNatClampNeg]? = some (.int (F j))
section OwnTb
variable {Z : State} {h h' : Heap} {a b : Addr} {ty : FieldType} {n : Int32} {F : Int32 → Int32}
theorem o_Tb.lt (T : o_Tb Z h a ty n F) : a < h.size := by obtain ⟨c, A, -⟩ := T; exact A.lt
theorem o_Tb.ext (T : o_Tb Z h a ty n F) (E : Ext h h') : o_Tb Z h' a ty n F := by obtain ⟨c, A, r⟩ := T; exact ⟨c, A.ext E, r⟩
theorem o_Tb.other {sl : Nat} {v : Value} (T : o_Tb Z h a ty n F) (W : Wr h h' b sl v) (q : a ≠ b) : o_Tb Z h' a ty n F := by obtain ⟨c, A, r⟩ := T; exact ⟨c, A.other W q, r⟩
theorem o_Tb.keep {ws : List Addr} (T : o_Tb Z h a ty n F) (K : Keep h h' ws) (q : a ∉ ws) : o_Tb Z h' a ty n F := by obtain ⟨c, A, r⟩ := T; exact ⟨c, ⟨K.2.1 a c A.1 q, A.2⟩, r⟩
theorem o_toNat {j k : Int32} (hj : ¬ j < 0) (hk : ¬ k < 0) (e : j.toNatClampNeg = k.toNatClampNeg) : j = k := by
 rw [← (back32 hj).1, ← (back32 hk).1, e]
theorem o_Tb.new {k : ClassId} (A : Arr Z h a (newA k ty n) ty) (q : ¬ n < 0) (hd : defaultValue ty = .int 0) : o_Tb Z h a ty n (fun _ => 0) := by
 obtain ⟨c, A1, -, S, -, H, -⟩ := Arv.new A q
 refine ⟨c, A1, S, q, fun j hj hn => ?_⟩
 have hi : j.toNatClampNeg < c.slots.size := Nat.lt_of_not_le fun y => inb_of S ⟨hj, hn⟩ (Or.inr y)
 rw [H _ hi, hd]
 rfl
theorem o_Tb.set {j x : Int32} {cl : Cell} (A : Arr Z h a cl ty) (S : cl.slots.size = n.toNatClampNeg) (hn : ¬ n < 0) (H : ∀ j : Int32, ¬ j < 0 → j < n → cl.slots[j.toNatClampNeg]? = some (.int (F j))) (W : Wr h h' a j.toNatClampNeg (.int x)) (hj : ¬ j < 0 ∧ j < n) : o_Tb Z h' a ty n (fun k => if k = j then x else F k) := by
 have hi : j.toNatClampNeg < cl.slots.size := Nat.lt_of_not_le fun y => inb_of S hj (Or.inr y)
 refine ⟨_, A.same W, by simp [Cell.setSlot, S], hn, fun k hk hn => ?_⟩
 by_cases e : k = j
 ·subst e
  show _ = some (Value.int (if k = k then x else F k))
  rw [if_pos rfl]
  simp [Cell.setSlot, hi]
 ·show _ = some (Value.int (if k = j then x else F k))
  have e' : j.toNatClampNeg ≠ k.toNatClampNeg := fun q => e (o_toNat hk hj.1 q.symm)
  rw [if_neg e, ← H k hk hn]
  simp [Cell.setSlot, Array.getElem?_setIfInBounds_ne e']
theorem o_getD (bs : List Int32) (i : Nat) : (bs.map Value.int).getD i (.int 0) = .int (bs.getD i 0) := by
 rw [List.getD_eq_getElem?_getD, List.getD_eq_getElem?_getD, List.getElem?_map]
 cases bs[i]? <;> rfl
theorem o_Tb.of_arv {k : ClassId} {bs : List Int32} (A : Arv Z h a k ty n (bs.map Value.int) (.int 0)) : o_Tb Z h a ty n (fun j => bs.getD j.toNatClampNeg 0) := by
 obtain ⟨c, A1, -, S, q, H, -⟩ := A
 refine ⟨c, A1, S, q, fun j hj hn => ?_⟩
 have hi : j.toNatClampNeg < c.slots.size := Nat.lt_of_not_le fun y => inb_of S ⟨hj, hn⟩ (Or.inr y)
 rw [H _ hi, o_getD]
theorem o_small {c : Int32} (h : ¬ c < 0 ∧ ¬ (255 : Int32) < c) : ∃ k : Fin 256, c = Int32.ofNat k.val := by
 obtain ⟨h1, h2⟩ := h
 rw [Int32.lt_iff_toInt_lt, show (0 : Int32).toInt = 0 from rfl] at h1
 rw [Int32.lt_iff_toInt_lt, show (255 : Int32).toInt = 255 from rfl] at h2
 refine ⟨⟨c.toInt.toNat, by omega⟩, ?_⟩
 rw [← Int32.toInt_inj, Int32.toInt_ofNat_of_lt (by simp only; omega)]
 simp only
 omega
theorem o_fitsC {c : Int32} (h : ¬ c < 0 ∧ ¬ (255 : Int32) < c) : fits .char (.int c) = true := by
 obtain ⟨k, rfl⟩ := o_small h
 exact (by decide +kernel : ∀ k : Fin 256, fits .char (.int (Int32.ofNat k.val)) = true) k
theorem o_ofc {n : Int32} {i : Nat} (hi : i < n.toNatClampNeg) : i < 2 ^ 31 := by
 have := Int32.toNatClampNeg_lt n
 omega
theorem o_Tb.arv {m : Nat} (T : o_Tb Z h a .char n F) (hm : n = Int32.ofNat m) (hm' : m < 2 ^ 31) (hF : ∀ j, ¬ F j < 0 ∧ ¬ (255 : Int32) < F j) : ∃ k, Arv Z h a k .char n (((List.range m).map fun i => F (Int32.ofNat i)).map Value.int) (.int 0) := by
 obtain ⟨c, A, S, q, H⟩ := T
 have hs : c.slots.size = m := by rw [S, hm]; exact Jvm.i32_toNatClampNeg_ofNat hm'
 have e : ∀ i, i < m → (((List.range m).map fun i => F (Int32.ofNat i)).map Value.int).getD i (.int 0) = .int (F (Int32.ofNat i)) := fun i hi => by
  rw [o_getD, List.getD_eq_getElem?_getD, List.getElem?_map, List.getElem?_range hi]; rfl
 refine ⟨c.cls, c, A, rfl, S, q, fun i hi => ?_, fun i hi => ?_⟩
 ·rw [e i (hs ▸ hi)]
  have t : (Int32.ofNat i).toNatClampNeg = i := Jvm.i32_toNatClampNeg_ofNat (by omega)
  have z := H (Int32.ofNat i) (Int32.ofNat_not_neg (by omega)) (by
   rw [Int32.lt_iff_toInt_lt, hm, Int32.toInt_ofNat_of_lt (by omega), Int32.toInt_ofNat_of_lt (by omega)]; omega)
  rw [t] at z
  exact z
 ·rw [e i (hs ▸ hi)]
  exact o_fitsC (hF _)
/-- twice an index -/
theorem o_shl {x : Int32} (h : 0 ≤ x.toInt ∧ x.toInt < 1073741824) : (x <<< ((1 : Int32) &&& 31)).toInt = 2 * x.toInt := by
 have e := c_ishl x 1 1 (by decide)
 have h1 := Int32.toInt_lt (x <<< ((1 : Int32) &&& 31))
 have h2 := Int32.le_toInt (x <<< ((1 : Int32) &&& 31))
 omega
theorem o_add (x k : Int32) (h : -2147483648 ≤ x.toInt + k.toInt ∧ x.toInt + k.toInt < 2147483648) : (x + k).toInt = x.toInt + k.toInt := Jvm.Kit.i32_add (by omega) (by omega)
theorem o_bd {n j : Int32} (h : 0 ≤ j.toInt ∧ j.toInt < n.toInt) : ¬ j < 0 ∧ j < n := by
 rw [Int32.lt_iff_toInt_lt, Int32.lt_iff_toInt_lt, show (0 : Int32).toInt = 0 from rfl]; omega
theorem o_ix0 {x n : Int32} (h : 0 ≤ x.toInt ∧ 2 * x.toInt + 1 < n.toInt) : ¬ (x <<< ((1 : Int32) &&& 31)) < 0 ∧ (x <<< ((1 : Int32) &&& 31)) < n := by
 have := Int32.toInt_lt n
 have e := o_shl (x := x) (by omega)
 exact o_bd (by omega)
theorem o_ix1 {x n : Int32} (h : 0 ≤ x.toInt ∧ 2 * x.toInt + 1 < n.toInt) : ¬ ((x <<< ((1 : Int32) &&& 31)) + (1 : Int32)) < 0 ∧ ((x <<< ((1 : Int32) &&& 31)) + (1 : Int32)) < n := by
 have := Int32.toInt_lt n
 have e := o_shl (x := x) (by omega)
 have f := o_add (x <<< ((1 : Int32) &&& 31)) 1 (by rw [show (1 : Int32).toInt = 1 from rfl]; omega)
 rw [show (1 : Int32).toInt = 1 from rfl] at f
 exact o_bd (by omega)
end OwnTb

section OwnX
variable {p : Program} {l : Launch} {e : Env} {R rm : Room} {s : State} {m : MethodId} {args : Array Value} {below : List Frame} {meth : Method} {c : Code} {T : State} {locs : List Loc} {cells slots : Nat} {Z : State} {a0 : Array Value} {h : Heap}
/-- the contract of a body that has an exception table and throws nothing -/
def o_MetX (l : Launch) (Z : State) (hs : List (Nat × Nat × Nat × Nat)) (y : MethodName) (bytes : ByteArray) (maxL : Nat) (ret : Option FieldType) (ws : List Jvm.Cond) (rm : Room) (as : Array Value) (h0 : Heap) (Q : Option Value → Heap → List Loc → Prop) : Prop :=
 MetFree l y (head1 (Jvm.Cond.codeWith y bytes maxL ret hs :: ws) rm) (fun a U => a = as ∧ Z.Warmed39 U.vm ∧ U.heap = h0) (fun _ _ _ _ _ => True) (fun _ U o U' => ∃ v L, o = .returned v ∧ Q v U'.heap L ∧ FrameEnd U o U' L rm.cells rm.slots)
theorem o_metX {hs : List (Nat × Nat × Nat × Nat)} {y : MethodName} {bytes : ByteArray} {maxL : Nat} {ret : Option FieldType} {ws : List Jvm.Cond} {as : Array Value} {h0 : Heap} {Q : Option Value → Heap → List Loc → Prop} (hp : plainFor y = true)
  (body : ∀ (p : Program) (e : Env) (s : State) (m : MethodId) (below : List Frame) (meth : Method) (c : Code) (s₁ : State), p.tables.exec = Jvm.exec → c.code = bytes → c.maxLocals = maxL → s.vm.findClass y.cls = some m.cls → meth.name = y.name → meth.sig.returnType = ret → meth.locks = false → Z.Warmed39 s.vm → s₁.heap = h0 →
   Stand p l e rm s m as below meth c s₁ [] 0 0 → o_Goes p e below (o_End s rm Q) (s₁.setTop (entryFrame m as maxL))) : o_MetX l Z hs y bytes maxL ret ws rm as h0 Q := by
 refine MetFree.of_bodySF hp hisWith ?_
 intro p e s m args below meth c s₁ Bd hml hP hK
 obtain ⟨rfl, hZ, hh⟩ := hP
 exact body p e s m below meth c s₁ Bd.exec Bd.bytes hml (findClass_of_methodNamed Bd.named) (name_of_methodNamed Bd.named Bd.method).1 Bd.returns Bd.notSynchronized hZ (by rw [← hh, Bd.state]; rfl) (Stand.of_body Bd)
theorem o_callSX (X : Stand p l e R s m args below meth c T locs cells slots) (hx : p.tables.exec = Jvm.exec) (hZ : Z.Warmed39 s.vm) {own : String} {index : Nat} {y : MethodName} {bytes : ByteArray} {maxL : Nat} {ret : Option FieldType} {hs : List (Nat × Nat × Nat × Nat)} (hown : s.vm.findClass own = some m.cls)
  (w1 : (Jvm.Cond.methodLink own index y).before a0 Z = true) (w2 : (Jvm.Cond.static y).before a0 Z = true) (w3 : (Jvm.Cond.initialized y.cls).before a0 Z = true) (w4 : (Jvm.Cond.codeWith y bytes maxL ret hs).before a0 Z = true) (hy : y.cls ≠ "java/lang/invoke/MethodHandle" ∧ y.cls ≠ "java/lang/invoke/VarHandle")
  {as : List Value} {Q : Option Value → Heap → List Loc → Prop} (hM : o_MetX l Z hs y bytes maxL ret [] rm as.toArray h Q) (eT : T.heap = h) {ps : List FieldType} {rt : Option FieldType} (hpd : parseMethodDescriptor y.desc = some ⟨ps, rt⟩) (hlen : as.length = ps.length)
  {pc : Nat} {Ls : Array Slot} {rest : List Value} {W : Nat} (hsize : Ls.size = c.maxLocals) (hW : (rest.map fun v => v.category).sum ≤ W) (hf : rm.frames + 1 ≤ R.frames) (hl : W + (maxL + 11) + rm.locals ≤ R.locals) (hd : decode c.code pc = .ok (.invokestatic index, 3)) (hc : cells + rm.cells ≤ R.cells) (hsl : slots + rm.slots ≤ R.slots) :
  ∃ (v : Option Value) (T' : State) (L' : List Loc), Stand p l e R s m args below meth c T' (locs ++ L') (cells + rm.cells) (slots + rm.slots) ∧ Q v T'.heap L' ∧ ∀ target, Steps p.tables e below (T'.setTop (mkF m (pc + 3) Ls (v.toList ++ rest))) target → Steps p.tables e below (T.setTop (mkF m pc Ls (as.reverse ++ rest))) target := by
 obtain ⟨mk, methM, cM, hnamed, hmethM, -, -, -, -, -, -, hsigM⟩ := Cond.codeWith_spec (mvT (args := args) hZ w4)
 obtain ⟨v, _, ⟨T', L', k', n'⟩, -, X', ⟨Lc, hQ, hl', hk', hn'⟩, st⟩ := X.staticBack hx (y := y) hown (mvT hZ w1) (mvT hZ w2) (mvT hZ w3) hnamed hmethM hsigM hy (backOfWith (W := W) hM hZ w4 w3 hf hl) (g := mkF m pc Ls (as.reverse ++ rest)) rfl hsize (Steps.refl _) (argsL := as) (rest := rest) (lenOf hpd hlen) rfl (by show 2 * 0 + _ ≤ _; omega) hd (fun _ _ => ⟨rfl, eT, hc, hsl⟩)
 dsimp only [Pt.U, Pt.locs, Pt.cells, Pt.slots] at X' hl' hk' hn' st hQ
 subst hl' hk' hn'
 exact ⟨v, T', Lc, X', hQ, fun _ q => st.trans q⟩
/-- a private method that the sheet selects -/
theorem o_callPS (X : Stand p l e R s m args below meth c T locs cells slots) (hx : p.tables.exec = Jvm.exec) (hZ : Z.Warmed39 s.vm) {own : String} {index : Nat} {y : MethodName} {bytes : ByteArray} {maxL : Nat} {ret : Option FieldType} (hown : s.vm.findClass own = some m.cls)
  (w1 : (Jvm.Cond.methodLink own index y).before a0 Z = true) (wp : (Jvm.Cond.privateMethod y).before a0 Z = true) (wi : (Jvm.Cond.selects y.cls y y).before a0 Z = true) (w4 : (Jvm.Cond.instanceMethod y).before a0 Z = true) (w5 : (Jvm.Cond.initialized y.cls).before a0 Z = true) (w6 : (Jvm.Cond.code y bytes maxL ret).before a0 Z = true) (hy : y.cls ≠ "java/lang/invoke/MethodHandle" ∧ y.cls ≠ "java/lang/invoke/VarHandle")
  {b : Addr} {as : List Value} {Q : Option Value → Heap → List Loc → Prop} (hM : o_Met l Z y bytes maxL ret [] rm (Value.ref b :: as).toArray h Q) (eT : T.heap = h) (E : Exa Z h b y.cls) {ps : List FieldType} {rt : Option FieldType} (hpd : parseMethodDescriptor y.desc = some ⟨ps, rt⟩) (hlen : as.length = ps.length)
  {pc : Nat} {Ls : Array Slot} {rest : List Value} {W : Nat} (hsize : Ls.size = c.maxLocals) (hW : (rest.map fun v => v.category).sum ≤ W) (hf : rm.frames + 1 ≤ R.frames) (hl : W + (maxL + 11) + rm.locals ≤ R.locals) (hd : decode c.code pc = .ok (.invokevirtual index, 3)) (hc : cells + rm.cells ≤ R.cells) (hs : slots + rm.slots ≤ R.slots) :
  ∃ (v : Option Value) (T' : State) (L' : List Loc), Stand p l e R s m args below meth c T' (locs ++ L') (cells + rm.cells) (slots + rm.slots) ∧ Q v T'.heap L' ∧ ∀ target, Steps p.tables e below (T'.setTop (mkF m (pc + 3) Ls (v.toList ++ rest))) target → Steps p.tables e below (T.setTop (mkF m pc Ls (as.reverse ++ Value.ref b :: rest))) target := by
 obtain ⟨cell, hc1, hc2⟩ := E.cell
 have hpv : s.PrivateAt y := Cond.privateMethod_at (mvP hZ wp (args := #[]))
 obtain ⟨v, _, ⟨T', L', k', n'⟩, -, X', ⟨Lc, hQ, hl', hk', hn'⟩, st⟩ := X.privateBack hx (y := y) hown (mvT hZ w1) (mvT hZ w4) (mvT hZ wi) hpv (mvT hZ w6) hy (backOf (W := W) hM hZ w6 w5 hf hl) (g := mkF m pc Ls (as.reverse ++ Value.ref b :: rest)) rfl hsize (Steps.refl _) (a := b) (by rw [eT]; exact hc1) hc2 (argsL := as) (rest := rest) (lenOf hpd hlen) rfl (by show 2 * 0 + _ ≤ _; omega) hd (fun _ _ => ⟨rfl, eT, hc, hs⟩)
 dsimp only [Pt.U, Pt.locs, Pt.cells, Pt.slots] at X' hl' hk' hn' st hQ
 subst hl' hk' hn'
 exact ⟨v, T', Lc, X', hQ, fun _ q => st.trans q⟩
/-- a byte[] 's clone -/
theorem o_clone (X : Stand p l e R s m args below meth c T locs cells slots) (hx : p.tables.exec = Jvm.exec) (hZ : Z.Warmed39 s.vm) {own : String} {index : Nat} (hown : s.vm.findClass own = some m.cls)
  (w1 : (Jvm.Cond.methodLink own index ⟨"[B", "clone", "()Ljava/lang/Object;"⟩).before a0 Z = true) (w2 : (Jvm.Cond.sameMethod "[B" "java/lang/Object" "clone" "()Ljava/lang/Object;").before a0 Z = true) (w3 : (Jvm.Cond.native ⟨"java/lang/Object", "clone", "()Ljava/lang/Object;"⟩).before a0 Z = true)
  (w4 : (Jvm.Cond.instanceMethod ⟨"java/lang/Object", "clone", "()Ljava/lang/Object;"⟩).before a0 Z = true) (w5 : (Jvm.Cond.selects "[B" ⟨"[B", "clone", "()Ljava/lang/Object;"⟩ ⟨"java/lang/Object", "clone", "()Ljava/lang/Object;"⟩).before a0 Z = true) (w6 : (Jvm.Cond.castable "[B" "java/lang/Cloneable").before a0 Z = true)
  (eT : T.heap = h) {a : Addr} {n : Int32} {F : Int32 → Int32} (A : o_Tb Z h a .byte n F) (E : Exa Z h a "[B") (hF : ∀ j, fits .byte (.int (F j)) = true)
  {pc : Nat} {Ls : Array Slot} {rest : List Value} {W cap : Nat} (hsize : Ls.size = c.maxLocals) (hW : (rest.map fun v => v.category).sum ≤ W) (hf : 1 ≤ R.frames) (hl : W + 14 ≤ R.locals) (hd : decode c.code pc = .ok (.invokevirtual index, 3)) (hcap : n.toNatClampNeg ≤ cap) (hc : cells + 1 ≤ R.cells) (hsl : slots + cap ≤ R.slots) :
  ∃ T' h', Stand p l e R s m args below meth c T' locs (cells + 1) (slots + cap) ∧ T'.heap = h' ∧ Ext h h' ∧ o_Tb Z h' h.size .byte n F ∧ Exa Z h' h.size "[B" ∧ ∀ target, Steps p.tables e below (T'.setTop (mkF m (pc + 3) Ls (.ref h.size :: rest))) target → Steps p.tables e below (T.setTop (mkF m pc Ls (.ref a :: rest))) target := by
 obtain ⟨cl, A1, S, hn, H⟩ := A
 have FC : FitC Z cl := fitC_of A1 fun i hi v hv => by
  have t : (Int32.ofNat i).toNatClampNeg = i := Jvm.i32_toNatClampNeg_ofNat (by have := o_ofc (n := n) (i := i) (by omega); omega)
  have z := H (Int32.ofNat i) (Int32.ofNat_not_neg (o_ofc (n := n) (by omega))) (by
   have q := o_ofc (n := n) (i := i) (by omega)
   have r := (back32 hn).1
   rw [Int32.lt_iff_toInt_lt, Int32.toInt_ofNat_of_lt (by omega), ← r, Int32.toInt_ofNat_of_lt (Int32.toNatClampNeg_lt n)]
   omega)
  rw [t, hv] at z
  cases z
  exact hF _
 obtain ⟨T', h', X', e', ex, A', E', st⟩ := cloneA X hx hZ hown w1 w2 w3 w4 w5 w6 eT A1 E FC (g := mkF m pc Ls (.ref a :: rest)) rfl hsize rfl hd hf (W := W) (cap := cap) (by show 2 * 0 + _ ≤ _; omega) hl (by omega) hc hsl
 exact ⟨T', h', X', e', ex, ⟨cloneOf cl, A', S, hn, H⟩, E', st⟩
theorem o_Tb.congr {a : Addr} {ty : FieldType} {n : Int32} {F G : Int32 → Int32} (A : o_Tb Z h a ty n F) (q : ∀ j : Int32, ¬ j < 0 → j < n → F j = G j) : o_Tb Z h a ty n G := by
 obtain ⟨cl, A1, S, hn, H⟩ := A
 exact ⟨cl, A1, S, hn, fun j h1 h2 => by rw [H j h1 h2, q j h1 h2]⟩
end OwnX

theorem o_d3_0 : decode method_3_code 0 = .ok (.iload_n 0, 1) := by decide +kernel
theorem o_d3_1 : decode method_3_code 1 = .ok (.bipush 26, 2) := by decide +kernel
theorem o_d3_3 : decode method_3_code 3 = .ok (.if_icmp .ge 9, 3) := by decide +kernel
theorem o_d3_6 : decode method_3_code 6 = .ok (.bipush 65, 2) := by decide +kernel
theorem o_d3_8 : decode method_3_code 8 = .ok (.iload_n 0, 1) := by decide +kernel
theorem o_d3_9 : decode method_3_code 9 = .ok (.iadd, 1) := by decide +kernel
theorem o_d3_10 : decode method_3_code 10 = .ok (.i2c, 1) := by decide +kernel
theorem o_d3_12 : decode method_3_code 12 = .ok (.iload_n 0, 1) := by decide +kernel
theorem o_d3_13 : decode method_3_code 13 = .ok (.bipush 52, 2) := by decide +kernel
theorem o_d3_15 : decode method_3_code 15 = .ok (.if_icmp .ge 12, 3) := by decide +kernel
theorem o_d3_18 : decode method_3_code 18 = .ok (.bipush 97, 2) := by decide +kernel
theorem o_d3_20 : decode method_3_code 20 = .ok (.iload_n 0, 1) := by decide +kernel
theorem o_d3_21 : decode method_3_code 21 = .ok (.bipush 26, 2) := by decide +kernel
theorem o_d3_23 : decode method_3_code 23 = .ok (.isub, 1) := by decide +kernel
theorem o_d3_24 : decode method_3_code 24 = .ok (.iadd, 1) := by decide +kernel
theorem o_d3_25 : decode method_3_code 25 = .ok (.i2c, 1) := by decide +kernel
theorem o_d3_27 : decode method_3_code 27 = .ok (.iload_n 0, 1) := by decide +kernel
theorem o_d3_28 : decode method_3_code 28 = .ok (.bipush 62, 2) := by decide +kernel
theorem o_d3_30 : decode method_3_code 30 = .ok (.if_icmp .ge 12, 3) := by decide +kernel
theorem o_d3_33 : decode method_3_code 33 = .ok (.bipush 48, 2) := by decide +kernel
theorem o_d3_35 : decode method_3_code 35 = .ok (.iload_n 0, 1) := by decide +kernel
theorem o_d3_36 : decode method_3_code 36 = .ok (.bipush 52, 2) := by decide +kernel
theorem o_d3_38 : decode method_3_code 38 = .ok (.isub, 1) := by decide +kernel
theorem o_d3_39 : decode method_3_code 39 = .ok (.iadd, 1) := by decide +kernel
theorem o_d3_40 : decode method_3_code 40 = .ok (.i2c, 1) := by decide +kernel
theorem o_d3_42 : decode method_3_code 42 = .ok (.iload_n 0, 1) := by decide +kernel
theorem o_d3_43 : decode method_3_code 43 = .ok (.bipush 62, 2) := by decide +kernel
theorem o_d3_45 : decode method_3_code 45 = .ok (.if_icmp .ne 6, 3) := by decide +kernel
theorem o_d3_48 : decode method_3_code 48 = .ok (.bipush 43, 2) := by decide +kernel
theorem o_d3_51 : decode method_3_code 51 = .ok (.bipush 47, 2) := by decide +kernel
theorem o_pn0 : plainName "com/example/quittance/quittance/dialect/AesCbcBlocksPinLaw" = true := by first | (simp [plainName, overriddenIn]; done) | decide +kernel
theorem o_d3_11 : decode method_3_code 11 = .ok (.ireturn, 1) := by decide +kernel
theorem o_d3_26 : decode method_3_code 26 = .ok (.ireturn, 1) := by decide +kernel
theorem o_d3_41 : decode method_3_code 41 = .ok (.ireturn, 1) := by decide +kernel
theorem o_d3_50 : decode method_3_code 50 = .ok (.ireturn, 1) := by decide +kernel
theorem o_d3_53 : decode method_3_code 53 = .ok (.ireturn, 1) := by decide +kernel
def o_f3 (x0 : Int32) : Int32 := (if x0 < (26 : Int32) then ((((65 : Int32) + x0).toUInt32.toUInt16.toUInt32.toInt32).toUInt32.toUInt16.toUInt32.toInt32) else (if x0 < (52 : Int32) then ((((97 : Int32) + (x0 - (26 : Int32))).toUInt32.toUInt16.toUInt32.toInt32).toUInt32.toUInt16.toUInt32.toInt32) else (if x0 < (62 : Int32) then ((((48 : Int32) + (x0 - (52 : Int32))).toUInt32.toUInt16.toUInt32.toInt32).toUInt32.toUInt16.toUInt32.toInt32) else (if x0 = (62 : Int32) then ((43 : Int32).toUInt32.toUInt16.toUInt32.toInt32) else ((47 : Int32).toUInt32.toUInt16.toUInt32.toInt32)))))
def o_Q3 (x0 : Int32) (h0 : Heap) (n0 : Nat) (v : Option Value) (h : Heap) (L : List Loc) : Prop := v = some (.int (o_f3 x0)) ∧ Fr n0 L ∧ h = h0
abbrev o_R3 : Room := { frames := 0, cells := 0, slots := 0, locals := 0 }
theorem o_ef3 (m : MethodId) (z0 : Int32) : entryFrame m #[(.int z0)] 1 = mkF m 0 #[o_I z0] [] := by first | (simp [entryFrame, mkF, argsToLocals, Value.category]; done) | rfl
set_option maxRecDepth 65536 in
set_option maxHeartbeats 40000000 in
theorem rm3 (l : Launch) (Z : State) (a0 : Array Value) (hw : ∀ d ∈ tables_1, d.before a0 Z = true) (ws : List Jvm.Cond) (x0 : Int32) (h0 : Heap) (n0 : Nat) : o_Met l Z (⟨"com/example/quittance/quittance/dialect/AesCbcBlocksPinLaw", "sym", "(I)C"⟩ : MethodName) method_3_code 1 (some .char) ws o_R3 #[(.int x0)] h0 (o_Q3 x0 h0 n0) := by
 refine o_met (plainFor_of_name o_pn0) ?_
 intro p e s m below meth c s₁ hx hby hml hown hnm hret hlk hZ e0 X0
 have N0 := Fr.nil n0
 have hml : c.maxLocals = 1 := hml
 have hown : s.vm.findClass "com/example/quittance/quittance/dialect/AesCbcBlocksPinLaw" = some m.cls := hown
 have hret : meth.sig.returnType = (some .char) := hret
 have hby : c.code = method_3_code := hby
 have hnm : meth.name = "sym" := hnm
 rw [o_ef3]
 refine o_gi (XS.iloadN X0.here hx rfl (hb hby o_d3_0) rfl) ?_
 refine o_gi (XS.bipush X0.here hx rfl (hb hby o_d3_1)) ?_
 show o_Gs p e below _ s₁ m 3 #[o_I x0] [(.int 26), (.int x0)]
 by_cases hc1 : x0 < (26 : Int32)
 ·refine o_gi (XS.icmpNo X0.here hx rfl (hb hby o_d3_3) rfl (tlt hc1).2.1) ?_
  refine o_gi (XS.bipush X0.here hx rfl (hb hby o_d3_6)) ?_
  refine o_gi (XS.iloadN X0.here hx rfl (hb hby o_d3_8) rfl) ?_
  show o_Gs p e below _ s₁ m 9 #[o_I x0] [(.int x0), (.int 65)]
  refine o_gi (XS.iadd X0.here hx rfl (hb hby o_d3_9) rfl) ?_
  show o_Gs p e below _ s₁ m 10 #[o_I x0] [(.int ((65 : Int32) + x0))]
  refine o_gi (XS.i2c X0.here hx rfl (hb hby o_d3_10) rfl) ?_
  show o_Gs p e below _ s₁ m 11 #[o_I x0] [(.int (((65 : Int32) + x0).toUInt32.toUInt16.toUInt32.toInt32))]
  exact o_retN X0 hx hlk hret (by simp) (z' := ((((65 : Int32) + x0).toUInt32.toUInt16.toUInt32.toInt32).toUInt32.toUInt16.toUInt32.toInt32)) rfl (hb hby o_d3_11) (by decide) (by decide) ⟨by rw [o_f3, if_pos hc1], N0, e0⟩
 ·refine o_gi (XS.icmpYes X0.here hx rfl (pc0 := 3) (pc' := 12) rfl (hb hby o_d3_3) rfl (flt hc1).2.1 (by decide) (by decide)) ?_
  refine o_gi (XS.iloadN X0.here hx rfl (hb hby o_d3_12) rfl) ?_
  refine o_gi (XS.bipush X0.here hx rfl (hb hby o_d3_13)) ?_
  show o_Gs p e below _ s₁ m 15 #[o_I x0] [(.int 52), (.int x0)]
  by_cases hc2 : x0 < (52 : Int32)
  ·refine o_gi (XS.icmpNo X0.here hx rfl (hb hby o_d3_15) rfl (tlt hc2).2.1) ?_
   refine o_gi (XS.bipush X0.here hx rfl (hb hby o_d3_18)) ?_
   refine o_gi (XS.iloadN X0.here hx rfl (hb hby o_d3_20) rfl) ?_
   refine o_gi (XS.bipush X0.here hx rfl (hb hby o_d3_21)) ?_
   show o_Gs p e below _ s₁ m 23 #[o_I x0] [(.int 26), (.int x0), (.int 97)]
   refine o_gi (XS.isub X0.here hx rfl (hb hby o_d3_23) rfl) ?_
   show o_Gs p e below _ s₁ m 24 #[o_I x0] [(.int (x0 - (26 : Int32))), (.int 97)]
   refine o_gi (XS.iadd X0.here hx rfl (hb hby o_d3_24) rfl) ?_
   show o_Gs p e below _ s₁ m 25 #[o_I x0] [(.int ((97 : Int32) + (x0 - (26 : Int32))))]
   refine o_gi (XS.i2c X0.here hx rfl (hb hby o_d3_25) rfl) ?_
   show o_Gs p e below _ s₁ m 26 #[o_I x0] [(.int (((97 : Int32) + (x0 - (26 : Int32))).toUInt32.toUInt16.toUInt32.toInt32))]
   exact o_retN X0 hx hlk hret (by simp) (z' := ((((97 : Int32) + (x0 - (26 : Int32))).toUInt32.toUInt16.toUInt32.toInt32).toUInt32.toUInt16.toUInt32.toInt32)) rfl (hb hby o_d3_26) (by decide) (by decide) ⟨by rw [o_f3, if_neg hc1, if_pos hc2], N0, e0⟩
  ·refine o_gi (XS.icmpYes X0.here hx rfl (pc0 := 15) (pc' := 27) rfl (hb hby o_d3_15) rfl (flt hc2).2.1 (by decide) (by decide)) ?_
   refine o_gi (XS.iloadN X0.here hx rfl (hb hby o_d3_27) rfl) ?_
   refine o_gi (XS.bipush X0.here hx rfl (hb hby o_d3_28)) ?_
   show o_Gs p e below _ s₁ m 30 #[o_I x0] [(.int 62), (.int x0)]
   by_cases hc3 : x0 < (62 : Int32)
   ·refine o_gi (XS.icmpNo X0.here hx rfl (hb hby o_d3_30) rfl (tlt hc3).2.1) ?_
    refine o_gi (XS.bipush X0.here hx rfl (hb hby o_d3_33)) ?_
    refine o_gi (XS.iloadN X0.here hx rfl (hb hby o_d3_35) rfl) ?_
    refine o_gi (XS.bipush X0.here hx rfl (hb hby o_d3_36)) ?_
    show o_Gs p e below _ s₁ m 38 #[o_I x0] [(.int 52), (.int x0), (.int 48)]
    refine o_gi (XS.isub X0.here hx rfl (hb hby o_d3_38) rfl) ?_
    show o_Gs p e below _ s₁ m 39 #[o_I x0] [(.int (x0 - (52 : Int32))), (.int 48)]
    refine o_gi (XS.iadd X0.here hx rfl (hb hby o_d3_39) rfl) ?_
    show o_Gs p e below _ s₁ m 40 #[o_I x0] [(.int ((48 : Int32) + (x0 - (52 : Int32))))]
    refine o_gi (XS.i2c X0.here hx rfl (hb hby o_d3_40) rfl) ?_
    show o_Gs p e below _ s₁ m 41 #[o_I x0] [(.int (((48 : Int32) + (x0 - (52 : Int32))).toUInt32.toUInt16.toUInt32.toInt32))]
    exact o_retN X0 hx hlk hret (by simp) (z' := ((((48 : Int32) + (x0 - (52 : Int32))).toUInt32.toUInt16.toUInt32.toInt32).toUInt32.toUInt16.toUInt32.toInt32)) rfl (hb hby o_d3_41) (by decide) (by decide) ⟨by rw [o_f3, if_neg hc1, if_neg hc2, if_pos hc3], N0, e0⟩
   ·refine o_gi (XS.icmpYes X0.here hx rfl (pc0 := 30) (pc' := 42) rfl (hb hby o_d3_30) rfl (flt hc3).2.1 (by decide) (by decide)) ?_
    refine o_gi (XS.iloadN X0.here hx rfl (hb hby o_d3_42) rfl) ?_
    refine o_gi (XS.bipush X0.here hx rfl (hb hby o_d3_43)) ?_
    show o_Gs p e below _ s₁ m 45 #[o_I x0] [(.int 62), (.int x0)]
    by_cases hc4 : x0 = (62 : Int32)
    ·refine o_gi (XS.icmpNo X0.here hx rfl (hb hby o_d3_45) rfl (teq hc4).2) ?_
     refine o_gi (XS.bipush X0.here hx rfl (hb hby o_d3_48)) ?_
     show o_Gs p e below _ s₁ m 50 #[o_I x0] [(.int 43)]
     exact o_retN X0 hx hlk hret (by simp) (z' := ((43 : Int32).toUInt32.toUInt16.toUInt32.toInt32)) rfl (hb hby o_d3_50) (by decide) (by decide) ⟨by rw [o_f3, if_neg hc1, if_neg hc2, if_neg hc3, if_pos hc4], N0, e0⟩
    ·refine o_gi (XS.icmpYes X0.here hx rfl (pc0 := 45) (pc' := 51) rfl (hb hby o_d3_45) rfl (feq hc4).2 (by decide) (by decide)) ?_
     refine o_gi (XS.bipush X0.here hx rfl (hb hby o_d3_51)) ?_
     show o_Gs p e below _ s₁ m 53 #[o_I x0] [(.int 47)]
     exact o_retN X0 hx hlk hret (by simp) (z' := ((47 : Int32).toUInt32.toUInt16.toUInt32.toInt32)) rfl (hb hby o_d3_53) (by decide) (by decide) ⟨by rw [o_f3, if_neg hc1, if_neg hc2, if_neg hc3, if_neg hc4], N0, e0⟩
def o_b64 (j : Int32) : Int32 := if j < 43 then -1 else if j < 44 then 62 else if j < 47 then -1 else if j < 48 then 63 else if j < 58 then j + 4 else if j < 61 then -1 else if j < 62 then -2 else if j < 65 then -1 else if j < 91 then j - 65 else if j < 97 then -1 else if j < 123 then j - 71 else -1
def o_By (F : Int32 → Int32) : Prop := ∀ j, fits .byte (.int (F j)) = true
def o_b8 (G : Int32 → Int32) : Int32 → Int32 := fun j => nar .byte ((G j).toInt8.toInt32)
def o_cut (k : Int32) (B : Int32 → Int32) : Int32 → Int32 := fun j => if j < k then B j else 0
def o_C255 (G : Int32 → Int32) : Prop := ∀ j : Int32, ¬ (255 : Int32) < G j
/-- three bytes as one number -/
def o_w (B : Int32 → Int32) (d : Int32) : Int := (B d &&& (255 : Int32)).toInt * 65536 + (B (d + (1 : Int32)) &&& (255 : Int32)).toInt * 256 + (B (d + (2 : Int32)) &&& (255 : Int32)).toInt
/-- the sign of a number below 64 -/
def o_Is (c : Int32) (z : Int) : Prop := ∃ v : Fin 64, z = v.val ∧ c = nar .char (o_f3 (Int32.ofNat v.val))
def o_Enc (B : Int32 → Int32) (k : Nat) (G : Int32 → Int32) : Prop := ∀ g : Nat, g < k → ∀ i d : Int32, i.toInt = 4 * g → d.toInt = 3 * g → o_Is (G i) (o_w B d / 262144) ∧ o_Is (G (i + (1 : Int32))) (o_w B d / 4096 % 64) ∧ o_Is (G (i + (2 : Int32))) (o_w B d / 64 % 64) ∧ o_Is (G (i + (3 : Int32))) (o_w B d % 64)
def o_Sp (B S : Int32 → Int32) (e : Nat) : Prop := ∀ g : Nat, g < e → ∀ i d : Int32, i.toInt = 4 * g → d.toInt = 3 * g → (o_b64 (S i &&& (255 : Int32))).toInt = o_w B d / 262144 ∧ (o_b64 (S (i + (1 : Int32)) &&& (255 : Int32))).toInt = o_w B d / 4096 % 64 ∧ (o_b64 (S ((i + (1 : Int32)) + (1 : Int32)) &&& (255 : Int32))).toInt = o_w B d / 64 % 64 ∧ (o_b64 (S (((i + (1 : Int32)) + (1 : Int32)) + (1 : Int32)) &&& (255 : Int32))).toInt = o_w B d % 64
def o_Ng (S : Int32 → Int32) (e : Nat) : Prop := ∀ i : Int32, i.toInt = 4 * e → (o_b64 (S (((i + (1 : Int32)) + (1 : Int32)) + (1 : Int32)) &&& (255 : Int32))).toInt < 0
def o_Blk (B S : Int32 → Int32) (e : Nat) (m n r : Int32) : Prop := o_By B ∧ o_Sp B S e ∧ (m.toInt = 4 * e ∨ (m.toInt = 4 * e + 4 ∧ o_Ng S e)) ∧ 3 * e ≤ n.toInt ∧ r.toInt = 3 * e ∧ e ≤ 16
def o_Md0 (B S : Int32 → Int32) : Prop := o_By B ∧ o_Sp B S 5 ∧ (o_b64 (S 20 &&& (255 : Int32))).toInt = (B 15 &&& (255 : Int32)).toInt / 4 ∧ (o_b64 (S 21 &&& (255 : Int32))).toInt = (B 15 &&& (255 : Int32)).toInt % 4 * 16 ∧ S 22 = 61 ∧ S 23 = 61
def o_Md1 (B S : Int32 → Int32) : Prop := o_By B ∧ o_Sp B S 10 ∧ (o_b64 (S 40 &&& (255 : Int32))).toInt = (B 30 &&& (255 : Int32)).toInt / 4 ∧ (o_b64 (S 41 &&& (255 : Int32))).toInt = (B 30 &&& (255 : Int32)).toInt % 4 * 16 + (B 31 &&& (255 : Int32)).toInt / 16 ∧ (o_b64 (S 42 &&& (255 : Int32))).toInt = (B 31 &&& (255 : Int32)).toInt % 16 * 4 ∧ S 43 = 61 ∧ ¬ S 42 = 61
def o_Md2 (B S : Int32 → Int32) : Prop := o_By B ∧ o_Sp B S 16 ∧ ¬ S 63 = 61
theorem o_one : (1 : Int32).toInt = 1 := rfl
theorem o_lt {a b : Int32} : a < b ↔ a.toInt < b.toInt := Int32.lt_iff_toInt_lt
theorem o_ad {x k : Int32} (h : 0 ≤ x.toInt ∧ x.toInt < 1000000) (hk : 0 ≤ k.toInt ∧ k.toInt < 1000) : (x + k).toInt = x.toInt + k.toInt := o_add x k (by omega)
theorem o_ad1 {x : Int32} (h : 0 ≤ x.toInt ∧ x.toInt < 1000000) : (x + (1 : Int32)).toInt = x.toInt + 1 := o_ad h (by decide)
theorem o_adk {x : Int32} (k : Int32) (z : Int) (hz : k.toInt = z) (h : 0 ≤ x.toInt ∧ x.toInt < 1000000) (hk : 0 ≤ z ∧ z < 1000) : (x + k).toInt = x.toInt + z := by rw [o_ad h (by omega), hz]
theorem o_ext {a b : Int32} (h : a.toInt = b.toInt) : a = b := Int32.toInt_inj.mp h
theorem o_m255 (x : Int32) : 0 ≤ (x &&& (255 : Int32)).toInt ∧ (x &&& (255 : Int32)).toInt < 256 ∧ (x &&& (255 : Int32)).toInt = x.toInt % 256 := by
 have h : (x &&& 255).toInt = x.toInt % 2 ^ 8 := Jvm.Kit.i32_mask x 255 (k := 8) (by decide) (by decide)
 omega
theorem o_ix255 (x : Int32) : ¬ (x &&& (255 : Int32)) < 0 ∧ (x &&& (255 : Int32)) < (256 : Int32) := by
 have h := o_m255 x
 exact o_bd (by rw [show (256 : Int32).toInt = 256 from rfl]; omega)
theorem o_wB (B : Int32 → Int32) (d : Int32) : 0 ≤ o_w B d ∧ o_w B d < 16777216 := by
 have h1 := o_m255 (B d)
 have h2 := o_m255 (B (d + (1 : Int32)))
 have h3 := o_m255 (B (d + (2 : Int32)))
 unfold o_w
 omega
/- the indices of put, get and enc3 -/
theorem o_p0 {x n : Int32} (h : 0 ≤ x.toInt ∧ x.toInt + 8 ≤ n.toInt) : ¬ x < 0 ∧ x < n := o_bd (by omega)
theorem o_pk {x n k : Int32} (h : 0 ≤ x.toInt ∧ x.toInt + 8 ≤ n.toInt) (hk : 0 ≤ k.toInt ∧ k.toInt < 8) : ¬ (x + k) < 0 ∧ (x + k) < n := by
 have := Int32.toInt_lt n
 have e := o_add x k (by omega)
 exact o_bd (by omega)
theorem o_mulk {x k : Int32} (z : Int) (hz : k.toInt = z) (hk : 0 ≤ z ∧ z < 10) (h : 0 ≤ x.toInt ∧ x.toInt < 1000) : (k * x).toInt = z * x.toInt := by
 rw [Jvm.Kit.i32_mul, hz]
 ·rw [hz]; have := Int.mul_nonneg hk.1 h.1; omega
 ·rw [hz]; have := Int.mul_le_mul (show z ≤ 10 by omega) (show x.toInt ≤ 1000 by omega) h.1 (by omega); omega
theorem o_e3 {x n k : Int32} (h : 0 ≤ x.toInt ∧ 3 * x.toInt + 3 ≤ 48 ∧ 4 * x.toInt + 4 ≤ n.toInt) (hk : 0 ≤ k.toInt ∧ k.toInt < 3) : ¬ ((3 : Int32) * x + k) < 0 ∧ ((3 : Int32) * x + k) < (48 : Int32) := by
 have e := o_mulk (x := x) (k := 3) 3 rfl (by omega) (by omega)
 have f := o_ad (x := (3 : Int32) * x) (k := k) (by omega) (by omega)
 exact o_bd (by rw [show (48 : Int32).toInt = 48 from rfl]; omega)
theorem o_e30 {x n : Int32} (h : 0 ≤ x.toInt ∧ 3 * x.toInt + 3 ≤ 48 ∧ 4 * x.toInt + 4 ≤ n.toInt) : ¬ ((3 : Int32) * x) < 0 ∧ ((3 : Int32) * x) < (48 : Int32) := by
 have e := o_mulk (x := x) (k := 3) 3 rfl (by omega) (by omega)
 exact o_bd (by rw [show (48 : Int32).toInt = 48 from rfl]; omega)
theorem o_e4 {x n k : Int32} (h : 0 ≤ x.toInt ∧ 3 * x.toInt + 3 ≤ 48 ∧ 4 * x.toInt + 4 ≤ n.toInt) (hk : 0 ≤ k.toInt ∧ k.toInt < 4) : ¬ ((4 : Int32) * x + k) < 0 ∧ ((4 : Int32) * x + k) < n := by
 have e := o_mulk (x := x) (k := 4) 4 rfl (by omega) (by omega)
 have f := o_ad (x := (4 : Int32) * x) (k := k) (by omega) (by omega)
 exact o_bd (by omega)
theorem o_e40 {x n : Int32} (h : 0 ≤ x.toInt ∧ 3 * x.toInt + 3 ≤ 48 ∧ 4 * x.toInt + 4 ≤ n.toInt) : ¬ ((4 : Int32) * x) < 0 ∧ ((4 : Int32) * x) < n := by
 have e := o_mulk (x := x) (k := 4) 4 rfl (by omega) (by omega)
 exact o_bd (by omega)
theorem o_d1_0 : decode method_5_code 0 = .ok (.aload_n 0, 1) := by decide +kernel
theorem o_d1_1 : decode method_5_code 1 = .ok (.iload_n 1, 1) := by decide +kernel
theorem o_d1_2 : decode method_5_code 2 = .ok (.lload_n 2, 1) := by decide +kernel
theorem o_d1_3 : decode method_5_code 3 = .ok (.bipush 56, 2) := by decide +kernel
theorem o_d1_5 : decode method_5_code 5 = .ok (.lushr, 1) := by decide +kernel
theorem o_d1_6 : decode method_5_code 6 = .ok (.l2i, 1) := by decide +kernel
theorem o_d1_7 : decode method_5_code 7 = .ok (.i2b, 1) := by decide +kernel
theorem o_d1_8 : decode method_5_code 8 = .ok (.bastore, 1) := by decide +kernel
theorem o_d1_9 : decode method_5_code 9 = .ok (.aload_n 0, 1) := by decide +kernel
theorem o_d1_10 : decode method_5_code 10 = .ok (.iload_n 1, 1) := by decide +kernel
theorem o_d1_11 : decode method_5_code 11 = .ok (.iconst 1, 1) := by decide +kernel
theorem o_d1_12 : decode method_5_code 12 = .ok (.iadd, 1) := by decide +kernel
theorem o_d1_13 : decode method_5_code 13 = .ok (.lload_n 2, 1) := by decide +kernel
theorem o_d1_14 : decode method_5_code 14 = .ok (.bipush 48, 2) := by decide +kernel
theorem o_d1_16 : decode method_5_code 16 = .ok (.lushr, 1) := by decide +kernel
theorem o_d1_17 : decode method_5_code 17 = .ok (.l2i, 1) := by decide +kernel
theorem o_d1_18 : decode method_5_code 18 = .ok (.i2b, 1) := by decide +kernel
theorem o_d1_19 : decode method_5_code 19 = .ok (.bastore, 1) := by decide +kernel
theorem o_d1_20 : decode method_5_code 20 = .ok (.aload_n 0, 1) := by decide +kernel
theorem o_d1_21 : decode method_5_code 21 = .ok (.iload_n 1, 1) := by decide +kernel
theorem o_d1_22 : decode method_5_code 22 = .ok (.iconst 2, 1) := by decide +kernel
theorem o_d1_23 : decode method_5_code 23 = .ok (.iadd, 1) := by decide +kernel
theorem o_d1_24 : decode method_5_code 24 = .ok (.lload_n 2, 1) := by decide +kernel
theorem o_d1_25 : decode method_5_code 25 = .ok (.bipush 40, 2) := by decide +kernel
theorem o_d1_27 : decode method_5_code 27 = .ok (.lushr, 1) := by decide +kernel
theorem o_d1_28 : decode method_5_code 28 = .ok (.l2i, 1) := by decide +kernel
theorem o_d1_29 : decode method_5_code 29 = .ok (.i2b, 1) := by decide +kernel
theorem o_d1_30 : decode method_5_code 30 = .ok (.bastore, 1) := by decide +kernel
theorem o_d1_31 : decode method_5_code 31 = .ok (.aload_n 0, 1) := by decide +kernel
theorem o_d1_32 : decode method_5_code 32 = .ok (.iload_n 1, 1) := by decide +kernel
theorem o_d1_33 : decode method_5_code 33 = .ok (.iconst 3, 1) := by decide +kernel
theorem o_d1_34 : decode method_5_code 34 = .ok (.iadd, 1) := by decide +kernel
theorem o_d1_35 : decode method_5_code 35 = .ok (.lload_n 2, 1) := by decide +kernel
theorem o_d1_36 : decode method_5_code 36 = .ok (.bipush 32, 2) := by decide +kernel
theorem o_d1_38 : decode method_5_code 38 = .ok (.lushr, 1) := by decide +kernel
theorem o_d1_39 : decode method_5_code 39 = .ok (.l2i, 1) := by decide +kernel
theorem o_d1_40 : decode method_5_code 40 = .ok (.i2b, 1) := by decide +kernel
theorem o_d1_41 : decode method_5_code 41 = .ok (.bastore, 1) := by decide +kernel
theorem o_d1_42 : decode method_5_code 42 = .ok (.aload_n 0, 1) := by decide +kernel
theorem o_d1_43 : decode method_5_code 43 = .ok (.iload_n 1, 1) := by decide +kernel
theorem o_d1_44 : decode method_5_code 44 = .ok (.iconst 4, 1) := by decide +kernel
theorem o_d1_45 : decode method_5_code 45 = .ok (.iadd, 1) := by decide +kernel
theorem o_d1_46 : decode method_5_code 46 = .ok (.lload_n 2, 1) := by decide +kernel
theorem o_d1_47 : decode method_5_code 47 = .ok (.bipush 24, 2) := by decide +kernel
theorem o_d1_49 : decode method_5_code 49 = .ok (.lushr, 1) := by decide +kernel
theorem o_d1_50 : decode method_5_code 50 = .ok (.l2i, 1) := by decide +kernel
theorem o_d1_51 : decode method_5_code 51 = .ok (.i2b, 1) := by decide +kernel
theorem o_d1_52 : decode method_5_code 52 = .ok (.bastore, 1) := by decide +kernel
theorem o_d1_53 : decode method_5_code 53 = .ok (.aload_n 0, 1) := by decide +kernel
theorem o_d1_54 : decode method_5_code 54 = .ok (.iload_n 1, 1) := by decide +kernel
theorem o_d1_55 : decode method_5_code 55 = .ok (.iconst 5, 1) := by decide +kernel
theorem o_d1_56 : decode method_5_code 56 = .ok (.iadd, 1) := by decide +kernel
theorem o_d1_57 : decode method_5_code 57 = .ok (.lload_n 2, 1) := by decide +kernel
theorem o_d1_58 : decode method_5_code 58 = .ok (.bipush 16, 2) := by decide +kernel
theorem o_d1_60 : decode method_5_code 60 = .ok (.lushr, 1) := by decide +kernel
theorem o_d1_61 : decode method_5_code 61 = .ok (.l2i, 1) := by decide +kernel
theorem o_d1_62 : decode method_5_code 62 = .ok (.i2b, 1) := by decide +kernel
theorem o_d1_63 : decode method_5_code 63 = .ok (.bastore, 1) := by decide +kernel
theorem o_d1_64 : decode method_5_code 64 = .ok (.aload_n 0, 1) := by decide +kernel
theorem o_d1_65 : decode method_5_code 65 = .ok (.iload_n 1, 1) := by decide +kernel
theorem o_d1_66 : decode method_5_code 66 = .ok (.bipush 6, 2) := by decide +kernel
theorem o_d1_68 : decode method_5_code 68 = .ok (.iadd, 1) := by decide +kernel
theorem o_d1_69 : decode method_5_code 69 = .ok (.lload_n 2, 1) := by decide +kernel
theorem o_d1_70 : decode method_5_code 70 = .ok (.bipush 8, 2) := by decide +kernel
theorem o_d1_72 : decode method_5_code 72 = .ok (.lushr, 1) := by decide +kernel
theorem o_d1_73 : decode method_5_code 73 = .ok (.l2i, 1) := by decide +kernel
theorem o_d1_74 : decode method_5_code 74 = .ok (.i2b, 1) := by decide +kernel
theorem o_d1_75 : decode method_5_code 75 = .ok (.bastore, 1) := by decide +kernel
theorem o_d1_76 : decode method_5_code 76 = .ok (.aload_n 0, 1) := by decide +kernel
theorem o_d1_77 : decode method_5_code 77 = .ok (.iload_n 1, 1) := by decide +kernel
theorem o_d1_78 : decode method_5_code 78 = .ok (.bipush 7, 2) := by decide +kernel
theorem o_d1_80 : decode method_5_code 80 = .ok (.iadd, 1) := by decide +kernel
theorem o_d1_81 : decode method_5_code 81 = .ok (.lload_n 2, 1) := by decide +kernel
theorem o_d1_82 : decode method_5_code 82 = .ok (.l2i, 1) := by decide +kernel
theorem o_d1_83 : decode method_5_code 83 = .ok (.i2b, 1) := by decide +kernel
theorem o_d1_84 : decode method_5_code 84 = .ok (.bastore, 1) := by decide +kernel
theorem o_d1_85 : decode method_5_code 85 = .ok (.return_, 1) := by decide +kernel
def o_G1_1 (x1 : Int32) (y2 : Int64) (q_F : Int32 → Int32) : Int32 → Int32 := fun k => if k = x1 then (nar .byte ((((y2.toUInt64 >>> ((56 : Int32) &&& 0x3f).toInt64.toUInt64).toInt64).toInt32).toInt8.toInt32)) else q_F k
def o_G1_2 (x1 : Int32) (y2 : Int64) (q_F : Int32 → Int32) : Int32 → Int32 := fun k => if k = (x1 + (1 : Int32)) then (nar .byte ((((y2.toUInt64 >>> ((48 : Int32) &&& 0x3f).toInt64.toUInt64).toInt64).toInt32).toInt8.toInt32)) else (o_G1_1 x1 y2 q_F) k
def o_G1_3 (x1 : Int32) (y2 : Int64) (q_F : Int32 → Int32) : Int32 → Int32 := fun k => if k = (x1 + (2 : Int32)) then (nar .byte ((((y2.toUInt64 >>> ((40 : Int32) &&& 0x3f).toInt64.toUInt64).toInt64).toInt32).toInt8.toInt32)) else (o_G1_2 x1 y2 q_F) k
def o_G1_4 (x1 : Int32) (y2 : Int64) (q_F : Int32 → Int32) : Int32 → Int32 := fun k => if k = (x1 + (3 : Int32)) then (nar .byte ((((y2.toUInt64 >>> ((32 : Int32) &&& 0x3f).toInt64.toUInt64).toInt64).toInt32).toInt8.toInt32)) else (o_G1_3 x1 y2 q_F) k
def o_G1_5 (x1 : Int32) (y2 : Int64) (q_F : Int32 → Int32) : Int32 → Int32 := fun k => if k = (x1 + (4 : Int32)) then (nar .byte ((((y2.toUInt64 >>> ((24 : Int32) &&& 0x3f).toInt64.toUInt64).toInt64).toInt32).toInt8.toInt32)) else (o_G1_4 x1 y2 q_F) k
def o_G1_6 (x1 : Int32) (y2 : Int64) (q_F : Int32 → Int32) : Int32 → Int32 := fun k => if k = (x1 + (5 : Int32)) then (nar .byte ((((y2.toUInt64 >>> ((16 : Int32) &&& 0x3f).toInt64.toUInt64).toInt64).toInt32).toInt8.toInt32)) else (o_G1_5 x1 y2 q_F) k
def o_G1_7 (x1 : Int32) (y2 : Int64) (q_F : Int32 → Int32) : Int32 → Int32 := fun k => if k = (x1 + (6 : Int32)) then (nar .byte ((((y2.toUInt64 >>> ((8 : Int32) &&& 0x3f).toInt64.toUInt64).toInt64).toInt32).toInt8.toInt32)) else (o_G1_6 x1 y2 q_F) k
def o_G1_8 (x1 : Int32) (y2 : Int64) (q_F : Int32 → Int32) : Int32 → Int32 := fun k => if k = (x1 + (7 : Int32)) then (nar .byte ((y2.toInt32).toInt8.toInt32)) else (o_G1_7 x1 y2 q_F) k
def o_Q1 (Z : State) (r0 : Addr) (x1 : Int32) (y2 : Int64) (q_n : Int32) (q_F : Int32 → Int32) (h0 : Heap) (n0 : Nat) (v : Option Value) (h : Heap) (L : List Loc) : Prop := v = none ∧ Fr n0 L ∧ Keep h0 h [r0] ∧ o_Tb Z h r0 .byte q_n (o_G1_8 x1 y2 q_F)
abbrev o_R1 : Room := { frames := 0, cells := 0, slots := 0, locals := 0 }
theorem o_ef1 (m : MethodId) (z0 : Addr) (z1 : Int32) (z2 : Int64) : entryFrame m #[(.ref z0), (.int z1), (.long z2)] 4 = mkF m 0 #[o_A z0, o_I z1, o_J z2, o_s] [] := by first | (simp [entryFrame, mkF, argsToLocals, Value.category]; done) | rfl
set_option maxRecDepth 65536 in
set_option maxHeartbeats 40000000 in
theorem rm1 (l : Launch) (Z : State) (a0 : Array Value) (hw : ∀ d ∈ tables_1, d.before a0 Z = true) (ws : List Jvm.Cond) (r0 : Addr) (x1 : Int32) (y2 : Int64) (q_n : Int32) (q_F : Int32 → Int32) (h0 : Heap) (n0 : Nat) (Z0 : n0 ≤ h0.size) (g_r0 : n0 ≤ r0) (T_a : o_Tb Z h0 r0 .byte q_n q_F) (hix : 0 ≤ x1.toInt ∧ x1.toInt + 8 ≤ q_n.toInt) : o_Met l Z (⟨"com/example/quittance/quittance/dialect/AesCbcBlocksPinLaw", "put", "([BIJ)V"⟩ : MethodName) method_5_code 4 none ws o_R1 #[(.ref r0), (.int x1), (.long y2)] h0 (o_Q1 Z r0 x1 y2 q_n q_F h0 n0) := by
 refine o_met (plainFor_of_name o_pn0) ?_
 intro p e s m below meth c s₁ hx hby hml hown hnm hret hlk hZ e0 X0
 have N0 := Fr.nil n0
 have hml : c.maxLocals = 4 := hml
 have hown : s.vm.findClass "com/example/quittance/quittance/dialect/AesCbcBlocksPinLaw" = some m.cls := hown
 have hret : meth.sig.returnType = none := hret
 have hby : c.code = method_5_code := hby
 have hnm : meth.name = "put" := hnm
 rw [o_ef1]
 refine o_gi (XS.aloadN X0.here hx rfl (hb hby o_d1_0) rfl rfl) ?_
 refine o_gi (XS.iloadN X0.here hx rfl (hb hby o_d1_1) rfl) ?_
 refine o_gi (XS.lloadN X0.here hx rfl (hb hby o_d1_2) rfl) ?_
 refine o_gi (XS.bipush X0.here hx rfl (hb hby o_d1_3)) ?_
 show o_Gs p e below _ s₁ m 5 #[o_A r0, o_I x1, o_J y2, o_s] [(.int 56), (.long y2), (.int x1), (.ref r0)]
 refine o_gi (XS.lushr X0.here hx rfl (hb hby o_d1_5) rfl) ?_
 show o_Gs p e below _ s₁ m 6 #[o_A r0, o_I x1, o_J y2, o_s] [(.long ((y2.toUInt64 >>> ((56 : Int32) &&& 0x3f).toInt64.toUInt64).toInt64)), (.int x1), (.ref r0)]
 refine o_gi (XS.l2i X0.here hx rfl (hb hby o_d1_6) rfl) ?_
 show o_Gs p e below _ s₁ m 7 #[o_A r0, o_I x1, o_J y2, o_s] [(.int (((y2.toUInt64 >>> ((56 : Int32) &&& 0x3f).toInt64.toUInt64).toInt64).toInt32)), (.int x1), (.ref r0)]
 refine o_gi (XS.i2b X0.here hx rfl (hb hby o_d1_7) rfl) ?_
 show o_Gs p e below _ s₁ m 8 #[o_A r0, o_I x1, o_J y2, o_s] [(.int ((((y2.toUInt64 >>> ((56 : Int32) &&& 0x3f).toInt64.toUInt64).toInt64).toInt32).toInt8.toInt32)), (.int x1), (.ref r0)]
 obtain ⟨cl5, Ar5, sa5, na5, ha5⟩ := id T_a
 obtain ⟨T5, h5, X5, e5, W5, st5⟩ := stB X0 hx hZ e0 Ar5 (j := x1) (inb_of sa5 (o_p0 hix)) (g := (mkF m 8 #[o_A r0, o_I x1, o_J y2, o_s] [(.int ((((y2.toUInt64 >>> ((56 : Int32) &&& 0x3f).toInt64.toUInt64).toInt64).toInt32).toInt8.toInt32)), (.int x1), (.ref r0)])) rfl rfl (hb hby o_d1_8)
 have V5 : o_Tb Z h5 r0 .byte q_n (o_G1_1 x1 y2 q_F) := o_Tb.set Ar5 sa5 na5 ha5 W5 (o_p0 hix)
 have N5 := Fr.snoc X5 N0 g_r0
 refine o_go st5 ?_
 refine o_gi (XS.aloadN X5.here hx rfl (hb hby o_d1_9) rfl rfl) ?_
 refine o_gi (XS.iloadN X5.here hx rfl (hb hby o_d1_10) rfl) ?_
 refine o_gi (XS.iconst X5.here hx rfl (hb hby o_d1_11)) ?_
 show o_Gs p e below _ T5 m 12 #[o_A r0, o_I x1, o_J y2, o_s] [(.int 1), (.int x1), (.ref r0)]
 refine o_gi (XS.iadd X5.here hx rfl (hb hby o_d1_12) rfl) ?_
 refine o_gi (XS.lloadN X5.here hx rfl (hb hby o_d1_13) rfl) ?_
 refine o_gi (XS.bipush X5.here hx rfl (hb hby o_d1_14)) ?_
 show o_Gs p e below _ T5 m 16 #[o_A r0, o_I x1, o_J y2, o_s] [(.int 48), (.long y2), (.int (x1 + (1 : Int32))), (.ref r0)]
 refine o_gi (XS.lushr X5.here hx rfl (hb hby o_d1_16) rfl) ?_
 show o_Gs p e below _ T5 m 17 #[o_A r0, o_I x1, o_J y2, o_s] [(.long ((y2.toUInt64 >>> ((48 : Int32) &&& 0x3f).toInt64.toUInt64).toInt64)), (.int (x1 + (1 : Int32))), (.ref r0)]
 refine o_gi (XS.l2i X5.here hx rfl (hb hby o_d1_17) rfl) ?_
 show o_Gs p e below _ T5 m 18 #[o_A r0, o_I x1, o_J y2, o_s] [(.int (((y2.toUInt64 >>> ((48 : Int32) &&& 0x3f).toInt64.toUInt64).toInt64).toInt32)), (.int (x1 + (1 : Int32))), (.ref r0)]
 refine o_gi (XS.i2b X5.here hx rfl (hb hby o_d1_18) rfl) ?_
 show o_Gs p e below _ T5 m 19 #[o_A r0, o_I x1, o_J y2, o_s] [(.int ((((y2.toUInt64 >>> ((48 : Int32) &&& 0x3f).toInt64.toUInt64).toInt64).toInt32).toInt8.toInt32)), (.int (x1 + (1 : Int32))), (.ref r0)]
 obtain ⟨cl6, Ar6, sa6, na6, ha6⟩ := id V5
 obtain ⟨T6, h6, X6, e6, W6, st6⟩ := stB X5 hx hZ e5 Ar6 (j := (x1 + (1 : Int32))) (inb_of sa6 (o_pk hix (by decide))) (g := (mkF m 19 #[o_A r0, o_I x1, o_J y2, o_s] [(.int ((((y2.toUInt64 >>> ((48 : Int32) &&& 0x3f).toInt64.toUInt64).toInt64).toInt32).toInt8.toInt32)), (.int (x1 + (1 : Int32))), (.ref r0)])) rfl rfl (hb hby o_d1_19)
 have V6 : o_Tb Z h6 r0 .byte q_n (o_G1_2 x1 y2 q_F) := o_Tb.set Ar6 sa6 na6 ha6 W6 (o_pk hix (by decide))
 have N6 := Fr.snoc X6 N5 g_r0
 refine o_go st6 ?_
 refine o_gi (XS.aloadN X6.here hx rfl (hb hby o_d1_20) rfl rfl) ?_
 refine o_gi (XS.iloadN X6.here hx rfl (hb hby o_d1_21) rfl) ?_
 refine o_gi (XS.iconst X6.here hx rfl (hb hby o_d1_22)) ?_
 show o_Gs p e below _ T6 m 23 #[o_A r0, o_I x1, o_J y2, o_s] [(.int 2), (.int x1), (.ref r0)]
 refine o_gi (XS.iadd X6.here hx rfl (hb hby o_d1_23) rfl) ?_
 refine o_gi (XS.lloadN X6.here hx rfl (hb hby o_d1_24) rfl) ?_
 refine o_gi (XS.bipush X6.here hx rfl (hb hby o_d1_25)) ?_
 show o_Gs p e below _ T6 m 27 #[o_A r0, o_I x1, o_J y2, o_s] [(.int 40), (.long y2), (.int (x1 + (2 : Int32))), (.ref r0)]
 refine o_gi (XS.lushr X6.here hx rfl (hb hby o_d1_27) rfl) ?_
 show o_Gs p e below _ T6 m 28 #[o_A r0, o_I x1, o_J y2, o_s] [(.long ((y2.toUInt64 >>> ((40 : Int32) &&& 0x3f).toInt64.toUInt64).toInt64)), (.int (x1 + (2 : Int32))), (.ref r0)]
 refine o_gi (XS.l2i X6.here hx rfl (hb hby o_d1_28) rfl) ?_
 show o_Gs p e below _ T6 m 29 #[o_A r0, o_I x1, o_J y2, o_s] [(.int (((y2.toUInt64 >>> ((40 : Int32) &&& 0x3f).toInt64.toUInt64).toInt64).toInt32)), (.int (x1 + (2 : Int32))), (.ref r0)]
 refine o_gi (XS.i2b X6.here hx rfl (hb hby o_d1_29) rfl) ?_
 show o_Gs p e below _ T6 m 30 #[o_A r0, o_I x1, o_J y2, o_s] [(.int ((((y2.toUInt64 >>> ((40 : Int32) &&& 0x3f).toInt64.toUInt64).toInt64).toInt32).toInt8.toInt32)), (.int (x1 + (2 : Int32))), (.ref r0)]
 obtain ⟨cl7, Ar7, sa7, na7, ha7⟩ := id V6
 obtain ⟨T7, h7, X7, e7, W7, st7⟩ := stB X6 hx hZ e6 Ar7 (j := (x1 + (2 : Int32))) (inb_of sa7 (o_pk hix (by decide))) (g := (mkF m 30 #[o_A r0, o_I x1, o_J y2, o_s] [(.int ((((y2.toUInt64 >>> ((40 : Int32) &&& 0x3f).toInt64.toUInt64).toInt64).toInt32).toInt8.toInt32)), (.int (x1 + (2 : Int32))), (.ref r0)])) rfl rfl (hb hby o_d1_30)
 have V7 : o_Tb Z h7 r0 .byte q_n (o_G1_3 x1 y2 q_F) := o_Tb.set Ar7 sa7 na7 ha7 W7 (o_pk hix (by decide))
 have N7 := Fr.snoc X7 N6 g_r0
 refine o_go st7 ?_
 refine o_gi (XS.aloadN X7.here hx rfl (hb hby o_d1_31) rfl rfl) ?_
 refine o_gi (XS.iloadN X7.here hx rfl (hb hby o_d1_32) rfl) ?_
 refine o_gi (XS.iconst X7.here hx rfl (hb hby o_d1_33)) ?_
 show o_Gs p e below _ T7 m 34 #[o_A r0, o_I x1, o_J y2, o_s] [(.int 3), (.int x1), (.ref r0)]
 refine o_gi (XS.iadd X7.here hx rfl (hb hby o_d1_34) rfl) ?_
 refine o_gi (XS.lloadN X7.here hx rfl (hb hby o_d1_35) rfl) ?_
 refine o_gi (XS.bipush X7.here hx rfl (hb hby o_d1_36)) ?_
 show o_Gs p e below _ T7 m 38 #[o_A r0, o_I x1, o_J y2, o_s] [(.int 32), (.long y2), (.int (x1 + (3 : Int32))), (.ref r0)]
 refine o_gi (XS.lushr X7.here hx rfl (hb hby o_d1_38) rfl) ?_
 show o_Gs p e below _ T7 m 39 #[o_A r0, o_I x1, o_J y2, o_s] [(.long ((y2.toUInt64 >>> ((32 : Int32) &&& 0x3f).toInt64.toUInt64).toInt64)), (.int (x1 + (3 : Int32))), (.ref r0)]
 refine o_gi (XS.l2i X7.here hx rfl (hb hby o_d1_39) rfl) ?_
 show o_Gs p e below _ T7 m 40 #[o_A r0, o_I x1, o_J y2, o_s] [(.int (((y2.toUInt64 >>> ((32 : Int32) &&& 0x3f).toInt64.toUInt64).toInt64).toInt32)), (.int (x1 + (3 : Int32))), (.ref r0)]
 refine o_gi (XS.i2b X7.here hx rfl (hb hby o_d1_40) rfl) ?_
 show o_Gs p e below _ T7 m 41 #[o_A r0, o_I x1, o_J y2, o_s] [(.int ((((y2.toUInt64 >>> ((32 : Int32) &&& 0x3f).toInt64.toUInt64).toInt64).toInt32).toInt8.toInt32)), (.int (x1 + (3 : Int32))), (.ref r0)]
 obtain ⟨cl8, Ar8, sa8, na8, ha8⟩ := id V7
 obtain ⟨T8, h8, X8, e8, W8, st8⟩ := stB X7 hx hZ e7 Ar8 (j := (x1 + (3 : Int32))) (inb_of sa8 (o_pk hix (by decide))) (g := (mkF m 41 #[o_A r0, o_I x1, o_J y2, o_s] [(.int ((((y2.toUInt64 >>> ((32 : Int32) &&& 0x3f).toInt64.toUInt64).toInt64).toInt32).toInt8.toInt32)), (.int (x1 + (3 : Int32))), (.ref r0)])) rfl rfl (hb hby o_d1_41)
 have V8 : o_Tb Z h8 r0 .byte q_n (o_G1_4 x1 y2 q_F) := o_Tb.set Ar8 sa8 na8 ha8 W8 (o_pk hix (by decide))
 have N8 := Fr.snoc X8 N7 g_r0
 refine o_go st8 ?_
 refine o_gi (XS.aloadN X8.here hx rfl (hb hby o_d1_42) rfl rfl) ?_
 refine o_gi (XS.iloadN X8.here hx rfl (hb hby o_d1_43) rfl) ?_
 refine o_gi (XS.iconst X8.here hx rfl (hb hby o_d1_44)) ?_
 show o_Gs p e below _ T8 m 45 #[o_A r0, o_I x1, o_J y2, o_s] [(.int 4), (.int x1), (.ref r0)]
 refine o_gi (XS.iadd X8.here hx rfl (hb hby o_d1_45) rfl) ?_
 refine o_gi (XS.lloadN X8.here hx rfl (hb hby o_d1_46) rfl) ?_
 refine o_gi (XS.bipush X8.here hx rfl (hb hby o_d1_47)) ?_
 show o_Gs p e below _ T8 m 49 #[o_A r0, o_I x1, o_J y2, o_s] [(.int 24), (.long y2), (.int (x1 + (4 : Int32))), (.ref r0)]
 refine o_gi (XS.lushr X8.here hx rfl (hb hby o_d1_49) rfl) ?_
 show o_Gs p e below _ T8 m 50 #[o_A r0, o_I x1, o_J y2, o_s] [(.long ((y2.toUInt64 >>> ((24 : Int32) &&& 0x3f).toInt64.toUInt64).toInt64)), (.int (x1 + (4 : Int32))), (.ref r0)]
 refine o_gi (XS.l2i X8.here hx rfl (hb hby o_d1_50) rfl) ?_
 show o_Gs p e below _ T8 m 51 #[o_A r0, o_I x1, o_J y2, o_s] [(.int (((y2.toUInt64 >>> ((24 : Int32) &&& 0x3f).toInt64.toUInt64).toInt64).toInt32)), (.int (x1 + (4 : Int32))), (.ref r0)]
 refine o_gi (XS.i2b X8.here hx rfl (hb hby o_d1_51) rfl) ?_
 show o_Gs p e below _ T8 m 52 #[o_A r0, o_I x1, o_J y2, o_s] [(.int ((((y2.toUInt64 >>> ((24 : Int32) &&& 0x3f).toInt64.toUInt64).toInt64).toInt32).toInt8.toInt32)), (.int (x1 + (4 : Int32))), (.ref r0)]
 obtain ⟨cl9, Ar9, sa9, na9, ha9⟩ := id V8
 obtain ⟨T9, h9, X9, e9, W9, st9⟩ := stB X8 hx hZ e8 Ar9 (j := (x1 + (4 : Int32))) (inb_of sa9 (o_pk hix (by decide))) (g := (mkF m 52 #[o_A r0, o_I x1, o_J y2, o_s] [(.int ((((y2.toUInt64 >>> ((24 : Int32) &&& 0x3f).toInt64.toUInt64).toInt64).toInt32).toInt8.toInt32)), (.int (x1 + (4 : Int32))), (.ref r0)])) rfl rfl (hb hby o_d1_52)
 have V9 : o_Tb Z h9 r0 .byte q_n (o_G1_5 x1 y2 q_F) := o_Tb.set Ar9 sa9 na9 ha9 W9 (o_pk hix (by decide))
 have N9 := Fr.snoc X9 N8 g_r0
 refine o_go st9 ?_
 refine o_gi (XS.aloadN X9.here hx rfl (hb hby o_d1_53) rfl rfl) ?_
 refine o_gi (XS.iloadN X9.here hx rfl (hb hby o_d1_54) rfl) ?_
 refine o_gi (XS.iconst X9.here hx rfl (hb hby o_d1_55)) ?_
 show o_Gs p e below _ T9 m 56 #[o_A r0, o_I x1, o_J y2, o_s] [(.int 5), (.int x1), (.ref r0)]
 refine o_gi (XS.iadd X9.here hx rfl (hb hby o_d1_56) rfl) ?_
 refine o_gi (XS.lloadN X9.here hx rfl (hb hby o_d1_57) rfl) ?_
 refine o_gi (XS.bipush X9.here hx rfl (hb hby o_d1_58)) ?_
 show o_Gs p e below _ T9 m 60 #[o_A r0, o_I x1, o_J y2, o_s] [(.int 16), (.long y2), (.int (x1 + (5 : Int32))), (.ref r0)]
 refine o_gi (XS.lushr X9.here hx rfl (hb hby o_d1_60) rfl) ?_
 show o_Gs p e below _ T9 m 61 #[o_A r0, o_I x1, o_J y2, o_s] [(.long ((y2.toUInt64 >>> ((16 : Int32) &&& 0x3f).toInt64.toUInt64).toInt64)), (.int (x1 + (5 : Int32))), (.ref r0)]
 refine o_gi (XS.l2i X9.here hx rfl (hb hby o_d1_61) rfl) ?_
 show o_Gs p e below _ T9 m 62 #[o_A r0, o_I x1, o_J y2, o_s] [(.int (((y2.toUInt64 >>> ((16 : Int32) &&& 0x3f).toInt64.toUInt64).toInt64).toInt32)), (.int (x1 + (5 : Int32))), (.ref r0)]
 refine o_gi (XS.i2b X9.here hx rfl (hb hby o_d1_62) rfl) ?_
 show o_Gs p e below _ T9 m 63 #[o_A r0, o_I x1, o_J y2, o_s] [(.int ((((y2.toUInt64 >>> ((16 : Int32) &&& 0x3f).toInt64.toUInt64).toInt64).toInt32).toInt8.toInt32)), (.int (x1 + (5 : Int32))), (.ref r0)]
 obtain ⟨cl10, Ar10, sa10, na10, ha10⟩ := id V9
 obtain ⟨T10, h10, X10, e10, W10, st10⟩ := stB X9 hx hZ e9 Ar10 (j := (x1 + (5 : Int32))) (inb_of sa10 (o_pk hix (by decide))) (g := (mkF m 63 #[o_A r0, o_I x1, o_J y2, o_s] [(.int ((((y2.toUInt64 >>> ((16 : Int32) &&& 0x3f).toInt64.toUInt64).toInt64).toInt32).toInt8.toInt32)), (.int (x1 + (5 : Int32))), (.ref r0)])) rfl rfl (hb hby o_d1_63)
 have V10 : o_Tb Z h10 r0 .byte q_n (o_G1_6 x1 y2 q_F) := o_Tb.set Ar10 sa10 na10 ha10 W10 (o_pk hix (by decide))
 have N10 := Fr.snoc X10 N9 g_r0
 refine o_go st10 ?_
 refine o_gi (XS.aloadN X10.here hx rfl (hb hby o_d1_64) rfl rfl) ?_
 refine o_gi (XS.iloadN X10.here hx rfl (hb hby o_d1_65) rfl) ?_
 refine o_gi (XS.bipush X10.here hx rfl (hb hby o_d1_66)) ?_
 show o_Gs p e below _ T10 m 68 #[o_A r0, o_I x1, o_J y2, o_s] [(.int 6), (.int x1), (.ref r0)]
 refine o_gi (XS.iadd X10.here hx rfl (hb hby o_d1_68) rfl) ?_
 refine o_gi (XS.lloadN X10.here hx rfl (hb hby o_d1_69) rfl) ?_
 refine o_gi (XS.bipush X10.here hx rfl (hb hby o_d1_70)) ?_
 show o_Gs p e below _ T10 m 72 #[o_A r0, o_I x1, o_J y2, o_s] [(.int 8), (.long y2), (.int (x1 + (6 : Int32))), (.ref r0)]
 refine o_gi (XS.lushr X10.here hx rfl (hb hby o_d1_72) rfl) ?_
 show o_Gs p e below _ T10 m 73 #[o_A r0, o_I x1, o_J y2, o_s] [(.long ((y2.toUInt64 >>> ((8 : Int32) &&& 0x3f).toInt64.toUInt64).toInt64)), (.int (x1 + (6 : Int32))), (.ref r0)]
 refine o_gi (XS.l2i X10.here hx rfl (hb hby o_d1_73) rfl) ?_
 show o_Gs p e below _ T10 m 74 #[o_A r0, o_I x1, o_J y2, o_s] [(.int (((y2.toUInt64 >>> ((8 : Int32) &&& 0x3f).toInt64.toUInt64).toInt64).toInt32)), (.int (x1 + (6 : Int32))), (.ref r0)]
 refine o_gi (XS.i2b X10.here hx rfl (hb hby o_d1_74) rfl) ?_
 show o_Gs p e below _ T10 m 75 #[o_A r0, o_I x1, o_J y2, o_s] [(.int ((((y2.toUInt64 >>> ((8 : Int32) &&& 0x3f).toInt64.toUInt64).toInt64).toInt32).toInt8.toInt32)), (.int (x1 + (6 : Int32))), (.ref r0)]
 obtain ⟨cl11, Ar11, sa11, na11, ha11⟩ := id V10
 obtain ⟨T11, h11, X11, e11, W11, st11⟩ := stB X10 hx hZ e10 Ar11 (j := (x1 + (6 : Int32))) (inb_of sa11 (o_pk hix (by decide))) (g := (mkF m 75 #[o_A r0, o_I x1, o_J y2, o_s] [(.int ((((y2.toUInt64 >>> ((8 : Int32) &&& 0x3f).toInt64.toUInt64).toInt64).toInt32).toInt8.toInt32)), (.int (x1 + (6 : Int32))), (.ref r0)])) rfl rfl (hb hby o_d1_75)
 have V11 : o_Tb Z h11 r0 .byte q_n (o_G1_7 x1 y2 q_F) := o_Tb.set Ar11 sa11 na11 ha11 W11 (o_pk hix (by decide))
 have N11 := Fr.snoc X11 N10 g_r0
 refine o_go st11 ?_
 refine o_gi (XS.aloadN X11.here hx rfl (hb hby o_d1_76) rfl rfl) ?_
 refine o_gi (XS.iloadN X11.here hx rfl (hb hby o_d1_77) rfl) ?_
 refine o_gi (XS.bipush X11.here hx rfl (hb hby o_d1_78)) ?_
 show o_Gs p e below _ T11 m 80 #[o_A r0, o_I x1, o_J y2, o_s] [(.int 7), (.int x1), (.ref r0)]
 refine o_gi (XS.iadd X11.here hx rfl (hb hby o_d1_80) rfl) ?_
 refine o_gi (XS.lloadN X11.here hx rfl (hb hby o_d1_81) rfl) ?_
 show o_Gs p e below _ T11 m 82 #[o_A r0, o_I x1, o_J y2, o_s] [(.long y2), (.int (x1 + (7 : Int32))), (.ref r0)]
 refine o_gi (XS.l2i X11.here hx rfl (hb hby o_d1_82) rfl) ?_
 show o_Gs p e below _ T11 m 83 #[o_A r0, o_I x1, o_J y2, o_s] [(.int (y2.toInt32)), (.int (x1 + (7 : Int32))), (.ref r0)]
 refine o_gi (XS.i2b X11.here hx rfl (hb hby o_d1_83) rfl) ?_
 show o_Gs p e below _ T11 m 84 #[o_A r0, o_I x1, o_J y2, o_s] [(.int ((y2.toInt32).toInt8.toInt32)), (.int (x1 + (7 : Int32))), (.ref r0)]
 obtain ⟨cl12, Ar12, sa12, na12, ha12⟩ := id V11
 obtain ⟨T12, h12, X12, e12, W12, st12⟩ := stB X11 hx hZ e11 Ar12 (j := (x1 + (7 : Int32))) (inb_of sa12 (o_pk hix (by decide))) (g := (mkF m 84 #[o_A r0, o_I x1, o_J y2, o_s] [(.int ((y2.toInt32).toInt8.toInt32)), (.int (x1 + (7 : Int32))), (.ref r0)])) rfl rfl (hb hby o_d1_84)
 have V12 : o_Tb Z h12 r0 .byte q_n (o_G1_8 x1 y2 q_F) := o_Tb.set Ar12 sa12 na12 ha12 W12 (o_pk hix (by decide))
 have N12 := Fr.snoc X12 N11 g_r0
 refine o_go st12 ?_
 show o_Gs p e below _ T12 m 85 #[o_A r0, o_I x1, o_J y2, o_s] []
 exact o_ret0 X12 hx hlk hret (hb hby o_d1_85) (by decide) (by decide) (by show o_Q1 Z r0 x1 y2 q_n q_F h0 n0 _ T12.heap _; rw [e12]; exact ⟨rfl, N12, (((((((((Keep.refl h0 ([r0] : List Addr)).wr W5 (Or.inl (List.mem_of_getElem? (i := 0) rfl))).wr W6 (Or.inl (List.mem_of_getElem? (i := 0) rfl))).wr W7 (Or.inl (List.mem_of_getElem? (i := 0) rfl))).wr W8 (Or.inl (List.mem_of_getElem? (i := 0) rfl))).wr W9 (Or.inl (List.mem_of_getElem? (i := 0) rfl))).wr W10 (Or.inl (List.mem_of_getElem? (i := 0) rfl))).wr W11 (Or.inl (List.mem_of_getElem? (i := 0) rfl))).wr W12 (Or.inl (List.mem_of_getElem? (i := 0) rfl))), V12⟩)
theorem o_d2_0 : decode method_4_code 0 = .ok (.iconst 3, 1) := by decide +kernel
theorem o_d2_1 : decode method_4_code 1 = .ok (.iload_n 2, 1) := by decide +kernel
theorem o_d2_2 : decode method_4_code 2 = .ok (.imul, 1) := by decide +kernel
theorem o_d2_3 : decode method_4_code 3 = .ok (.istore_n 3, 1) := by decide +kernel
theorem o_d2_4 : decode method_4_code 4 = .ok (.iconst 4, 1) := by decide +kernel
theorem o_d2_5 : decode method_4_code 5 = .ok (.iload_n 2, 1) := by decide +kernel
theorem o_d2_6 : decode method_4_code 6 = .ok (.imul, 1) := by decide +kernel
theorem o_d2_7 : decode method_4_code 7 = .ok (.istore 4, 2) := by decide +kernel
theorem o_d2_9 : decode method_4_code 9 = .ok (.aload_n 0, 1) := by decide +kernel
theorem o_d2_10 : decode method_4_code 10 = .ok (.iload_n 3, 1) := by decide +kernel
theorem o_d2_11 : decode method_4_code 11 = .ok (.baload, 1) := by decide +kernel
theorem o_d2_12 : decode method_4_code 12 = .ok (.sipush 255, 3) := by decide +kernel
theorem o_d2_15 : decode method_4_code 15 = .ok (.iand, 1) := by decide +kernel
theorem o_d2_16 : decode method_4_code 16 = .ok (.bipush 16, 2) := by decide +kernel
theorem o_d2_18 : decode method_4_code 18 = .ok (.ishl, 1) := by decide +kernel
theorem o_d2_19 : decode method_4_code 19 = .ok (.aload_n 0, 1) := by decide +kernel
theorem o_d2_20 : decode method_4_code 20 = .ok (.iload_n 3, 1) := by decide +kernel
theorem o_d2_21 : decode method_4_code 21 = .ok (.iconst 1, 1) := by decide +kernel
theorem o_d2_22 : decode method_4_code 22 = .ok (.iadd, 1) := by decide +kernel
theorem o_d2_23 : decode method_4_code 23 = .ok (.baload, 1) := by decide +kernel
theorem o_d2_24 : decode method_4_code 24 = .ok (.sipush 255, 3) := by decide +kernel
theorem o_d2_27 : decode method_4_code 27 = .ok (.iand, 1) := by decide +kernel
theorem o_d2_28 : decode method_4_code 28 = .ok (.bipush 8, 2) := by decide +kernel
theorem o_d2_30 : decode method_4_code 30 = .ok (.ishl, 1) := by decide +kernel
theorem o_d2_31 : decode method_4_code 31 = .ok (.ior, 1) := by decide +kernel
theorem o_d2_32 : decode method_4_code 32 = .ok (.aload_n 0, 1) := by decide +kernel
theorem o_d2_33 : decode method_4_code 33 = .ok (.iload_n 3, 1) := by decide +kernel
theorem o_d2_34 : decode method_4_code 34 = .ok (.iconst 2, 1) := by decide +kernel
theorem o_d2_35 : decode method_4_code 35 = .ok (.iadd, 1) := by decide +kernel
theorem o_d2_36 : decode method_4_code 36 = .ok (.baload, 1) := by decide +kernel
theorem o_d2_37 : decode method_4_code 37 = .ok (.sipush 255, 3) := by decide +kernel
theorem o_d2_40 : decode method_4_code 40 = .ok (.iand, 1) := by decide +kernel
theorem o_d2_41 : decode method_4_code 41 = .ok (.ior, 1) := by decide +kernel
theorem o_d2_42 : decode method_4_code 42 = .ok (.istore 5, 2) := by decide +kernel
theorem o_d2_44 : decode method_4_code 44 = .ok (.aload_n 1, 1) := by decide +kernel
theorem o_d2_45 : decode method_4_code 45 = .ok (.iload 4, 2) := by decide +kernel
theorem o_d2_47 : decode method_4_code 47 = .ok (.iload 5, 2) := by decide +kernel
theorem o_d2_49 : decode method_4_code 49 = .ok (.bipush 18, 2) := by decide +kernel
theorem o_d2_51 : decode method_4_code 51 = .ok (.iushr, 1) := by decide +kernel
theorem o_d2_52 : decode method_4_code 52 = .ok (.invokestatic 18, 3) := by decide +kernel
theorem o_t10 : (Jvm.Cond.methodLink "com/example/quittance/quittance/dialect/AesCbcBlocksPinLaw" (18 : Nat) ({ cls := "com/example/quittance/quittance/dialect/AesCbcBlocksPinLaw", name := "sym", desc := "(I)C" } : Jvm.MethodName)) ∈ tables_1 := List.mem_of_getElem? (i := 10) rfl
theorem o_pd0 : parseMethodDescriptor "(I)C" = some ⟨[.int], some .char⟩ := by decide +kernel
theorem o_t11 : (Jvm.Cond.static ({ cls := "com/example/quittance/quittance/dialect/AesCbcBlocksPinLaw", name := "sym", desc := "(I)C" } : Jvm.MethodName)) ∈ tables_1 := List.mem_of_getElem? (i := 11) rfl
theorem o_t4 : (Jvm.Cond.initialized "com/example/quittance/quittance/dialect/AesCbcBlocksPinLaw") ∈ tables_1 := List.mem_of_getElem? (i := 4) rfl
theorem o_t12 : (Jvm.Cond.code ({ cls := "com/example/quittance/quittance/dialect/AesCbcBlocksPinLaw", name := "sym", desc := "(I)C" } : Jvm.MethodName) method_3_code (1 : Nat) (Option.some Jvm.ClassFile.FieldType.char)) ∈ tables_1 := List.mem_of_getElem? (i := 12) rfl
theorem o_d2_55 : decode method_4_code 55 = .ok (.castore, 1) := by decide +kernel
theorem o_d2_56 : decode method_4_code 56 = .ok (.aload_n 1, 1) := by decide +kernel
theorem o_d2_57 : decode method_4_code 57 = .ok (.iload 4, 2) := by decide +kernel
theorem o_d2_59 : decode method_4_code 59 = .ok (.iconst 1, 1) := by decide +kernel
theorem o_d2_60 : decode method_4_code 60 = .ok (.iadd, 1) := by decide +kernel
theorem o_d2_61 : decode method_4_code 61 = .ok (.iload 5, 2) := by decide +kernel
theorem o_d2_63 : decode method_4_code 63 = .ok (.bipush 12, 2) := by decide +kernel
theorem o_d2_65 : decode method_4_code 65 = .ok (.iushr, 1) := by decide +kernel
theorem o_d2_66 : decode method_4_code 66 = .ok (.bipush 63, 2) := by decide +kernel
theorem o_d2_68 : decode method_4_code 68 = .ok (.iand, 1) := by decide +kernel
theorem o_d2_69 : decode method_4_code 69 = .ok (.invokestatic 18, 3) := by decide +kernel
theorem o_d2_72 : decode method_4_code 72 = .ok (.castore, 1) := by decide +kernel
theorem o_d2_73 : decode method_4_code 73 = .ok (.aload_n 1, 1) := by decide +kernel
theorem o_d2_74 : decode method_4_code 74 = .ok (.iload 4, 2) := by decide +kernel
theorem o_d2_76 : decode method_4_code 76 = .ok (.iconst 2, 1) := by decide +kernel
theorem o_d2_77 : decode method_4_code 77 = .ok (.iadd, 1) := by decide +kernel
theorem o_d2_78 : decode method_4_code 78 = .ok (.iload 5, 2) := by decide +kernel
theorem o_d2_80 : decode method_4_code 80 = .ok (.bipush 6, 2) := by decide +kernel
theorem o_d2_82 : decode method_4_code 82 = .ok (.iushr, 1) := by decide +kernel
theorem o_d2_83 : decode method_4_code 83 = .ok (.bipush 63, 2) := by decide +kernel
theorem o_d2_85 : decode method_4_code 85 = .ok (.iand, 1) := by decide +kernel
theorem o_d2_86 : decode method_4_code 86 = .ok (.invokestatic 18, 3) := by decide +kernel
theorem o_d2_89 : decode method_4_code 89 = .ok (.castore, 1) := by decide +kernel
theorem o_d2_90 : decode method_4_code 90 = .ok (.aload_n 1, 1) := by decide +kernel
theorem o_d2_91 : decode method_4_code 91 = .ok (.iload 4, 2) := by decide +kernel
theorem o_d2_93 : decode method_4_code 93 = .ok (.iconst 3, 1) := by decide +kernel
theorem o_d2_94 : decode method_4_code 94 = .ok (.iadd, 1) := by decide +kernel
theorem o_d2_95 : decode method_4_code 95 = .ok (.iload 5, 2) := by decide +kernel
theorem o_d2_97 : decode method_4_code 97 = .ok (.bipush 63, 2) := by decide +kernel
theorem o_d2_99 : decode method_4_code 99 = .ok (.iand, 1) := by decide +kernel
theorem o_d2_100 : decode method_4_code 100 = .ok (.invokestatic 18, 3) := by decide +kernel
theorem o_d2_103 : decode method_4_code 103 = .ok (.castore, 1) := by decide +kernel
theorem o_d2_104 : decode method_4_code 104 = .ok (.return_, 1) := by decide +kernel
def o_v2_1 (x2 : Int32) (q_B : Int32 → Int32) : Int32 := (((((q_B ((3 : Int32) * x2)) &&& (255 : Int32)) <<< ((16 : Int32) &&& 31)) ||| (((q_B (((3 : Int32) * x2) + (1 : Int32))) &&& (255 : Int32)) <<< ((8 : Int32) &&& 31))) ||| ((q_B (((3 : Int32) * x2) + (2 : Int32))) &&& (255 : Int32)))
def o_G2_1 (x2 : Int32) (q_B : Int32 → Int32) (q_G : Int32 → Int32) : Int32 → Int32 := fun k => if k = ((4 : Int32) * x2) then (nar .char (o_f3 (((o_v2_1 x2 q_B).toUInt32 >>> ((18 : Int32) &&& 31).toUInt32).toInt32))) else q_G k
def o_G2_2 (x2 : Int32) (q_B : Int32 → Int32) (q_G : Int32 → Int32) : Int32 → Int32 := fun k => if k = (((4 : Int32) * x2) + (1 : Int32)) then (nar .char (o_f3 ((((o_v2_1 x2 q_B).toUInt32 >>> ((12 : Int32) &&& 31).toUInt32).toInt32) &&& (63 : Int32)))) else (o_G2_1 x2 q_B q_G) k
def o_G2_3 (x2 : Int32) (q_B : Int32 → Int32) (q_G : Int32 → Int32) : Int32 → Int32 := fun k => if k = (((4 : Int32) * x2) + (2 : Int32)) then (nar .char (o_f3 ((((o_v2_1 x2 q_B).toUInt32 >>> ((6 : Int32) &&& 31).toUInt32).toInt32) &&& (63 : Int32)))) else (o_G2_2 x2 q_B q_G) k
def o_G2_4 (x2 : Int32) (q_B : Int32 → Int32) (q_G : Int32 → Int32) : Int32 → Int32 := fun k => if k = (((4 : Int32) * x2) + (3 : Int32)) then (nar .char (o_f3 ((o_v2_1 x2 q_B) &&& (63 : Int32)))) else (o_G2_3 x2 q_B q_G) k
def o_Q2 (Z : State) (r0 : Addr) (r1 : Addr) (x2 : Int32) (q_m : Int32) (q_B : Int32 → Int32) (q_G : Int32 → Int32) (h0 : Heap) (n0 : Nat) (v : Option Value) (h : Heap) (L : List Loc) : Prop := v = none ∧ Fr n0 L ∧ Keep h0 h [r1] ∧ o_Tb Z h r1 .char q_m (o_G2_4 x2 q_B q_G)
abbrev o_R2 : Room := { frames := 1, cells := 0, slots := 0, locals := 14 }
theorem o_ef2 (m : MethodId) (z0 : Addr) (z1 : Addr) (z2 : Int32) : entryFrame m #[(.ref z0), (.ref z1), (.int z2)] 6 = mkF m 0 #[o_A z0, o_A z1, o_I z2, o_u, o_u, o_u] [] := by first | (simp [entryFrame, mkF, argsToLocals, Value.category]; done) | rfl
set_option maxRecDepth 65536 in
set_option maxHeartbeats 40000000 in
theorem rm2 (l : Launch) (Z : State) (a0 : Array Value) (hw : ∀ d ∈ tables_1, d.before a0 Z = true) (ws : List Jvm.Cond) (r0 : Addr) (r1 : Addr) (x2 : Int32) (q_m : Int32) (q_B : Int32 → Int32) (q_G : Int32 → Int32) (h0 : Heap) (n0 : Nat) (Z0 : n0 ≤ h0.size) (g_r1 : n0 ≤ r1) (T_b : o_Tb Z h0 r0 .byte (48 : Int32) q_B) (T_c : o_Tb Z h0 r1 .char q_m q_G) (ne_r0_r1 : r0 ≠ r1) (hix : 0 ≤ x2.toInt ∧ 3 * x2.toInt + 3 ≤ 48 ∧ 4 * x2.toInt + 4 ≤ q_m.toInt) : o_Met l Z (⟨"com/example/quittance/quittance/dialect/AesCbcBlocksPinLaw", "enc3", "([B[CI)V"⟩ : MethodName) method_4_code 6 none ws o_R2 #[(.ref r0), (.ref r1), (.int x2)] h0 (o_Q2 Z r0 r1 x2 q_m q_B q_G h0 n0) := by
 refine o_met (plainFor_of_name o_pn0) ?_
 intro p e s m below meth c s₁ hx hby hml hown hnm hret hlk hZ e0 X0
 have N0 := Fr.nil n0
 have hml : c.maxLocals = 6 := hml
 have hown : s.vm.findClass "com/example/quittance/quittance/dialect/AesCbcBlocksPinLaw" = some m.cls := hown
 have hret : meth.sig.returnType = none := hret
 have hby : c.code = method_4_code := hby
 have hnm : meth.name = "enc3" := hnm
 rw [o_ef2]
 refine o_gi (XS.iconst X0.here hx rfl (hb hby o_d2_0)) ?_
 refine o_gi (XS.iloadN X0.here hx rfl (hb hby o_d2_1) rfl) ?_
 show o_Gs p e below _ s₁ m 2 #[o_A r0, o_A r1, o_I x2, o_u, o_u, o_u] [(.int x2), (.int 3)]
 refine o_gi (XS.imul X0.here hx rfl (hb hby o_d2_2) rfl) ?_
 refine o_gi (XS.istoreN X0.here hx rfl (hb hby o_d2_3) rfl (l' := #[o_A r0, o_A r1, o_I x2, .val (.int ((3 : Int32) * x2)), o_u, o_u]) rfl) ?_
 refine o_gi (XS.iconst X0.here hx rfl (hb hby o_d2_4)) ?_
 refine o_gi (XS.iloadN X0.here hx rfl (hb hby o_d2_5) rfl) ?_
 show o_Gs p e below _ s₁ m 6 #[o_A r0, o_A r1, o_I x2, .val (.int ((3 : Int32) * x2)), o_u, o_u] [(.int x2), (.int 4)]
 refine o_gi (XS.imul X0.here hx rfl (hb hby o_d2_6) rfl) ?_
 refine o_gi (XS.istore X0.here hx rfl (hb hby o_d2_7) rfl (l' := #[o_A r0, o_A r1, o_I x2, .val (.int ((3 : Int32) * x2)), .val (.int ((4 : Int32) * x2)), o_u]) rfl) ?_
 refine o_gi (XS.aloadN X0.here hx rfl (hb hby o_d2_9) rfl rfl) ?_
 refine o_gi (XS.iloadN X0.here hx rfl (hb hby o_d2_10) rfl) ?_
 show o_Gs p e below _ s₁ m 11 #[o_A r0, o_A r1, o_I x2, .val (.int ((3 : Int32) * x2)), .val (.int ((4 : Int32) * x2)), o_u] [(.int ((3 : Int32) * x2)), (.ref r0)]
 obtain ⟨cl13, Ar13, sa13, na13, ha13⟩ := id T_b
 have ix13 : ¬ ((3 : Int32) * x2) < 0 ∧ ((3 : Int32) * x2) < (48 : Int32) := (o_e30 hix)
 refine o_go (X0.baloadBytes hx (j := ((3 : Int32) * x2)) (v := (.int (q_B ((3 : Int32) * x2)))) (by rw [e0]; exact Ar13.1) (State.isArrayOf_alike hZ.alike Ar13.2.1) Ar13.2.2 (inb_of sa13 ix13) (ha13 _ ix13.1 ix13.2) (g := (mkF m 11 #[o_A r0, o_A r1, o_I x2, .val (.int ((3 : Int32) * x2)), .val (.int ((4 : Int32) * x2)), o_u] [(.int ((3 : Int32) * x2)), (.ref r0)])) rfl rfl (hb hby o_d2_11)) ?_
 refine o_gi (XS.sipush X0.here hx rfl (hb hby o_d2_12)) ?_
 show o_Gs p e below _ s₁ m 15 #[o_A r0, o_A r1, o_I x2, .val (.int ((3 : Int32) * x2)), .val (.int ((4 : Int32) * x2)), o_u] [(.int 255), (.int (q_B ((3 : Int32) * x2)))]
 refine o_gi (XS.iand X0.here hx rfl (hb hby o_d2_15) rfl) ?_
 refine o_gi (XS.bipush X0.here hx rfl (hb hby o_d2_16)) ?_
 show o_Gs p e below _ s₁ m 18 #[o_A r0, o_A r1, o_I x2, .val (.int ((3 : Int32) * x2)), .val (.int ((4 : Int32) * x2)), o_u] [(.int 16), (.int ((q_B ((3 : Int32) * x2)) &&& (255 : Int32)))]
 refine o_gi (XS.ishl X0.here hx rfl (hb hby o_d2_18) rfl) ?_
 refine o_gi (XS.aloadN X0.here hx rfl (hb hby o_d2_19) rfl rfl) ?_
 refine o_gi (XS.iloadN X0.here hx rfl (hb hby o_d2_20) rfl) ?_
 refine o_gi (XS.iconst X0.here hx rfl (hb hby o_d2_21)) ?_
 show o_Gs p e below _ s₁ m 22 #[o_A r0, o_A r1, o_I x2, .val (.int ((3 : Int32) * x2)), .val (.int ((4 : Int32) * x2)), o_u] [(.int 1), (.int ((3 : Int32) * x2)), (.ref r0), (.int (((q_B ((3 : Int32) * x2)) &&& (255 : Int32)) <<< ((16 : Int32) &&& 31)))]
 refine o_gi (XS.iadd X0.here hx rfl (hb hby o_d2_22) rfl) ?_
 show o_Gs p e below _ s₁ m 23 #[o_A r0, o_A r1, o_I x2, .val (.int ((3 : Int32) * x2)), .val (.int ((4 : Int32) * x2)), o_u] [(.int (((3 : Int32) * x2) + (1 : Int32))), (.ref r0), (.int (((q_B ((3 : Int32) * x2)) &&& (255 : Int32)) <<< ((16 : Int32) &&& 31)))]
 obtain ⟨cl14, Ar14, sa14, na14, ha14⟩ := id T_b
 have ix14 : ¬ (((3 : Int32) * x2) + (1 : Int32)) < 0 ∧ (((3 : Int32) * x2) + (1 : Int32)) < (48 : Int32) := (o_e3 hix (by decide))
 refine o_go (X0.baloadBytes hx (j := (((3 : Int32) * x2) + (1 : Int32))) (v := (.int (q_B (((3 : Int32) * x2) + (1 : Int32))))) (by rw [e0]; exact Ar14.1) (State.isArrayOf_alike hZ.alike Ar14.2.1) Ar14.2.2 (inb_of sa14 ix14) (ha14 _ ix14.1 ix14.2) (g := (mkF m 23 #[o_A r0, o_A r1, o_I x2, .val (.int ((3 : Int32) * x2)), .val (.int ((4 : Int32) * x2)), o_u] [(.int (((3 : Int32) * x2) + (1 : Int32))), (.ref r0), (.int (((q_B ((3 : Int32) * x2)) &&& (255 : Int32)) <<< ((16 : Int32) &&& 31)))])) rfl rfl (hb hby o_d2_23)) ?_
 refine o_gi (XS.sipush X0.here hx rfl (hb hby o_d2_24)) ?_
 show o_Gs p e below _ s₁ m 27 #[o_A r0, o_A r1, o_I x2, .val (.int ((3 : Int32) * x2)), .val (.int ((4 : Int32) * x2)), o_u] [(.int 255), (.int (q_B (((3 : Int32) * x2) + (1 : Int32)))), (.int (((q_B ((3 : Int32) * x2)) &&& (255 : Int32)) <<< ((16 : Int32) &&& 31)))]
 refine o_gi (XS.iand X0.here hx rfl (hb hby o_d2_27) rfl) ?_
 refine o_gi (XS.bipush X0.here hx rfl (hb hby o_d2_28)) ?_
 show o_Gs p e below _ s₁ m 30 #[o_A r0, o_A r1, o_I x2, .val (.int ((3 : Int32) * x2)), .val (.int ((4 : Int32) * x2)), o_u] [(.int 8), (.int ((q_B (((3 : Int32) * x2) + (1 : Int32))) &&& (255 : Int32))), (.int (((q_B ((3 : Int32) * x2)) &&& (255 : Int32)) <<< ((16 : Int32) &&& 31)))]
 refine o_gi (XS.ishl X0.here hx rfl (hb hby o_d2_30) rfl) ?_
 show o_Gs p e below _ s₁ m 31 #[o_A r0, o_A r1, o_I x2, .val (.int ((3 : Int32) * x2)), .val (.int ((4 : Int32) * x2)), o_u] [(.int (((q_B (((3 : Int32) * x2) + (1 : Int32))) &&& (255 : Int32)) <<< ((8 : Int32) &&& 31))), (.int (((q_B ((3 : Int32) * x2)) &&& (255 : Int32)) <<< ((16 : Int32) &&& 31)))]
 refine o_gi (XS.ior X0.here hx rfl (hb hby o_d2_31) rfl) ?_
 refine o_gi (XS.aloadN X0.here hx rfl (hb hby o_d2_32) rfl rfl) ?_
 refine o_gi (XS.iloadN X0.here hx rfl (hb hby o_d2_33) rfl) ?_
 refine o_gi (XS.iconst X0.here hx rfl (hb hby o_d2_34)) ?_
 show o_Gs p e below _ s₁ m 35 #[o_A r0, o_A r1, o_I x2, .val (.int ((3 : Int32) * x2)), .val (.int ((4 : Int32) * x2)), o_u] [(.int 2), (.int ((3 : Int32) * x2)), (.ref r0), (.int ((((q_B ((3 : Int32) * x2)) &&& (255 : Int32)) <<< ((16 : Int32) &&& 31)) ||| (((q_B (((3 : Int32) * x2) + (1 : Int32))) &&& (255 : Int32)) <<< ((8 : Int32) &&& 31))))]
 refine o_gi (XS.iadd X0.here hx rfl (hb hby o_d2_35) rfl) ?_
 show o_Gs p e below _ s₁ m 36 #[o_A r0, o_A r1, o_I x2, .val (.int ((3 : Int32) * x2)), .val (.int ((4 : Int32) * x2)), o_u] [(.int (((3 : Int32) * x2) + (2 : Int32))), (.ref r0), (.int ((((q_B ((3 : Int32) * x2)) &&& (255 : Int32)) <<< ((16 : Int32) &&& 31)) ||| (((q_B (((3 : Int32) * x2) + (1 : Int32))) &&& (255 : Int32)) <<< ((8 : Int32) &&& 31))))]
 obtain ⟨cl15, Ar15, sa15, na15, ha15⟩ := id T_b
 have ix15 : ¬ (((3 : Int32) * x2) + (2 : Int32)) < 0 ∧ (((3 : Int32) * x2) + (2 : Int32)) < (48 : Int32) := (o_e3 hix (by decide))
 refine o_go (X0.baloadBytes hx (j := (((3 : Int32) * x2) + (2 : Int32))) (v := (.int (q_B (((3 : Int32) * x2) + (2 : Int32))))) (by rw [e0]; exact Ar15.1) (State.isArrayOf_alike hZ.alike Ar15.2.1) Ar15.2.2 (inb_of sa15 ix15) (ha15 _ ix15.1 ix15.2) (g := (mkF m 36 #[o_A r0, o_A r1, o_I x2, .val (.int ((3 : Int32) * x2)), .val (.int ((4 : Int32) * x2)), o_u] [(.int (((3 : Int32) * x2) + (2 : Int32))), (.ref r0), (.int ((((q_B ((3 : Int32) * x2)) &&& (255 : Int32)) <<< ((16 : Int32) &&& 31)) ||| (((q_B (((3 : Int32) * x2) + (1 : Int32))) &&& (255 : Int32)) <<< ((8 : Int32) &&& 31))))])) rfl rfl (hb hby o_d2_36)) ?_
 refine o_gi (XS.sipush X0.here hx rfl (hb hby o_d2_37)) ?_
 show o_Gs p e below _ s₁ m 40 #[o_A r0, o_A r1, o_I x2, .val (.int ((3 : Int32) * x2)), .val (.int ((4 : Int32) * x2)), o_u] [(.int 255), (.int (q_B (((3 : Int32) * x2) + (2 : Int32)))), (.int ((((q_B ((3 : Int32) * x2)) &&& (255 : Int32)) <<< ((16 : Int32) &&& 31)) ||| (((q_B (((3 : Int32) * x2) + (1 : Int32))) &&& (255 : Int32)) <<< ((8 : Int32) &&& 31))))]
 refine o_gi (XS.iand X0.here hx rfl (hb hby o_d2_40) rfl) ?_
 show o_Gs p e below _ s₁ m 41 #[o_A r0, o_A r1, o_I x2, .val (.int ((3 : Int32) * x2)), .val (.int ((4 : Int32) * x2)), o_u] [(.int ((q_B (((3 : Int32) * x2) + (2 : Int32))) &&& (255 : Int32))), (.int ((((q_B ((3 : Int32) * x2)) &&& (255 : Int32)) <<< ((16 : Int32) &&& 31)) ||| (((q_B (((3 : Int32) * x2) + (1 : Int32))) &&& (255 : Int32)) <<< ((8 : Int32) &&& 31))))]
 refine o_gi (XS.ior X0.here hx rfl (hb hby o_d2_41) rfl) ?_
 refine o_gi (XS.istore X0.here hx rfl (hb hby o_d2_42) rfl (l' := #[o_A r0, o_A r1, o_I x2, .val (.int ((3 : Int32) * x2)), .val (.int ((4 : Int32) * x2)), .val (.int (o_v2_1 x2 q_B))]) rfl) ?_
 refine o_gi (XS.aloadN X0.here hx rfl (hb hby o_d2_44) rfl rfl) ?_
 refine o_gi (XS.iload X0.here hx rfl (hb hby o_d2_45) rfl) ?_
 refine o_gi (XS.iload X0.here hx rfl (hb hby o_d2_47) rfl) ?_
 refine o_gi (XS.bipush X0.here hx rfl (hb hby o_d2_49)) ?_
 show o_Gs p e below _ s₁ m 51 #[o_A r0, o_A r1, o_I x2, .val (.int ((3 : Int32) * x2)), .val (.int ((4 : Int32) * x2)), .val (.int (o_v2_1 x2 q_B))] [(.int 18), (.int (o_v2_1 x2 q_B)), (.int ((4 : Int32) * x2)), (.ref r1)]
 refine o_gi (XS.iushr X0.here hx rfl (hb hby o_d2_51) rfl) ?_
 show o_Gs p e below _ s₁ m 52 #[o_A r0, o_A r1, o_I x2, .val (.int ((3 : Int32) * x2)), .val (.int ((4 : Int32) * x2)), .val (.int (o_v2_1 x2 q_B))] [(.int (((o_v2_1 x2 q_B).toUInt32 >>> ((18 : Int32) &&& 31).toUInt32).toInt32)), (.int ((4 : Int32) * x2)), (.ref r1)]
 obtain ⟨_, T16, L16, X16, ⟨rfl, N16q, e16⟩, st16⟩ := o_callS X0 hx hZ hown (hw _ o_t10) (hw _ o_t11) (hw _ o_t4) (hw _ o_t12) (by decide) (as := [(.int (((o_v2_1 x2 q_B).toUInt32 >>> ((18 : Int32) &&& 31).toUInt32).toInt32))]) (rm3 l Z a0 hw [] (((o_v2_1 x2 q_B).toUInt32 >>> ((18 : Int32) &&& 31).toUInt32).toInt32) h0 n0) e0 o_pd0 rfl (pc := 52) (Ls := #[o_A r0, o_A r1, o_I x2, .val (.int ((3 : Int32) * x2)), .val (.int ((4 : Int32) * x2)), .val (.int (o_v2_1 x2 q_B))]) (rest := [(.int ((4 : Int32) * x2)), (.ref r1)]) (W := 2) (by rw [hml]; rfl) (Nat.le_of_eq rfl) (by decide) (by decide) (hb hby o_d2_52) (by decide) (by decide)
 have N16 := Fr.app N0 N16q
 refine o_go st16 ?_
 show o_Gs p e below _ T16 m 55 #[o_A r0, o_A r1, o_I x2, .val (.int ((3 : Int32) * x2)), .val (.int ((4 : Int32) * x2)), .val (.int (o_v2_1 x2 q_B))] [(.int (o_f3 (((o_v2_1 x2 q_B).toUInt32 >>> ((18 : Int32) &&& 31).toUInt32).toInt32))), (.int ((4 : Int32) * x2)), (.ref r1)]
 obtain ⟨cl17, Ar17, sa17, na17, ha17⟩ := id T_c
 obtain ⟨T17, h17, X17, e17, W17, st17⟩ := stC X16 hx hZ e16 Ar17 (j := ((4 : Int32) * x2)) (inb_of sa17 (o_e40 hix)) (g := (mkF m 55 #[o_A r0, o_A r1, o_I x2, .val (.int ((3 : Int32) * x2)), .val (.int ((4 : Int32) * x2)), .val (.int (o_v2_1 x2 q_B))] [(.int (o_f3 (((o_v2_1 x2 q_B).toUInt32 >>> ((18 : Int32) &&& 31).toUInt32).toInt32))), (.int ((4 : Int32) * x2)), (.ref r1)])) rfl rfl (hb hby o_d2_55)
 have V17 : o_Tb Z h17 r1 .char q_m (o_G2_1 x2 q_B q_G) := o_Tb.set Ar17 sa17 na17 ha17 W17 (o_e40 hix)
 have N17 := Fr.snoc X17 N16 g_r1
 refine o_go st17 ?_
 refine o_gi (XS.aloadN X17.here hx rfl (hb hby o_d2_56) rfl rfl) ?_
 refine o_gi (XS.iload X17.here hx rfl (hb hby o_d2_57) rfl) ?_
 refine o_gi (XS.iconst X17.here hx rfl (hb hby o_d2_59)) ?_
 show o_Gs p e below _ T17 m 60 #[o_A r0, o_A r1, o_I x2, .val (.int ((3 : Int32) * x2)), .val (.int ((4 : Int32) * x2)), .val (.int (o_v2_1 x2 q_B))] [(.int 1), (.int ((4 : Int32) * x2)), (.ref r1)]
 refine o_gi (XS.iadd X17.here hx rfl (hb hby o_d2_60) rfl) ?_
 refine o_gi (XS.iload X17.here hx rfl (hb hby o_d2_61) rfl) ?_
 refine o_gi (XS.bipush X17.here hx rfl (hb hby o_d2_63)) ?_
 show o_Gs p e below _ T17 m 65 #[o_A r0, o_A r1, o_I x2, .val (.int ((3 : Int32) * x2)), .val (.int ((4 : Int32) * x2)), .val (.int (o_v2_1 x2 q_B))] [(.int 12), (.int (o_v2_1 x2 q_B)), (.int (((4 : Int32) * x2) + (1 : Int32))), (.ref r1)]
 refine o_gi (XS.iushr X17.here hx rfl (hb hby o_d2_65) rfl) ?_
 refine o_gi (XS.bipush X17.here hx rfl (hb hby o_d2_66)) ?_
 show o_Gs p e below _ T17 m 68 #[o_A r0, o_A r1, o_I x2, .val (.int ((3 : Int32) * x2)), .val (.int ((4 : Int32) * x2)), .val (.int (o_v2_1 x2 q_B))] [(.int 63), (.int (((o_v2_1 x2 q_B).toUInt32 >>> ((12 : Int32) &&& 31).toUInt32).toInt32)), (.int (((4 : Int32) * x2) + (1 : Int32))), (.ref r1)]
 refine o_gi (XS.iand X17.here hx rfl (hb hby o_d2_68) rfl) ?_
 show o_Gs p e below _ T17 m 69 #[o_A r0, o_A r1, o_I x2, .val (.int ((3 : Int32) * x2)), .val (.int ((4 : Int32) * x2)), .val (.int (o_v2_1 x2 q_B))] [(.int ((((o_v2_1 x2 q_B).toUInt32 >>> ((12 : Int32) &&& 31).toUInt32).toInt32) &&& (63 : Int32))), (.int (((4 : Int32) * x2) + (1 : Int32))), (.ref r1)]
 obtain ⟨_, T18, L18, X18, ⟨rfl, N18q, e18⟩, st18⟩ := o_callS X17 hx hZ hown (hw _ o_t10) (hw _ o_t11) (hw _ o_t4) (hw _ o_t12) (by decide) (as := [(.int ((((o_v2_1 x2 q_B).toUInt32 >>> ((12 : Int32) &&& 31).toUInt32).toInt32) &&& (63 : Int32)))]) (rm3 l Z a0 hw [] ((((o_v2_1 x2 q_B).toUInt32 >>> ((12 : Int32) &&& 31).toUInt32).toInt32) &&& (63 : Int32)) h17 n0) e17 o_pd0 rfl (pc := 69) (Ls := #[o_A r0, o_A r1, o_I x2, .val (.int ((3 : Int32) * x2)), .val (.int ((4 : Int32) * x2)), .val (.int (o_v2_1 x2 q_B))]) (rest := [(.int (((4 : Int32) * x2) + (1 : Int32))), (.ref r1)]) (W := 2) (by rw [hml]; rfl) (Nat.le_of_eq rfl) (by decide) (by decide) (hb hby o_d2_69) (by decide) (by decide)
 have N18 := Fr.app N17 N18q
 refine o_go st18 ?_
 show o_Gs p e below _ T18 m 72 #[o_A r0, o_A r1, o_I x2, .val (.int ((3 : Int32) * x2)), .val (.int ((4 : Int32) * x2)), .val (.int (o_v2_1 x2 q_B))] [(.int (o_f3 ((((o_v2_1 x2 q_B).toUInt32 >>> ((12 : Int32) &&& 31).toUInt32).toInt32) &&& (63 : Int32)))), (.int (((4 : Int32) * x2) + (1 : Int32))), (.ref r1)]
 obtain ⟨cl19, Ar19, sa19, na19, ha19⟩ := id V17
 obtain ⟨T19, h19, X19, e19, W19, st19⟩ := stC X18 hx hZ e18 Ar19 (j := (((4 : Int32) * x2) + (1 : Int32))) (inb_of sa19 (o_e4 hix (by decide))) (g := (mkF m 72 #[o_A r0, o_A r1, o_I x2, .val (.int ((3 : Int32) * x2)), .val (.int ((4 : Int32) * x2)), .val (.int (o_v2_1 x2 q_B))] [(.int (o_f3 ((((o_v2_1 x2 q_B).toUInt32 >>> ((12 : Int32) &&& 31).toUInt32).toInt32) &&& (63 : Int32)))), (.int (((4 : Int32) * x2) + (1 : Int32))), (.ref r1)])) rfl rfl (hb hby o_d2_72)
 have V19 : o_Tb Z h19 r1 .char q_m (o_G2_2 x2 q_B q_G) := o_Tb.set Ar19 sa19 na19 ha19 W19 (o_e4 hix (by decide))
 have N19 := Fr.snoc X19 N18 g_r1
 refine o_go st19 ?_
 refine o_gi (XS.aloadN X19.here hx rfl (hb hby o_d2_73) rfl rfl) ?_
 refine o_gi (XS.iload X19.here hx rfl (hb hby o_d2_74) rfl) ?_
 refine o_gi (XS.iconst X19.here hx rfl (hb hby o_d2_76)) ?_
 show o_Gs p e below _ T19 m 77 #[o_A r0, o_A r1, o_I x2, .val (.int ((3 : Int32) * x2)), .val (.int ((4 : Int32) * x2)), .val (.int (o_v2_1 x2 q_B))] [(.int 2), (.int ((4 : Int32) * x2)), (.ref r1)]
 refine o_gi (XS.iadd X19.here hx rfl (hb hby o_d2_77) rfl) ?_
 refine o_gi (XS.iload X19.here hx rfl (hb hby o_d2_78) rfl) ?_
 refine o_gi (XS.bipush X19.here hx rfl (hb hby o_d2_80)) ?_
 show o_Gs p e below _ T19 m 82 #[o_A r0, o_A r1, o_I x2, .val (.int ((3 : Int32) * x2)), .val (.int ((4 : Int32) * x2)), .val (.int (o_v2_1 x2 q_B))] [(.int 6), (.int (o_v2_1 x2 q_B)), (.int (((4 : Int32) * x2) + (2 : Int32))), (.ref r1)]
 refine o_gi (XS.iushr X19.here hx rfl (hb hby o_d2_82) rfl) ?_
 refine o_gi (XS.bipush X19.here hx rfl (hb hby o_d2_83)) ?_
 show o_Gs p e below _ T19 m 85 #[o_A r0, o_A r1, o_I x2, .val (.int ((3 : Int32) * x2)), .val (.int ((4 : Int32) * x2)), .val (.int (o_v2_1 x2 q_B))] [(.int 63), (.int (((o_v2_1 x2 q_B).toUInt32 >>> ((6 : Int32) &&& 31).toUInt32).toInt32)), (.int (((4 : Int32) * x2) + (2 : Int32))), (.ref r1)]
 refine o_gi (XS.iand X19.here hx rfl (hb hby o_d2_85) rfl) ?_
 show o_Gs p e below _ T19 m 86 #[o_A r0, o_A r1, o_I x2, .val (.int ((3 : Int32) * x2)), .val (.int ((4 : Int32) * x2)), .val (.int (o_v2_1 x2 q_B))] [(.int ((((o_v2_1 x2 q_B).toUInt32 >>> ((6 : Int32) &&& 31).toUInt32).toInt32) &&& (63 : Int32))), (.int (((4 : Int32) * x2) + (2 : Int32))), (.ref r1)]
 obtain ⟨_, T20, L20, X20, ⟨rfl, N20q, e20⟩, st20⟩ := o_callS X19 hx hZ hown (hw _ o_t10) (hw _ o_t11) (hw _ o_t4) (hw _ o_t12) (by decide) (as := [(.int ((((o_v2_1 x2 q_B).toUInt32 >>> ((6 : Int32) &&& 31).toUInt32).toInt32) &&& (63 : Int32)))]) (rm3 l Z a0 hw [] ((((o_v2_1 x2 q_B).toUInt32 >>> ((6 : Int32) &&& 31).toUInt32).toInt32) &&& (63 : Int32)) h19 n0) e19 o_pd0 rfl (pc := 86) (Ls := #[o_A r0, o_A r1, o_I x2, .val (.int ((3 : Int32) * x2)), .val (.int ((4 : Int32) * x2)), .val (.int (o_v2_1 x2 q_B))]) (rest := [(.int (((4 : Int32) * x2) + (2 : Int32))), (.ref r1)]) (W := 2) (by rw [hml]; rfl) (Nat.le_of_eq rfl) (by decide) (by decide) (hb hby o_d2_86) (by decide) (by decide)
 have N20 := Fr.app N19 N20q
 refine o_go st20 ?_
 show o_Gs p e below _ T20 m 89 #[o_A r0, o_A r1, o_I x2, .val (.int ((3 : Int32) * x2)), .val (.int ((4 : Int32) * x2)), .val (.int (o_v2_1 x2 q_B))] [(.int (o_f3 ((((o_v2_1 x2 q_B).toUInt32 >>> ((6 : Int32) &&& 31).toUInt32).toInt32) &&& (63 : Int32)))), (.int (((4 : Int32) * x2) + (2 : Int32))), (.ref r1)]
 obtain ⟨cl21, Ar21, sa21, na21, ha21⟩ := id V19
 obtain ⟨T21, h21, X21, e21, W21, st21⟩ := stC X20 hx hZ e20 Ar21 (j := (((4 : Int32) * x2) + (2 : Int32))) (inb_of sa21 (o_e4 hix (by decide))) (g := (mkF m 89 #[o_A r0, o_A r1, o_I x2, .val (.int ((3 : Int32) * x2)), .val (.int ((4 : Int32) * x2)), .val (.int (o_v2_1 x2 q_B))] [(.int (o_f3 ((((o_v2_1 x2 q_B).toUInt32 >>> ((6 : Int32) &&& 31).toUInt32).toInt32) &&& (63 : Int32)))), (.int (((4 : Int32) * x2) + (2 : Int32))), (.ref r1)])) rfl rfl (hb hby o_d2_89)
 have V21 : o_Tb Z h21 r1 .char q_m (o_G2_3 x2 q_B q_G) := o_Tb.set Ar21 sa21 na21 ha21 W21 (o_e4 hix (by decide))
 have N21 := Fr.snoc X21 N20 g_r1
 refine o_go st21 ?_
 refine o_gi (XS.aloadN X21.here hx rfl (hb hby o_d2_90) rfl rfl) ?_
 refine o_gi (XS.iload X21.here hx rfl (hb hby o_d2_91) rfl) ?_
 refine o_gi (XS.iconst X21.here hx rfl (hb hby o_d2_93)) ?_
 show o_Gs p e below _ T21 m 94 #[o_A r0, o_A r1, o_I x2, .val (.int ((3 : Int32) * x2)), .val (.int ((4 : Int32) * x2)), .val (.int (o_v2_1 x2 q_B))] [(.int 3), (.int ((4 : Int32) * x2)), (.ref r1)]
 refine o_gi (XS.iadd X21.here hx rfl (hb hby o_d2_94) rfl) ?_
 refine o_gi (XS.iload X21.here hx rfl (hb hby o_d2_95) rfl) ?_
 refine o_gi (XS.bipush X21.here hx rfl (hb hby o_d2_97)) ?_
 show o_Gs p e below _ T21 m 99 #[o_A r0, o_A r1, o_I x2, .val (.int ((3 : Int32) * x2)), .val (.int ((4 : Int32) * x2)), .val (.int (o_v2_1 x2 q_B))] [(.int 63), (.int (o_v2_1 x2 q_B)), (.int (((4 : Int32) * x2) + (3 : Int32))), (.ref r1)]
 refine o_gi (XS.iand X21.here hx rfl (hb hby o_d2_99) rfl) ?_
 show o_Gs p e below _ T21 m 100 #[o_A r0, o_A r1, o_I x2, .val (.int ((3 : Int32) * x2)), .val (.int ((4 : Int32) * x2)), .val (.int (o_v2_1 x2 q_B))] [(.int ((o_v2_1 x2 q_B) &&& (63 : Int32))), (.int (((4 : Int32) * x2) + (3 : Int32))), (.ref r1)]
 obtain ⟨_, T22, L22, X22, ⟨rfl, N22q, e22⟩, st22⟩ := o_callS X21 hx hZ hown (hw _ o_t10) (hw _ o_t11) (hw _ o_t4) (hw _ o_t12) (by decide) (as := [(.int ((o_v2_1 x2 q_B) &&& (63 : Int32)))]) (rm3 l Z a0 hw [] ((o_v2_1 x2 q_B) &&& (63 : Int32)) h21 n0) e21 o_pd0 rfl (pc := 100) (Ls := #[o_A r0, o_A r1, o_I x2, .val (.int ((3 : Int32) * x2)), .val (.int ((4 : Int32) * x2)), .val (.int (o_v2_1 x2 q_B))]) (rest := [(.int (((4 : Int32) * x2) + (3 : Int32))), (.ref r1)]) (W := 2) (by rw [hml]; rfl) (Nat.le_of_eq rfl) (by decide) (by decide) (hb hby o_d2_100) (by decide) (by decide)
 have N22 := Fr.app N21 N22q
 refine o_go st22 ?_
 show o_Gs p e below _ T22 m 103 #[o_A r0, o_A r1, o_I x2, .val (.int ((3 : Int32) * x2)), .val (.int ((4 : Int32) * x2)), .val (.int (o_v2_1 x2 q_B))] [(.int (o_f3 ((o_v2_1 x2 q_B) &&& (63 : Int32)))), (.int (((4 : Int32) * x2) + (3 : Int32))), (.ref r1)]
 obtain ⟨cl23, Ar23, sa23, na23, ha23⟩ := id V21
 obtain ⟨T23, h23, X23, e23, W23, st23⟩ := stC X22 hx hZ e22 Ar23 (j := (((4 : Int32) * x2) + (3 : Int32))) (inb_of sa23 (o_e4 hix (by decide))) (g := (mkF m 103 #[o_A r0, o_A r1, o_I x2, .val (.int ((3 : Int32) * x2)), .val (.int ((4 : Int32) * x2)), .val (.int (o_v2_1 x2 q_B))] [(.int (o_f3 ((o_v2_1 x2 q_B) &&& (63 : Int32)))), (.int (((4 : Int32) * x2) + (3 : Int32))), (.ref r1)])) rfl rfl (hb hby o_d2_103)
 have V23 : o_Tb Z h23 r1 .char q_m (o_G2_4 x2 q_B q_G) := o_Tb.set Ar23 sa23 na23 ha23 W23 (o_e4 hix (by decide))
 have N23 := Fr.snoc X23 N22 g_r1
 refine o_go st23 ?_
 show o_Gs p e below _ T23 m 104 #[o_A r0, o_A r1, o_I x2, .val (.int ((3 : Int32) * x2)), .val (.int ((4 : Int32) * x2)), .val (.int (o_v2_1 x2 q_B))] []
 exact o_ret0 X23 hx hlk hret (hb hby o_d2_104) (by decide) (by decide) (by show o_Q2 Z r0 r1 x2 q_m q_B q_G h0 n0 _ T23.heap _; rw [e23]; exact ⟨rfl, N23, (((((Keep.refl h0 ([r1] : List Addr)).wr W17 (Or.inl (List.mem_of_getElem? (i := 0) rfl))).wr W19 (Or.inl (List.mem_of_getElem? (i := 0) rfl))).wr W21 (Or.inl (List.mem_of_getElem? (i := 0) rfl))).wr W23 (Or.inl (List.mem_of_getElem? (i := 0) rfl))), V23⟩)
theorem o_d22_0 : decode method_6_code 0 = .ok (.aload_n 0, 1) := by decide +kernel
theorem o_d22_1 : decode method_6_code 1 = .ok (.iload_n 1, 1) := by decide +kernel
theorem o_d22_2 : decode method_6_code 2 = .ok (.baload, 1) := by decide +kernel
theorem o_d22_3 : decode method_6_code 3 = .ok (.sipush 255, 3) := by decide +kernel
theorem o_d22_6 : decode method_6_code 6 = .ok (.iand, 1) := by decide +kernel
theorem o_d22_7 : decode method_6_code 7 = .ok (.i2l, 1) := by decide +kernel
theorem o_d22_8 : decode method_6_code 8 = .ok (.bipush 56, 2) := by decide +kernel
theorem o_d22_10 : decode method_6_code 10 = .ok (.lshl, 1) := by decide +kernel
theorem o_d22_11 : decode method_6_code 11 = .ok (.aload_n 0, 1) := by decide +kernel
theorem o_d22_12 : decode method_6_code 12 = .ok (.iload_n 1, 1) := by decide +kernel
theorem o_d22_13 : decode method_6_code 13 = .ok (.iconst 1, 1) := by decide +kernel
theorem o_d22_14 : decode method_6_code 14 = .ok (.iadd, 1) := by decide +kernel
theorem o_d22_15 : decode method_6_code 15 = .ok (.baload, 1) := by decide +kernel
theorem o_d22_16 : decode method_6_code 16 = .ok (.sipush 255, 3) := by decide +kernel
theorem o_d22_19 : decode method_6_code 19 = .ok (.iand, 1) := by decide +kernel
theorem o_d22_20 : decode method_6_code 20 = .ok (.i2l, 1) := by decide +kernel
theorem o_d22_21 : decode method_6_code 21 = .ok (.bipush 48, 2) := by decide +kernel
theorem o_d22_23 : decode method_6_code 23 = .ok (.lshl, 1) := by decide +kernel
theorem o_d22_24 : decode method_6_code 24 = .ok (.lor, 1) := by decide +kernel
theorem o_d22_25 : decode method_6_code 25 = .ok (.aload_n 0, 1) := by decide +kernel
theorem o_d22_26 : decode method_6_code 26 = .ok (.iload_n 1, 1) := by decide +kernel
theorem o_d22_27 : decode method_6_code 27 = .ok (.iconst 2, 1) := by decide +kernel
theorem o_d22_28 : decode method_6_code 28 = .ok (.iadd, 1) := by decide +kernel
theorem o_d22_29 : decode method_6_code 29 = .ok (.baload, 1) := by decide +kernel
theorem o_d22_30 : decode method_6_code 30 = .ok (.sipush 255, 3) := by decide +kernel
theorem o_d22_33 : decode method_6_code 33 = .ok (.iand, 1) := by decide +kernel
theorem o_d22_34 : decode method_6_code 34 = .ok (.i2l, 1) := by decide +kernel
theorem o_d22_35 : decode method_6_code 35 = .ok (.bipush 40, 2) := by decide +kernel
theorem o_d22_37 : decode method_6_code 37 = .ok (.lshl, 1) := by decide +kernel
theorem o_d22_38 : decode method_6_code 38 = .ok (.lor, 1) := by decide +kernel
theorem o_d22_39 : decode method_6_code 39 = .ok (.aload_n 0, 1) := by decide +kernel
theorem o_d22_40 : decode method_6_code 40 = .ok (.iload_n 1, 1) := by decide +kernel
theorem o_d22_41 : decode method_6_code 41 = .ok (.iconst 3, 1) := by decide +kernel
theorem o_d22_42 : decode method_6_code 42 = .ok (.iadd, 1) := by decide +kernel
theorem o_d22_43 : decode method_6_code 43 = .ok (.baload, 1) := by decide +kernel
theorem o_d22_44 : decode method_6_code 44 = .ok (.sipush 255, 3) := by decide +kernel
theorem o_d22_47 : decode method_6_code 47 = .ok (.iand, 1) := by decide +kernel
theorem o_d22_48 : decode method_6_code 48 = .ok (.i2l, 1) := by decide +kernel
theorem o_d22_49 : decode method_6_code 49 = .ok (.bipush 32, 2) := by decide +kernel
theorem o_d22_51 : decode method_6_code 51 = .ok (.lshl, 1) := by decide +kernel
theorem o_d22_52 : decode method_6_code 52 = .ok (.lor, 1) := by decide +kernel
theorem o_d22_53 : decode method_6_code 53 = .ok (.aload_n 0, 1) := by decide +kernel
theorem o_d22_54 : decode method_6_code 54 = .ok (.iload_n 1, 1) := by decide +kernel
theorem o_d22_55 : decode method_6_code 55 = .ok (.iconst 4, 1) := by decide +kernel
theorem o_d22_56 : decode method_6_code 56 = .ok (.iadd, 1) := by decide +kernel
theorem o_d22_57 : decode method_6_code 57 = .ok (.baload, 1) := by decide +kernel
theorem o_d22_58 : decode method_6_code 58 = .ok (.sipush 255, 3) := by decide +kernel
theorem o_d22_61 : decode method_6_code 61 = .ok (.iand, 1) := by decide +kernel
theorem o_d22_62 : decode method_6_code 62 = .ok (.i2l, 1) := by decide +kernel
theorem o_d22_63 : decode method_6_code 63 = .ok (.bipush 24, 2) := by decide +kernel
theorem o_d22_65 : decode method_6_code 65 = .ok (.lshl, 1) := by decide +kernel
theorem o_d22_66 : decode method_6_code 66 = .ok (.lor, 1) := by decide +kernel
theorem o_d22_67 : decode method_6_code 67 = .ok (.aload_n 0, 1) := by decide +kernel
theorem o_d22_68 : decode method_6_code 68 = .ok (.iload_n 1, 1) := by decide +kernel
theorem o_d22_69 : decode method_6_code 69 = .ok (.iconst 5, 1) := by decide +kernel
theorem o_d22_70 : decode method_6_code 70 = .ok (.iadd, 1) := by decide +kernel
theorem o_d22_71 : decode method_6_code 71 = .ok (.baload, 1) := by decide +kernel
theorem o_d22_72 : decode method_6_code 72 = .ok (.sipush 255, 3) := by decide +kernel
theorem o_d22_75 : decode method_6_code 75 = .ok (.iand, 1) := by decide +kernel
theorem o_d22_76 : decode method_6_code 76 = .ok (.i2l, 1) := by decide +kernel
theorem o_d22_77 : decode method_6_code 77 = .ok (.bipush 16, 2) := by decide +kernel
theorem o_d22_79 : decode method_6_code 79 = .ok (.lshl, 1) := by decide +kernel
theorem o_d22_80 : decode method_6_code 80 = .ok (.lor, 1) := by decide +kernel
theorem o_d22_81 : decode method_6_code 81 = .ok (.aload_n 0, 1) := by decide +kernel
theorem o_d22_82 : decode method_6_code 82 = .ok (.iload_n 1, 1) := by decide +kernel
theorem o_d22_83 : decode method_6_code 83 = .ok (.bipush 6, 2) := by decide +kernel
theorem o_d22_85 : decode method_6_code 85 = .ok (.iadd, 1) := by decide +kernel
theorem o_d22_86 : decode method_6_code 86 = .ok (.baload, 1) := by decide +kernel
theorem o_d22_87 : decode method_6_code 87 = .ok (.sipush 255, 3) := by decide +kernel
theorem o_d22_90 : decode method_6_code 90 = .ok (.iand, 1) := by decide +kernel
theorem o_d22_91 : decode method_6_code 91 = .ok (.i2l, 1) := by decide +kernel
theorem o_d22_92 : decode method_6_code 92 = .ok (.bipush 8, 2) := by decide +kernel
theorem o_d22_94 : decode method_6_code 94 = .ok (.lshl, 1) := by decide +kernel
theorem o_d22_95 : decode method_6_code 95 = .ok (.lor, 1) := by decide +kernel
theorem o_d22_96 : decode method_6_code 96 = .ok (.aload_n 0, 1) := by decide +kernel
theorem o_d22_97 : decode method_6_code 97 = .ok (.iload_n 1, 1) := by decide +kernel
theorem o_d22_98 : decode method_6_code 98 = .ok (.bipush 7, 2) := by decide +kernel
theorem o_d22_100 : decode method_6_code 100 = .ok (.iadd, 1) := by decide +kernel
theorem o_d22_101 : decode method_6_code 101 = .ok (.baload, 1) := by decide +kernel
theorem o_d22_102 : decode method_6_code 102 = .ok (.sipush 255, 3) := by decide +kernel
theorem o_d22_105 : decode method_6_code 105 = .ok (.iand, 1) := by decide +kernel
theorem o_d22_106 : decode method_6_code 106 = .ok (.i2l, 1) := by decide +kernel
theorem o_d22_107 : decode method_6_code 107 = .ok (.lor, 1) := by decide +kernel
theorem o_d22_108 : decode method_6_code 108 = .ok (.lreturn, 1) := by decide +kernel
def o_f22 (x1 : Int32) (q_F : Int32 → Int32) : Int64 := (((((((((((q_F x1) &&& (255 : Int32)).toInt64) <<< ((56 : Int32) &&& 0x3f).toInt64) ||| ((((q_F (x1 + (1 : Int32))) &&& (255 : Int32)).toInt64) <<< ((48 : Int32) &&& 0x3f).toInt64)) ||| ((((q_F (x1 + (2 : Int32))) &&& (255 : Int32)).toInt64) <<< ((40 : Int32) &&& 0x3f).toInt64)) ||| ((((q_F (x1 + (3 : Int32))) &&& (255 : Int32)).toInt64) <<< ((32 : Int32) &&& 0x3f).toInt64)) ||| ((((q_F (x1 + (4 : Int32))) &&& (255 : Int32)).toInt64) <<< ((24 : Int32) &&& 0x3f).toInt64)) ||| ((((q_F (x1 + (5 : Int32))) &&& (255 : Int32)).toInt64) <<< ((16 : Int32) &&& 0x3f).toInt64)) ||| ((((q_F (x1 + (6 : Int32))) &&& (255 : Int32)).toInt64) <<< ((8 : Int32) &&& 0x3f).toInt64)) ||| (((q_F (x1 + (7 : Int32))) &&& (255 : Int32)).toInt64))
def o_Q22 (r0 : Addr) (x1 : Int32) (q_n : Int32) (q_F : Int32 → Int32) (h0 : Heap) (n0 : Nat) (v : Option Value) (h : Heap) (L : List Loc) : Prop := v = some (.long (o_f22 x1 q_F)) ∧ Fr n0 L ∧ h = h0
abbrev o_R22 : Room := { frames := 0, cells := 0, slots := 0, locals := 0 }
theorem o_ef22 (m : MethodId) (z0 : Addr) (z1 : Int32) : entryFrame m #[(.ref z0), (.int z1)] 2 = mkF m 0 #[o_A z0, o_I z1] [] := by first | (simp [entryFrame, mkF, argsToLocals, Value.category]; done) | rfl
set_option maxRecDepth 65536 in
set_option maxHeartbeats 40000000 in
theorem rm22 (l : Launch) (Z : State) (a0 : Array Value) (hw : ∀ d ∈ tables_1, d.before a0 Z = true) (ws : List Jvm.Cond) (r0 : Addr) (x1 : Int32) (q_n : Int32) (q_F : Int32 → Int32) (h0 : Heap) (n0 : Nat) (T_a : o_Tb Z h0 r0 .byte q_n q_F) (hix : 0 ≤ x1.toInt ∧ x1.toInt + 8 ≤ q_n.toInt) : o_Met l Z (⟨"com/example/quittance/quittance/dialect/AesCbcBlocksPinLaw", "get", "([BI)J"⟩ : MethodName) method_6_code 2 (some .long) ws o_R22 #[(.ref r0), (.int x1)] h0 (o_Q22 r0 x1 q_n q_F h0 n0) := by
 refine o_met (plainFor_of_name o_pn0) ?_
 intro p e s m below meth c s₁ hx hby hml hown hnm hret hlk hZ e0 X0
 have N0 := Fr.nil n0
 have hml : c.maxLocals = 2 := hml
 have hown : s.vm.findClass "com/example/quittance/quittance/dialect/AesCbcBlocksPinLaw" = some m.cls := hown
 have hret : meth.sig.returnType = (some .long) := hret
 have hby : c.code = method_6_code := hby
 have hnm : meth.name = "get" := hnm
 rw [o_ef22]
 refine o_gi (XS.aloadN X0.here hx rfl (hb hby o_d22_0) rfl rfl) ?_
 refine o_gi (XS.iloadN X0.here hx rfl (hb hby o_d22_1) rfl) ?_
 show o_Gs p e below _ s₁ m 2 #[o_A r0, o_I x1] [(.int x1), (.ref r0)]
 obtain ⟨cl24, Ar24, sa24, na24, ha24⟩ := id T_a
 have ix24 : ¬ x1 < 0 ∧ x1 < q_n := (o_p0 hix)
 refine o_go (X0.baloadBytes hx (j := x1) (v := (.int (q_F x1))) (by rw [e0]; exact Ar24.1) (State.isArrayOf_alike hZ.alike Ar24.2.1) Ar24.2.2 (inb_of sa24 ix24) (ha24 _ ix24.1 ix24.2) (g := (mkF m 2 #[o_A r0, o_I x1] [(.int x1), (.ref r0)])) rfl rfl (hb hby o_d22_2)) ?_
 refine o_gi (XS.sipush X0.here hx rfl (hb hby o_d22_3)) ?_
 show o_Gs p e below _ s₁ m 6 #[o_A r0, o_I x1] [(.int 255), (.int (q_F x1))]
 refine o_gi (XS.iand X0.here hx rfl (hb hby o_d22_6) rfl) ?_
 show o_Gs p e below _ s₁ m 7 #[o_A r0, o_I x1] [(.int ((q_F x1) &&& (255 : Int32)))]
 refine o_gi (XS.i2l X0.here hx rfl (hb hby o_d22_7) rfl) ?_
 refine o_gi (XS.bipush X0.here hx rfl (hb hby o_d22_8)) ?_
 show o_Gs p e below _ s₁ m 10 #[o_A r0, o_I x1] [(.int 56), (.long (((q_F x1) &&& (255 : Int32)).toInt64))]
 refine o_gi (XS.lshl X0.here hx rfl (hb hby o_d22_10) rfl) ?_
 refine o_gi (XS.aloadN X0.here hx rfl (hb hby o_d22_11) rfl rfl) ?_
 refine o_gi (XS.iloadN X0.here hx rfl (hb hby o_d22_12) rfl) ?_
 refine o_gi (XS.iconst X0.here hx rfl (hb hby o_d22_13)) ?_
 show o_Gs p e below _ s₁ m 14 #[o_A r0, o_I x1] [(.int 1), (.int x1), (.ref r0), (.long ((((q_F x1) &&& (255 : Int32)).toInt64) <<< ((56 : Int32) &&& 0x3f).toInt64))]
 refine o_gi (XS.iadd X0.here hx rfl (hb hby o_d22_14) rfl) ?_
 show o_Gs p e below _ s₁ m 15 #[o_A r0, o_I x1] [(.int (x1 + (1 : Int32))), (.ref r0), (.long ((((q_F x1) &&& (255 : Int32)).toInt64) <<< ((56 : Int32) &&& 0x3f).toInt64))]
 obtain ⟨cl25, Ar25, sa25, na25, ha25⟩ := id T_a
 have ix25 : ¬ (x1 + (1 : Int32)) < 0 ∧ (x1 + (1 : Int32)) < q_n := (o_pk hix (by decide))
 refine o_go (X0.baloadBytes hx (j := (x1 + (1 : Int32))) (v := (.int (q_F (x1 + (1 : Int32))))) (by rw [e0]; exact Ar25.1) (State.isArrayOf_alike hZ.alike Ar25.2.1) Ar25.2.2 (inb_of sa25 ix25) (ha25 _ ix25.1 ix25.2) (g := (mkF m 15 #[o_A r0, o_I x1] [(.int (x1 + (1 : Int32))), (.ref r0), (.long ((((q_F x1) &&& (255 : Int32)).toInt64) <<< ((56 : Int32) &&& 0x3f).toInt64))])) rfl rfl (hb hby o_d22_15)) ?_
 refine o_gi (XS.sipush X0.here hx rfl (hb hby o_d22_16)) ?_
 show o_Gs p e below _ s₁ m 19 #[o_A r0, o_I x1] [(.int 255), (.int (q_F (x1 + (1 : Int32)))), (.long ((((q_F x1) &&& (255 : Int32)).toInt64) <<< ((56 : Int32) &&& 0x3f).toInt64))]
 refine o_gi (XS.iand X0.here hx rfl (hb hby o_d22_19) rfl) ?_
 show o_Gs p e below _ s₁ m 20 #[o_A r0, o_I x1] [(.int ((q_F (x1 + (1 : Int32))) &&& (255 : Int32))), (.long ((((q_F x1) &&& (255 : Int32)).toInt64) <<< ((56 : Int32) &&& 0x3f).toInt64))]
 refine o_gi (XS.i2l X0.here hx rfl (hb hby o_d22_20) rfl) ?_
 refine o_gi (XS.bipush X0.here hx rfl (hb hby o_d22_21)) ?_
 show o_Gs p e below _ s₁ m 23 #[o_A r0, o_I x1] [(.int 48), (.long (((q_F (x1 + (1 : Int32))) &&& (255 : Int32)).toInt64)), (.long ((((q_F x1) &&& (255 : Int32)).toInt64) <<< ((56 : Int32) &&& 0x3f).toInt64))]
 refine o_gi (XS.lshl X0.here hx rfl (hb hby o_d22_23) rfl) ?_
 show o_Gs p e below _ s₁ m 24 #[o_A r0, o_I x1] [(.long ((((q_F (x1 + (1 : Int32))) &&& (255 : Int32)).toInt64) <<< ((48 : Int32) &&& 0x3f).toInt64)), (.long ((((q_F x1) &&& (255 : Int32)).toInt64) <<< ((56 : Int32) &&& 0x3f).toInt64))]
 refine o_gi (XS.lor X0.here hx rfl (hb hby o_d22_24) rfl) ?_
 refine o_gi (XS.aloadN X0.here hx rfl (hb hby o_d22_25) rfl rfl) ?_
 refine o_gi (XS.iloadN X0.here hx rfl (hb hby o_d22_26) rfl) ?_
 refine o_gi (XS.iconst X0.here hx rfl (hb hby o_d22_27)) ?_
 show o_Gs p e below _ s₁ m 28 #[o_A r0, o_I x1] [(.int 2), (.int x1), (.ref r0), (.long (((((q_F x1) &&& (255 : Int32)).toInt64) <<< ((56 : Int32) &&& 0x3f).toInt64) ||| ((((q_F (x1 + (1 : Int32))) &&& (255 : Int32)).toInt64) <<< ((48 : Int32) &&& 0x3f).toInt64)))]
 refine o_gi (XS.iadd X0.here hx rfl (hb hby o_d22_28) rfl) ?_
 show o_Gs p e below _ s₁ m 29 #[o_A r0, o_I x1] [(.int (x1 + (2 : Int32))), (.ref r0), (.long (((((q_F x1) &&& (255 : Int32)).toInt64) <<< ((56 : Int32) &&& 0x3f).toInt64) ||| ((((q_F (x1 + (1 : Int32))) &&& (255 : Int32)).toInt64) <<< ((48 : Int32) &&& 0x3f).toInt64)))]
 obtain ⟨cl26, Ar26, sa26, na26, ha26⟩ := id T_a
 have ix26 : ¬ (x1 + (2 : Int32)) < 0 ∧ (x1 + (2 : Int32)) < q_n := (o_pk hix (by decide))
 refine o_go (X0.baloadBytes hx (j := (x1 + (2 : Int32))) (v := (.int (q_F (x1 + (2 : Int32))))) (by rw [e0]; exact Ar26.1) (State.isArrayOf_alike hZ.alike Ar26.2.1) Ar26.2.2 (inb_of sa26 ix26) (ha26 _ ix26.1 ix26.2) (g := (mkF m 29 #[o_A r0, o_I x1] [(.int (x1 + (2 : Int32))), (.ref r0), (.long (((((q_F x1) &&& (255 : Int32)).toInt64) <<< ((56 : Int32) &&& 0x3f).toInt64) ||| ((((q_F (x1 + (1 : Int32))) &&& (255 : Int32)).toInt64) <<< ((48 : Int32) &&& 0x3f).toInt64)))])) rfl rfl (hb hby o_d22_29)) ?_
 refine o_gi (XS.sipush X0.here hx rfl (hb hby o_d22_30)) ?_
 show o_Gs p e below _ s₁ m 33 #[o_A r0, o_I x1] [(.int 255), (.int (q_F (x1 + (2 : Int32)))), (.long (((((q_F x1) &&& (255 : Int32)).toInt64) <<< ((56 : Int32) &&& 0x3f).toInt64) ||| ((((q_F (x1 + (1 : Int32))) &&& (255 : Int32)).toInt64) <<< ((48 : Int32) &&& 0x3f).toInt64)))]
 refine o_gi (XS.iand X0.here hx rfl (hb hby o_d22_33) rfl) ?_
 show o_Gs p e below _ s₁ m 34 #[o_A r0, o_I x1] [(.int ((q_F (x1 + (2 : Int32))) &&& (255 : Int32))), (.long (((((q_F x1) &&& (255 : Int32)).toInt64) <<< ((56 : Int32) &&& 0x3f).toInt64) ||| ((((q_F (x1 + (1 : Int32))) &&& (255 : Int32)).toInt64) <<< ((48 : Int32) &&& 0x3f).toInt64)))]
 refine o_gi (XS.i2l X0.here hx rfl (hb hby o_d22_34) rfl) ?_
 refine o_gi (XS.bipush X0.here hx rfl (hb hby o_d22_35)) ?_
 show o_Gs p e below _ s₁ m 37 #[o_A r0, o_I x1] [(.int 40), (.long (((q_F (x1 + (2 : Int32))) &&& (255 : Int32)).toInt64)), (.long (((((q_F x1) &&& (255 : Int32)).toInt64) <<< ((56 : Int32) &&& 0x3f).toInt64) ||| ((((q_F (x1 + (1 : Int32))) &&& (255 : Int32)).toInt64) <<< ((48 : Int32) &&& 0x3f).toInt64)))]
 refine o_gi (XS.lshl X0.here hx rfl (hb hby o_d22_37) rfl) ?_
 show o_Gs p e below _ s₁ m 38 #[o_A r0, o_I x1] [(.long ((((q_F (x1 + (2 : Int32))) &&& (255 : Int32)).toInt64) <<< ((40 : Int32) &&& 0x3f).toInt64)), (.long (((((q_F x1) &&& (255 : Int32)).toInt64) <<< ((56 : Int32) &&& 0x3f).toInt64) ||| ((((q_F (x1 + (1 : Int32))) &&& (255 : Int32)).toInt64) <<< ((48 : Int32) &&& 0x3f).toInt64)))]
 refine o_gi (XS.lor X0.here hx rfl (hb hby o_d22_38) rfl) ?_
 refine o_gi (XS.aloadN X0.here hx rfl (hb hby o_d22_39) rfl rfl) ?_
 refine o_gi (XS.iloadN X0.here hx rfl (hb hby o_d22_40) rfl) ?_
 refine o_gi (XS.iconst X0.here hx rfl (hb hby o_d22_41)) ?_
 show o_Gs p e below _ s₁ m 42 #[o_A r0, o_I x1] [(.int 3), (.int x1), (.ref r0), (.long ((((((q_F x1) &&& (255 : Int32)).toInt64) <<< ((56 : Int32) &&& 0x3f).toInt64) ||| ((((q_F (x1 + (1 : Int32))) &&& (255 : Int32)).toInt64) <<< ((48 : Int32) &&& 0x3f).toInt64)) ||| ((((q_F (x1 + (2 : Int32))) &&& (255 : Int32)).toInt64) <<< ((40 : Int32) &&& 0x3f).toInt64)))]
 refine o_gi (XS.iadd X0.here hx rfl (hb hby o_d22_42) rfl) ?_
 show o_Gs p e below _ s₁ m 43 #[o_A r0, o_I x1] [(.int (x1 + (3 : Int32))), (.ref r0), (.long ((((((q_F x1) &&& (255 : Int32)).toInt64) <<< ((56 : Int32) &&& 0x3f).toInt64) ||| ((((q_F (x1 + (1 : Int32))) &&& (255 : Int32)).toInt64) <<< ((48 : Int32) &&& 0x3f).toInt64)) ||| ((((q_F (x1 + (2 : Int32))) &&& (255 : Int32)).toInt64) <<< ((40 : Int32) &&& 0x3f).toInt64)))]
 obtain ⟨cl27, Ar27, sa27, na27, ha27⟩ := id T_a
 have ix27 : ¬ (x1 + (3 : Int32)) < 0 ∧ (x1 + (3 : Int32)) < q_n := (o_pk hix (by decide))
 refine o_go (X0.baloadBytes hx (j := (x1 + (3 : Int32))) (v := (.int (q_F (x1 + (3 : Int32))))) (by rw [e0]; exact Ar27.1) (State.isArrayOf_alike hZ.alike Ar27.2.1) Ar27.2.2 (inb_of sa27 ix27) (ha27 _ ix27.1 ix27.2) (g := (mkF m 43 #[o_A r0, o_I x1] [(.int (x1 + (3 : Int32))), (.ref r0), (.long ((((((q_F x1) &&& (255 : Int32)).toInt64) <<< ((56 : Int32) &&& 0x3f).toInt64) ||| ((((q_F (x1 + (1 : Int32))) &&& (255 : Int32)).toInt64) <<< ((48 : Int32) &&& 0x3f).toInt64)) ||| ((((q_F (x1 + (2 : Int32))) &&& (255 : Int32)).toInt64) <<< ((40 : Int32) &&& 0x3f).toInt64)))])) rfl rfl (hb hby o_d22_43)) ?_
 refine o_gi (XS.sipush X0.here hx rfl (hb hby o_d22_44)) ?_
 show o_Gs p e below _ s₁ m 47 #[o_A r0, o_I x1] [(.int 255), (.int (q_F (x1 + (3 : Int32)))), (.long ((((((q_F x1) &&& (255 : Int32)).toInt64) <<< ((56 : Int32) &&& 0x3f).toInt64) ||| ((((q_F (x1 + (1 : Int32))) &&& (255 : Int32)).toInt64) <<< ((48 : Int32) &&& 0x3f).toInt64)) ||| ((((q_F (x1 + (2 : Int32))) &&& (255 : Int32)).toInt64) <<< ((40 : Int32) &&& 0x3f).toInt64)))]
 refine o_gi (XS.iand X0.here hx rfl (hb hby o_d22_47) rfl) ?_
 show o_Gs p e below _ s₁ m 48 #[o_A r0, o_I x1] [(.int ((q_F (x1 + (3 : Int32))) &&& (255 : Int32))), (.long ((((((q_F x1) &&& (255 : Int32)).toInt64) <<< ((56 : Int32) &&& 0x3f).toInt64) ||| ((((q_F (x1 + (1 : Int32))) &&& (255 : Int32)).toInt64) <<< ((48 : Int32) &&& 0x3f).toInt64)) ||| ((((q_F (x1 + (2 : Int32))) &&& (255 : Int32)).toInt64) <<< ((40 : Int32) &&& 0x3f).toInt64)))]
 refine o_gi (XS.i2l X0.here hx rfl (hb hby o_d22_48) rfl) ?_
 refine o_gi (XS.bipush X0.here hx rfl (hb hby o_d22_49)) ?_
 show o_Gs p e below _ s₁ m 51 #[o_A r0, o_I x1] [(.int 32), (.long (((q_F (x1 + (3 : Int32))) &&& (255 : Int32)).toInt64)), (.long ((((((q_F x1) &&& (255 : Int32)).toInt64) <<< ((56 : Int32) &&& 0x3f).toInt64) ||| ((((q_F (x1 + (1 : Int32))) &&& (255 : Int32)).toInt64) <<< ((48 : Int32) &&& 0x3f).toInt64)) ||| ((((q_F (x1 + (2 : Int32))) &&& (255 : Int32)).toInt64) <<< ((40 : Int32) &&& 0x3f).toInt64)))]
 refine o_gi (XS.lshl X0.here hx rfl (hb hby o_d22_51) rfl) ?_
 show o_Gs p e below _ s₁ m 52 #[o_A r0, o_I x1] [(.long ((((q_F (x1 + (3 : Int32))) &&& (255 : Int32)).toInt64) <<< ((32 : Int32) &&& 0x3f).toInt64)), (.long ((((((q_F x1) &&& (255 : Int32)).toInt64) <<< ((56 : Int32) &&& 0x3f).toInt64) ||| ((((q_F (x1 + (1 : Int32))) &&& (255 : Int32)).toInt64) <<< ((48 : Int32) &&& 0x3f).toInt64)) ||| ((((q_F (x1 + (2 : Int32))) &&& (255 : Int32)).toInt64) <<< ((40 : Int32) &&& 0x3f).toInt64)))]
 refine o_gi (XS.lor X0.here hx rfl (hb hby o_d22_52) rfl) ?_
 refine o_gi (XS.aloadN X0.here hx rfl (hb hby o_d22_53) rfl rfl) ?_
 refine o_gi (XS.iloadN X0.here hx rfl (hb hby o_d22_54) rfl) ?_
 refine o_gi (XS.iconst X0.here hx rfl (hb hby o_d22_55)) ?_
 show o_Gs p e below _ s₁ m 56 #[o_A r0, o_I x1] [(.int 4), (.int x1), (.ref r0), (.long (((((((q_F x1) &&& (255 : Int32)).toInt64) <<< ((56 : Int32) &&& 0x3f).toInt64) ||| ((((q_F (x1 + (1 : Int32))) &&& (255 : Int32)).toInt64) <<< ((48 : Int32) &&& 0x3f).toInt64)) ||| ((((q_F (x1 + (2 : Int32))) &&& (255 : Int32)).toInt64) <<< ((40 : Int32) &&& 0x3f).toInt64)) ||| ((((q_F (x1 + (3 : Int32))) &&& (255 : Int32)).toInt64) <<< ((32 : Int32) &&& 0x3f).toInt64)))]
 refine o_gi (XS.iadd X0.here hx rfl (hb hby o_d22_56) rfl) ?_
 show o_Gs p e below _ s₁ m 57 #[o_A r0, o_I x1] [(.int (x1 + (4 : Int32))), (.ref r0), (.long (((((((q_F x1) &&& (255 : Int32)).toInt64) <<< ((56 : Int32) &&& 0x3f).toInt64) ||| ((((q_F (x1 + (1 : Int32))) &&& (255 : Int32)).toInt64) <<< ((48 : Int32) &&& 0x3f).toInt64)) ||| ((((q_F (x1 + (2 : Int32))) &&& (255 : Int32)).toInt64) <<< ((40 : Int32) &&& 0x3f).toInt64)) ||| ((((q_F (x1 + (3 : Int32))) &&& (255 : Int32)).toInt64) <<< ((32 : Int32) &&& 0x3f).toInt64)))]
 obtain ⟨cl28, Ar28, sa28, na28, ha28⟩ := id T_a
 have ix28 : ¬ (x1 + (4 : Int32)) < 0 ∧ (x1 + (4 : Int32)) < q_n := (o_pk hix (by decide))
 refine o_go (X0.baloadBytes hx (j := (x1 + (4 : Int32))) (v := (.int (q_F (x1 + (4 : Int32))))) (by rw [e0]; exact Ar28.1) (State.isArrayOf_alike hZ.alike Ar28.2.1) Ar28.2.2 (inb_of sa28 ix28) (ha28 _ ix28.1 ix28.2) (g := (mkF m 57 #[o_A r0, o_I x1] [(.int (x1 + (4 : Int32))), (.ref r0), (.long (((((((q_F x1) &&& (255 : Int32)).toInt64) <<< ((56 : Int32) &&& 0x3f).toInt64) ||| ((((q_F (x1 + (1 : Int32))) &&& (255 : Int32)).toInt64) <<< ((48 : Int32) &&& 0x3f).toInt64)) ||| ((((q_F (x1 + (2 : Int32))) &&& (255 : Int32)).toInt64) <<< ((40 : Int32) &&& 0x3f).toInt64)) ||| ((((q_F (x1 + (3 : Int32))) &&& (255 : Int32)).toInt64) <<< ((32 : Int32) &&& 0x3f).toInt64)))])) rfl rfl (hb hby o_d22_57)) ?_
 refine o_gi (XS.sipush X0.here hx rfl (hb hby o_d22_58)) ?_
 show o_Gs p e below _ s₁ m 61 #[o_A r0, o_I x1] [(.int 255), (.int (q_F (x1 + (4 : Int32)))), (.long (((((((q_F x1) &&& (255 : Int32)).toInt64) <<< ((56 : Int32) &&& 0x3f).toInt64) ||| ((((q_F (x1 + (1 : Int32))) &&& (255 : Int32)).toInt64) <<< ((48 : Int32) &&& 0x3f).toInt64)) ||| ((((q_F (x1 + (2 : Int32))) &&& (255 : Int32)).toInt64) <<< ((40 : Int32) &&& 0x3f).toInt64)) ||| ((((q_F (x1 + (3 : Int32))) &&& (255 : Int32)).toInt64) <<< ((32 : Int32) &&& 0x3f).toInt64)))]
 refine o_gi (XS.iand X0.here hx rfl (hb hby o_d22_61) rfl) ?_
 show o_Gs p e below _ s₁ m 62 #[o_A r0, o_I x1] [(.int ((q_F (x1 + (4 : Int32))) &&& (255 : Int32))), (.long (((((((q_F x1) &&& (255 : Int32)).toInt64) <<< ((56 : Int32) &&& 0x3f).toInt64) ||| ((((q_F (x1 + (1 : Int32))) &&& (255 : Int32)).toInt64) <<< ((48 : Int32) &&& 0x3f).toInt64)) ||| ((((q_F (x1 + (2 : Int32))) &&& (255 : Int32)).toInt64) <<< ((40 : Int32) &&& 0x3f).toInt64)) ||| ((((q_F (x1 + (3 : Int32))) &&& (255 : Int32)).toInt64) <<< ((32 : Int32) &&& 0x3f).toInt64)))]
 refine o_gi (XS.i2l X0.here hx rfl (hb hby o_d22_62) rfl) ?_
 refine o_gi (XS.bipush X0.here hx rfl (hb hby o_d22_63)) ?_
 show o_Gs p e below _ s₁ m 65 #[o_A r0, o_I x1] [(.int 24), (.long (((q_F (x1 + (4 : Int32))) &&& (255 : Int32)).toInt64)), (.long (((((((q_F x1) &&& (255 : Int32)).toInt64) <<< ((56 : Int32) &&& 0x3f).toInt64) ||| ((((q_F (x1 + (1 : Int32))) &&& (255 : Int32)).toInt64) <<< ((48 : Int32) &&& 0x3f).toInt64)) ||| ((((q_F (x1 + (2 : Int32))) &&& (255 : Int32)).toInt64) <<< ((40 : Int32) &&& 0x3f).toInt64)) ||| ((((q_F (x1 + (3 : Int32))) &&& (255 : Int32)).toInt64) <<< ((32 : Int32) &&& 0x3f).toInt64)))]
 refine o_gi (XS.lshl X0.here hx rfl (hb hby o_d22_65) rfl) ?_
 show o_Gs p e below _ s₁ m 66 #[o_A r0, o_I x1] [(.long ((((q_F (x1 + (4 : Int32))) &&& (255 : Int32)).toInt64) <<< ((24 : Int32) &&& 0x3f).toInt64)), (.long (((((((q_F x1) &&& (255 : Int32)).toInt64) <<< ((56 : Int32) &&& 0x3f).toInt64) ||| ((((q_F (x1 + (1 : Int32))) &&& (255 : Int32)).toInt64) <<< ((48 : Int32) &&& 0x3f).toInt64)) ||| ((((q_F (x1 + (2 : Int32))) &&& (255 : Int32)).toInt64) <<< ((40 : Int32) &&& 0x3f).toInt64)) ||| ((((q_F (x1 + (3 : Int32))) &&& (255 : Int32)).toInt64) <<< ((32 : Int32) &&& 0x3f).toInt64)))]
 refine o_gi (XS.lor X0.here hx rfl (hb hby o_d22_66) rfl) ?_
 refine o_gi (XS.aloadN X0.here hx rfl (hb hby o_d22_67) rfl rfl) ?_
 refine o_gi (XS.iloadN X0.here hx rfl (hb hby o_d22_68) rfl) ?_
 refine o_gi (XS.iconst X0.here hx rfl (hb hby o_d22_69)) ?_
 show o_Gs p e below _ s₁ m 70 #[o_A r0, o_I x1] [(.int 5), (.int x1), (.ref r0), (.long ((((((((q_F x1) &&& (255 : Int32)).toInt64) <<< ((56 : Int32) &&& 0x3f).toInt64) ||| ((((q_F (x1 + (1 : Int32))) &&& (255 : Int32)).toInt64) <<< ((48 : Int32) &&& 0x3f).toInt64)) ||| ((((q_F (x1 + (2 : Int32))) &&& (255 : Int32)).toInt64) <<< ((40 : Int32) &&& 0x3f).toInt64)) ||| ((((q_F (x1 + (3 : Int32))) &&& (255 : Int32)).toInt64) <<< ((32 : Int32) &&& 0x3f).toInt64)) ||| ((((q_F (x1 + (4 : Int32))) &&& (255 : Int32)).toInt64) <<< ((24 : Int32) &&& 0x3f).toInt64)))]
 refine o_gi (XS.iadd X0.here hx rfl (hb hby o_d22_70) rfl) ?_
 show o_Gs p e below _ s₁ m 71 #[o_A r0, o_I x1] [(.int (x1 + (5 : Int32))), (.ref r0), (.long ((((((((q_F x1) &&& (255 : Int32)).toInt64) <<< ((56 : Int32) &&& 0x3f).toInt64) ||| ((((q_F (x1 + (1 : Int32))) &&& (255 : Int32)).toInt64) <<< ((48 : Int32) &&& 0x3f).toInt64)) ||| ((((q_F (x1 + (2 : Int32))) &&& (255 : Int32)).toInt64) <<< ((40 : Int32) &&& 0x3f).toInt64)) ||| ((((q_F (x1 + (3 : Int32))) &&& (255 : Int32)).toInt64) <<< ((32 : Int32) &&& 0x3f).toInt64)) ||| ((((q_F (x1 + (4 : Int32))) &&& (255 : Int32)).toInt64) <<< ((24 : Int32) &&& 0x3f).toInt64)))]
 obtain ⟨cl29, Ar29, sa29, na29, ha29⟩ := id T_a
 have ix29 : ¬ (x1 + (5 : Int32)) < 0 ∧ (x1 + (5 : Int32)) < q_n := (o_pk hix (by decide))
 refine o_go (X0.baloadBytes hx (j := (x1 + (5 : Int32))) (v := (.int (q_F (x1 + (5 : Int32))))) (by rw [e0]; exact Ar29.1) (State.isArrayOf_alike hZ.alike Ar29.2.1) Ar29.2.2 (inb_of sa29 ix29) (ha29 _ ix29.1 ix29.2) (g := (mkF m 71 #[o_A r0, o_I x1] [(.int (x1 + (5 : Int32))), (.ref r0), (.long ((((((((q_F x1) &&& (255 : Int32)).toInt64) <<< ((56 : Int32) &&& 0x3f).toInt64) ||| ((((q_F (x1 + (1 : Int32))) &&& (255 : Int32)).toInt64) <<< ((48 : Int32) &&& 0x3f).toInt64)) ||| ((((q_F (x1 + (2 : Int32))) &&& (255 : Int32)).toInt64) <<< ((40 : Int32) &&& 0x3f).toInt64)) ||| ((((q_F (x1 + (3 : Int32))) &&& (255 : Int32)).toInt64) <<< ((32 : Int32) &&& 0x3f).toInt64)) ||| ((((q_F (x1 + (4 : Int32))) &&& (255 : Int32)).toInt64) <<< ((24 : Int32) &&& 0x3f).toInt64)))])) rfl rfl (hb hby o_d22_71)) ?_
 refine o_gi (XS.sipush X0.here hx rfl (hb hby o_d22_72)) ?_
 show o_Gs p e below _ s₁ m 75 #[o_A r0, o_I x1] [(.int 255), (.int (q_F (x1 + (5 : Int32)))), (.long ((((((((q_F x1) &&& (255 : Int32)).toInt64) <<< ((56 : Int32) &&& 0x3f).toInt64) ||| ((((q_F (x1 + (1 : Int32))) &&& (255 : Int32)).toInt64) <<< ((48 : Int32) &&& 0x3f).toInt64)) ||| ((((q_F (x1 + (2 : Int32))) &&& (255 : Int32)).toInt64) <<< ((40 : Int32) &&& 0x3f).toInt64)) ||| ((((q_F (x1 + (3 : Int32))) &&& (255 : Int32)).toInt64) <<< ((32 : Int32) &&& 0x3f).toInt64)) ||| ((((q_F (x1 + (4 : Int32))) &&& (255 : Int32)).toInt64) <<< ((24 : Int32) &&& 0x3f).toInt64)))]
 refine o_gi (XS.iand X0.here hx rfl (hb hby o_d22_75) rfl) ?_
 show o_Gs p e below _ s₁ m 76 #[o_A r0, o_I x1] [(.int ((q_F (x1 + (5 : Int32))) &&& (255 : Int32))), (.long ((((((((q_F x1) &&& (255 : Int32)).toInt64) <<< ((56 : Int32) &&& 0x3f).toInt64) ||| ((((q_F (x1 + (1 : Int32))) &&& (255 : Int32)).toInt64) <<< ((48 : Int32) &&& 0x3f).toInt64)) ||| ((((q_F (x1 + (2 : Int32))) &&& (255 : Int32)).toInt64) <<< ((40 : Int32) &&& 0x3f).toInt64)) ||| ((((q_F (x1 + (3 : Int32))) &&& (255 : Int32)).toInt64) <<< ((32 : Int32) &&& 0x3f).toInt64)) ||| ((((q_F (x1 + (4 : Int32))) &&& (255 : Int32)).toInt64) <<< ((24 : Int32) &&& 0x3f).toInt64)))]
 refine o_gi (XS.i2l X0.here hx rfl (hb hby o_d22_76) rfl) ?_
 refine o_gi (XS.bipush X0.here hx rfl (hb hby o_d22_77)) ?_
 show o_Gs p e below _ s₁ m 79 #[o_A r0, o_I x1] [(.int 16), (.long (((q_F (x1 + (5 : Int32))) &&& (255 : Int32)).toInt64)), (.long ((((((((q_F x1) &&& (255 : Int32)).toInt64) <<< ((56 : Int32) &&& 0x3f).toInt64) ||| ((((q_F (x1 + (1 : Int32))) &&& (255 : Int32)).toInt64) <<< ((48 : Int32) &&& 0x3f).toInt64)) ||| ((((q_F (x1 + (2 : Int32))) &&& (255 : Int32)).toInt64) <<< ((40 : Int32) &&& 0x3f).toInt64)) ||| ((((q_F (x1 + (3 : Int32))) &&& (255 : Int32)).toInt64) <<< ((32 : Int32) &&& 0x3f).toInt64)) ||| ((((q_F (x1 + (4 : Int32))) &&& (255 : Int32)).toInt64) <<< ((24 : Int32) &&& 0x3f).toInt64)))]
 refine o_gi (XS.lshl X0.here hx rfl (hb hby o_d22_79) rfl) ?_
 show o_Gs p e below _ s₁ m 80 #[o_A r0, o_I x1] [(.long ((((q_F (x1 + (5 : Int32))) &&& (255 : Int32)).toInt64) <<< ((16 : Int32) &&& 0x3f).toInt64)), (.long ((((((((q_F x1) &&& (255 : Int32)).toInt64) <<< ((56 : Int32) &&& 0x3f).toInt64) ||| ((((q_F (x1 + (1 : Int32))) &&& (255 : Int32)).toInt64) <<< ((48 : Int32) &&& 0x3f).toInt64)) ||| ((((q_F (x1 + (2 : Int32))) &&& (255 : Int32)).toInt64) <<< ((40 : Int32) &&& 0x3f).toInt64)) ||| ((((q_F (x1 + (3 : Int32))) &&& (255 : Int32)).toInt64) <<< ((32 : Int32) &&& 0x3f).toInt64)) ||| ((((q_F (x1 + (4 : Int32))) &&& (255 : Int32)).toInt64) <<< ((24 : Int32) &&& 0x3f).toInt64)))]
 refine o_gi (XS.lor X0.here hx rfl (hb hby o_d22_80) rfl) ?_
 refine o_gi (XS.aloadN X0.here hx rfl (hb hby o_d22_81) rfl rfl) ?_
 refine o_gi (XS.iloadN X0.here hx rfl (hb hby o_d22_82) rfl) ?_
 refine o_gi (XS.bipush X0.here hx rfl (hb hby o_d22_83)) ?_
 show o_Gs p e below _ s₁ m 85 #[o_A r0, o_I x1] [(.int 6), (.int x1), (.ref r0), (.long (((((((((q_F x1) &&& (255 : Int32)).toInt64) <<< ((56 : Int32) &&& 0x3f).toInt64) ||| ((((q_F (x1 + (1 : Int32))) &&& (255 : Int32)).toInt64) <<< ((48 : Int32) &&& 0x3f).toInt64)) ||| ((((q_F (x1 + (2 : Int32))) &&& (255 : Int32)).toInt64) <<< ((40 : Int32) &&& 0x3f).toInt64)) ||| ((((q_F (x1 + (3 : Int32))) &&& (255 : Int32)).toInt64) <<< ((32 : Int32) &&& 0x3f).toInt64)) ||| ((((q_F (x1 + (4 : Int32))) &&& (255 : Int32)).toInt64) <<< ((24 : Int32) &&& 0x3f).toInt64)) ||| ((((q_F (x1 + (5 : Int32))) &&& (255 : Int32)).toInt64) <<< ((16 : Int32) &&& 0x3f).toInt64)))]
 refine o_gi (XS.iadd X0.here hx rfl (hb hby o_d22_85) rfl) ?_
 show o_Gs p e below _ s₁ m 86 #[o_A r0, o_I x1] [(.int (x1 + (6 : Int32))), (.ref r0), (.long (((((((((q_F x1) &&& (255 : Int32)).toInt64) <<< ((56 : Int32) &&& 0x3f).toInt64) ||| ((((q_F (x1 + (1 : Int32))) &&& (255 : Int32)).toInt64) <<< ((48 : Int32) &&& 0x3f).toInt64)) ||| ((((q_F (x1 + (2 : Int32))) &&& (255 : Int32)).toInt64) <<< ((40 : Int32) &&& 0x3f).toInt64)) ||| ((((q_F (x1 + (3 : Int32))) &&& (255 : Int32)).toInt64) <<< ((32 : Int32) &&& 0x3f).toInt64)) ||| ((((q_F (x1 + (4 : Int32))) &&& (255 : Int32)).toInt64) <<< ((24 : Int32) &&& 0x3f).toInt64)) ||| ((((q_F (x1 + (5 : Int32))) &&& (255 : Int32)).toInt64) <<< ((16 : Int32) &&& 0x3f).toInt64)))]
 obtain ⟨cl30, Ar30, sa30, na30, ha30⟩ := id T_a
 have ix30 : ¬ (x1 + (6 : Int32)) < 0 ∧ (x1 + (6 : Int32)) < q_n := (o_pk hix (by decide))
 refine o_go (X0.baloadBytes hx (j := (x1 + (6 : Int32))) (v := (.int (q_F (x1 + (6 : Int32))))) (by rw [e0]; exact Ar30.1) (State.isArrayOf_alike hZ.alike Ar30.2.1) Ar30.2.2 (inb_of sa30 ix30) (ha30 _ ix30.1 ix30.2) (g := (mkF m 86 #[o_A r0, o_I x1] [(.int (x1 + (6 : Int32))), (.ref r0), (.long (((((((((q_F x1) &&& (255 : Int32)).toInt64) <<< ((56 : Int32) &&& 0x3f).toInt64) ||| ((((q_F (x1 + (1 : Int32))) &&& (255 : Int32)).toInt64) <<< ((48 : Int32) &&& 0x3f).toInt64)) ||| ((((q_F (x1 + (2 : Int32))) &&& (255 : Int32)).toInt64) <<< ((40 : Int32) &&& 0x3f).toInt64)) ||| ((((q_F (x1 + (3 : Int32))) &&& (255 : Int32)).toInt64) <<< ((32 : Int32) &&& 0x3f).toInt64)) ||| ((((q_F (x1 + (4 : Int32))) &&& (255 : Int32)).toInt64) <<< ((24 : Int32) &&& 0x3f).toInt64)) ||| ((((q_F (x1 + (5 : Int32))) &&& (255 : Int32)).toInt64) <<< ((16 : Int32) &&& 0x3f).toInt64)))])) rfl rfl (hb hby o_d22_86)) ?_
 refine o_gi (XS.sipush X0.here hx rfl (hb hby o_d22_87)) ?_
 show o_Gs p e below _ s₁ m 90 #[o_A r0, o_I x1] [(.int 255), (.int (q_F (x1 + (6 : Int32)))), (.long (((((((((q_F x1) &&& (255 : Int32)).toInt64) <<< ((56 : Int32) &&& 0x3f).toInt64) ||| ((((q_F (x1 + (1 : Int32))) &&& (255 : Int32)).toInt64) <<< ((48 : Int32) &&& 0x3f).toInt64)) ||| ((((q_F (x1 + (2 : Int32))) &&& (255 : Int32)).toInt64) <<< ((40 : Int32) &&& 0x3f).toInt64)) ||| ((((q_F (x1 + (3 : Int32))) &&& (255 : Int32)).toInt64) <<< ((32 : Int32) &&& 0x3f).toInt64)) ||| ((((q_F (x1 + (4 : Int32))) &&& (255 : Int32)).toInt64) <<< ((24 : Int32) &&& 0x3f).toInt64)) ||| ((((q_F (x1 + (5 : Int32))) &&& (255 : Int32)).toInt64) <<< ((16 : Int32) &&& 0x3f).toInt64)))]
 refine o_gi (XS.iand X0.here hx rfl (hb hby o_d22_90) rfl) ?_
 show o_Gs p e below _ s₁ m 91 #[o_A r0, o_I x1] [(.int ((q_F (x1 + (6 : Int32))) &&& (255 : Int32))), (.long (((((((((q_F x1) &&& (255 : Int32)).toInt64) <<< ((56 : Int32) &&& 0x3f).toInt64) ||| ((((q_F (x1 + (1 : Int32))) &&& (255 : Int32)).toInt64) <<< ((48 : Int32) &&& 0x3f).toInt64)) ||| ((((q_F (x1 + (2 : Int32))) &&& (255 : Int32)).toInt64) <<< ((40 : Int32) &&& 0x3f).toInt64)) ||| ((((q_F (x1 + (3 : Int32))) &&& (255 : Int32)).toInt64) <<< ((32 : Int32) &&& 0x3f).toInt64)) ||| ((((q_F (x1 + (4 : Int32))) &&& (255 : Int32)).toInt64) <<< ((24 : Int32) &&& 0x3f).toInt64)) ||| ((((q_F (x1 + (5 : Int32))) &&& (255 : Int32)).toInt64) <<< ((16 : Int32) &&& 0x3f).toInt64)))]
 refine o_gi (XS.i2l X0.here hx rfl (hb hby o_d22_91) rfl) ?_
 refine o_gi (XS.bipush X0.here hx rfl (hb hby o_d22_92)) ?_
 show o_Gs p e below _ s₁ m 94 #[o_A r0, o_I x1] [(.int 8), (.long (((q_F (x1 + (6 : Int32))) &&& (255 : Int32)).toInt64)), (.long (((((((((q_F x1) &&& (255 : Int32)).toInt64) <<< ((56 : Int32) &&& 0x3f).toInt64) ||| ((((q_F (x1 + (1 : Int32))) &&& (255 : Int32)).toInt64) <<< ((48 : Int32) &&& 0x3f).toInt64)) ||| ((((q_F (x1 + (2 : Int32))) &&& (255 : Int32)).toInt64) <<< ((40 : Int32) &&& 0x3f).toInt64)) ||| ((((q_F (x1 + (3 : Int32))) &&& (255 : Int32)).toInt64) <<< ((32 : Int32) &&& 0x3f).toInt64)) ||| ((((q_F (x1 + (4 : Int32))) &&& (255 : Int32)).toInt64) <<< ((24 : Int32) &&& 0x3f).toInt64)) ||| ((((q_F (x1 + (5 : Int32))) &&& (255 : Int32)).toInt64) <<< ((16 : Int32) &&& 0x3f).toInt64)))]
 refine o_gi (XS.lshl X0.here hx rfl (hb hby o_d22_94) rfl) ?_
 show o_Gs p e below _ s₁ m 95 #[o_A r0, o_I x1] [(.long ((((q_F (x1 + (6 : Int32))) &&& (255 : Int32)).toInt64) <<< ((8 : Int32) &&& 0x3f).toInt64)), (.long (((((((((q_F x1) &&& (255 : Int32)).toInt64) <<< ((56 : Int32) &&& 0x3f).toInt64) ||| ((((q_F (x1 + (1 : Int32))) &&& (255 : Int32)).toInt64) <<< ((48 : Int32) &&& 0x3f).toInt64)) ||| ((((q_F (x1 + (2 : Int32))) &&& (255 : Int32)).toInt64) <<< ((40 : Int32) &&& 0x3f).toInt64)) ||| ((((q_F (x1 + (3 : Int32))) &&& (255 : Int32)).toInt64) <<< ((32 : Int32) &&& 0x3f).toInt64)) ||| ((((q_F (x1 + (4 : Int32))) &&& (255 : Int32)).toInt64) <<< ((24 : Int32) &&& 0x3f).toInt64)) ||| ((((q_F (x1 + (5 : Int32))) &&& (255 : Int32)).toInt64) <<< ((16 : Int32) &&& 0x3f).toInt64)))]
 refine o_gi (XS.lor X0.here hx rfl (hb hby o_d22_95) rfl) ?_
 refine o_gi (XS.aloadN X0.here hx rfl (hb hby o_d22_96) rfl rfl) ?_
 refine o_gi (XS.iloadN X0.here hx rfl (hb hby o_d22_97) rfl) ?_
 refine o_gi (XS.bipush X0.here hx rfl (hb hby o_d22_98)) ?_
 show o_Gs p e below _ s₁ m 100 #[o_A r0, o_I x1] [(.int 7), (.int x1), (.ref r0), (.long ((((((((((q_F x1) &&& (255 : Int32)).toInt64) <<< ((56 : Int32) &&& 0x3f).toInt64) ||| ((((q_F (x1 + (1 : Int32))) &&& (255 : Int32)).toInt64) <<< ((48 : Int32) &&& 0x3f).toInt64)) ||| ((((q_F (x1 + (2 : Int32))) &&& (255 : Int32)).toInt64) <<< ((40 : Int32) &&& 0x3f).toInt64)) ||| ((((q_F (x1 + (3 : Int32))) &&& (255 : Int32)).toInt64) <<< ((32 : Int32) &&& 0x3f).toInt64)) ||| ((((q_F (x1 + (4 : Int32))) &&& (255 : Int32)).toInt64) <<< ((24 : Int32) &&& 0x3f).toInt64)) ||| ((((q_F (x1 + (5 : Int32))) &&& (255 : Int32)).toInt64) <<< ((16 : Int32) &&& 0x3f).toInt64)) ||| ((((q_F (x1 + (6 : Int32))) &&& (255 : Int32)).toInt64) <<< ((8 : Int32) &&& 0x3f).toInt64)))]
 refine o_gi (XS.iadd X0.here hx rfl (hb hby o_d22_100) rfl) ?_
 show o_Gs p e below _ s₁ m 101 #[o_A r0, o_I x1] [(.int (x1 + (7 : Int32))), (.ref r0), (.long ((((((((((q_F x1) &&& (255 : Int32)).toInt64) <<< ((56 : Int32) &&& 0x3f).toInt64) ||| ((((q_F (x1 + (1 : Int32))) &&& (255 : Int32)).toInt64) <<< ((48 : Int32) &&& 0x3f).toInt64)) ||| ((((q_F (x1 + (2 : Int32))) &&& (255 : Int32)).toInt64) <<< ((40 : Int32) &&& 0x3f).toInt64)) ||| ((((q_F (x1 + (3 : Int32))) &&& (255 : Int32)).toInt64) <<< ((32 : Int32) &&& 0x3f).toInt64)) ||| ((((q_F (x1 + (4 : Int32))) &&& (255 : Int32)).toInt64) <<< ((24 : Int32) &&& 0x3f).toInt64)) ||| ((((q_F (x1 + (5 : Int32))) &&& (255 : Int32)).toInt64) <<< ((16 : Int32) &&& 0x3f).toInt64)) ||| ((((q_F (x1 + (6 : Int32))) &&& (255 : Int32)).toInt64) <<< ((8 : Int32) &&& 0x3f).toInt64)))]
 obtain ⟨cl31, Ar31, sa31, na31, ha31⟩ := id T_a
 have ix31 : ¬ (x1 + (7 : Int32)) < 0 ∧ (x1 + (7 : Int32)) < q_n := (o_pk hix (by decide))
 refine o_go (X0.baloadBytes hx (j := (x1 + (7 : Int32))) (v := (.int (q_F (x1 + (7 : Int32))))) (by rw [e0]; exact Ar31.1) (State.isArrayOf_alike hZ.alike Ar31.2.1) Ar31.2.2 (inb_of sa31 ix31) (ha31 _ ix31.1 ix31.2) (g := (mkF m 101 #[o_A r0, o_I x1] [(.int (x1 + (7 : Int32))), (.ref r0), (.long ((((((((((q_F x1) &&& (255 : Int32)).toInt64) <<< ((56 : Int32) &&& 0x3f).toInt64) ||| ((((q_F (x1 + (1 : Int32))) &&& (255 : Int32)).toInt64) <<< ((48 : Int32) &&& 0x3f).toInt64)) ||| ((((q_F (x1 + (2 : Int32))) &&& (255 : Int32)).toInt64) <<< ((40 : Int32) &&& 0x3f).toInt64)) ||| ((((q_F (x1 + (3 : Int32))) &&& (255 : Int32)).toInt64) <<< ((32 : Int32) &&& 0x3f).toInt64)) ||| ((((q_F (x1 + (4 : Int32))) &&& (255 : Int32)).toInt64) <<< ((24 : Int32) &&& 0x3f).toInt64)) ||| ((((q_F (x1 + (5 : Int32))) &&& (255 : Int32)).toInt64) <<< ((16 : Int32) &&& 0x3f).toInt64)) ||| ((((q_F (x1 + (6 : Int32))) &&& (255 : Int32)).toInt64) <<< ((8 : Int32) &&& 0x3f).toInt64)))])) rfl rfl (hb hby o_d22_101)) ?_
 refine o_gi (XS.sipush X0.here hx rfl (hb hby o_d22_102)) ?_
 show o_Gs p e below _ s₁ m 105 #[o_A r0, o_I x1] [(.int 255), (.int (q_F (x1 + (7 : Int32)))), (.long ((((((((((q_F x1) &&& (255 : Int32)).toInt64) <<< ((56 : Int32) &&& 0x3f).toInt64) ||| ((((q_F (x1 + (1 : Int32))) &&& (255 : Int32)).toInt64) <<< ((48 : Int32) &&& 0x3f).toInt64)) ||| ((((q_F (x1 + (2 : Int32))) &&& (255 : Int32)).toInt64) <<< ((40 : Int32) &&& 0x3f).toInt64)) ||| ((((q_F (x1 + (3 : Int32))) &&& (255 : Int32)).toInt64) <<< ((32 : Int32) &&& 0x3f).toInt64)) ||| ((((q_F (x1 + (4 : Int32))) &&& (255 : Int32)).toInt64) <<< ((24 : Int32) &&& 0x3f).toInt64)) ||| ((((q_F (x1 + (5 : Int32))) &&& (255 : Int32)).toInt64) <<< ((16 : Int32) &&& 0x3f).toInt64)) ||| ((((q_F (x1 + (6 : Int32))) &&& (255 : Int32)).toInt64) <<< ((8 : Int32) &&& 0x3f).toInt64)))]
 refine o_gi (XS.iand X0.here hx rfl (hb hby o_d22_105) rfl) ?_
 show o_Gs p e below _ s₁ m 106 #[o_A r0, o_I x1] [(.int ((q_F (x1 + (7 : Int32))) &&& (255 : Int32))), (.long ((((((((((q_F x1) &&& (255 : Int32)).toInt64) <<< ((56 : Int32) &&& 0x3f).toInt64) ||| ((((q_F (x1 + (1 : Int32))) &&& (255 : Int32)).toInt64) <<< ((48 : Int32) &&& 0x3f).toInt64)) ||| ((((q_F (x1 + (2 : Int32))) &&& (255 : Int32)).toInt64) <<< ((40 : Int32) &&& 0x3f).toInt64)) ||| ((((q_F (x1 + (3 : Int32))) &&& (255 : Int32)).toInt64) <<< ((32 : Int32) &&& 0x3f).toInt64)) ||| ((((q_F (x1 + (4 : Int32))) &&& (255 : Int32)).toInt64) <<< ((24 : Int32) &&& 0x3f).toInt64)) ||| ((((q_F (x1 + (5 : Int32))) &&& (255 : Int32)).toInt64) <<< ((16 : Int32) &&& 0x3f).toInt64)) ||| ((((q_F (x1 + (6 : Int32))) &&& (255 : Int32)).toInt64) <<< ((8 : Int32) &&& 0x3f).toInt64)))]
 refine o_gi (XS.i2l X0.here hx rfl (hb hby o_d22_106) rfl) ?_
 show o_Gs p e below _ s₁ m 107 #[o_A r0, o_I x1] [(.long (((q_F (x1 + (7 : Int32))) &&& (255 : Int32)).toInt64)), (.long ((((((((((q_F x1) &&& (255 : Int32)).toInt64) <<< ((56 : Int32) &&& 0x3f).toInt64) ||| ((((q_F (x1 + (1 : Int32))) &&& (255 : Int32)).toInt64) <<< ((48 : Int32) &&& 0x3f).toInt64)) ||| ((((q_F (x1 + (2 : Int32))) &&& (255 : Int32)).toInt64) <<< ((40 : Int32) &&& 0x3f).toInt64)) ||| ((((q_F (x1 + (3 : Int32))) &&& (255 : Int32)).toInt64) <<< ((32 : Int32) &&& 0x3f).toInt64)) ||| ((((q_F (x1 + (4 : Int32))) &&& (255 : Int32)).toInt64) <<< ((24 : Int32) &&& 0x3f).toInt64)) ||| ((((q_F (x1 + (5 : Int32))) &&& (255 : Int32)).toInt64) <<< ((16 : Int32) &&& 0x3f).toInt64)) ||| ((((q_F (x1 + (6 : Int32))) &&& (255 : Int32)).toInt64) <<< ((8 : Int32) &&& 0x3f).toInt64)))]
 refine o_gi (XS.lor X0.here hx rfl (hb hby o_d22_107) rfl) ?_
 show o_Gs p e below _ s₁ m 108 #[o_A r0, o_I x1] [(.long (((((((((((q_F x1) &&& (255 : Int32)).toInt64) <<< ((56 : Int32) &&& 0x3f).toInt64) ||| ((((q_F (x1 + (1 : Int32))) &&& (255 : Int32)).toInt64) <<< ((48 : Int32) &&& 0x3f).toInt64)) ||| ((((q_F (x1 + (2 : Int32))) &&& (255 : Int32)).toInt64) <<< ((40 : Int32) &&& 0x3f).toInt64)) ||| ((((q_F (x1 + (3 : Int32))) &&& (255 : Int32)).toInt64) <<< ((32 : Int32) &&& 0x3f).toInt64)) ||| ((((q_F (x1 + (4 : Int32))) &&& (255 : Int32)).toInt64) <<< ((24 : Int32) &&& 0x3f).toInt64)) ||| ((((q_F (x1 + (5 : Int32))) &&& (255 : Int32)).toInt64) <<< ((16 : Int32) &&& 0x3f).toInt64)) ||| ((((q_F (x1 + (6 : Int32))) &&& (255 : Int32)).toInt64) <<< ((8 : Int32) &&& 0x3f).toInt64)) ||| (((q_F (x1 + (7 : Int32))) &&& (255 : Int32)).toInt64)))]
 exact o_retJ X0 hx hlk hret (hb hby o_d22_108) (by decide) (by decide) ⟨by rw [o_f22], N0, e0⟩
/- after enc3 -/
theorem o_pack {a b c : Int32} (ha : 0 ≤ a.toInt ∧ a.toInt < 256) (hb : 0 ≤ b.toInt ∧ b.toInt < 256) (hc : 0 ≤ c.toInt ∧ c.toInt < 256) : (((a <<< ((16 : Int32) &&& 31)) ||| (b <<< ((8 : Int32) &&& 31))) ||| c).toInt = a.toInt * 65536 + b.toInt * 256 + c.toInt := by
 have e1 := c_ishl a 16 16 (by decide)
 have e2 := c_ishl b 8 8 (by decide)
 have l1 := Int32.toInt_lt (a <<< ((16 : Int32) &&& 31)); have l2 := Int32.le_toInt (a <<< ((16 : Int32) &&& 31))
 have l3 := Int32.toInt_lt (b <<< ((8 : Int32) &&& 31)); have l4 := Int32.le_toInt (b <<< ((8 : Int32) &&& 31))
 have f1 : (a <<< ((16 : Int32) &&& 31)).toInt = a.toInt * 65536 := by omega
 have f2 : (b <<< ((8 : Int32) &&& 31)).toInt = b.toInt * 256 := by omega
 have g1 := c_or (a <<< ((16 : Int32) &&& 31)) (b <<< ((8 : Int32) &&& 31)) 16 (by decide) 65536 (by decide) (by omega) (by omega) (by omega)
 have l5 := Int32.toInt_lt ((a <<< ((16 : Int32) &&& 31)) ||| (b <<< ((8 : Int32) &&& 31))); have l6 := Int32.le_toInt ((a <<< ((16 : Int32) &&& 31)) ||| (b <<< ((8 : Int32) &&& 31)))
 have f3 : ((a <<< ((16 : Int32) &&& 31)) ||| (b <<< ((8 : Int32) &&& 31))).toInt = a.toInt * 65536 + b.toInt * 256 := by omega
 have g2 := c_or ((a <<< ((16 : Int32) &&& 31)) ||| (b <<< ((8 : Int32) &&& 31))) c 8 (by decide) 256 (by decide) (by omega) (by omega) (by omega)
 have l7 := Int32.toInt_lt (((a <<< ((16 : Int32) &&& 31)) ||| (b <<< ((8 : Int32) &&& 31))) ||| c); have l8 := Int32.le_toInt (((a <<< ((16 : Int32) &&& 31)) ||| (b <<< ((8 : Int32) &&& 31))) ||| c)
 omega
theorem o_is {v : Int32} {z : Int} (h : v.toInt = z) (hz : 0 ≤ z ∧ z < 64) : o_Is (nar .char (o_f3 v)) z := by
 refine ⟨⟨v.toInt.toNat, by omega⟩, by simp only; omega, ?_⟩
 have e : Int32.ofNat v.toInt.toNat = v := by rw [← Int32.toInt_inj, Int32.toInt_ofNat_of_lt (by omega)]; omega
 simp only [e]
theorem o_us {x q : Int32} {k : Nat} (hk : q.toBitVec.toNat % 32 = k) (h0 : 0 < k) (hx : 0 ≤ x.toInt ∧ x.toInt < 16777216) : ((x.toUInt32 >>> (q &&& 31).toUInt32).toInt32).toInt = x.toInt / (2 ^ k : Nat) := by
 rw [c_iushr x q k hk h0, Int.emod_eq_of_lt hx.1 (by omega)]
theorem o_m63 (x : Int32) : (x &&& (63 : Int32)).toInt = x.toInt % 64 := by
 have h : (x &&& 63).toInt = x.toInt % 2 ^ 6 := Jvm.Kit.i32_mask x 63 (k := 6) (by decide) (by decide)
 omega
theorem o_sext {v : Int32} (w : Int) (hv : v.toInt = w) (hw : 0 ≤ w ∧ w < 16777216) : o_Is (nar .char (o_f3 ((v.toUInt32 >>> ((18 : Int32) &&& 31).toUInt32).toInt32))) (w / 262144) ∧ o_Is (nar .char (o_f3 (((v.toUInt32 >>> ((12 : Int32) &&& 31).toUInt32).toInt32) &&& (63 : Int32)))) (w / 4096 % 64) ∧ o_Is (nar .char (o_f3 (((v.toUInt32 >>> ((6 : Int32) &&& 31).toUInt32).toInt32) &&& (63 : Int32)))) (w / 64 % 64) ∧ o_Is (nar .char (o_f3 (v &&& (63 : Int32)))) (w % 64) := by
 have a := o_us (x := v) (q := 18) (k := 18) (by decide) (by decide) (by omega)
 have b := o_us (x := v) (q := 12) (k := 12) (by decide) (by decide) (by omega)
 have c := o_us (x := v) (q := 6) (k := 6) (by decide) (by decide) (by omega)
 refine ⟨o_is (by rw [a, hv]; rfl) (by omega), o_is (by rw [o_m63, b, hv]; rfl) (by omega), o_is (by rw [o_m63, c, hv]; rfl) (by omega), o_is (by rw [o_m63, hv]) (by omega)⟩
theorem o_v2w {x : Int32} {B : Int32 → Int32} {d : Int32} (h : d = (3 : Int32) * x) : (o_v2_1 x B).toInt = o_w B d := by
 subst h
 have h1 := o_m255 (B ((3 : Int32) * x))
 have h2 := o_m255 (B ((3 : Int32) * x + (1 : Int32)))
 have h3 := o_m255 (B ((3 : Int32) * x + (2 : Int32)))
 exact o_pack (by omega) (by omega) (by omega)
theorem o_G24 {x j : Int32} {B G : Int32 → Int32} (h : ∀ k : Int32, 0 ≤ k.toInt ∧ k.toInt < 4 → ¬ j = (4 : Int32) * x + k) : o_G2_4 x B G j = G j := by
 have h0 := h 0 (by decide)
 rw [Int32.add_zero] at h0
 show (if j = _ then _ else if j = _ then _ else if j = _ then _ else if j = _ then _ else G j) = G j
 rw [if_neg (h 3 (by decide)), if_neg (h 2 (by decide)), if_neg (h 1 (by decide)), if_neg h0]
theorem o_encS {B G : Int32 → Int32} {k : Nat} {x : Int32} (hx : x.toInt = k) (hk : k < 16) (h : o_Enc B k G) : o_Enc B (k + 1) (o_G2_4 x B G) := by
 intro g hg i d hi hd
 have e4 := o_mulk (x := x) (k := 4) 4 rfl (by omega) (by omega)
 have e3 := o_mulk (x := x) (k := 3) 3 rfl (by omega) (by omega)
 have i1 := o_adk (x := i) 1 1 rfl (by omega) (by omega)
 have i2 := o_adk (x := i) 2 2 rfl (by omega) (by omega)
 have i3 := o_adk (x := i) 3 3 rfl (by omega) (by omega)
 by_cases q : g < k
 ·obtain ⟨a, b, c, e⟩ := h g q i d hi hd
  have t : ∀ j : Int32, j.toInt < 4 * k → o_G2_4 x B G j = G j := fun j hj => o_G24 fun m hm z => by
   have := o_ad (x := (4 : Int32) * x) (k := m) (by omega) (by omega)
   rw [z] at hj
   omega
  rw [t i (by omega), t _ (by omega), t _ (by omega), t _ (by omega)]
  exact ⟨a, b, c, e⟩
 ·have hg' : g = k := by omega
  subst hg'
  have ei : i = (4 : Int32) * x := o_ext (by omega)
  have ed : d = (3 : Int32) * x := o_ext (by omega)
  obtain ⟨a, b, c, e⟩ := o_sext (v := o_v2_1 x B) (o_w B d) (o_v2w ed) (o_wB B d)
  have n1 := o_adk (x := (4 : Int32) * x) 1 1 rfl (by omega) (by omega)
  have n2 := o_adk (x := (4 : Int32) * x) 2 2 rfl (by omega) (by omega)
  have n3 := o_adk (x := (4 : Int32) * x) 3 3 rfl (by omega) (by omega)
  have ne : ∀ {a b : Int32}, a.toInt ≠ b.toInt → ¬ a = b := fun h z => h (by rw [z])
  subst ei
  refine ⟨?_, ?_, ?_, ?_⟩
  ·show o_Is (if (4 : Int32) * x = _ then _ else if (4 : Int32) * x = _ then _ else if (4 : Int32) * x = _ then _ else if (4 : Int32) * x = _ then _ else _) _
   rw [if_neg (ne (by omega)), if_neg (ne (by omega)), if_neg (ne (by omega)), if_pos rfl]; exact a
  ·show o_Is (if _ = _ then _ else if _ = _ then _ else if _ = _ then _ else _) _
   rw [if_neg (ne (by omega)), if_neg (ne (by omega)), if_pos rfl]; exact b
  ·show o_Is (if _ = _ then _ else if _ = _ then _ else _) _
   rw [if_neg (ne (by omega)), if_pos rfl]; exact c
  ·show o_Is (if _ = _ then _ else _) _
   rw [if_pos rfl]; exact e
theorem o_enc0 (B G : Int32 → Int32) : o_Enc B 0 G := fun g hg => absurd hg (by omega)
theorem o_isLe {c : Int32} {z : Int} (h : o_Is c z) : ¬ (255 : Int32) < c := by
 obtain ⟨v, -, rfl⟩ := h
 exact (by decide +kernel : ∀ v : Fin 64, ¬ (255 : Int32) < nar .char (o_f3 (Int32.ofNat v.val))) v
theorem o_isB {c : Int32} {z : Int} (h : o_Is c z) : (o_b64 ((nar .byte (c.toInt8.toInt32)) &&& (255 : Int32))).toInt = z ∧ ¬ nar .byte (c.toInt8.toInt32) = 61 := by
 obtain ⟨v, rfl, rfl⟩ := h
 exact (by decide +kernel : ∀ v : Fin 64, (o_b64 ((nar .byte ((nar .char (o_f3 (Int32.ofNat v.val))).toInt8.toInt32)) &&& (255 : Int32))).toInt = (v.val : Int) ∧ ¬ nar .byte ((nar .char (o_f3 (Int32.ofNat v.val))).toInt8.toInt32) = 61) v
theorem o_c0 : o_C255 (fun _ => 0) := fun _ => by show ¬ (255 : Int32) < 0; decide
theorem o_c255S {x : Int32} {B G : Int32 → Int32} (h : o_C255 G) : o_C255 (o_G2_4 x B G) := by
 intro j
 obtain ⟨a, b, c, e⟩ := o_sext (v := o_v2_1 x B) (o_w B _) (o_v2w (d := (3 : Int32) * x) rfl) (o_wB B _)
 show ¬ (255 : Int32) < (if j = _ then _ else if j = _ then _ else if j = _ then _ else if j = _ then _ else G j)
 split
 ·exact o_isLe e
 ·split
  ·exact o_isLe c
  ·split
   ·exact o_isLe b
   ·split
    ·exact o_isLe a
    ·exact h j
theorem o_c255T {x z : Int32} {G : Int32 → Int32} (h : o_C255 G) (hz : ¬ (255 : Int32) < z) : o_C255 (fun k => if k = x then z else G k) := by
 intro j
 show ¬ (255 : Int32) < (if j = x then z else G j)
 split
 ·exact hz
 ·exact h j
theorem o_pack2 {a b : Int32} (ha : 0 ≤ a.toInt ∧ a.toInt < 256) (hb : 0 ≤ b.toInt ∧ b.toInt < 256) : ((a <<< ((16 : Int32) &&& 31)) ||| (b <<< ((8 : Int32) &&& 31))).toInt = a.toInt * 65536 + b.toInt * 256 := by
 have e1 := c_ishl a 16 16 (by decide)
 have e2 := c_ishl b 8 8 (by decide)
 have l1 := Int32.toInt_lt (a <<< ((16 : Int32) &&& 31)); have l2 := Int32.le_toInt (a <<< ((16 : Int32) &&& 31))
 have l3 := Int32.toInt_lt (b <<< ((8 : Int32) &&& 31)); have l4 := Int32.le_toInt (b <<< ((8 : Int32) &&& 31))
 have f1 : (a <<< ((16 : Int32) &&& 31)).toInt = a.toInt * 65536 := by omega
 have f2 : (b <<< ((8 : Int32) &&& 31)).toInt = b.toInt * 256 := by omega
 have g1 := c_or (a <<< ((16 : Int32) &&& 31)) (b <<< ((8 : Int32) &&& 31)) 16 (by decide) 65536 (by decide) (by omega) (by omega) (by omega)
 have l5 := Int32.toInt_lt ((a <<< ((16 : Int32) &&& 31)) ||| (b <<< ((8 : Int32) &&& 31))); have l6 := Int32.le_toInt ((a <<< ((16 : Int32) &&& 31)) ||| (b <<< ((8 : Int32) &&& 31)))
 omega
theorem o_pack1 {a : Int32} (ha : 0 ≤ a.toInt ∧ a.toInt < 256) : (a <<< ((16 : Int32) &&& 31)).toInt = a.toInt * 65536 := by
 have e1 := c_ishl a 16 16 (by decide)
 have l1 := Int32.toInt_lt (a <<< ((16 : Int32) &&& 31)); have l2 := Int32.le_toInt (a <<< ((16 : Int32) &&& 31))
 omega
/- the three texts -/
theorem o_spOf {B G H : Int32 → Int32} {e : Nat} (he : e ≤ 16) (h : o_Enc B e G) (q : ∀ j : Int32, ¬ j < 0 → j.toInt < 4 * e → H j = G j) : o_Sp B (o_b8 H) e := by
 intro g hg i d hi hd
 obtain ⟨a, b, c, f⟩ := h g hg i d hi hd
 have i1 := o_adk (x := i) 1 1 rfl (by omega) (by omega)
 have i2 := o_adk (x := i + (1 : Int32)) 1 1 rfl (by omega) (by omega)
 have i3 := o_adk (x := (i + (1 : Int32)) + (1 : Int32)) 1 1 rfl (by omega) (by omega)
 have j2 := o_adk (x := i) 2 2 rfl (by omega) (by omega)
 have j3 := o_adk (x := i) 3 3 rfl (by omega) (by omega)
 have e2 : i + (2 : Int32) = (i + (1 : Int32)) + (1 : Int32) := o_ext (by omega)
 have e3 : i + (3 : Int32) = ((i + (1 : Int32)) + (1 : Int32)) + (1 : Int32) := o_ext (by omega)
 rw [e2] at c
 rw [e3] at f
 have nn : ∀ {j : Int32}, 0 ≤ j.toInt → ¬ j < 0 := fun {j} h z => by rw [o_lt, show (0 : Int32).toInt = 0 from rfl] at z; omega
 rw [← q i (nn (by omega)) (by omega)] at a
 rw [← q (i + (1 : Int32)) (nn (by omega)) (by omega)] at b
 rw [← q ((i + (1 : Int32)) + (1 : Int32)) (nn (by omega)) (by omega)] at c
 rw [← q (((i + (1 : Int32)) + (1 : Int32)) + (1 : Int32)) (nn (by omega)) (by omega)] at f
 exact ⟨(o_isB a).1, (o_isB b).1, (o_isB c).1, (o_isB f).1⟩
def o_tail0 (B G : Int32 → Int32) : Int32 → Int32 := fun k => if k = (23 : Int32) then (nar .char (61 : Int32)) else if k = (22 : Int32) then (nar .char (61 : Int32)) else if k = (21 : Int32) then (nar .char (o_f3 ((((((B (15 : Int32)) &&& (255 : Int32)) <<< ((16 : Int32) &&& 31)).toUInt32 >>> ((12 : Int32) &&& 31).toUInt32).toInt32) &&& (63 : Int32)))) else if k = (20 : Int32) then (nar .char (o_f3 (((((B (15 : Int32)) &&& (255 : Int32)) <<< ((16 : Int32) &&& 31)).toUInt32 >>> ((18 : Int32) &&& 31).toUInt32).toInt32))) else G k
def o_tail1 (B G : Int32 → Int32) : Int32 → Int32 := fun k => if k = (43 : Int32) then (nar .char (61 : Int32)) else if k = (42 : Int32) then (nar .char (o_f3 (((((((B (30 : Int32)) &&& (255 : Int32)) <<< ((16 : Int32) &&& 31)) ||| (((B (31 : Int32)) &&& (255 : Int32)) <<< ((8 : Int32) &&& 31))).toUInt32 >>> ((6 : Int32) &&& 31).toUInt32).toInt32) &&& (63 : Int32)))) else if k = (41 : Int32) then (nar .char (o_f3 (((((((B (30 : Int32)) &&& (255 : Int32)) <<< ((16 : Int32) &&& 31)) ||| (((B (31 : Int32)) &&& (255 : Int32)) <<< ((8 : Int32) &&& 31))).toUInt32 >>> ((12 : Int32) &&& 31).toUInt32).toInt32) &&& (63 : Int32)))) else if k = (40 : Int32) then (nar .char (o_f3 ((((((B (30 : Int32)) &&& (255 : Int32)) <<< ((16 : Int32) &&& 31)) ||| (((B (31 : Int32)) &&& (255 : Int32)) <<< ((8 : Int32) &&& 31))).toUInt32 >>> ((18 : Int32) &&& 31).toUInt32).toInt32))) else G k
theorem o_nej {j : Int32} {z : Int} {k : Int32} (hk : k.toInt = z) (h : j.toInt < z) : ¬ j = k := fun q => by rw [q] at h; omega
theorem o_md0 {B G : Int32 → Int32} (hB : o_By B) (h : o_Enc B 5 G) : o_Md0 B (o_b8 (o_tail0 B G)) ∧ (o_C255 G → o_C255 (o_tail0 B G)) := by
 have m := o_m255 (B 15)
 obtain ⟨a, b, -, -⟩ := o_sext (v := ((B (15 : Int32)) &&& (255 : Int32)) <<< ((16 : Int32) &&& 31)) _ (o_pack1 (by omega)) (by omega)
 refine ⟨⟨hB, o_spOf (by decide) h fun j h1 h2 => ?_, ?_, ?_, ?_, ?_⟩, fun hc j => ?_⟩
 ·show (if j = _ then _ else if j = _ then _ else if j = _ then _ else if j = _ then _ else G j) = G j
  rw [if_neg (o_nej (z := 23) rfl (by omega)), if_neg (o_nej (z := 22) rfl (by omega)), if_neg (o_nej (z := 21) rfl (by omega)), if_neg (o_nej (z := 20) rfl (by omega))]
 ·have q := (o_isB a).1
  refine Eq.trans ?_ (q.trans (by omega))
  rfl
 ·have q := (o_isB b).1
  refine Eq.trans ?_ (q.trans (by omega))
  rfl
 ·rfl
 ·rfl
 ·show ¬ (255 : Int32) < (if j = _ then _ else if j = _ then _ else if j = _ then _ else if j = _ then _ else G j)
  split
  ·decide
  ·split
   ·decide
   ·split
    ·exact o_isLe b
    ·split
     ·exact o_isLe a
     ·exact hc j
theorem o_md1 {B G : Int32 → Int32} (hB : o_By B) (h : o_Enc B 10 G) : o_Md1 B (o_b8 (o_tail1 B G)) ∧ (o_C255 G → o_C255 (o_tail1 B G)) := by
 have m := o_m255 (B 30)
 have n := o_m255 (B 31)
 obtain ⟨a, b, c, -⟩ := o_sext (v := (((B (30 : Int32)) &&& (255 : Int32)) <<< ((16 : Int32) &&& 31)) ||| (((B (31 : Int32)) &&& (255 : Int32)) <<< ((8 : Int32) &&& 31))) _ (o_pack2 (by omega) (by omega)) (by omega)
 refine ⟨⟨hB, o_spOf (by decide) h fun j h1 h2 => ?_, ?_, ?_, ?_, ?_, ?_⟩, fun hc j => ?_⟩
 ·show (if j = _ then _ else if j = _ then _ else if j = _ then _ else if j = _ then _ else G j) = G j
  rw [if_neg (o_nej (z := 43) rfl (by omega)), if_neg (o_nej (z := 42) rfl (by omega)), if_neg (o_nej (z := 41) rfl (by omega)), if_neg (o_nej (z := 40) rfl (by omega))]
 ·have q := (o_isB a).1
  refine Eq.trans ?_ (q.trans (by omega))
  rfl
 ·have q := (o_isB b).1
  refine Eq.trans ?_ (q.trans (by omega))
  rfl
 ·have q := (o_isB c).1
  refine Eq.trans ?_ (q.trans (by omega))
  rfl
 ·rfl
 ·exact (o_isB c).2
 ·show ¬ (255 : Int32) < (if j = _ then _ else if j = _ then _ else if j = _ then _ else if j = _ then _ else G j)
  split
  ·decide
  ·split
   ·exact o_isLe c
   ·split
    ·exact o_isLe b
    ·split
     ·exact o_isLe a
     ·exact hc j
theorem o_md2 {B G : Int32 → Int32} (hB : o_By B) (h : o_Enc B 16 G) : o_Md2 B (o_b8 G) := by
 refine ⟨hB, o_spOf (by decide) h fun _ _ _ => rfl, ?_⟩
 obtain ⟨-, -, -, f⟩ := h 15 (by decide) 60 45 (by decide) (by decide)
 exact (o_isB f).2
theorem o_blk0 {B S : Int32 → Int32} (h : o_Md0 B S) : o_Blk B S 5 24 16 15 := by
 refine ⟨h.1, h.2.1, Or.inr ⟨by decide, fun i hi => ?_⟩, by decide, by decide, by decide⟩
 have : i = 20 := o_ext hi
 subst this
 rw [show (((20 : Int32) + (1 : Int32)) + (1 : Int32)) + (1 : Int32) = 23 from by decide, h.2.2.2.2.2]
 decide
theorem o_blk1 {B S : Int32 → Int32} (h : o_Md1 B S) : o_Blk B S 10 44 32 30 := by
 refine ⟨h.1, h.2.1, Or.inr ⟨by decide, fun i hi => ?_⟩, by decide, by decide, by decide⟩
 have : i = 40 := o_ext hi
 subst this
 rw [show (((40 : Int32) + (1 : Int32)) + (1 : Int32)) + (1 : Int32) = 43 from by decide, h.2.2.2.2.2.1]
 decide
theorem o_blk2 {B S : Int32 → Int32} (h : o_Md2 B S) : o_Blk B S 16 64 48 48 := ⟨h.1, h.2.1, Or.inl (by decide), by decide, by decide, by decide⟩
/- bytes back -/
theorem o_byR {x : Int32} (h : fits .byte (.int x) = true) : -128 ≤ x.toInt ∧ x.toInt ≤ 127 := by
 simp only [fits, Bool.and_eq_true, decide_eq_true_eq, Int32.le_iff_toInt_le] at h
 rw [show (-128 : Int32).toInt = -128 from by decide, show (127 : Int32).toInt = 127 from by decide] at h
 exact h
theorem o_back {x y : Int32} (hx : fits .byte (.int x) = true) (h : y.toInt % 256 = (x &&& (255 : Int32)).toInt) : nar .byte (y.toInt8.toInt32) = x := by
 have a := o_byR hx
 have b := o_m255 x
 have c := c_i2b y
 have d := c_i2b (y.toInt8.toInt32)
 apply o_ext
 show ((y.toInt8.toInt32).toInt8.toInt32).toInt = _
 omega
theorem o_unpack {a b c d : Int32} (w : Int) (hw : 0 ≤ w ∧ w < 16777216) (ha : a.toInt = w / 262144) (hb : b.toInt = w / 4096 % 64) (hc : c.toInt = w / 64 % 64) (hd : d.toInt = w % 64) : ((((a <<< ((18 : Int32) &&& 31)) ||| (b <<< ((12 : Int32) &&& 31))) ||| (c <<< ((6 : Int32) &&& 31))) ||| d).toInt = w := by
 have e1 := c_ishl a 18 18 (by decide)
 have e2 := c_ishl b 12 12 (by decide)
 have e3 := c_ishl c 6 6 (by decide)
 generalize hA : a <<< ((18 : Int32) &&& 31) = A at *
 generalize hB : b <<< ((12 : Int32) &&& 31) = B at *
 generalize hC : c <<< ((6 : Int32) &&& 31) = D at *
 have l1 := Int32.toInt_lt A; have l2 := Int32.le_toInt A
 have l3 := Int32.toInt_lt B; have l4 := Int32.le_toInt B
 have l5 := Int32.toInt_lt D; have l6 := Int32.le_toInt D
 have f1 : A.toInt = a.toInt * 262144 := by omega
 have f2 : B.toInt = b.toInt * 4096 := by omega
 have f3 : D.toInt = c.toInt * 64 := by omega
 have g1 := c_or A B 18 (by decide) 262144 (by decide) (by omega) (by omega) (by omega)
 have m1 := Int32.toInt_lt (A ||| B); have m2 := Int32.le_toInt (A ||| B)
 have f4 : (A ||| B).toInt = a.toInt * 262144 + b.toInt * 4096 := by omega
 have g2 := c_or (A ||| B) D 12 (by decide) 4096 (by decide) (by omega) (by omega) (by omega)
 have m3 := Int32.toInt_lt ((A ||| B) ||| D); have m4 := Int32.le_toInt ((A ||| B) ||| D)
 have f5 : ((A ||| B) ||| D).toInt = a.toInt * 262144 + b.toInt * 4096 + c.toInt * 64 := by omega
 have g3 := c_or ((A ||| B) ||| D) d 6 (by decide) 64 (by decide) (by omega) (by omega) (by omega)
 have m5 := Int32.toInt_lt (((A ||| B) ||| D) ||| d); have m6 := Int32.le_toInt (((A ||| B) ||| D) ||| d)
 omega
/- the loop of decodeBlock -/
section OwnBl
variable {B S : Int32 → Int32} {e g k : Nat} {m n r i d : Int32}
theorem o_dEnd (hq : o_Blk B S e m n r) (hg : g + 0 = e ∧ i.toInt = 4 * g ∧ d.toInt = 3 * g) : r = d := o_ext (by have := hq.2.2.2.2.1; omega)
theorem o_bA (hg : g + 0 = e ∧ i.toInt = 4 * g ∧ d.toInt = 3 * g) (h : m.toInt = 4 * e) : ¬ i < m := by rw [o_lt]; omega
theorem o_bB (hg : g + 0 = e ∧ i.toInt = 4 * g ∧ d.toInt = 3 * g) (h : m.toInt = 4 * e + 4) : i < m := by rw [o_lt]; omega
theorem o_bS (hq : o_Blk B S e m n r) (hg : g + (k + 1) = e ∧ i.toInt = 4 * g ∧ d.toInt = 3 * g) : i < m := by
 rw [o_lt]
 rcases hq.2.2.1 with h | ⟨h, -⟩ <;> omega
theorem o_bi (hm : i.toInt + 4 ≤ m.toInt ∧ 0 ≤ i.toInt ∧ m.toInt ≤ 64) : (¬ i < 0 ∧ i < m) ∧ (¬ (i + (1 : Int32)) < 0 ∧ (i + (1 : Int32)) < m) ∧ (¬ ((i + (1 : Int32)) + (1 : Int32)) < 0 ∧ ((i + (1 : Int32)) + (1 : Int32)) < m) ∧ (¬ (((i + (1 : Int32)) + (1 : Int32)) + (1 : Int32)) < 0 ∧ (((i + (1 : Int32)) + (1 : Int32)) + (1 : Int32)) < m) := by
 have i1 := o_adk (x := i) 1 1 rfl (by omega) (by omega)
 have i2 := o_adk (x := i + (1 : Int32)) 1 1 rfl (by omega) (by omega)
 have i3 := o_adk (x := (i + (1 : Int32)) + (1 : Int32)) 1 1 rfl (by omega) (by omega)
 exact ⟨o_bd (by omega), o_bd (by omega), o_bd (by omega), o_bd (by omega)⟩
theorem o_bm (hq : o_Blk B S e m n r) (hm : m = 24 ∨ m = 44 ∨ m = 64) (hg : g + (k + 1) = e ∧ i.toInt = 4 * g ∧ d.toInt = 3 * g) : i.toInt + 4 ≤ m.toInt ∧ 0 ≤ i.toInt ∧ m.toInt ≤ 64 := by
 have : m.toInt ≤ 64 := by rcases hm with rfl | rfl | rfl <;> decide
 rcases hq.2.2.1 with h | ⟨h, -⟩ <;> omega
theorem o_bmB (hm : m = 24 ∨ m = 44 ∨ m = 64) (hg : g + 0 = e ∧ i.toInt = 4 * g ∧ d.toInt = 3 * g) (h : m.toInt = 4 * e + 4) : i.toInt + 4 ≤ m.toInt ∧ 0 ≤ i.toInt ∧ m.toInt ≤ 64 := by
 have : m.toInt ≤ 64 := by rcases hm with rfl | rfl | rfl <;> decide
 omega
theorem o_bd0 (hq : o_Blk B S e m n r) (hg : g + (k + 1) = e ∧ i.toInt = 4 * g ∧ d.toInt = 3 * g) : (¬ d < 0 ∧ d < n) ∧ (¬ (d + (1 : Int32)) < 0 ∧ (d + (1 : Int32)) < n) ∧ (¬ ((d + (1 : Int32)) + (1 : Int32)) < 0 ∧ ((d + (1 : Int32)) + (1 : Int32)) < n) := by
 have h1 := hq.2.2.2.1
 have h2 := hq.2.2.2.2.2
 have i1 := o_adk (x := d) 1 1 rfl (by omega) (by omega)
 have i2 := o_adk (x := d + (1 : Int32)) 1 1 rfl (by omega) (by omega)
 exact ⟨o_bd (by omega), o_bd (by omega), o_bd (by omega)⟩
theorem o_bN {b1 b2 b3 b4 : Int32} (q4 : b4 = o_b64 (S (((i + (1 : Int32)) + (1 : Int32)) + (1 : Int32)) &&& (255 : Int32))) (hn : o_Ng S e) (hi : i.toInt = 4 * e) : (((b1 ||| b2) ||| b3) ||| b4) < (0 : Int32) := by
 have h := hn i hi
 rw [← q4] at h
 rw [o_lt, show (0 : Int32).toInt = 0 from rfl]
 exact (c_orS ((b1 ||| b2) ||| b3) b4).2.2 h
theorem o_bP {b1 b2 b3 b4 : Int32} (q1 : b1 = o_b64 (S i &&& (255 : Int32))) (q2 : b2 = o_b64 (S (i + (1 : Int32)) &&& (255 : Int32))) (q3 : b3 = o_b64 (S ((i + (1 : Int32)) + (1 : Int32)) &&& (255 : Int32))) (q4 : b4 = o_b64 (S (((i + (1 : Int32)) + (1 : Int32)) + (1 : Int32)) &&& (255 : Int32))) (hq : o_Blk B S e m n r) (hg : g + (k + 1) = e ∧ i.toInt = 4 * g ∧ d.toInt = 3 * g) : b1.toInt = o_w B d / 262144 ∧ b2.toInt = o_w B d / 4096 % 64 ∧ b3.toInt = o_w B d / 64 % 64 ∧ b4.toInt = o_w B d % 64 := by
 rw [q1, q2, q3, q4]
 exact hq.2.1 g (by omega) i d hg.2.1 hg.2.2
theorem o_bQ {b1 b2 b3 b4 : Int32} (h : b1.toInt = o_w B d / 262144 ∧ b2.toInt = o_w B d / 4096 % 64 ∧ b3.toInt = o_w B d / 64 % 64 ∧ b4.toInt = o_w B d % 64) : ¬ ((((b1 ||| b2) ||| b3) ||| b4) < (0 : Int32)) := by
 have w := o_wB B d
 rw [o_lt, show (0 : Int32).toInt = 0 from rfl]
 have h1 := (c_orS b1 b2).1 (by omega) (by omega)
 have h2 := (c_orS (b1 ||| b2) b3).1 h1 (by omega)
 have h3 := (c_orS ((b1 ||| b2) ||| b3) b4).1 h2 (by omega)
 omega
theorem o_bG (hq : o_Blk B S e m n r) (hg : g + (k + 1) = e ∧ i.toInt = 4 * g ∧ d.toInt = 3 * g) : (g + 1) + k = e ∧ ((((i + (1 : Int32)) + (1 : Int32)) + (1 : Int32)) + (1 : Int32)).toInt = 4 * (g + 1 : Nat) ∧ (((d + (1 : Int32)) + (1 : Int32)) + (1 : Int32)).toInt = 3 * (g + 1 : Nat) := by
 have h2 := hq.2.2.2.2.2
 have i1 := o_adk (x := i) 1 1 rfl (by omega) (by omega)
 have i2 := o_adk (x := i + (1 : Int32)) 1 1 rfl (by omega) (by omega)
 have i3 := o_adk (x := (i + (1 : Int32)) + (1 : Int32)) 1 1 rfl (by omega) (by omega)
 have i4 := o_adk (x := ((i + (1 : Int32)) + (1 : Int32)) + (1 : Int32)) 1 1 rfl (by omega) (by omega)
 have d1 := o_adk (x := d) 1 1 rfl (by omega) (by omega)
 have d2 := o_adk (x := d + (1 : Int32)) 1 1 rfl (by omega) (by omega)
 have d3 := o_adk (x := (d + (1 : Int32)) + (1 : Int32)) 1 1 rfl (by omega) (by omega)
 omega
theorem o_bC {v : Int32} (hv : v.toInt = o_w B d) (hq : o_Blk B S e m n r) (hg : g + (k + 1) = e ∧ i.toInt = 4 * g ∧ d.toInt = 3 * g) (j : Int32) (h1 : ¬ j < 0) : (if j = ((d + (1 : Int32)) + (1 : Int32)) then nar .byte (v.toInt8.toInt32) else if j = (d + (1 : Int32)) then nar .byte ((v >>> ((8 : Int32) &&& 31)).toInt8.toInt32) else if j = d then nar .byte ((v >>> ((16 : Int32) &&& 31)).toInt8.toInt32) else o_cut d B j) = o_cut (((d + (1 : Int32)) + (1 : Int32)) + (1 : Int32)) B j := by
 have h2 := hq.2.2.2.2.2
 have hB := hq.1
 have d1 := o_adk (x := d) 1 1 rfl (by omega) (by omega)
 have d2 := o_adk (x := d + (1 : Int32)) 1 1 rfl (by omega) (by omega)
 have d3 := o_adk (x := (d + (1 : Int32)) + (1 : Int32)) 1 1 rfl (by omega) (by omega)
 have dd := o_adk (x := d) 2 2 rfl (by omega) (by omega)
 have e2 : d + (2 : Int32) = (d + (1 : Int32)) + (1 : Int32) := o_ext (by omega)
 have m1 := o_m255 (B d)
 have m2 := o_m255 (B (d + (1 : Int32)))
 have m3 := o_m255 (B ((d + (1 : Int32)) + (1 : Int32)))
 have w : o_w B d = (B d &&& (255 : Int32)).toInt * 65536 + (B (d + (1 : Int32)) &&& (255 : Int32)).toInt * 256 + (B ((d + (1 : Int32)) + (1 : Int32)) &&& (255 : Int32)).toInt := by unfold o_w; rw [e2]
 have s8 := c_ishr v 8 8 (by decide)
 have s16 := c_ishr v 16 16 (by decide)
 have cut : ∀ z : Int32, z.toInt ≤ d.toInt + 2 → o_cut (((d + (1 : Int32)) + (1 : Int32)) + (1 : Int32)) B z = B z := fun z hz => by
  unfold o_cut; rw [if_pos]; rw [o_lt]; omega
 split
 ·next q => subst q; rw [cut _ (by omega)]; exact o_back (hB _) (by omega)
 ·split
  ·next q => subst q; rw [cut _ (by omega)]; exact o_back (hB _) (by omega)
  ·split
   ·next q => subst q; rw [cut _ (by omega)]; exact o_back (hB _) (by omega)
   ·next q1 q2 q3 =>
    unfold o_cut
    have u1 : j.toInt ≠ d.toInt := fun z => q3 (o_ext z)
    have u2 : j.toInt ≠ (d + (1 : Int32)).toInt := fun z => q2 (o_ext z)
    have u3 : j.toInt ≠ ((d + (1 : Int32)) + (1 : Int32)).toInt := fun z => q1 (o_ext z)
    by_cases c : j < d
    ·rw [if_pos c, if_pos]; rw [o_lt] at c ⊢; omega
    ·rw [if_neg c, if_neg]; rw [o_lt] at c ⊢; omega
end OwnBl
theorem o_sl0 {m : Int32} (hm : m = 24 ∨ m = 44 ∨ m = 64) : ((0 : Int32) + ((m - (0 : Int32)) &&& (-4 : Int32))) = m := by rcases hm with rfl | rfl | rfl <;> decide
/- decode0's tails -/
theorem o_tl0 {B S : Int32 → Int32} (h : o_Md0 B S) (j : Int32) (h1 : ¬ j < 0) (h2 : j < (16 : Int32)) : (if j = (15 : Int32) then nar .byte ((((((0 : Int32) ||| ((o_b64 (S (20 : Int32) &&& (255 : Int32))) <<< ((18 : Int32) &&& 31))) ||| ((o_b64 (S (21 : Int32) &&& (255 : Int32))) <<< ((12 : Int32) &&& 31))) >>> ((16 : Int32) &&& 31)).toInt8.toInt32)) else o_cut (15 : Int32) B j) = B j := by
 obtain ⟨hB, -, ha, hb, -, -⟩ := h
 have m := o_m255 (B 15)
 generalize o_b64 (S (20 : Int32) &&& (255 : Int32)) = a at *
 generalize o_b64 (S (21 : Int32) &&& (255 : Int32)) = b at *
 split
 ·next q =>
  subst q
  have e1 := c_ishl a 18 18 (by decide)
  have e2 := c_ishl b 12 12 (by decide)
  rw [Int32.zero_or]
  generalize a <<< ((18 : Int32) &&& 31) = A at *
  generalize b <<< ((12 : Int32) &&& 31) = D at *
  have l1 := Int32.toInt_lt A; have l2 := Int32.le_toInt A
  have l3 := Int32.toInt_lt D; have l4 := Int32.le_toInt D
  have f1 : A.toInt = a.toInt * 262144 := by omega
  have f2 : D.toInt = b.toInt * 4096 := by omega
  have g1 := c_or A D 18 (by decide) 262144 (by decide) (by omega) (by omega) (by omega)
  have m1 := Int32.toInt_lt (A ||| D); have m2 := Int32.le_toInt (A ||| D)
  have s := c_ishr (A ||| D) 16 16 (by decide)
  exact o_back (hB _) (by omega)
 ·next q =>
  unfold o_cut
  rw [if_pos]
  rw [o_lt, show (15 : Int32).toInt = 15 from rfl]
  rw [o_lt, show (16 : Int32).toInt = 16 from rfl] at h2
  have : j.toInt ≠ 15 := fun z => q (o_ext z)
  omega
theorem o_tl1 {B S : Int32 → Int32} (h : o_Md1 B S) (j : Int32) (h1 : ¬ j < 0) (h2 : j < (32 : Int32)) : (if j = (31 : Int32) then nar .byte (((((((0 : Int32) ||| ((o_b64 (S (40 : Int32) &&& (255 : Int32))) <<< ((18 : Int32) &&& 31))) ||| ((o_b64 (S (41 : Int32) &&& (255 : Int32))) <<< ((12 : Int32) &&& 31))) ||| ((o_b64 (S (42 : Int32) &&& (255 : Int32))) <<< ((6 : Int32) &&& 31))) >>> ((8 : Int32) &&& 31)).toInt8.toInt32)) else if j = (30 : Int32) then nar .byte (((((((0 : Int32) ||| ((o_b64 (S (40 : Int32) &&& (255 : Int32))) <<< ((18 : Int32) &&& 31))) ||| ((o_b64 (S (41 : Int32) &&& (255 : Int32))) <<< ((12 : Int32) &&& 31))) ||| ((o_b64 (S (42 : Int32) &&& (255 : Int32))) <<< ((6 : Int32) &&& 31))) >>> ((16 : Int32) &&& 31)).toInt8.toInt32)) else o_cut (30 : Int32) B j) = B j := by
 obtain ⟨hB, -, ha, hb, hc, -, -⟩ := h
 have m := o_m255 (B 30)
 have n := o_m255 (B 31)
 generalize o_b64 (S (40 : Int32) &&& (255 : Int32)) = a at *
 generalize o_b64 (S (41 : Int32) &&& (255 : Int32)) = b at *
 generalize o_b64 (S (42 : Int32) &&& (255 : Int32)) = c at *
 have e1 := c_ishl a 18 18 (by decide)
 have e2 := c_ishl b 12 12 (by decide)
 have e3 := c_ishl c 6 6 (by decide)
 rw [Int32.zero_or]
 generalize a <<< ((18 : Int32) &&& 31) = A at *
 generalize b <<< ((12 : Int32) &&& 31) = D at *
 generalize c <<< ((6 : Int32) &&& 31) = E at *
 have l1 := Int32.toInt_lt A; have l2 := Int32.le_toInt A
 have l3 := Int32.toInt_lt D; have l4 := Int32.le_toInt D
 have l5 := Int32.toInt_lt E; have l6 := Int32.le_toInt E
 have f1 : A.toInt = a.toInt * 262144 := by omega
 have f2 : D.toInt = b.toInt * 4096 := by omega
 have f3 : E.toInt = c.toInt * 64 := by omega
 have g1 := c_or A D 18 (by decide) 262144 (by decide) (by omega) (by omega) (by omega)
 have m1 := Int32.toInt_lt (A ||| D); have m2 := Int32.le_toInt (A ||| D)
 have f4 : (A ||| D).toInt = a.toInt * 262144 + b.toInt * 4096 := by omega
 have g2 := c_or (A ||| D) E 12 (by decide) 4096 (by decide) (by omega) (by omega) (by omega)
 have m3 := Int32.toInt_lt ((A ||| D) ||| E); have m4 := Int32.le_toInt ((A ||| D) ||| E)
 have s := c_ishr ((A ||| D) ||| E) 16 16 (by decide)
 have t := c_ishr ((A ||| D) ||| E) 8 8 (by decide)
 split
 ·next q => subst q; exact o_back (hB _) (by omega)
 ·split
  ·next q => subst q; exact o_back (hB _) (by omega)
  ·next q1 q2 =>
   unfold o_cut
   rw [if_pos]
   rw [o_lt, show (30 : Int32).toInt = 30 from rfl]
   rw [o_lt, show (32 : Int32).toInt = 32 from rfl] at h2
   have u1 : j.toInt ≠ 31 := fun z => q1 (o_ext z)
   have u2 : j.toInt ≠ 30 := fun z => q2 (o_ext z)
   omega
theorem o_tl2 {B : Int32 → Int32} (j : Int32) (h1 : ¬ j < 0) (h2 : j < (48 : Int32)) : o_cut (48 : Int32) B j = B j := by unfold o_cut; rw [if_pos h2]
/- put and get -/
theorem o_nb {x : Int32} {z : Int} (h : x.toInt % 256 = z % 256) : ((nar .byte (x.toInt8.toInt32)) &&& (255 : Int32)).toInt = z % 256 := by
 have a := o_m255 (nar .byte (x.toInt8.toInt32))
 have c := c_i2b x
 have d := c_i2b (x.toInt8.toInt32)
 have e : (nar .byte (x.toInt8.toInt32)).toInt = ((x.toInt8.toInt32).toInt8.toInt32).toInt := rfl
 omega
theorem o_pb (y : Int64) (q : Int32) (k : Nat) (hk : q.toBitVec.toNat % 64 = k) (h0 : 0 < k) : ((nar .byte ((((y.toUInt64 >>> (q &&& 0x3f).toInt64.toUInt64).toInt64).toInt32).toInt8.toInt32)) &&& (255 : Int32)).toInt = (y.toInt % 18446744073709551616) / (2 ^ k : Nat) % 256 := by
 apply o_nb
 have a := c_lushr y q k hk h0
 have b := c_l2i ((y.toUInt64 >>> (q &&& 0x3f).toInt64.toUInt64).toInt64)
 omega
theorem o_pb0 (y : Int64) : ((nar .byte ((y.toInt32).toInt8.toInt32)) &&& (255 : Int32)).toInt = (y.toInt % 18446744073709551616) % 256 := by
 apply o_nb
 have b := c_l2i y
 omega
theorem o_sh8 {b : Int32} {q : Int32} (k : Nat) (hk : q.toBitVec.toNat % 64 = k) : ((((b &&& (255 : Int32)).toInt64) <<< (q &&& 0x3f).toInt64).toInt - (b &&& (255 : Int32)).toInt * (2 ^ k : Nat)) % 18446744073709551616 = 0 := by
 have h := c_lshl ((b &&& (255 : Int32)).toInt64) q k hk
 rw [c_i2l] at h
 exact h
theorem o_or8 {a b : Int64} (k : Nat) (hk : k ≤ 63) (P x z : Int) (hP : P = (2 ^ k : Nat)) (hx : (a.toInt - x) % 18446744073709551616 = 0) (hxP : x % P = 0) (hP2 : 18446744073709551616 % P = 0) (hz : (b.toInt - z) % 18446744073709551616 = 0) (h0 : 0 ≤ z ∧ z < P) (hPb : P ≤ 9223372036854775808) : ((a ||| b).toInt - (x + z)) % 18446744073709551616 = 0 := by
 have l1 := Int64.toInt_lt b; have l2 := Int64.le_toInt b
 have hb : b.toInt = z := by omega
 have ha : a.toInt % P = 0 := by
  have : a.toInt = (a.toInt - x) + x := by omega
  rw [this, Int.add_emod, hxP]
  have d : (a.toInt - x) % P = 0 := by
   have e1 : P ∣ 18446744073709551616 := Int.dvd_of_emod_eq_zero hP2
   have e2 : (18446744073709551616 : Int) ∣ (a.toInt - x) := Int.dvd_of_emod_eq_zero hx
   exact Int.emod_eq_zero_of_dvd (Int.dvd_trans e1 e2)
  rw [d]; simp
 have h := c_orL a b k hk P hP ha (by omega) (by omega)
 omega
set_option maxHeartbeats 4000000 in
theorem o_get8 {y : Int64} {b0 b1 b2 b3 b4 b5 b6 b7 : Int32} (h0 : (b0 &&& (255 : Int32)).toInt = (y.toInt % 18446744073709551616) / (2 ^ 56 : Nat) % 256) (h1 : (b1 &&& (255 : Int32)).toInt = (y.toInt % 18446744073709551616) / (2 ^ 48 : Nat) % 256) (h2 : (b2 &&& (255 : Int32)).toInt = (y.toInt % 18446744073709551616) / (2 ^ 40 : Nat) % 256) (h3 : (b3 &&& (255 : Int32)).toInt = (y.toInt % 18446744073709551616) / (2 ^ 32 : Nat) % 256) (h4 : (b4 &&& (255 : Int32)).toInt = (y.toInt % 18446744073709551616) / (2 ^ 24 : Nat) % 256) (h5 : (b5 &&& (255 : Int32)).toInt = (y.toInt % 18446744073709551616) / (2 ^ 16 : Nat) % 256) (h6 : (b6 &&& (255 : Int32)).toInt = (y.toInt % 18446744073709551616) / (2 ^ 8 : Nat) % 256) (h7 : (b7 &&& (255 : Int32)).toInt = (y.toInt % 18446744073709551616) % 256) :
  ((((((((((b0 &&& (255 : Int32)).toInt64) <<< ((56 : Int32) &&& 0x3f).toInt64) ||| (((b1 &&& (255 : Int32)).toInt64) <<< ((48 : Int32) &&& 0x3f).toInt64)) ||| (((b2 &&& (255 : Int32)).toInt64) <<< ((40 : Int32) &&& 0x3f).toInt64)) ||| (((b3 &&& (255 : Int32)).toInt64) <<< ((32 : Int32) &&& 0x3f).toInt64)) ||| (((b4 &&& (255 : Int32)).toInt64) <<< ((24 : Int32) &&& 0x3f).toInt64)) ||| (((b5 &&& (255 : Int32)).toInt64) <<< ((16 : Int32) &&& 0x3f).toInt64)) ||| (((b6 &&& (255 : Int32)).toInt64) <<< ((8 : Int32) &&& 0x3f).toInt64)) ||| ((b7 &&& (255 : Int32)).toInt64)) = y := by
 have s0 := o_sh8 (b := b0) (q := 56) 56 (by decide)
 have s1 := o_sh8 (b := b1) (q := 48) 48 (by decide)
 have s2 := o_sh8 (b := b2) (q := 40) 40 (by decide)
 have s3 := o_sh8 (b := b3) (q := 32) 32 (by decide)
 have s4 := o_sh8 (b := b4) (q := 24) 24 (by decide)
 have s5 := o_sh8 (b := b5) (q := 16) 16 (by decide)
 have s6 := o_sh8 (b := b6) (q := 8) 8 (by decide)
 have s7 : (((b7 &&& (255 : Int32)).toInt64).toInt - (b7 &&& (255 : Int32)).toInt) % 18446744073709551616 = 0 := by rw [c_i2l]; omega
 have m0 := o_m255 b0; have m1 := o_m255 b1; have m2 := o_m255 b2; have m3 := o_m255 b3
 have m4 := o_m255 b4; have m5 := o_m255 b5; have m6 := o_m255 b6; have m7 := o_m255 b7
 generalize ((b0 &&& (255 : Int32)).toInt64) <<< ((56 : Int32) &&& 0x3f).toInt64 = a0 at *
 generalize ((b1 &&& (255 : Int32)).toInt64) <<< ((48 : Int32) &&& 0x3f).toInt64 = a1 at *
 generalize ((b2 &&& (255 : Int32)).toInt64) <<< ((40 : Int32) &&& 0x3f).toInt64 = a2 at *
 generalize ((b3 &&& (255 : Int32)).toInt64) <<< ((32 : Int32) &&& 0x3f).toInt64 = a3 at *
 generalize ((b4 &&& (255 : Int32)).toInt64) <<< ((24 : Int32) &&& 0x3f).toInt64 = a4 at *
 generalize ((b5 &&& (255 : Int32)).toInt64) <<< ((16 : Int32) &&& 0x3f).toInt64 = a5 at *
 generalize ((b6 &&& (255 : Int32)).toInt64) <<< ((8 : Int32) &&& 0x3f).toInt64 = a6 at *
 generalize ((b7 &&& (255 : Int32)).toInt64) = a7 at *
 generalize (b0 &&& (255 : Int32)).toInt = c0 at *
 generalize (b1 &&& (255 : Int32)).toInt = c1 at *
 generalize (b2 &&& (255 : Int32)).toInt = c2 at *
 generalize (b3 &&& (255 : Int32)).toInt = c3 at *
 generalize (b4 &&& (255 : Int32)).toInt = c4 at *
 generalize (b5 &&& (255 : Int32)).toInt = c5 at *
 generalize (b6 &&& (255 : Int32)).toInt = c6 at *
 generalize (b7 &&& (255 : Int32)).toInt = c7 at *
 have t1 := o_or8 56 (by decide) 72057594037927936 (c0 * (2 ^ 56 : Nat)) (c1 * (2 ^ 48 : Nat)) (by decide) s0 (by omega) (by decide) s1 (by omega) (by decide)
 have t2 := o_or8 48 (by decide) 281474976710656 (c0 * (2 ^ 56 : Nat) + c1 * (2 ^ 48 : Nat)) (c2 * (2 ^ 40 : Nat)) (by decide) t1 (by omega) (by decide) s2 (by omega) (by decide)
 have t3 := o_or8 40 (by decide) 1099511627776 (c0 * (2 ^ 56 : Nat) + c1 * (2 ^ 48 : Nat) + c2 * (2 ^ 40 : Nat)) (c3 * (2 ^ 32 : Nat)) (by decide) t2 (by omega) (by decide) s3 (by omega) (by decide)
 have t4 := o_or8 32 (by decide) 4294967296 (c0 * (2 ^ 56 : Nat) + c1 * (2 ^ 48 : Nat) + c2 * (2 ^ 40 : Nat) + c3 * (2 ^ 32 : Nat)) (c4 * (2 ^ 24 : Nat)) (by decide) t3 (by omega) (by decide) s4 (by omega) (by decide)
 have t5 := o_or8 24 (by decide) 16777216 (c0 * (2 ^ 56 : Nat) + c1 * (2 ^ 48 : Nat) + c2 * (2 ^ 40 : Nat) + c3 * (2 ^ 32 : Nat) + c4 * (2 ^ 24 : Nat)) (c5 * (2 ^ 16 : Nat)) (by decide) t4 (by omega) (by decide) s5 (by omega) (by decide)
 have t6 := o_or8 16 (by decide) 65536 (c0 * (2 ^ 56 : Nat) + c1 * (2 ^ 48 : Nat) + c2 * (2 ^ 40 : Nat) + c3 * (2 ^ 32 : Nat) + c4 * (2 ^ 24 : Nat) + c5 * (2 ^ 16 : Nat)) (c6 * (2 ^ 8 : Nat)) (by decide) t5 (by omega) (by decide) s6 (by omega) (by decide)
 have t7 := o_or8 8 (by decide) 256 (c0 * (2 ^ 56 : Nat) + c1 * (2 ^ 48 : Nat) + c2 * (2 ^ 40 : Nat) + c3 * (2 ^ 32 : Nat) + c4 * (2 ^ 24 : Nat) + c5 * (2 ^ 16 : Nat) + c6 * (2 ^ 8 : Nat)) c7 (by decide) t6 (by omega) (by decide) s7 (by omega) (by decide)
 generalize ((((((a0 ||| a1) ||| a2) ||| a3) ||| a4) ||| a5) ||| a6) ||| a7 = r at *
 have r1 := Int64.toInt_lt r; have r2 := Int64.le_toInt r
 have y1 := Int64.toInt_lt y; have y2 := Int64.le_toInt y
 apply Int64.toInt_inj.mp
 have hS : c0 * (2 ^ 56 : Nat) + c1 * (2 ^ 48 : Nat) + c2 * (2 ^ 40 : Nat) + c3 * (2 ^ 32 : Nat) + c4 * (2 ^ 24 : Nat) + c5 * (2 ^ 16 : Nat) + c6 * (2 ^ 8 : Nat) + c7 = y.toInt % 18446744073709551616 := by
  have b1 := Int.emod_nonneg y.toInt (show (18446744073709551616 : Int) ≠ 0 by decide)
  have b2 := Int.emod_lt_of_pos y.toInt (show (0 : Int) < 18446744073709551616 by decide)
  clear t1 t2 t3 t4 t5 t6 t7 s0 s1 s2 s3 s4 s5 s6 s7 m0 m1 m2 m3 m4 m5 m6 m7
  generalize y.toInt % 18446744073709551616 = w at *
  rw [h0, h1, h2, h3, h4, h5, h6, h7]
  omega
 rw [hS] at t7
 clear t1 t2 t3 t4 t5 t6 s0 s1 s2 s3 s4 s5 s6 s7 m0 m1 m2 m3 m4 m5 m6 m7 h0 h1 h2 h3 h4 h5 h6 h7 hS
 omega
theorem o_ne8 {x : Int32} (hx : 0 ≤ x.toInt ∧ x.toInt < 1000) (a b : Int32) (ha : 0 ≤ a.toInt ∧ a.toInt < 8) (hb : 0 ≤ b.toInt ∧ b.toInt < 8) (h : a.toInt ≠ b.toInt) : ¬ x + a = x + b := fun q => by
 have e := o_ad (x := x) (k := a) (by omega) (by omega)
 have f := o_ad (x := x) (k := b) (by omega) (by omega)
 rw [q] at e
 omega
theorem o_ne80 {x : Int32} (hx : 0 ≤ x.toInt ∧ x.toInt < 1000) (b : Int32) (hb : 0 < b.toInt ∧ b.toInt < 8) : ¬ x = x + b := fun q => by
 have f := o_ad (x := x) (k := b) (by omega) (by omega)
 rw [← q] at f
 omega
theorem o_gp {x : Int32} {y : Int64} {F : Int32 → Int32} (hx : 0 ≤ x.toInt ∧ x.toInt < 1000) : o_f22 x (o_G1_8 x y F) = y := by
 have v0 : o_G1_8 x y F x = nar .byte ((((y.toUInt64 >>> ((56 : Int32) &&& 0x3f).toInt64.toUInt64).toInt64).toInt32).toInt8.toInt32) := by
  show (if x = _ then _ else if x = _ then _ else if x = _ then _ else if x = _ then _ else if x = _ then _ else if x = _ then _ else if x = _ then _ else if x = _ then _ else F x) = _
  rw [if_neg (o_ne80 hx 7 (by decide)), if_neg (o_ne80 hx 6 (by decide)), if_neg (o_ne80 hx 5 (by decide)), if_neg (o_ne80 hx 4 (by decide)), if_neg (o_ne80 hx 3 (by decide)), if_neg (o_ne80 hx 2 (by decide)), if_neg (o_ne80 hx 1 (by decide)), if_pos rfl]
 have v1 : o_G1_8 x y F (x + (1 : Int32)) = nar .byte ((((y.toUInt64 >>> ((48 : Int32) &&& 0x3f).toInt64.toUInt64).toInt64).toInt32).toInt8.toInt32) := by
  show (if x + (1 : Int32) = _ then _ else if x + (1 : Int32) = _ then _ else if x + (1 : Int32) = _ then _ else if x + (1 : Int32) = _ then _ else if x + (1 : Int32) = _ then _ else if x + (1 : Int32) = _ then _ else if x + (1 : Int32) = _ then _ else _) = _
  rw [if_neg (o_ne8 hx 1 7 (by decide) (by decide) (by decide)), if_neg (o_ne8 hx 1 6 (by decide) (by decide) (by decide)), if_neg (o_ne8 hx 1 5 (by decide) (by decide) (by decide)), if_neg (o_ne8 hx 1 4 (by decide) (by decide) (by decide)), if_neg (o_ne8 hx 1 3 (by decide) (by decide) (by decide)), if_neg (o_ne8 hx 1 2 (by decide) (by decide) (by decide)), if_pos rfl]
 have v2 : o_G1_8 x y F (x + (2 : Int32)) = nar .byte ((((y.toUInt64 >>> ((40 : Int32) &&& 0x3f).toInt64.toUInt64).toInt64).toInt32).toInt8.toInt32) := by
  show (if x + (2 : Int32) = _ then _ else if x + (2 : Int32) = _ then _ else if x + (2 : Int32) = _ then _ else if x + (2 : Int32) = _ then _ else if x + (2 : Int32) = _ then _ else if x + (2 : Int32) = _ then _ else _) = _
  rw [if_neg (o_ne8 hx 2 7 (by decide) (by decide) (by decide)), if_neg (o_ne8 hx 2 6 (by decide) (by decide) (by decide)), if_neg (o_ne8 hx 2 5 (by decide) (by decide) (by decide)), if_neg (o_ne8 hx 2 4 (by decide) (by decide) (by decide)), if_neg (o_ne8 hx 2 3 (by decide) (by decide) (by decide)), if_pos rfl]
 have v3 : o_G1_8 x y F (x + (3 : Int32)) = nar .byte ((((y.toUInt64 >>> ((32 : Int32) &&& 0x3f).toInt64.toUInt64).toInt64).toInt32).toInt8.toInt32) := by
  show (if x + (3 : Int32) = _ then _ else if x + (3 : Int32) = _ then _ else if x + (3 : Int32) = _ then _ else if x + (3 : Int32) = _ then _ else if x + (3 : Int32) = _ then _ else _) = _
  rw [if_neg (o_ne8 hx 3 7 (by decide) (by decide) (by decide)), if_neg (o_ne8 hx 3 6 (by decide) (by decide) (by decide)), if_neg (o_ne8 hx 3 5 (by decide) (by decide) (by decide)), if_neg (o_ne8 hx 3 4 (by decide) (by decide) (by decide)), if_pos rfl]
 have v4 : o_G1_8 x y F (x + (4 : Int32)) = nar .byte ((((y.toUInt64 >>> ((24 : Int32) &&& 0x3f).toInt64.toUInt64).toInt64).toInt32).toInt8.toInt32) := by
  show (if x + (4 : Int32) = _ then _ else if x + (4 : Int32) = _ then _ else if x + (4 : Int32) = _ then _ else if x + (4 : Int32) = _ then _ else _) = _
  rw [if_neg (o_ne8 hx 4 7 (by decide) (by decide) (by decide)), if_neg (o_ne8 hx 4 6 (by decide) (by decide) (by decide)), if_neg (o_ne8 hx 4 5 (by decide) (by decide) (by decide)), if_pos rfl]
 have v5 : o_G1_8 x y F (x + (5 : Int32)) = nar .byte ((((y.toUInt64 >>> ((16 : Int32) &&& 0x3f).toInt64.toUInt64).toInt64).toInt32).toInt8.toInt32) := by
  show (if x + (5 : Int32) = _ then _ else if x + (5 : Int32) = _ then _ else if x + (5 : Int32) = _ then _ else _) = _
  rw [if_neg (o_ne8 hx 5 7 (by decide) (by decide) (by decide)), if_neg (o_ne8 hx 5 6 (by decide) (by decide) (by decide)), if_pos rfl]
 have v6 : o_G1_8 x y F (x + (6 : Int32)) = nar .byte ((((y.toUInt64 >>> ((8 : Int32) &&& 0x3f).toInt64.toUInt64).toInt64).toInt32).toInt8.toInt32) := by
  show (if x + (6 : Int32) = _ then _ else if x + (6 : Int32) = _ then _ else _) = _
  rw [if_neg (o_ne8 hx 6 7 (by decide) (by decide) (by decide)), if_pos rfl]
 have v7 : o_G1_8 x y F (x + (7 : Int32)) = nar .byte ((y.toInt32).toInt8.toInt32) := by
  show (if x + (7 : Int32) = _ then _ else _) = _
  rw [if_pos rfl]
 unfold o_f22
 rw [v0, v1, v2, v3, v4, v5, v6, v7]
 exact o_get8 (o_pb y 56 56 (by decide) (by decide)) (o_pb y 48 48 (by decide) (by decide)) (o_pb y 40 40 (by decide) (by decide)) (o_pb y 32 32 (by decide) (by decide)) (o_pb y 24 24 (by decide) (by decide)) (o_pb y 16 16 (by decide) (by decide)) (o_pb y 8 8 (by decide) (by decide)) (o_pb0 y)
theorem o_G18 {x j : Int32} {y : Int64} {F : Int32 → Int32} (hx : 0 ≤ x.toInt ∧ x.toInt < 1000) (h : j.toInt < x.toInt) : o_G1_8 x y F j = F j := by
 have ne : ∀ k : Int32, 0 ≤ k.toInt ∧ k.toInt < 8 → ¬ j = x + k := fun k hk q => by
  have e := o_ad (x := x) (k := k) (by omega) (by omega)
  rw [q] at h
  omega
 have n0 : ¬ j = x := fun q => by rw [q] at h; omega
 show (if j = _ then _ else if j = _ then _ else if j = _ then _ else if j = _ then _ else if j = _ then _ else if j = _ then _ else if j = _ then _ else if j = _ then _ else F j) = _
 rw [if_neg (ne 7 (by decide)), if_neg (ne 6 (by decide)), if_neg (ne 5 (by decide)), if_neg (ne 4 (by decide)), if_neg (ne 3 (by decide)), if_neg (ne 2 (by decide)), if_neg (ne 1 (by decide)), if_neg n0]
theorem o_gq {x z : Int32} {y : Int64} {F : Int32 → Int32} (hz : 0 ≤ z.toInt ∧ z.toInt < 1000) (hx : 0 ≤ x.toInt ∧ x.toInt + 8 ≤ z.toInt) : o_f22 x (o_G1_8 z y F) = o_f22 x F := by
 have k : ∀ k : Int32, 0 ≤ k.toInt ∧ k.toInt < 8 → o_G1_8 z y F (x + k) = F (x + k) := fun k hk => o_G18 hz (by rw [o_ad (by omega) (by omega)]; omega)
 unfold o_f22
 rw [o_G18 hz (by omega), k 1 (by decide), k 2 (by decide), k 3 (by decide), k 4 (by decide), k 5 (by decide), k 6 (by decide), k 7 (by decide)]
theorem o_by0 : o_By (fun _ => 0) := fun _ => by show fits .byte (.int 0) = true; decide
theorem o_byP {x : Int32} {y : Int64} {F : Int32 → Int32} (h : o_By F) : o_By (o_G1_8 x y F) := by
 have t : ∀ {G : Int32 → Int32} {i z : Int32}, o_By G → o_By (fun k => if k = i then (nar .byte z) else G k) := fun {G i z} hG j => by
  show fits .byte (.int (if j = i then _ else _)) = true
  split
  ·exact fits_nar_byte _
  ·exact hG j
 exact t (t (t (t (t (t (t (t h)))))))
theorem o_by8 (G : Int32 → Int32) : o_By (o_b8 G) := fun j => fits_nar_byte _
theorem o_m3 (x : Int32) : ((x &&& (2147483647 : Int32)) % (3 : Int32)) = 0 ∨ ((x &&& (2147483647 : Int32)) % (3 : Int32)) = 1 ∨ ((x &&& (2147483647 : Int32)) % (3 : Int32)) = 2 := by
 have e : (x &&& 2147483647).toInt = x.toInt % 2 ^ 31 := Jvm.Kit.i32_mask x 2147483647 (k := 31) (by decide) (by decide)
 have q : ((x &&& (2147483647 : Int32)) % (3 : Int32)).toInt = (x &&& 2147483647).toInt.tmod 3 := Int32.toInt_mod _ _
 rw [Int.tmod_eq_emod_of_nonneg (by omega)] at q
 simp only [← Int32.toInt_inj]
 rw [q, show (0 : Int32).toInt = 0 from rfl, show (1 : Int32).toInt = 1 from rfl, show (2 : Int32).toInt = 2 from rfl]
 omega
def o_Q8 (Z : State) (r0 : Addr) (r2 : Addr) (q_m : Int32) (q_G : Int32 → Int32) (q_D : Int32 → Int32) (h0 : Heap) (n0 : Nat) (v : Option Value) (h : Heap) (L : List Loc) : Prop := v = some (.int q_m) ∧ Fr n0 L ∧ Keep h0 h [r2] ∧ o_Tb Z h r2 .byte q_m (o_b8 q_G)
abbrev o_R8 : Room := { frames := 0, cells := 0, slots := 0, locals := 0 }
section OwnC8
variable {i m : Int32} {k : Nat} {E G : Int32 → Int32}
theorem o_c8n (hi : 0 ≤ i.toInt ∧ i.toInt + (0 : Nat) = m.toInt) : ¬ i < m := by rw [o_lt]; omega
theorem o_c8l (hi : 0 ≤ i.toInt ∧ i.toInt + (k + 1 : Nat) = m.toInt) : i < m := by rw [o_lt]; omega
theorem o_c8i (hi : 0 ≤ i.toInt ∧ i.toInt + (k + 1 : Nat) = m.toInt) : ¬ i < 0 ∧ i < m := o_bd (by omega)
theorem o_c8s (hm : 0 ≤ m.toInt ∧ m.toInt ≤ 64) (hi : 0 ≤ i.toInt ∧ i.toInt + (k + 1 : Nat) = m.toInt) : 0 ≤ (i + (1 : Int32)).toInt ∧ (i + (1 : Int32)).toInt + k = m.toInt := by rw [o_ad1 (by omega)]; omega
theorem o_c8z (hi : 0 ≤ i.toInt ∧ i.toInt + (0 : Nat) = m.toInt) (hE : ∀ j : Int32, ¬ j < 0 → j < i → E j = o_b8 G j) : ∀ j : Int32, ¬ j < 0 → j < m → E j = o_b8 G j := fun j h1 h2 => hE j h1 (by rw [o_lt] at h2 ⊢; omega)
theorem o_c8e (hi : 0 ≤ i.toInt ∧ i.toInt + (k + 1 : Nat) = m.toInt) (hE : ∀ j : Int32, ¬ j < 0 → j < i → E j = o_b8 G j) : ∀ j : Int32, ¬ j < 0 → j < (i + (1 : Int32)) → (fun k => if k = i then (nar .byte ((G i).toInt8.toInt32)) else E k) j = o_b8 G j := fun j h1 h2 => by
 show (if j = i then _ else _) = _
 split
 ·next q => subst q; rfl
 ·next q =>
  refine hE j h1 ?_
  have := Int32.toInt_lt m
  rw [o_lt] at h2 ⊢
  rw [o_add i 1 (by rw [o_one]; omega), o_one] at h2
  have u : j.toInt ≠ i.toInt := fun z => q (o_ext z)
  omega
end OwnC8
theorem o_d8_3 : decode jdk_52_method_21_code 3 = .ok (.iload 5, 2) := by decide +kernel
theorem o_d8_5 : decode jdk_52_method_21_code 5 = .ok (.iload 4, 2) := by decide +kernel
theorem o_d8_7 : decode jdk_52_method_21_code 7 = .ok (.if_icmp .ge 37, 3) := by decide +kernel
theorem o_d8_44 : decode jdk_52_method_21_code 44 = .ok (.iload 4, 2) := by decide +kernel
theorem o_d8_46 : decode jdk_52_method_21_code 46 = .ok (.ireturn, 1) := by decide +kernel
theorem o_d8_10 : decode jdk_52_method_21_code 10 = .ok (.aload_n 0, 1) := by decide +kernel
theorem o_d8_11 : decode jdk_52_method_21_code 11 = .ok (.iload_n 1, 1) := by decide +kernel
theorem o_d8_12 : decode jdk_52_method_21_code 12 = .ok (.caload, 1) := by decide +kernel
theorem o_d8_13 : decode jdk_52_method_21_code 13 = .ok (.istore 6, 2) := by decide +kernel
theorem o_d8_15 : decode jdk_52_method_21_code 15 = .ok (.iload 6, 2) := by decide +kernel
theorem o_d8_17 : decode jdk_52_method_21_code 17 = .ok (.sipush 255, 3) := by decide +kernel
theorem o_d8_20 : decode jdk_52_method_21_code 20 = .ok (.if_icmp .le 6, 3) := by decide +kernel
theorem o_d8_26 : decode jdk_52_method_21_code 26 = .ok (.aload_n 2, 1) := by decide +kernel
theorem o_d8_27 : decode jdk_52_method_21_code 27 = .ok (.iload_n 3, 1) := by decide +kernel
theorem o_d8_28 : decode jdk_52_method_21_code 28 = .ok (.iload 6, 2) := by decide +kernel
theorem o_d8_30 : decode jdk_52_method_21_code 30 = .ok (.i2b, 1) := by decide +kernel
theorem o_d8_31 : decode jdk_52_method_21_code 31 = .ok (.bastore, 1) := by decide +kernel
theorem o_d8_32 : decode jdk_52_method_21_code 32 = .ok (.iinc 1 1, 3) := by decide +kernel
theorem o_d8_35 : decode jdk_52_method_21_code 35 = .ok (.iinc 3 1, 3) := by decide +kernel
theorem o_d8_38 : decode jdk_52_method_21_code 38 = .ok (.iinc 5 1, 3) := by decide +kernel
theorem o_d8_41 : decode jdk_52_method_21_code 41 = .ok (.goto (-38), 3) := by decide +kernel
set_option maxRecDepth 65536 in
set_option maxHeartbeats 40000000 in
theorem o_p3_8 (l : Launch) (Z : State) (a0 : Array Value) (hw : ∀ d ∈ tables_1, d.before a0 Z = true) (r0 : Addr) (r2 : Addr) (q_m : Int32) (q_G : Int32 → Int32) (q_D : Int32 → Int32) (h0 : Heap) (n0 : Nat) (Z0 : n0 ≤ h0.size) (g_r2 : n0 ≤ r2) (T_c : o_Tb Z h0 r0 .char q_m q_G) (T_d : o_Tb Z h0 r2 .byte q_m q_D) (ne_r0_r2 : r0 ≠ r2) (hG : o_C255 q_G) (hm : 0 ≤ q_m.toInt ∧ q_m.toInt ≤ 64) (p : Program) (e : Env) (s : State) (m : MethodId) (below : List Frame) (meth : Method) (c : Code) (hx : p.tables.exec = Jvm.exec) (hby : c.code = jdk_52_method_21_code) (hml : c.maxLocals = 7) (hown : s.vm.findClass "java/lang/StringUTF16" = some m.cls) (hret : meth.sig.returnType = (some .int)) (hlk : meth.locks = false) (hZ : Z.Warmed39 s.vm) (k : Nat) : ∀ (T0 : State) (L0 : List Loc) (hh : Heap) (i : Int32) (q_E : Int32 → Int32) (u : Slot) (X0 : Stand p l e o_R8 s m #[(.ref r0), (.int 0), (.ref r2), (.int 0), (.int q_m)] below meth c T0 L0 0 0) (e0 : T0.heap = hh) (N0 : Fr n0 L0) (Z1 : n0 ≤ hh.size) (KK : Keep h0 hh [r2]) (hi : 0 ≤ i.toInt ∧ i.toInt + k = q_m.toInt) (V_c : o_Tb Z hh r0 .char q_m q_G) (V_d : o_Tb Z hh r2 .byte q_m q_E) (hE : ∀ j : Int32, ¬ j < 0 → j < i → q_E j = o_b8 q_G j) (hu : One u), o_Goes p e below (o_End s o_R8 (o_Q8 Z r0 r2 q_m q_G q_D h0 n0)) (T0.setTop (mkF m 3 #[o_A r0, o_I i, o_A r2, o_I i, o_I q_m, o_I i, u] [])) := by
 induction k with
 | zero =>
  intro T0 L0 hh i q_E u X0 e0 N0 Z1 KK hi V_c V_d hE hu
  refine o_gi (XS.iload X0.here hx rfl (hb hby o_d8_3) rfl) ?_
  refine o_gi (XS.iload X0.here hx rfl (hb hby o_d8_5) rfl) ?_
  show o_Gs p e below _ T0 m 7 #[o_A r0, o_I i, o_A r2, o_I i, o_I q_m, o_I i, u] [(.int q_m), (.int i)]
  have hd32 : ¬ (i < q_m) := (o_c8n hi)
  refine o_gi (XS.icmpYes X0.here hx rfl (pc0 := 7) (pc' := 44) rfl (hb hby o_d8_7) rfl (flt hd32).2.1 (by decide) (by decide)) ?_
  refine o_gi (XS.iload X0.here hx rfl (hb hby o_d8_44) rfl) ?_
  show o_Gs p e below _ T0 m 46 #[o_A r0, o_I i, o_A r2, o_I i, o_I q_m, o_I i, u] [(.int q_m)]
  exact o_retI X0 hx hlk hret (hb hby o_d8_46) (by decide) (by decide) (by rw [e0]; exact ⟨rfl, N0, KK, V_d.congr (o_c8z hi hE)⟩)
 | succ k ih =>
  intro T0 L0 hh i q_E u X0 e0 N0 Z1 KK hi V_c V_d hE hu
  refine o_gi (XS.iload X0.here hx rfl (hb hby o_d8_3) rfl) ?_
  refine o_gi (XS.iload X0.here hx rfl (hb hby o_d8_5) rfl) ?_
  show o_Gs p e below _ T0 m 7 #[o_A r0, o_I i, o_A r2, o_I i, o_I q_m, o_I i, u] [(.int q_m), (.int i)]
  have hd33 : i < q_m := (o_c8l hi)
  refine o_gi (XS.icmpNo X0.here hx rfl (hb hby o_d8_7) rfl (tlt hd33).2.1) ?_
  refine o_gi (XS.aloadN X0.here hx rfl (hb hby o_d8_10) rfl rfl) ?_
  refine o_gi (XS.iloadN X0.here hx rfl (hb hby o_d8_11) rfl) ?_
  show o_Gs p e below _ T0 m 12 #[o_A r0, o_I i, o_A r2, o_I i, o_I q_m, o_I i, u] [(.int i), (.ref r0)]
  obtain ⟨cl34, Ar34, sa34, na34, ha34⟩ := id V_c
  have ix34 : ¬ i < 0 ∧ i < q_m := (o_c8i hi)
  refine o_go (X0.caload hx (j := i) (v := (.int (q_G i))) (by rw [e0]; exact Ar34.1) (State.isArrayOf_alike hZ.alike Ar34.2.1) Ar34.2.2 (inb_of sa34 ix34) (ha34 _ ix34.1 ix34.2) (g := (mkF m 12 #[o_A r0, o_I i, o_A r2, o_I i, o_I q_m, o_I i, u] [(.int i), (.ref r0)])) rfl rfl (hb hby o_d8_12)) ?_
  refine o_gi (XS.istore X0.here hx rfl (hb hby o_d8_13) rfl (l' := #[o_A r0, o_I i, o_A r2, o_I i, o_I q_m, o_I i, .val (.int (q_G i))]) (XS.store1 (o := u) rfl hu rfl)) ?_
  refine o_gi (XS.iload X0.here hx rfl (hb hby o_d8_15) rfl) ?_
  refine o_gi (XS.sipush X0.here hx rfl (hb hby o_d8_17)) ?_
  show o_Gs p e below _ T0 m 20 #[o_A r0, o_I i, o_A r2, o_I i, o_I q_m, o_I i, .val (.int (q_G i))] [(.int 255), (.int (q_G i))]
  have hd35 : ¬ ((255 : Int32) < (q_G i)) := (hG _)
  refine o_gi (XS.icmpYes X0.here hx rfl (pc0 := 20) (pc' := 26) rfl (hb hby o_d8_20) rfl (flt hd35).2.2.2 (by decide) (by decide)) ?_
  refine o_gi (XS.aloadN X0.here hx rfl (hb hby o_d8_26) rfl rfl) ?_
  refine o_gi (XS.iloadN X0.here hx rfl (hb hby o_d8_27) rfl) ?_
  refine o_gi (XS.iload X0.here hx rfl (hb hby o_d8_28) rfl) ?_
  show o_Gs p e below _ T0 m 30 #[o_A r0, o_I i, o_A r2, o_I i, o_I q_m, o_I i, .val (.int (q_G i))] [(.int (q_G i)), (.int i), (.ref r2)]
  refine o_gi (XS.i2b X0.here hx rfl (hb hby o_d8_30) rfl) ?_
  show o_Gs p e below _ T0 m 31 #[o_A r0, o_I i, o_A r2, o_I i, o_I q_m, o_I i, .val (.int (q_G i))] [(.int ((q_G i).toInt8.toInt32)), (.int i), (.ref r2)]
  obtain ⟨cl36, Ar36, sa36, na36, ha36⟩ := id V_d
  obtain ⟨T36, h36, X36, e36, W36, st36⟩ := stB X0 hx hZ e0 Ar36 (j := i) (inb_of sa36 (o_c8i hi)) (g := (mkF m 31 #[o_A r0, o_I i, o_A r2, o_I i, o_I q_m, o_I i, .val (.int (q_G i))] [(.int ((q_G i).toInt8.toInt32)), (.int i), (.ref r2)])) rfl rfl (hb hby o_d8_31)
  have V36 : o_Tb Z h36 r2 .byte q_m (fun k => if k = i then (nar .byte ((q_G i).toInt8.toInt32)) else q_E k) := o_Tb.set Ar36 sa36 na36 ha36 W36 (o_c8i hi)
  have N36 := Fr.snoc X36 N0 g_r2
  refine o_go st36 ?_
  show o_Gs p e below _ T36 m 32 #[o_A r0, o_I i, o_A r2, o_I i, o_I q_m, o_I i, .val (.int (q_G i))] []
  refine o_gi (XS.iinc X36.here hx rfl (hb hby o_d8_32) rfl (l' := #[o_A r0, .val (.int (i + (1 : Int32))), o_A r2, o_I i, o_I q_m, o_I i, .val (.int (q_G i))]) rfl) ?_
  show o_Gs p e below _ T36 m 35 #[o_A r0, .val (.int (i + (1 : Int32))), o_A r2, o_I i, o_I q_m, o_I i, .val (.int (q_G i))] []
  refine o_gi (XS.iinc X36.here hx rfl (hb hby o_d8_35) rfl (l' := #[o_A r0, .val (.int (i + (1 : Int32))), o_A r2, .val (.int (i + (1 : Int32))), o_I q_m, o_I i, .val (.int (q_G i))]) rfl) ?_
  show o_Gs p e below _ T36 m 38 #[o_A r0, .val (.int (i + (1 : Int32))), o_A r2, .val (.int (i + (1 : Int32))), o_I q_m, o_I i, .val (.int (q_G i))] []
  refine o_gi (XS.iinc X36.here hx rfl (hb hby o_d8_38) rfl (l' := #[o_A r0, .val (.int (i + (1 : Int32))), o_A r2, .val (.int (i + (1 : Int32))), o_I q_m, .val (.int (i + (1 : Int32))), .val (.int (q_G i))]) rfl) ?_
  refine o_gi (XS.goto X36.here hx rfl (pc0 := 41) (pc' := 3) rfl (hb hby o_d8_41) (by decide) (by decide)) ?_
  exact ih _ _ _ _ _ _ X36 e36 N36 (Nat.le_trans Z1 (Keep.of_wr W36).1) (KK.wr W36 (Or.inl (List.mem_of_getElem? (i := 0) rfl))) (o_c8s hm hi) (V_c.other W36 ne_r0_r2) V36 (o_c8e hi hE) (One.val rfl)
theorem o_d8_0 : decode jdk_52_method_21_code 0 = .ok (.iconst 0, 1) := by decide +kernel
theorem o_d8_1 : decode jdk_52_method_21_code 1 = .ok (.istore 5, 2) := by decide +kernel
theorem o_pn1 : plainName "java/lang/StringUTF16" = true := by first | (simp [plainName, overriddenIn]; done) | decide +kernel
theorem o_ef8 (m : MethodId) (z0 : Addr) (z2 : Addr) (z4 : Int32) : entryFrame m #[(.ref z0), (.int 0), (.ref z2), (.int 0), (.int z4)] 7 = mkF m 0 #[o_A z0, o_I 0, o_A z2, o_I 0, o_I z4, o_u, o_u] [] := by first | (simp [entryFrame, mkF, argsToLocals, Value.category]; done) | rfl
set_option maxRecDepth 65536 in
set_option maxHeartbeats 40000000 in
theorem rm8 (l : Launch) (Z : State) (a0 : Array Value) (hw : ∀ d ∈ tables_1, d.before a0 Z = true) (ws : List Jvm.Cond) (r0 : Addr) (r2 : Addr) (q_m : Int32) (q_G : Int32 → Int32) (q_D : Int32 → Int32) (h0 : Heap) (n0 : Nat) (Z0 : n0 ≤ h0.size) (g_r2 : n0 ≤ r2) (T_c : o_Tb Z h0 r0 .char q_m q_G) (T_d : o_Tb Z h0 r2 .byte q_m q_D) (ne_r0_r2 : r0 ≠ r2) (hG : o_C255 q_G) (hm : 0 ≤ q_m.toInt ∧ q_m.toInt ≤ 64) : o_Met l Z (⟨"java/lang/StringUTF16", "compress", "([CI[BII)I"⟩ : MethodName) jdk_52_method_21_code 7 (some .int) ws o_R8 #[(.ref r0), (.int 0), (.ref r2), (.int 0), (.int q_m)] h0 (o_Q8 Z r0 r2 q_m q_G q_D h0 n0) := by
 refine o_met (plainFor_of_name o_pn1) ?_
 intro p e s m below meth c s₁ hx hby hml hown hnm hret hlk hZ e0 X0
 have N0 := Fr.nil n0
 have hml : c.maxLocals = 7 := hml
 have hown : s.vm.findClass "java/lang/StringUTF16" = some m.cls := hown
 have hret : meth.sig.returnType = (some .int) := hret
 have hby : c.code = jdk_52_method_21_code := hby
 have hnm : meth.name = "compress" := hnm
 rw [o_ef8]
 refine o_gi (XS.iconst X0.here hx rfl (hb hby o_d8_0)) ?_
 refine o_gi (XS.istore X0.here hx rfl (hb hby o_d8_1) rfl (l' := #[o_A r0, o_I 0, o_A r2, o_I 0, o_I q_m, o_I 0, o_u]) rfl) ?_
 exact o_p3_8 l Z a0 hw r0 r2 q_m q_G q_D h0 n0 Z0 g_r2 T_c T_d ne_r0_r2 hG hm p e s m below meth c hx hby hml hown hret hlk hZ q_m.toInt.toNat _ _ _ _ q_D _ X0 e0 N0 Z0 (Keep.refl _ _) (by rw [show (0 : Int32).toInt = 0 from rfl]; omega) T_c T_d (fun j h1 h2 => absurd h2 h1) One.u
theorem o_d7_0 : decode jdk_52_method_16_code 0 = .ok (.iload_n 2, 1) := by decide +kernel
theorem o_d7_1 : decode jdk_52_method_16_code 1 = .ok (.newarray .byte, 2) := by decide +kernel
theorem o_t1 : (Jvm.Cond.arrayClass Jvm.ClassFile.FieldType.byte) ∈ tables_1 := List.mem_of_getElem? (i := 1) rfl
theorem o_d7_3 : decode jdk_52_method_16_code 3 = .ok (.astore_n 3, 1) := by decide +kernel
theorem o_d7_4 : decode jdk_52_method_16_code 4 = .ok (.aload_n 0, 1) := by decide +kernel
theorem o_d7_5 : decode jdk_52_method_16_code 5 = .ok (.iload_n 1, 1) := by decide +kernel
theorem o_d7_6 : decode jdk_52_method_16_code 6 = .ok (.aload_n 3, 1) := by decide +kernel
theorem o_d7_7 : decode jdk_52_method_16_code 7 = .ok (.iconst 0, 1) := by decide +kernel
theorem o_d7_8 : decode jdk_52_method_16_code 8 = .ok (.iload_n 2, 1) := by decide +kernel
theorem o_d7_9 : decode jdk_52_method_16_code 9 = .ok (.invokestatic 115, 3) := by decide +kernel
theorem o_t31 : (Jvm.Cond.methodLink "java/lang/StringUTF16" (115 : Nat) ({ cls := "java/lang/StringUTF16", name := "compress", desc := "([CI[BII)I" } : Jvm.MethodName)) ∈ tables_1 := List.mem_of_getElem? (i := 31) rfl
theorem o_pd1 : parseMethodDescriptor "([CI[BII)I" = some ⟨[(.array .char), .int, (.array .byte), .int, .int], some .int⟩ := by decide +kernel
theorem o_t32 : (Jvm.Cond.static ({ cls := "java/lang/StringUTF16", name := "compress", desc := "([CI[BII)I" } : Jvm.MethodName)) ∈ tables_1 := List.mem_of_getElem? (i := 32) rfl
theorem o_t29 : (Jvm.Cond.initialized "java/lang/StringUTF16") ∈ tables_1 := List.mem_of_getElem? (i := 29) rfl
theorem o_t33 : (Jvm.Cond.code ({ cls := "java/lang/StringUTF16", name := "compress", desc := "([CI[BII)I" } : Jvm.MethodName) jdk_52_method_21_code (7 : Nat) (Option.some Jvm.ClassFile.FieldType.int)) ∈ tables_1 := List.mem_of_getElem? (i := 33) rfl
theorem o_d7_12 : decode jdk_52_method_16_code 12 = .ok (.istore 4, 2) := by decide +kernel
theorem o_d7_14 : decode jdk_52_method_16_code 14 = .ok (.iload 4, 2) := by decide +kernel
theorem o_d7_16 : decode jdk_52_method_16_code 16 = .ok (.iload_n 2, 1) := by decide +kernel
theorem o_d7_17 : decode jdk_52_method_16_code 17 = .ok (.if_icmp .eq 40, 3) := by decide +kernel
theorem o_d7_57 : decode jdk_52_method_16_code 57 = .ok (.aload_n 3, 1) := by decide +kernel
theorem o_d7_58 : decode jdk_52_method_16_code 58 = .ok (.areturn, 1) := by decide +kernel
def o_Q7_24 (Z : State) (r0 : Addr) (q_G : Int32 → Int32) (h0 : Heap) (n0 : Nat) (v : Option Value) (h : Heap) (L : List Loc) : Prop := ∃ b : Addr, v = some (.ref b) ∧ Fr n0 L ∧ Keep h0 h [] ∧ h0.size ≤ b ∧ Exa Z h b "[B" ∧ o_Tb Z h b .byte (24 : Int32) (o_b8 q_G)
abbrev o_R7_24 : Room := { frames := 1, cells := 1, slots := 24, locals := 18 }
theorem o_ef7_24 (m : MethodId) (z0 : Addr) : entryFrame m #[(.ref z0), (.int 0), (.int 24)] 6 = mkF m 0 #[o_A z0, o_I 0, o_I 24, o_u, o_u, o_u] [] := by first | (simp [entryFrame, mkF, argsToLocals, Value.category]; done) | rfl
set_option maxRecDepth 65536 in
set_option maxHeartbeats 40000000 in
theorem rm7_24 (l : Launch) (Z : State) (a0 : Array Value) (hw : ∀ d ∈ tables_1, d.before a0 Z = true) (ws : List Jvm.Cond) (r0 : Addr) (q_G : Int32 → Int32) (h0 : Heap) (n0 : Nat) (Z0 : n0 ≤ h0.size) (T_c : o_Tb Z h0 r0 .char (24 : Int32) q_G) (hG : o_C255 q_G) : o_Met l Z (⟨"java/lang/StringUTF16", "compress", "([CII)[B"⟩ : MethodName) jdk_52_method_16_code 6 (some (.array .byte)) ws o_R7_24 #[(.ref r0), (.int 0), (.int 24)] h0 (o_Q7_24 Z r0 q_G h0 n0) := by
 refine o_met (plainFor_of_name o_pn1) ?_
 intro p e s m below meth c s₁ hx hby hml hown hnm hret hlk hZ e0 X0
 have N0 := Fr.nil n0
 have hml : c.maxLocals = 6 := hml
 have hown : s.vm.findClass "java/lang/StringUTF16" = some m.cls := hown
 have hret : meth.sig.returnType = (some (.array .byte)) := hret
 have hby : c.code = jdk_52_method_16_code := hby
 have hnm : meth.name = "compress" := hnm
 rw [o_ef7_24]
 refine o_gi (XS.iloadN X0.here hx rfl (hb hby o_d7_0) rfl) ?_
 show o_Gs p e below _ s₁ m 1 #[o_A r0, o_I 0, o_I 24, o_u, o_u, o_u] [(.int 24)]
 obtain ⟨T37, h37, k37, X37, e37, E37, A37, Y37, st37⟩ := newPE X0 hx hZ (aty := .byte) (hw _ o_t1) e0 (g := (mkF m 1 #[o_A r0, o_I 0, o_I 24, o_u, o_u, o_u] [(.int 24)])) rfl (hb hby o_d7_1) rfl (by decide) (cap := 24) (by decide) (by decide) (by decide) (by decide) (ad := "[B") (by decide +kernel)
 obtain ⟨b37, q37⟩ : ∃ z, z = h0.size := ⟨_, rfl⟩
 rw [← q37] at A37 Y37 st37
 have lt_b37 : h0.size ≤ b37 := Nat.le_of_eq q37.symm
 have ne_r0_b37 : r0 ≠ b37 := Nat.ne_of_lt (Nat.lt_of_lt_of_le T_c.lt lt_b37)
 have g_b37 : n0 ≤ b37 := Nat.le_trans Z0 lt_b37
 have sz_b37 : h0.size ≤ b37 := Nat.le_trans (Keep.refl h0 ([] : List Addr)).1 lt_b37
 have V37 : o_Tb Z h37 b37 .byte (24 : Int32) (fun _ => 0) := o_Tb.new A37 (by decide) rfl
 refine o_go st37 ?_
 refine o_gi (XS.astoreN X37.here hx rfl (hb hby o_d7_3) rfl rfl (l' := #[o_A r0, o_I 0, o_I 24, o_A b37, o_u, o_u]) rfl) ?_
 refine o_gi (XS.aloadN X37.here hx rfl (hb hby o_d7_4) rfl rfl) ?_
 refine o_gi (XS.iloadN X37.here hx rfl (hb hby o_d7_5) rfl) ?_
 refine o_gi (XS.aloadN X37.here hx rfl (hb hby o_d7_6) rfl rfl) ?_
 refine o_gi (XS.iconst X37.here hx rfl (hb hby o_d7_7)) ?_
 refine o_gi (XS.iloadN X37.here hx rfl (hb hby o_d7_8) rfl) ?_
 show o_Gs p e below _ T37 m 9 #[o_A r0, o_I 0, o_I 24, o_A b37, o_u, o_u] [(.int 24), (.int 0), (.ref b37), (.int 0), (.ref r0)]
 obtain ⟨_, T38, L38, X38, ⟨rfl, N38q, K38, G38_0⟩, st38⟩ := o_callS X37 hx hZ hown (hw _ o_t31) (hw _ o_t32) (hw _ o_t29) (hw _ o_t33) (by decide) (as := [(.ref r0), (.int 0), (.ref b37), (.int 0), (.int 24)]) (rm8 l Z a0 hw [] r0 b37 (24 : Int32) q_G (fun _ => 0) h37 n0 (Nat.le_trans Z0 E37.1) g_b37 (T_c.ext E37) V37 ne_r0_b37 hG (by decide)) e37 o_pd1 rfl (pc := 9) (Ls := #[o_A r0, o_I 0, o_I 24, o_A b37, o_u, o_u]) (rest := []) (W := 0) (by rw [hml]; rfl) (Nat.le_of_eq rfl) (by decide) (by decide) (hb hby o_d7_9) (by decide) (by decide)
 have N38 := Fr.app N0 N38q
 refine o_go st38 ?_
 refine o_gi (XS.istore X38.here hx rfl (hb hby o_d7_12) rfl (l' := #[o_A r0, o_I 0, o_I 24, o_A b37, o_I 24, o_u]) rfl) ?_
 refine o_gi (XS.iload X38.here hx rfl (hb hby o_d7_14) rfl) ?_
 refine o_gi (XS.iloadN X38.here hx rfl (hb hby o_d7_16) rfl) ?_
 show o_Gs p e below _ T38 m 17 #[o_A r0, o_I 0, o_I 24, o_A b37, o_I 24, o_u] [(.int 24), (.int 24)]
 have hd39 : (24 : Int32) = (24 : Int32) := (by decide)
 refine o_gi (XS.icmpYes X38.here hx rfl (pc0 := 17) (pc' := 57) rfl (hb hby o_d7_17) rfl (teq hd39).1 (by decide) (by decide)) ?_
 refine o_gi (XS.aloadN X38.here hx rfl (hb hby o_d7_57) rfl rfl) ?_
 show o_Gs p e below _ T38 m 58 #[o_A r0, o_I 0, o_I 24, o_A b37, o_I 24, o_u] [(.ref b37)]
 exact o_retR X38 hx hlk hret rfl rfl (hb hby o_d7_58) (by decide) (by decide) (⟨_, rfl, N38, (((Keep.refl h0 ([] : List Addr)).ext E37).trans K38 (fun x hx => by cases List.mem_singleton.mp hx; exact Or.inr sz_b37)), sz_b37, (Y37.keep K38), G38_0⟩)
theorem o_d9_0 : decode jdk_52_method_15_code 0 = .ok (.iload_n 1, 1) := by decide +kernel
theorem o_d9_1 : decode jdk_52_method_15_code 1 = .ok (.aload_n 0, 1) := by decide +kernel
theorem o_d9_2 : decode jdk_52_method_15_code 2 = .ok (.arraylength, 1) := by decide +kernel
theorem o_d9_3 : decode jdk_52_method_15_code 3 = .ok (.isub, 1) := by decide +kernel
theorem o_d9_4 : decode jdk_52_method_15_code 4 = .ok (.bipush 31, 2) := by decide +kernel
theorem o_d9_6 : decode jdk_52_method_15_code 6 = .ok (.iushr, 1) := by decide +kernel
theorem o_d9_7 : decode jdk_52_method_15_code 7 = .ok (.i2b, 1) := by decide +kernel
theorem o_d9_8 : decode jdk_52_method_15_code 8 = .ok (.ireturn, 1) := by decide +kernel
def o_Q9_24 (r0 : Addr) (q_F : Int32 → Int32) (h0 : Heap) (n0 : Nat) (v : Option Value) (h : Heap) (L : List Loc) : Prop := v = some (.int 0) ∧ Fr n0 L ∧ h = h0
abbrev o_R9_24 : Room := { frames := 0, cells := 0, slots := 0, locals := 0 }
theorem o_ef9_24 (m : MethodId) (z0 : Addr) : entryFrame m #[(.ref z0), (.int 24)] 2 = mkF m 0 #[o_A z0, o_I 24] [] := by first | (simp [entryFrame, mkF, argsToLocals, Value.category]; done) | rfl
set_option maxRecDepth 65536 in
set_option maxHeartbeats 40000000 in
theorem rm9_24 (l : Launch) (Z : State) (a0 : Array Value) (hw : ∀ d ∈ tables_1, d.before a0 Z = true) (ws : List Jvm.Cond) (r0 : Addr) (q_F : Int32 → Int32) (h0 : Heap) (n0 : Nat) (T_b : o_Tb Z h0 r0 .byte (24 : Int32) q_F) : o_Met l Z (⟨"java/lang/StringUTF16", "coderFromArrayLen", "([BI)B"⟩ : MethodName) jdk_52_method_15_code 2 (some .byte) ws o_R9_24 #[(.ref r0), (.int 24)] h0 (o_Q9_24 r0 q_F h0 n0) := by
 refine o_met (plainFor_of_name o_pn1) ?_
 intro p e s m below meth c s₁ hx hby hml hown hnm hret hlk hZ e0 X0
 have N0 := Fr.nil n0
 have hml : c.maxLocals = 2 := hml
 have hown : s.vm.findClass "java/lang/StringUTF16" = some m.cls := hown
 have hret : meth.sig.returnType = (some .byte) := hret
 have hby : c.code = jdk_52_method_15_code := hby
 have hnm : meth.name = "coderFromArrayLen" := hnm
 rw [o_ef9_24]
 refine o_gi (XS.iloadN X0.here hx rfl (hb hby o_d9_0) rfl) ?_
 refine o_gi (XS.aloadN X0.here hx rfl (hb hby o_d9_1) rfl rfl) ?_
 show o_Gs p e below _ s₁ m 2 #[o_A r0, o_I 24] [(.ref r0), (.int 24)]
 obtain ⟨cl40, Ar40, sa40, na40, ha40⟩ := id T_b
 refine o_go (X0.arraylength hx (by rw [e0]; exact Ar40.1) (State.isArrayOf_alike hZ.alike Ar40.2.1) (g := (mkF m 2 #[o_A r0, o_I 24] [(.ref r0), (.int 24)])) rfl rfl (hb hby o_d9_2)) ?_
 rw [len_of sa40 na40]
 show o_Gs p e below _ s₁ m 3 #[o_A r0, o_I 24] [(.int 24), (.int 24)]
 refine o_gi (XS.isub X0.here hx rfl (hb hby o_d9_3) rfl) ?_
 show o_Gs p e below _ s₁ m 4 #[o_A r0, o_I 24] [(.int ((24 : Int32) - (24 : Int32)))]
 rw [show ((24 : Int32) - (24 : Int32)) = (0 : Int32) from by decide]
 refine o_gi (XS.bipush X0.here hx rfl (hb hby o_d9_4)) ?_
 show o_Gs p e below _ s₁ m 6 #[o_A r0, o_I 24] [(.int 31), (.int 0)]
 refine o_gi (XS.iushr X0.here hx rfl (hb hby o_d9_6) rfl) ?_
 show o_Gs p e below _ s₁ m 7 #[o_A r0, o_I 24] [(.int (((0 : Int32).toUInt32 >>> ((31 : Int32) &&& 31).toUInt32).toInt32))]
 rw [show (((0 : Int32).toUInt32 >>> ((31 : Int32) &&& 31).toUInt32).toInt32) = (0 : Int32) from by decide]
 show o_Gs p e below _ s₁ m 7 #[o_A r0, o_I 24] [(.int 0)]
 refine o_gi (XS.i2b X0.here hx rfl (hb hby o_d9_7) rfl) ?_
 show o_Gs p e below _ s₁ m 8 #[o_A r0, o_I 24] [(.int ((0 : Int32).toInt8.toInt32))]
 rw [show ((0 : Int32).toInt8.toInt32) = (0 : Int32) from by decide]
 show o_Gs p e below _ s₁ m 8 #[o_A r0, o_I 24] [(.int 0)]
 exact o_retN X0 hx hlk hret (by simp) (z' := (0 : Int32)) rfl (hb hby o_d9_8) (by decide) (by decide) ⟨rfl, N0, e0⟩
theorem o_d5_0 : decode jdk_42_method_149_code 0 = .ok (.aload_n 0, 1) := by decide +kernel
theorem o_d5_1 : decode jdk_42_method_149_code 1 = .ok (.invokespecial 1, 3) := by decide +kernel
theorem o_t23 : (Jvm.Cond.methodLink "java/lang/String" (1 : Nat) ({ cls := "java/lang/Object", name := "<init>", desc := "()V" } : Jvm.MethodName)) ∈ tables_1 := List.mem_of_getElem? (i := 23) rfl
theorem o_t24 : (Jvm.Cond.instanceMethod ({ cls := "java/lang/Object", name := "<init>", desc := "()V" } : Jvm.MethodName)) ∈ tables_1 := List.mem_of_getElem? (i := 24) rfl
theorem o_t25 : (Jvm.Cond.code ({ cls := "java/lang/Object", name := "<init>", desc := "()V" } : Jvm.MethodName) object_method_1_code (1 : Nat) (Option.none : Option Jvm.ClassFile.FieldType)) ∈ tables_1 := List.mem_of_getElem? (i := 25) rfl
theorem o_d5_4 : decode jdk_42_method_149_code 4 = .ok (.iload_n 3, 1) := by decide +kernel
theorem o_d5_5 : decode jdk_42_method_149_code 5 = .ok (.ifCond .ne 22, 3) := by decide +kernel
theorem o_d5_27 : decode jdk_42_method_149_code 27 = .ok (.getstatic 38, 3) := by decide +kernel
theorem o_t26 : (Jvm.Cond.fieldLink "java/lang/String" (38 : Nat) "java/lang/String" "COMPACT_STRINGS" "Z") ∈ tables_1 := List.mem_of_getElem? (i := 26) rfl
theorem o_d5_30 : decode jdk_42_method_149_code 30 = .ok (.ifCond .eq 28, 3) := by decide +kernel
theorem o_d5_33 : decode jdk_42_method_149_code 33 = .ok (.aload_n 1, 1) := by decide +kernel
theorem o_d5_34 : decode jdk_42_method_149_code 34 = .ok (.iload_n 2, 1) := by decide +kernel
theorem o_d5_35 : decode jdk_42_method_149_code 35 = .ok (.iload_n 3, 1) := by decide +kernel
theorem o_d5_36 : decode jdk_42_method_149_code 36 = .ok (.invokestatic 177, 3) := by decide +kernel
theorem o_t27 : (Jvm.Cond.methodLink "java/lang/String" (177 : Nat) ({ cls := "java/lang/StringUTF16", name := "compress", desc := "([CII)[B" } : Jvm.MethodName)) ∈ tables_1 := List.mem_of_getElem? (i := 27) rfl
theorem o_pd2 : parseMethodDescriptor "([CII)[B" = some ⟨[(.array .char), .int, .int], some (.array .byte)⟩ := by decide +kernel
theorem o_t28 : (Jvm.Cond.static ({ cls := "java/lang/StringUTF16", name := "compress", desc := "([CII)[B" } : Jvm.MethodName)) ∈ tables_1 := List.mem_of_getElem? (i := 28) rfl
theorem o_t30 : (Jvm.Cond.code ({ cls := "java/lang/StringUTF16", name := "compress", desc := "([CII)[B" } : Jvm.MethodName) jdk_52_method_16_code (6 : Nat) (Option.some (Jvm.ClassFile.FieldType.array Jvm.ClassFile.FieldType.byte))) ∈ tables_1 := List.mem_of_getElem? (i := 30) rfl
theorem o_d5_39 : decode jdk_42_method_149_code 39 = .ok (.astore 5, 2) := by decide +kernel
theorem o_d5_41 : decode jdk_42_method_149_code 41 = .ok (.aload_n 0, 1) := by decide +kernel
theorem o_d5_42 : decode jdk_42_method_149_code 42 = .ok (.aload 5, 2) := by decide +kernel
theorem o_d5_44 : decode jdk_42_method_149_code 44 = .ok (.iload_n 3, 1) := by decide +kernel
theorem o_d5_45 : decode jdk_42_method_149_code 45 = .ok (.invokestatic 47, 3) := by decide +kernel
theorem o_t34 : (Jvm.Cond.methodLink "java/lang/String" (47 : Nat) ({ cls := "java/lang/StringUTF16", name := "coderFromArrayLen", desc := "([BI)B" } : Jvm.MethodName)) ∈ tables_1 := List.mem_of_getElem? (i := 34) rfl
theorem o_pd3 : parseMethodDescriptor "([BI)B" = some ⟨[(.array .byte), .int], some .byte⟩ := by decide +kernel
theorem o_t35 : (Jvm.Cond.static ({ cls := "java/lang/StringUTF16", name := "coderFromArrayLen", desc := "([BI)B" } : Jvm.MethodName)) ∈ tables_1 := List.mem_of_getElem? (i := 35) rfl
theorem o_t36 : (Jvm.Cond.code ({ cls := "java/lang/StringUTF16", name := "coderFromArrayLen", desc := "([BI)B" } : Jvm.MethodName) jdk_52_method_15_code (2 : Nat) (Option.some Jvm.ClassFile.FieldType.byte)) ∈ tables_1 := List.mem_of_getElem? (i := 36) rfl
theorem o_d5_48 : decode jdk_42_method_149_code 48 = .ok (.putfield 15, 3) := by decide +kernel
theorem o_t37 : (Jvm.Cond.fieldLink "java/lang/String" (15 : Nat) "java/lang/String" "coder" "B") ∈ tables_1 := List.mem_of_getElem? (i := 37) rfl
theorem o_t38 : (Jvm.Cond.laysFinal "java/lang/String" "java/lang/String" "coder" "B") ∈ tables_1 := List.mem_of_getElem? (i := 38) rfl
theorem o_t14 : (Jvm.Cond.instantiable "java/lang/String" (4 : Nat)) ∈ tables_1 := List.mem_of_getElem? (i := 14) rfl
theorem o_d5_51 : decode jdk_42_method_149_code 51 = .ok (.aload_n 0, 1) := by decide +kernel
theorem o_d5_52 : decode jdk_42_method_149_code 52 = .ok (.aload 5, 2) := by decide +kernel
theorem o_d5_54 : decode jdk_42_method_149_code 54 = .ok (.putfield 9, 3) := by decide +kernel
theorem o_t39 : (Jvm.Cond.fieldLink "java/lang/String" (9 : Nat) "java/lang/String" "value" "[B") ∈ tables_1 := List.mem_of_getElem? (i := 39) rfl
theorem o_t40 : (Jvm.Cond.laysFinal "java/lang/String" "java/lang/String" "value" "[B") ∈ tables_1 := List.mem_of_getElem? (i := 40) rfl
theorem o_pn2 : plainName "java/lang/String" = true := by first | (simp [plainName, overriddenIn]; done) | decide +kernel
theorem o_d5_57 : decode jdk_42_method_149_code 57 = .ok (.return_, 1) := by decide +kernel
def o_Q5_24 (Z : State) (r0 : Addr) (r1 : Addr) (q_G : Int32 → Int32) (z_cs : Int32) (h0 : Heap) (n0 : Nat) (v : Option Value) (h : Heap) (L : List Loc) : Prop := ∃ b : Addr, v = none ∧ Fr n0 L ∧ Keep h0 h [r0] ∧ h0.size ≤ b ∧ Exa Z h r0 "java/lang/String" ∧ Fld Z h r0 "java/lang/String" "coder" "B" (.int 0) ∧ Fld Z h r0 "java/lang/String" "value" "[B" (.ref b) ∧ Exa Z h b "[B" ∧ o_Tb Z h b .byte (24 : Int32) (o_b8 q_G)
abbrev o_R5_24 : Room := { frames := 2, cells := 1, slots := 24, locals := 35 }
theorem o_ef5_24 (m : MethodId) (z0 : Addr) (z1 : Addr) : entryFrame m #[(.ref z0), (.ref z1), (.int 0), (.int 24), .null] 6 = mkF m 0 #[o_A z0, o_A z1, o_I 0, o_I 24, .val .null, o_u] [] := by first | (simp [entryFrame, mkF, argsToLocals, Value.category]; done) | rfl
set_option maxRecDepth 65536 in
set_option maxHeartbeats 40000000 in
theorem rm5_24 (l : Launch) (Z : State) (a0 : Array Value) (hw : ∀ d ∈ tables_1, d.before a0 Z = true) (ws : List Jvm.Cond) (r0 : Addr) (r1 : Addr) (q_G : Int32 → Int32) (z_cs : Int32) (h0 : Heap) (n0 : Nat) (Z0 : n0 ≤ h0.size) (g_r0 : n0 ≤ r0) (O0 : Old Z n0 h0) (z_CS : ¬ z_cs = 0) (E_r0 : Exa Z h0 r0 "java/lang/String") (F_v : Fld Z h0 r0 "java/lang/String" "value" "[B" .null) (F_c : Fld Z h0 r0 "java/lang/String" "coder" "B" (.int 0)) (T_c : o_Tb Z h0 r1 .char (24 : Int32) q_G) (hG : o_C255 q_G) (ne_r0_r1 : r0 ≠ r1) (S_z_cs : Sta Z Z.heap "java/lang/String" "COMPACT_STRINGS" "Z" (.int z_cs)) : o_Met l Z (⟨"java/lang/String", "<init>", "([CIILjava/lang/Void;)V"⟩ : MethodName) jdk_42_method_149_code 6 none ws o_R5_24 #[(.ref r0), (.ref r1), (.int 0), (.int 24), .null] h0 (o_Q5_24 Z r0 r1 q_G z_cs h0 n0) := by
 refine o_met (plainFor_of_name o_pn2) ?_
 intro p e s m below meth c s₁ hx hby hml hown hnm hret hlk hZ e0 X0
 have N0 := Fr.nil n0
 have hml : c.maxLocals = 6 := hml
 have hown : s.vm.findClass "java/lang/String" = some m.cls := hown
 have hret : meth.sig.returnType = none := hret
 have hby : c.code = jdk_42_method_149_code := hby
 have hnm : meth.name = "<init>" := hnm
 rw [o_ef5_24]
 refine o_gi (XS.aloadN X0.here hx rfl (hb hby o_d5_0) rfl rfl) ?_
 show o_Gs p e below _ s₁ m 1 #[o_A r0, o_A r1, o_I 0, o_I 24, .val .null, o_u] [(.ref r0)]
 obtain ⟨T41, X41, e41, st41⟩ := initO X0 hx hZ hown (hw _ o_t23) (hw _ o_t24) (hw _ o_t25) e0 (g := (mkF m 1 #[o_A r0, o_A r1, o_I 0, o_I 24, .val .null, o_u] [(.ref r0)])) rfl (by rw [hml]; rfl) rfl (hb hby o_d5_1) (by decide) (W := 0) (by show 2 * 0 + _ ≤ _; exact Nat.le_of_eq rfl) (by decide)
 refine o_go st41 ?_
 refine o_gi (XS.iloadN X41.here hx rfl (hb hby o_d5_4) rfl) ?_
 show o_Gs p e below _ T41 m 5 #[o_A r0, o_A r1, o_I 0, o_I 24, .val .null, o_u] [(.int 24)]
 have hd42 : ¬ ((24 : Int32) = (0 : Int32)) := (by decide)
 refine o_gi (XS.ifYes X41.here hx rfl (pc0 := 5) (pc' := 27) rfl (hb hby o_d5_5) rfl ((if0 _ _).trans (feq hd42).2) (by decide) (by decide)) ?_
 show o_Gs p e below _ T41 m 27 #[o_A r0, o_A r1, o_I 0, o_I 24, .val .null, o_u] []
 obtain ⟨T43, X43, e43, st43⟩ := getS2 X41 hx hZ hown (host := "") (Or.inl (hw _ o_t26)) Via.refl e41 (S_z_cs.ext O0.2) (g := (mkF m 27 #[o_A r0, o_A r1, o_I 0, o_I 24, .val .null, o_u] [])) rfl (hb hby o_d5_27)
 refine o_go st43 ?_
 show o_Gs p e below _ T43 m 30 #[o_A r0, o_A r1, o_I 0, o_I 24, .val .null, o_u] [(.int z_cs)]
 have hd44 : ¬ (z_cs = (0 : Int32)) := z_CS
 refine o_gi (XS.ifNo X43.here hx rfl (hb hby o_d5_30) rfl ((if0 _ _).trans (feq hd44).1)) ?_
 refine o_gi (XS.aloadN X43.here hx rfl (hb hby o_d5_33) rfl rfl) ?_
 refine o_gi (XS.iloadN X43.here hx rfl (hb hby o_d5_34) rfl) ?_
 refine o_gi (XS.iloadN X43.here hx rfl (hb hby o_d5_35) rfl) ?_
 show o_Gs p e below _ T43 m 36 #[o_A r0, o_A r1, o_I 0, o_I 24, .val .null, o_u] [(.int 24), (.int 0), (.ref r1)]
 obtain ⟨_, T45, L45, X45, ⟨b45, rfl, N45q, K45, lt_b45, G45_0, G45_1⟩, st45⟩ := o_callS X43 hx hZ hown (hw _ o_t27) (hw _ o_t28) (hw _ o_t29) (hw _ o_t30) (by decide) (as := [(.ref r1), (.int 0), (.int 24)]) (rm7_24 l Z a0 hw [] r1 q_G h0 n0 Z0 T_c hG) e43 o_pd2 rfl (pc := 36) (Ls := #[o_A r0, o_A r1, o_I 0, o_I 24, .val .null, o_u]) (rest := []) (W := 0) (by rw [hml]; rfl) (Nat.le_of_eq rfl) (by decide) (by decide) (hb hby o_d5_36) (by decide) (by decide)
 have N45 := Fr.app N0 N45q
 have ne_r0_b45 : r0 ≠ b45 := Nat.ne_of_lt (Nat.lt_of_lt_of_le E_r0.lt lt_b45)
 have ne_r1_b45 : r1 ≠ b45 := Nat.ne_of_lt (Nat.lt_of_lt_of_le T_c.lt lt_b45)
 have g_b45 : n0 ≤ b45 := Nat.le_trans Z0 lt_b45
 have sz_b45 : h0.size ≤ b45 := Nat.le_trans (Keep.refl h0 ([r0] : List Addr)).1 lt_b45
 refine o_go st45 ?_
 refine o_gi (XS.astore X45.here hx rfl (hb hby o_d5_39) rfl rfl (l' := #[o_A r0, o_A r1, o_I 0, o_I 24, .val .null, o_A b45]) rfl) ?_
 refine o_gi (XS.aloadN X45.here hx rfl (hb hby o_d5_41) rfl rfl) ?_
 refine o_gi (XS.aload X45.here hx rfl (hb hby o_d5_42) rfl rfl) ?_
 refine o_gi (XS.iloadN X45.here hx rfl (hb hby o_d5_44) rfl) ?_
 show o_Gs p e below _ T45 m 45 #[o_A r0, o_A r1, o_I 0, o_I 24, .val .null, o_A b45] [(.int 24), (.ref b45), (.ref r0)]
 obtain ⟨_, T46, L46, X46, ⟨rfl, N46q, e46⟩, st46⟩ := o_callS X45 hx hZ hown (hw _ o_t34) (hw _ o_t35) (hw _ o_t29) (hw _ o_t36) (by decide) (as := [(.ref b45), (.int 24)]) (rm9_24 l Z a0 hw [] b45 (o_b8 q_G) T45.heap n0 G45_1) rfl o_pd3 rfl (pc := 45) (Ls := #[o_A r0, o_A r1, o_I 0, o_I 24, .val .null, o_A b45]) (rest := [(.ref r0)]) (W := 1) (by rw [hml]; rfl) (Nat.le_of_eq rfl) (by decide) (by decide) (hb hby o_d5_45) (by decide) (by decide)
 have N46 := Fr.app N45 N46q
 refine o_go st46 ?_
 show o_Gs p e below _ T46 m 48 #[o_A r0, o_A r1, o_I 0, o_I 24, .val .null, o_A b45] [(.int 0), (.ref r0)]
 have ff48 : Fld Z T45.heap r0 "java/lang/String" "coder" "B" (.int 0) := (F_c.keep K45 List.not_mem_nil)
 obtain ⟨T47, h47, X47, e47, W47, st47⟩ := putFN X46 hx hZ hown (hw _ o_t37) Via.refl e46 ff48 (E_r0.keep K45) (Or.inr ⟨(hw _ o_t38), rfl, hnm⟩) (hw _ o_t14) (ty := .byte) (v' := .int 0) (by decide) rfl (by decide) (g := (mkF m 48 #[o_A r0, o_A r1, o_I 0, o_I 24, .val .null, o_A b45] [(.int 0), (.ref r0)])) rfl rfl (hb hby o_d5_48)
 have N47 := Fr.snoc X47 N46 g_r0
 have Fw47 := ff48.same W47
 refine o_go st47 ?_
 refine o_gi (XS.aloadN X47.here hx rfl (hb hby o_d5_51) rfl rfl) ?_
 refine o_gi (XS.aload X47.here hx rfl (hb hby o_d5_52) rfl rfl) ?_
 show o_Gs p e below _ T47 m 54 #[o_A r0, o_A r1, o_I 0, o_I 24, .val .null, o_A b45] [(.ref b45), (.ref r0)]
 have ff50 : Fld Z h47 r0 "java/lang/String" "value" "[B" .null := ((F_v.keep K45 List.not_mem_nil).other W47 (Or.inr (slot_ne (Or.inr (hw _ o_t40)) (Or.inr (hw _ o_t38)) (by decide) (t := (.array .byte)) (t' := .byte) (by decide) (by decide))))
 obtain ⟨T49, h49, X49, e49, W49, st49⟩ := putF X47 hx hZ hown (host := "") (Or.inl (hw _ o_t39)) Via.refl e47 ff50 ((E_r0.keep K45).wr W47) (Or.inr ⟨(hw _ o_t40), rfl, hnm⟩) (hw _ o_t14) (ty := (.array .byte)) (by decide) rfl rfl (g := (mkF m 54 #[o_A r0, o_A r1, o_I 0, o_I 24, .val .null, o_A b45] [(.ref b45), (.ref r0)])) rfl rfl (hb hby o_d5_54)
 have N49 := Fr.snoc X49 N47 g_r0
 have Fw49 := ff50.same W49
 refine o_go st49 ?_
 show o_Gs p e below _ T49 m 57 #[o_A r0, o_A r1, o_I 0, o_I 24, .val .null, o_A b45] []
 have ff51 : Exa Z h49 r0 "java/lang/String" := (((E_r0.keep K45).wr W47).wr W49)
 have ff52 : Fld Z h49 r0 "java/lang/String" "coder" "B" (.int 0) := (Fw47.other W49 (Or.inr (slot_ne (Or.inr (hw _ o_t38)) (Or.inr (hw _ o_t40)) (by decide) (t := .byte) (t' := (.array .byte)) (by decide) (by decide))))
 have ff53 : o_Tb Z h49 b45 .byte (24 : Int32) (o_b8 q_G) := ((G45_1.other W47 (Ne.symm ne_r0_b45)).other W49 (Ne.symm ne_r0_b45))
 exact o_ret0 X49 hx hlk hret (hb hby o_d5_57) (by decide) (by decide) (by show o_Q5_24 Z r0 r1 q_G z_cs h0 n0 _ T49.heap _; rw [e49]; exact ⟨_, rfl, N49, ((((Keep.refl h0 ([r0] : List Addr)).trans K45 (fun x hx => nomatch hx)).wr W47 (Or.inl (List.mem_of_getElem? (i := 0) rfl))).wr W49 (Or.inl (List.mem_of_getElem? (i := 0) rfl))), sz_b45, ff51, ff52, Fw49, ((G45_0.wr W47).wr W49), ff53⟩)
theorem o_d4_0 : decode jdk_42_method_3_code 0 = .ok (.aload_n 0, 1) := by decide +kernel
theorem o_d4_1 : decode jdk_42_method_3_code 1 = .ok (.aload_n 1, 1) := by decide +kernel
theorem o_d4_2 : decode jdk_42_method_3_code 2 = .ok (.iconst 0, 1) := by decide +kernel
theorem o_d4_3 : decode jdk_42_method_3_code 3 = .ok (.aload_n 1, 1) := by decide +kernel
theorem o_d4_4 : decode jdk_42_method_3_code 4 = .ok (.arraylength, 1) := by decide +kernel
theorem o_d4_5 : decode jdk_42_method_3_code 5 = .ok (.aconst_null, 1) := by decide +kernel
theorem o_d4_6 : decode jdk_42_method_3_code 6 = .ok (.invokespecial 27, 3) := by decide +kernel
theorem o_t19 : (Jvm.Cond.methodLink "java/lang/String" (27 : Nat) ({ cls := "java/lang/String", name := "<init>", desc := "([CIILjava/lang/Void;)V" } : Jvm.MethodName)) ∈ tables_1 := List.mem_of_getElem? (i := 19) rfl
theorem o_pd4 : parseMethodDescriptor "([CIILjava/lang/Void;)V" = some ⟨[(.array .char), .int, .int, (.object "java/lang/Void")], none⟩ := by decide +kernel
theorem o_t20 : (Jvm.Cond.instanceMethod ({ cls := "java/lang/String", name := "<init>", desc := "([CIILjava/lang/Void;)V" } : Jvm.MethodName)) ∈ tables_1 := List.mem_of_getElem? (i := 20) rfl
theorem o_t15 : (Jvm.Cond.initialized "java/lang/String") ∈ tables_1 := List.mem_of_getElem? (i := 15) rfl
theorem o_t22 : (Jvm.Cond.code ({ cls := "java/lang/String", name := "<init>", desc := "([CIILjava/lang/Void;)V" } : Jvm.MethodName) jdk_42_method_149_code (6 : Nat) (Option.none : Option Jvm.ClassFile.FieldType)) ∈ tables_1 := List.mem_of_getElem? (i := 22) rfl
theorem o_d4_9 : decode jdk_42_method_3_code 9 = .ok (.return_, 1) := by decide +kernel
def o_Q4_24 (Z : State) (r0 : Addr) (r1 : Addr) (q_G : Int32 → Int32) (z_cs : Int32) (h0 : Heap) (n0 : Nat) (v : Option Value) (h : Heap) (L : List Loc) : Prop := ∃ b : Addr, v = none ∧ Fr n0 L ∧ Keep h0 h [r0] ∧ h0.size ≤ b ∧ Exa Z h r0 "java/lang/String" ∧ Fld Z h r0 "java/lang/String" "coder" "B" (.int 0) ∧ Fld Z h r0 "java/lang/String" "value" "[B" (.ref b) ∧ Exa Z h b "[B" ∧ o_Tb Z h b .byte (24 : Int32) (o_b8 q_G)
abbrev o_R4_24 : Room := { frames := 3, cells := 1, slots := 24, locals := 52 }
theorem o_ef4_24 (m : MethodId) (z0 : Addr) (z1 : Addr) : entryFrame m #[(.ref z0), (.ref z1)] 2 = mkF m 0 #[o_A z0, o_A z1] [] := by first | (simp [entryFrame, mkF, argsToLocals, Value.category]; done) | rfl
set_option maxRecDepth 65536 in
set_option maxHeartbeats 40000000 in
theorem rm4_24 (l : Launch) (Z : State) (a0 : Array Value) (hw : ∀ d ∈ tables_1, d.before a0 Z = true) (ws : List Jvm.Cond) (r0 : Addr) (r1 : Addr) (q_G : Int32 → Int32) (z_cs : Int32) (h0 : Heap) (n0 : Nat) (Z0 : n0 ≤ h0.size) (g_r0 : n0 ≤ r0) (O0 : Old Z n0 h0) (z_CS : ¬ z_cs = 0) (E_r0 : Exa Z h0 r0 "java/lang/String") (F_v : Fld Z h0 r0 "java/lang/String" "value" "[B" .null) (F_c : Fld Z h0 r0 "java/lang/String" "coder" "B" (.int 0)) (T_c : o_Tb Z h0 r1 .char (24 : Int32) q_G) (hG : o_C255 q_G) (ne_r0_r1 : r0 ≠ r1) (S_z_cs : Sta Z Z.heap "java/lang/String" "COMPACT_STRINGS" "Z" (.int z_cs)) : o_Met l Z (⟨"java/lang/String", "<init>", "([C)V"⟩ : MethodName) jdk_42_method_3_code 2 none ws o_R4_24 #[(.ref r0), (.ref r1)] h0 (o_Q4_24 Z r0 r1 q_G z_cs h0 n0) := by
 refine o_met (plainFor_of_name o_pn2) ?_
 intro p e s m below meth c s₁ hx hby hml hown hnm hret hlk hZ e0 X0
 have N0 := Fr.nil n0
 have hml : c.maxLocals = 2 := hml
 have hown : s.vm.findClass "java/lang/String" = some m.cls := hown
 have hret : meth.sig.returnType = none := hret
 have hby : c.code = jdk_42_method_3_code := hby
 have hnm : meth.name = "<init>" := hnm
 rw [o_ef4_24]
 refine o_gi (XS.aloadN X0.here hx rfl (hb hby o_d4_0) rfl rfl) ?_
 refine o_gi (XS.aloadN X0.here hx rfl (hb hby o_d4_1) rfl rfl) ?_
 refine o_gi (XS.iconst X0.here hx rfl (hb hby o_d4_2)) ?_
 refine o_gi (XS.aloadN X0.here hx rfl (hb hby o_d4_3) rfl rfl) ?_
 show o_Gs p e below _ s₁ m 4 #[o_A r0, o_A r1] [(.ref r1), (.int 0), (.ref r1), (.ref r0)]
 obtain ⟨cl54, Ar54, sa54, na54, ha54⟩ := id T_c
 refine o_go (X0.arraylength hx (by rw [e0]; exact Ar54.1) (State.isArrayOf_alike hZ.alike Ar54.2.1) (g := (mkF m 4 #[o_A r0, o_A r1] [(.ref r1), (.int 0), (.ref r1), (.ref r0)])) rfl rfl (hb hby o_d4_4)) ?_
 rw [len_of sa54 na54]
 refine o_gi (XS.aconstNull X0.here hx rfl (hb hby o_d4_5)) ?_
 show o_Gs p e below _ s₁ m 6 #[o_A r0, o_A r1] [.null, (.int 24), (.int 0), (.ref r1), (.ref r0)]
 obtain ⟨_, T55, L55, X55, ⟨b55, rfl, N55q, K55, lt_b55, G55_0, G55_1, G55_2, G55_3, G55_4⟩, st55⟩ := o_callI X0 hx hZ rfl hown (hw _ o_t19) (hw _ o_t20) (hw _ o_t15) (hw _ o_t22) (by decide) (b := r0) (as := [(.ref r1), (.int 0), (.int 24), .null]) (rm5_24 l Z a0 hw [] r0 r1 q_G z_cs h0 n0 Z0 g_r0 O0 z_CS E_r0 F_v F_c T_c hG ne_r0_r1 S_z_cs) e0 o_pd4 rfl (pc := 6) (Ls := #[o_A r0, o_A r1]) (rest := []) (W := 0) (by rw [hml]; rfl) (Nat.le_of_eq rfl) (by decide) (by decide) (hb hby o_d4_6) (by decide) (by decide)
 have N55 := Fr.app N0 N55q
 have ne_r0_b55 : r0 ≠ b55 := Nat.ne_of_lt (Nat.lt_of_lt_of_le E_r0.lt lt_b55)
 have ne_r1_b55 : r1 ≠ b55 := Nat.ne_of_lt (Nat.lt_of_lt_of_le T_c.lt lt_b55)
 have g_b55 : n0 ≤ b55 := Nat.le_trans Z0 lt_b55
 have sz_b55 : h0.size ≤ b55 := Nat.le_trans (Keep.refl h0 ([r0] : List Addr)).1 lt_b55
 refine o_go st55 ?_
 show o_Gs p e below _ T55 m 9 #[o_A r0, o_A r1] []
 exact o_ret0 X55 hx hlk hret (hb hby o_d4_9) (by decide) (by decide) (⟨_, rfl, N55, ((Keep.refl h0 ([r0] : List Addr)).trans K55 (fun x hx => by cases List.mem_singleton.mp hx; exact Or.inl (List.mem_of_getElem? (i := 0) rfl))), sz_b55, G55_0, G55_1, G55_2, G55_3, G55_4⟩)
def o_Q7_44 (Z : State) (r0 : Addr) (q_G : Int32 → Int32) (h0 : Heap) (n0 : Nat) (v : Option Value) (h : Heap) (L : List Loc) : Prop := ∃ b : Addr, v = some (.ref b) ∧ Fr n0 L ∧ Keep h0 h [] ∧ h0.size ≤ b ∧ Exa Z h b "[B" ∧ o_Tb Z h b .byte (44 : Int32) (o_b8 q_G)
abbrev o_R7_44 : Room := { frames := 1, cells := 1, slots := 44, locals := 18 }
theorem o_ef7_44 (m : MethodId) (z0 : Addr) : entryFrame m #[(.ref z0), (.int 0), (.int 44)] 6 = mkF m 0 #[o_A z0, o_I 0, o_I 44, o_u, o_u, o_u] [] := by first | (simp [entryFrame, mkF, argsToLocals, Value.category]; done) | rfl
set_option maxRecDepth 65536 in
set_option maxHeartbeats 40000000 in
theorem rm7_44 (l : Launch) (Z : State) (a0 : Array Value) (hw : ∀ d ∈ tables_1, d.before a0 Z = true) (ws : List Jvm.Cond) (r0 : Addr) (q_G : Int32 → Int32) (h0 : Heap) (n0 : Nat) (Z0 : n0 ≤ h0.size) (T_c : o_Tb Z h0 r0 .char (44 : Int32) q_G) (hG : o_C255 q_G) : o_Met l Z (⟨"java/lang/StringUTF16", "compress", "([CII)[B"⟩ : MethodName) jdk_52_method_16_code 6 (some (.array .byte)) ws o_R7_44 #[(.ref r0), (.int 0), (.int 44)] h0 (o_Q7_44 Z r0 q_G h0 n0) := by
 refine o_met (plainFor_of_name o_pn1) ?_
 intro p e s m below meth c s₁ hx hby hml hown hnm hret hlk hZ e0 X0
 have N0 := Fr.nil n0
 have hml : c.maxLocals = 6 := hml
 have hown : s.vm.findClass "java/lang/StringUTF16" = some m.cls := hown
 have hret : meth.sig.returnType = (some (.array .byte)) := hret
 have hby : c.code = jdk_52_method_16_code := hby
 have hnm : meth.name = "compress" := hnm
 rw [o_ef7_44]
 refine o_gi (XS.iloadN X0.here hx rfl (hb hby o_d7_0) rfl) ?_
 show o_Gs p e below _ s₁ m 1 #[o_A r0, o_I 0, o_I 44, o_u, o_u, o_u] [(.int 44)]
 obtain ⟨T56, h56, k56, X56, e56, E56, A56, Y56, st56⟩ := newPE X0 hx hZ (aty := .byte) (hw _ o_t1) e0 (g := (mkF m 1 #[o_A r0, o_I 0, o_I 44, o_u, o_u, o_u] [(.int 44)])) rfl (hb hby o_d7_1) rfl (by decide) (cap := 44) (by decide) (by decide) (by decide) (by decide) (ad := "[B") (by decide +kernel)
 obtain ⟨b56, q56⟩ : ∃ z, z = h0.size := ⟨_, rfl⟩
 rw [← q56] at A56 Y56 st56
 have lt_b56 : h0.size ≤ b56 := Nat.le_of_eq q56.symm
 have ne_r0_b56 : r0 ≠ b56 := Nat.ne_of_lt (Nat.lt_of_lt_of_le T_c.lt lt_b56)
 have g_b56 : n0 ≤ b56 := Nat.le_trans Z0 lt_b56
 have sz_b56 : h0.size ≤ b56 := Nat.le_trans (Keep.refl h0 ([] : List Addr)).1 lt_b56
 have V56 : o_Tb Z h56 b56 .byte (44 : Int32) (fun _ => 0) := o_Tb.new A56 (by decide) rfl
 refine o_go st56 ?_
 refine o_gi (XS.astoreN X56.here hx rfl (hb hby o_d7_3) rfl rfl (l' := #[o_A r0, o_I 0, o_I 44, o_A b56, o_u, o_u]) rfl) ?_
 refine o_gi (XS.aloadN X56.here hx rfl (hb hby o_d7_4) rfl rfl) ?_
 refine o_gi (XS.iloadN X56.here hx rfl (hb hby o_d7_5) rfl) ?_
 refine o_gi (XS.aloadN X56.here hx rfl (hb hby o_d7_6) rfl rfl) ?_
 refine o_gi (XS.iconst X56.here hx rfl (hb hby o_d7_7)) ?_
 refine o_gi (XS.iloadN X56.here hx rfl (hb hby o_d7_8) rfl) ?_
 show o_Gs p e below _ T56 m 9 #[o_A r0, o_I 0, o_I 44, o_A b56, o_u, o_u] [(.int 44), (.int 0), (.ref b56), (.int 0), (.ref r0)]
 obtain ⟨_, T57, L57, X57, ⟨rfl, N57q, K57, G57_0⟩, st57⟩ := o_callS X56 hx hZ hown (hw _ o_t31) (hw _ o_t32) (hw _ o_t29) (hw _ o_t33) (by decide) (as := [(.ref r0), (.int 0), (.ref b56), (.int 0), (.int 44)]) (rm8 l Z a0 hw [] r0 b56 (44 : Int32) q_G (fun _ => 0) h56 n0 (Nat.le_trans Z0 E56.1) g_b56 (T_c.ext E56) V56 ne_r0_b56 hG (by decide)) e56 o_pd1 rfl (pc := 9) (Ls := #[o_A r0, o_I 0, o_I 44, o_A b56, o_u, o_u]) (rest := []) (W := 0) (by rw [hml]; rfl) (Nat.le_of_eq rfl) (by decide) (by decide) (hb hby o_d7_9) (by decide) (by decide)
 have N57 := Fr.app N0 N57q
 refine o_go st57 ?_
 refine o_gi (XS.istore X57.here hx rfl (hb hby o_d7_12) rfl (l' := #[o_A r0, o_I 0, o_I 44, o_A b56, o_I 44, o_u]) rfl) ?_
 refine o_gi (XS.iload X57.here hx rfl (hb hby o_d7_14) rfl) ?_
 refine o_gi (XS.iloadN X57.here hx rfl (hb hby o_d7_16) rfl) ?_
 show o_Gs p e below _ T57 m 17 #[o_A r0, o_I 0, o_I 44, o_A b56, o_I 44, o_u] [(.int 44), (.int 44)]
 have hd58 : (44 : Int32) = (44 : Int32) := (by decide)
 refine o_gi (XS.icmpYes X57.here hx rfl (pc0 := 17) (pc' := 57) rfl (hb hby o_d7_17) rfl (teq hd58).1 (by decide) (by decide)) ?_
 refine o_gi (XS.aloadN X57.here hx rfl (hb hby o_d7_57) rfl rfl) ?_
 show o_Gs p e below _ T57 m 58 #[o_A r0, o_I 0, o_I 44, o_A b56, o_I 44, o_u] [(.ref b56)]
 exact o_retR X57 hx hlk hret rfl rfl (hb hby o_d7_58) (by decide) (by decide) (⟨_, rfl, N57, (((Keep.refl h0 ([] : List Addr)).ext E56).trans K57 (fun x hx => by cases List.mem_singleton.mp hx; exact Or.inr sz_b56)), sz_b56, (Y56.keep K57), G57_0⟩)
def o_Q9_44 (r0 : Addr) (q_F : Int32 → Int32) (h0 : Heap) (n0 : Nat) (v : Option Value) (h : Heap) (L : List Loc) : Prop := v = some (.int 0) ∧ Fr n0 L ∧ h = h0
abbrev o_R9_44 : Room := { frames := 0, cells := 0, slots := 0, locals := 0 }
theorem o_ef9_44 (m : MethodId) (z0 : Addr) : entryFrame m #[(.ref z0), (.int 44)] 2 = mkF m 0 #[o_A z0, o_I 44] [] := by first | (simp [entryFrame, mkF, argsToLocals, Value.category]; done) | rfl
set_option maxRecDepth 65536 in
set_option maxHeartbeats 40000000 in
theorem rm9_44 (l : Launch) (Z : State) (a0 : Array Value) (hw : ∀ d ∈ tables_1, d.before a0 Z = true) (ws : List Jvm.Cond) (r0 : Addr) (q_F : Int32 → Int32) (h0 : Heap) (n0 : Nat) (T_b : o_Tb Z h0 r0 .byte (44 : Int32) q_F) : o_Met l Z (⟨"java/lang/StringUTF16", "coderFromArrayLen", "([BI)B"⟩ : MethodName) jdk_52_method_15_code 2 (some .byte) ws o_R9_44 #[(.ref r0), (.int 44)] h0 (o_Q9_44 r0 q_F h0 n0) := by
 refine o_met (plainFor_of_name o_pn1) ?_
 intro p e s m below meth c s₁ hx hby hml hown hnm hret hlk hZ e0 X0
 have N0 := Fr.nil n0
 have hml : c.maxLocals = 2 := hml
 have hown : s.vm.findClass "java/lang/StringUTF16" = some m.cls := hown
 have hret : meth.sig.returnType = (some .byte) := hret
 have hby : c.code = jdk_52_method_15_code := hby
 have hnm : meth.name = "coderFromArrayLen" := hnm
 rw [o_ef9_44]
 refine o_gi (XS.iloadN X0.here hx rfl (hb hby o_d9_0) rfl) ?_
 refine o_gi (XS.aloadN X0.here hx rfl (hb hby o_d9_1) rfl rfl) ?_
 show o_Gs p e below _ s₁ m 2 #[o_A r0, o_I 44] [(.ref r0), (.int 44)]
 obtain ⟨cl59, Ar59, sa59, na59, ha59⟩ := id T_b
 refine o_go (X0.arraylength hx (by rw [e0]; exact Ar59.1) (State.isArrayOf_alike hZ.alike Ar59.2.1) (g := (mkF m 2 #[o_A r0, o_I 44] [(.ref r0), (.int 44)])) rfl rfl (hb hby o_d9_2)) ?_
 rw [len_of sa59 na59]
 show o_Gs p e below _ s₁ m 3 #[o_A r0, o_I 44] [(.int 44), (.int 44)]
 refine o_gi (XS.isub X0.here hx rfl (hb hby o_d9_3) rfl) ?_
 show o_Gs p e below _ s₁ m 4 #[o_A r0, o_I 44] [(.int ((44 : Int32) - (44 : Int32)))]
 rw [show ((44 : Int32) - (44 : Int32)) = (0 : Int32) from by decide]
 refine o_gi (XS.bipush X0.here hx rfl (hb hby o_d9_4)) ?_
 show o_Gs p e below _ s₁ m 6 #[o_A r0, o_I 44] [(.int 31), (.int 0)]
 refine o_gi (XS.iushr X0.here hx rfl (hb hby o_d9_6) rfl) ?_
 show o_Gs p e below _ s₁ m 7 #[o_A r0, o_I 44] [(.int (((0 : Int32).toUInt32 >>> ((31 : Int32) &&& 31).toUInt32).toInt32))]
 rw [show (((0 : Int32).toUInt32 >>> ((31 : Int32) &&& 31).toUInt32).toInt32) = (0 : Int32) from by decide]
 show o_Gs p e below _ s₁ m 7 #[o_A r0, o_I 44] [(.int 0)]
 refine o_gi (XS.i2b X0.here hx rfl (hb hby o_d9_7) rfl) ?_
 show o_Gs p e below _ s₁ m 8 #[o_A r0, o_I 44] [(.int ((0 : Int32).toInt8.toInt32))]
 rw [show ((0 : Int32).toInt8.toInt32) = (0 : Int32) from by decide]
 show o_Gs p e below _ s₁ m 8 #[o_A r0, o_I 44] [(.int 0)]
 exact o_retN X0 hx hlk hret (by simp) (z' := (0 : Int32)) rfl (hb hby o_d9_8) (by decide) (by decide) ⟨rfl, N0, e0⟩
def o_Q5_44 (Z : State) (r0 : Addr) (r1 : Addr) (q_G : Int32 → Int32) (z_cs : Int32) (h0 : Heap) (n0 : Nat) (v : Option Value) (h : Heap) (L : List Loc) : Prop := ∃ b : Addr, v = none ∧ Fr n0 L ∧ Keep h0 h [r0] ∧ h0.size ≤ b ∧ Exa Z h r0 "java/lang/String" ∧ Fld Z h r0 "java/lang/String" "coder" "B" (.int 0) ∧ Fld Z h r0 "java/lang/String" "value" "[B" (.ref b) ∧ Exa Z h b "[B" ∧ o_Tb Z h b .byte (44 : Int32) (o_b8 q_G)
abbrev o_R5_44 : Room := { frames := 2, cells := 1, slots := 44, locals := 35 }
theorem o_ef5_44 (m : MethodId) (z0 : Addr) (z1 : Addr) : entryFrame m #[(.ref z0), (.ref z1), (.int 0), (.int 44), .null] 6 = mkF m 0 #[o_A z0, o_A z1, o_I 0, o_I 44, .val .null, o_u] [] := by first | (simp [entryFrame, mkF, argsToLocals, Value.category]; done) | rfl
set_option maxRecDepth 65536 in
set_option maxHeartbeats 40000000 in
theorem rm5_44 (l : Launch) (Z : State) (a0 : Array Value) (hw : ∀ d ∈ tables_1, d.before a0 Z = true) (ws : List Jvm.Cond) (r0 : Addr) (r1 : Addr) (q_G : Int32 → Int32) (z_cs : Int32) (h0 : Heap) (n0 : Nat) (Z0 : n0 ≤ h0.size) (g_r0 : n0 ≤ r0) (O0 : Old Z n0 h0) (z_CS : ¬ z_cs = 0) (E_r0 : Exa Z h0 r0 "java/lang/String") (F_v : Fld Z h0 r0 "java/lang/String" "value" "[B" .null) (F_c : Fld Z h0 r0 "java/lang/String" "coder" "B" (.int 0)) (T_c : o_Tb Z h0 r1 .char (44 : Int32) q_G) (hG : o_C255 q_G) (ne_r0_r1 : r0 ≠ r1) (S_z_cs : Sta Z Z.heap "java/lang/String" "COMPACT_STRINGS" "Z" (.int z_cs)) : o_Met l Z (⟨"java/lang/String", "<init>", "([CIILjava/lang/Void;)V"⟩ : MethodName) jdk_42_method_149_code 6 none ws o_R5_44 #[(.ref r0), (.ref r1), (.int 0), (.int 44), .null] h0 (o_Q5_44 Z r0 r1 q_G z_cs h0 n0) := by
 refine o_met (plainFor_of_name o_pn2) ?_
 intro p e s m below meth c s₁ hx hby hml hown hnm hret hlk hZ e0 X0
 have N0 := Fr.nil n0
 have hml : c.maxLocals = 6 := hml
 have hown : s.vm.findClass "java/lang/String" = some m.cls := hown
 have hret : meth.sig.returnType = none := hret
 have hby : c.code = jdk_42_method_149_code := hby
 have hnm : meth.name = "<init>" := hnm
 rw [o_ef5_44]
 refine o_gi (XS.aloadN X0.here hx rfl (hb hby o_d5_0) rfl rfl) ?_
 show o_Gs p e below _ s₁ m 1 #[o_A r0, o_A r1, o_I 0, o_I 44, .val .null, o_u] [(.ref r0)]
 obtain ⟨T60, X60, e60, st60⟩ := initO X0 hx hZ hown (hw _ o_t23) (hw _ o_t24) (hw _ o_t25) e0 (g := (mkF m 1 #[o_A r0, o_A r1, o_I 0, o_I 44, .val .null, o_u] [(.ref r0)])) rfl (by rw [hml]; rfl) rfl (hb hby o_d5_1) (by decide) (W := 0) (by show 2 * 0 + _ ≤ _; exact Nat.le_of_eq rfl) (by decide)
 refine o_go st60 ?_
 refine o_gi (XS.iloadN X60.here hx rfl (hb hby o_d5_4) rfl) ?_
 show o_Gs p e below _ T60 m 5 #[o_A r0, o_A r1, o_I 0, o_I 44, .val .null, o_u] [(.int 44)]
 have hd61 : ¬ ((44 : Int32) = (0 : Int32)) := (by decide)
 refine o_gi (XS.ifYes X60.here hx rfl (pc0 := 5) (pc' := 27) rfl (hb hby o_d5_5) rfl ((if0 _ _).trans (feq hd61).2) (by decide) (by decide)) ?_
 show o_Gs p e below _ T60 m 27 #[o_A r0, o_A r1, o_I 0, o_I 44, .val .null, o_u] []
 obtain ⟨T62, X62, e62, st62⟩ := getS2 X60 hx hZ hown (host := "") (Or.inl (hw _ o_t26)) Via.refl e60 (S_z_cs.ext O0.2) (g := (mkF m 27 #[o_A r0, o_A r1, o_I 0, o_I 44, .val .null, o_u] [])) rfl (hb hby o_d5_27)
 refine o_go st62 ?_
 show o_Gs p e below _ T62 m 30 #[o_A r0, o_A r1, o_I 0, o_I 44, .val .null, o_u] [(.int z_cs)]
 have hd63 : ¬ (z_cs = (0 : Int32)) := z_CS
 refine o_gi (XS.ifNo X62.here hx rfl (hb hby o_d5_30) rfl ((if0 _ _).trans (feq hd63).1)) ?_
 refine o_gi (XS.aloadN X62.here hx rfl (hb hby o_d5_33) rfl rfl) ?_
 refine o_gi (XS.iloadN X62.here hx rfl (hb hby o_d5_34) rfl) ?_
 refine o_gi (XS.iloadN X62.here hx rfl (hb hby o_d5_35) rfl) ?_
 show o_Gs p e below _ T62 m 36 #[o_A r0, o_A r1, o_I 0, o_I 44, .val .null, o_u] [(.int 44), (.int 0), (.ref r1)]
 obtain ⟨_, T64, L64, X64, ⟨b64, rfl, N64q, K64, lt_b64, G64_0, G64_1⟩, st64⟩ := o_callS X62 hx hZ hown (hw _ o_t27) (hw _ o_t28) (hw _ o_t29) (hw _ o_t30) (by decide) (as := [(.ref r1), (.int 0), (.int 44)]) (rm7_44 l Z a0 hw [] r1 q_G h0 n0 Z0 T_c hG) e62 o_pd2 rfl (pc := 36) (Ls := #[o_A r0, o_A r1, o_I 0, o_I 44, .val .null, o_u]) (rest := []) (W := 0) (by rw [hml]; rfl) (Nat.le_of_eq rfl) (by decide) (by decide) (hb hby o_d5_36) (by decide) (by decide)
 have N64 := Fr.app N0 N64q
 have ne_r0_b64 : r0 ≠ b64 := Nat.ne_of_lt (Nat.lt_of_lt_of_le E_r0.lt lt_b64)
 have ne_r1_b64 : r1 ≠ b64 := Nat.ne_of_lt (Nat.lt_of_lt_of_le T_c.lt lt_b64)
 have g_b64 : n0 ≤ b64 := Nat.le_trans Z0 lt_b64
 have sz_b64 : h0.size ≤ b64 := Nat.le_trans (Keep.refl h0 ([r0] : List Addr)).1 lt_b64
 refine o_go st64 ?_
 refine o_gi (XS.astore X64.here hx rfl (hb hby o_d5_39) rfl rfl (l' := #[o_A r0, o_A r1, o_I 0, o_I 44, .val .null, o_A b64]) rfl) ?_
 refine o_gi (XS.aloadN X64.here hx rfl (hb hby o_d5_41) rfl rfl) ?_
 refine o_gi (XS.aload X64.here hx rfl (hb hby o_d5_42) rfl rfl) ?_
 refine o_gi (XS.iloadN X64.here hx rfl (hb hby o_d5_44) rfl) ?_
 show o_Gs p e below _ T64 m 45 #[o_A r0, o_A r1, o_I 0, o_I 44, .val .null, o_A b64] [(.int 44), (.ref b64), (.ref r0)]
 obtain ⟨_, T65, L65, X65, ⟨rfl, N65q, e65⟩, st65⟩ := o_callS X64 hx hZ hown (hw _ o_t34) (hw _ o_t35) (hw _ o_t29) (hw _ o_t36) (by decide) (as := [(.ref b64), (.int 44)]) (rm9_44 l Z a0 hw [] b64 (o_b8 q_G) T64.heap n0 G64_1) rfl o_pd3 rfl (pc := 45) (Ls := #[o_A r0, o_A r1, o_I 0, o_I 44, .val .null, o_A b64]) (rest := [(.ref r0)]) (W := 1) (by rw [hml]; rfl) (Nat.le_of_eq rfl) (by decide) (by decide) (hb hby o_d5_45) (by decide) (by decide)
 have N65 := Fr.app N64 N65q
 refine o_go st65 ?_
 show o_Gs p e below _ T65 m 48 #[o_A r0, o_A r1, o_I 0, o_I 44, .val .null, o_A b64] [(.int 0), (.ref r0)]
 have ff67 : Fld Z T64.heap r0 "java/lang/String" "coder" "B" (.int 0) := (F_c.keep K64 List.not_mem_nil)
 obtain ⟨T66, h66, X66, e66, W66, st66⟩ := putFN X65 hx hZ hown (hw _ o_t37) Via.refl e65 ff67 (E_r0.keep K64) (Or.inr ⟨(hw _ o_t38), rfl, hnm⟩) (hw _ o_t14) (ty := .byte) (v' := .int 0) (by decide) rfl (by decide) (g := (mkF m 48 #[o_A r0, o_A r1, o_I 0, o_I 44, .val .null, o_A b64] [(.int 0), (.ref r0)])) rfl rfl (hb hby o_d5_48)
 have N66 := Fr.snoc X66 N65 g_r0
 have Fw66 := ff67.same W66
 refine o_go st66 ?_
 refine o_gi (XS.aloadN X66.here hx rfl (hb hby o_d5_51) rfl rfl) ?_
 refine o_gi (XS.aload X66.here hx rfl (hb hby o_d5_52) rfl rfl) ?_
 show o_Gs p e below _ T66 m 54 #[o_A r0, o_A r1, o_I 0, o_I 44, .val .null, o_A b64] [(.ref b64), (.ref r0)]
 have ff69 : Fld Z h66 r0 "java/lang/String" "value" "[B" .null := ((F_v.keep K64 List.not_mem_nil).other W66 (Or.inr (slot_ne (Or.inr (hw _ o_t40)) (Or.inr (hw _ o_t38)) (by decide) (t := (.array .byte)) (t' := .byte) (by decide) (by decide))))
 obtain ⟨T68, h68, X68, e68, W68, st68⟩ := putF X66 hx hZ hown (host := "") (Or.inl (hw _ o_t39)) Via.refl e66 ff69 ((E_r0.keep K64).wr W66) (Or.inr ⟨(hw _ o_t40), rfl, hnm⟩) (hw _ o_t14) (ty := (.array .byte)) (by decide) rfl rfl (g := (mkF m 54 #[o_A r0, o_A r1, o_I 0, o_I 44, .val .null, o_A b64] [(.ref b64), (.ref r0)])) rfl rfl (hb hby o_d5_54)
 have N68 := Fr.snoc X68 N66 g_r0
 have Fw68 := ff69.same W68
 refine o_go st68 ?_
 show o_Gs p e below _ T68 m 57 #[o_A r0, o_A r1, o_I 0, o_I 44, .val .null, o_A b64] []
 have ff70 : Exa Z h68 r0 "java/lang/String" := (((E_r0.keep K64).wr W66).wr W68)
 have ff71 : Fld Z h68 r0 "java/lang/String" "coder" "B" (.int 0) := (Fw66.other W68 (Or.inr (slot_ne (Or.inr (hw _ o_t38)) (Or.inr (hw _ o_t40)) (by decide) (t := .byte) (t' := (.array .byte)) (by decide) (by decide))))
 have ff72 : o_Tb Z h68 b64 .byte (44 : Int32) (o_b8 q_G) := ((G64_1.other W66 (Ne.symm ne_r0_b64)).other W68 (Ne.symm ne_r0_b64))
 exact o_ret0 X68 hx hlk hret (hb hby o_d5_57) (by decide) (by decide) (by show o_Q5_44 Z r0 r1 q_G z_cs h0 n0 _ T68.heap _; rw [e68]; exact ⟨_, rfl, N68, ((((Keep.refl h0 ([r0] : List Addr)).trans K64 (fun x hx => nomatch hx)).wr W66 (Or.inl (List.mem_of_getElem? (i := 0) rfl))).wr W68 (Or.inl (List.mem_of_getElem? (i := 0) rfl))), sz_b64, ff70, ff71, Fw68, ((G64_0.wr W66).wr W68), ff72⟩)
def o_Q4_44 (Z : State) (r0 : Addr) (r1 : Addr) (q_G : Int32 → Int32) (z_cs : Int32) (h0 : Heap) (n0 : Nat) (v : Option Value) (h : Heap) (L : List Loc) : Prop := ∃ b : Addr, v = none ∧ Fr n0 L ∧ Keep h0 h [r0] ∧ h0.size ≤ b ∧ Exa Z h r0 "java/lang/String" ∧ Fld Z h r0 "java/lang/String" "coder" "B" (.int 0) ∧ Fld Z h r0 "java/lang/String" "value" "[B" (.ref b) ∧ Exa Z h b "[B" ∧ o_Tb Z h b .byte (44 : Int32) (o_b8 q_G)
abbrev o_R4_44 : Room := { frames := 3, cells := 1, slots := 44, locals := 52 }
theorem o_ef4_44 (m : MethodId) (z0 : Addr) (z1 : Addr) : entryFrame m #[(.ref z0), (.ref z1)] 2 = mkF m 0 #[o_A z0, o_A z1] [] := by first | (simp [entryFrame, mkF, argsToLocals, Value.category]; done) | rfl
set_option maxRecDepth 65536 in
set_option maxHeartbeats 40000000 in
theorem rm4_44 (l : Launch) (Z : State) (a0 : Array Value) (hw : ∀ d ∈ tables_1, d.before a0 Z = true) (ws : List Jvm.Cond) (r0 : Addr) (r1 : Addr) (q_G : Int32 → Int32) (z_cs : Int32) (h0 : Heap) (n0 : Nat) (Z0 : n0 ≤ h0.size) (g_r0 : n0 ≤ r0) (O0 : Old Z n0 h0) (z_CS : ¬ z_cs = 0) (E_r0 : Exa Z h0 r0 "java/lang/String") (F_v : Fld Z h0 r0 "java/lang/String" "value" "[B" .null) (F_c : Fld Z h0 r0 "java/lang/String" "coder" "B" (.int 0)) (T_c : o_Tb Z h0 r1 .char (44 : Int32) q_G) (hG : o_C255 q_G) (ne_r0_r1 : r0 ≠ r1) (S_z_cs : Sta Z Z.heap "java/lang/String" "COMPACT_STRINGS" "Z" (.int z_cs)) : o_Met l Z (⟨"java/lang/String", "<init>", "([C)V"⟩ : MethodName) jdk_42_method_3_code 2 none ws o_R4_44 #[(.ref r0), (.ref r1)] h0 (o_Q4_44 Z r0 r1 q_G z_cs h0 n0) := by
 refine o_met (plainFor_of_name o_pn2) ?_
 intro p e s m below meth c s₁ hx hby hml hown hnm hret hlk hZ e0 X0
 have N0 := Fr.nil n0
 have hml : c.maxLocals = 2 := hml
 have hown : s.vm.findClass "java/lang/String" = some m.cls := hown
 have hret : meth.sig.returnType = none := hret
 have hby : c.code = jdk_42_method_3_code := hby
 have hnm : meth.name = "<init>" := hnm
 rw [o_ef4_44]
 refine o_gi (XS.aloadN X0.here hx rfl (hb hby o_d4_0) rfl rfl) ?_
 refine o_gi (XS.aloadN X0.here hx rfl (hb hby o_d4_1) rfl rfl) ?_
 refine o_gi (XS.iconst X0.here hx rfl (hb hby o_d4_2)) ?_
 refine o_gi (XS.aloadN X0.here hx rfl (hb hby o_d4_3) rfl rfl) ?_
 show o_Gs p e below _ s₁ m 4 #[o_A r0, o_A r1] [(.ref r1), (.int 0), (.ref r1), (.ref r0)]
 obtain ⟨cl73, Ar73, sa73, na73, ha73⟩ := id T_c
 refine o_go (X0.arraylength hx (by rw [e0]; exact Ar73.1) (State.isArrayOf_alike hZ.alike Ar73.2.1) (g := (mkF m 4 #[o_A r0, o_A r1] [(.ref r1), (.int 0), (.ref r1), (.ref r0)])) rfl rfl (hb hby o_d4_4)) ?_
 rw [len_of sa73 na73]
 refine o_gi (XS.aconstNull X0.here hx rfl (hb hby o_d4_5)) ?_
 show o_Gs p e below _ s₁ m 6 #[o_A r0, o_A r1] [.null, (.int 44), (.int 0), (.ref r1), (.ref r0)]
 obtain ⟨_, T74, L74, X74, ⟨b74, rfl, N74q, K74, lt_b74, G74_0, G74_1, G74_2, G74_3, G74_4⟩, st74⟩ := o_callI X0 hx hZ rfl hown (hw _ o_t19) (hw _ o_t20) (hw _ o_t15) (hw _ o_t22) (by decide) (b := r0) (as := [(.ref r1), (.int 0), (.int 44), .null]) (rm5_44 l Z a0 hw [] r0 r1 q_G z_cs h0 n0 Z0 g_r0 O0 z_CS E_r0 F_v F_c T_c hG ne_r0_r1 S_z_cs) e0 o_pd4 rfl (pc := 6) (Ls := #[o_A r0, o_A r1]) (rest := []) (W := 0) (by rw [hml]; rfl) (Nat.le_of_eq rfl) (by decide) (by decide) (hb hby o_d4_6) (by decide) (by decide)
 have N74 := Fr.app N0 N74q
 have ne_r0_b74 : r0 ≠ b74 := Nat.ne_of_lt (Nat.lt_of_lt_of_le E_r0.lt lt_b74)
 have ne_r1_b74 : r1 ≠ b74 := Nat.ne_of_lt (Nat.lt_of_lt_of_le T_c.lt lt_b74)
 have g_b74 : n0 ≤ b74 := Nat.le_trans Z0 lt_b74
 have sz_b74 : h0.size ≤ b74 := Nat.le_trans (Keep.refl h0 ([r0] : List Addr)).1 lt_b74
 refine o_go st74 ?_
 show o_Gs p e below _ T74 m 9 #[o_A r0, o_A r1] []
 exact o_ret0 X74 hx hlk hret (hb hby o_d4_9) (by decide) (by decide) (⟨_, rfl, N74, ((Keep.refl h0 ([r0] : List Addr)).trans K74 (fun x hx => by cases List.mem_singleton.mp hx; exact Or.inl (List.mem_of_getElem? (i := 0) rfl))), sz_b74, G74_0, G74_1, G74_2, G74_3, G74_4⟩)
def o_Q7_64 (Z : State) (r0 : Addr) (q_G : Int32 → Int32) (h0 : Heap) (n0 : Nat) (v : Option Value) (h : Heap) (L : List Loc) : Prop := ∃ b : Addr, v = some (.ref b) ∧ Fr n0 L ∧ Keep h0 h [] ∧ h0.size ≤ b ∧ Exa Z h b "[B" ∧ o_Tb Z h b .byte (64 : Int32) (o_b8 q_G)
abbrev o_R7_64 : Room := { frames := 1, cells := 1, slots := 64, locals := 18 }
theorem o_ef7_64 (m : MethodId) (z0 : Addr) : entryFrame m #[(.ref z0), (.int 0), (.int 64)] 6 = mkF m 0 #[o_A z0, o_I 0, o_I 64, o_u, o_u, o_u] [] := by first | (simp [entryFrame, mkF, argsToLocals, Value.category]; done) | rfl
set_option maxRecDepth 65536 in
set_option maxHeartbeats 40000000 in
theorem rm7_64 (l : Launch) (Z : State) (a0 : Array Value) (hw : ∀ d ∈ tables_1, d.before a0 Z = true) (ws : List Jvm.Cond) (r0 : Addr) (q_G : Int32 → Int32) (h0 : Heap) (n0 : Nat) (Z0 : n0 ≤ h0.size) (T_c : o_Tb Z h0 r0 .char (64 : Int32) q_G) (hG : o_C255 q_G) : o_Met l Z (⟨"java/lang/StringUTF16", "compress", "([CII)[B"⟩ : MethodName) jdk_52_method_16_code 6 (some (.array .byte)) ws o_R7_64 #[(.ref r0), (.int 0), (.int 64)] h0 (o_Q7_64 Z r0 q_G h0 n0) := by
 refine o_met (plainFor_of_name o_pn1) ?_
 intro p e s m below meth c s₁ hx hby hml hown hnm hret hlk hZ e0 X0
 have N0 := Fr.nil n0
 have hml : c.maxLocals = 6 := hml
 have hown : s.vm.findClass "java/lang/StringUTF16" = some m.cls := hown
 have hret : meth.sig.returnType = (some (.array .byte)) := hret
 have hby : c.code = jdk_52_method_16_code := hby
 have hnm : meth.name = "compress" := hnm
 rw [o_ef7_64]
 refine o_gi (XS.iloadN X0.here hx rfl (hb hby o_d7_0) rfl) ?_
 show o_Gs p e below _ s₁ m 1 #[o_A r0, o_I 0, o_I 64, o_u, o_u, o_u] [(.int 64)]
 obtain ⟨T75, h75, k75, X75, e75, E75, A75, Y75, st75⟩ := newPE X0 hx hZ (aty := .byte) (hw _ o_t1) e0 (g := (mkF m 1 #[o_A r0, o_I 0, o_I 64, o_u, o_u, o_u] [(.int 64)])) rfl (hb hby o_d7_1) rfl (by decide) (cap := 64) (by decide) (by decide) (by decide) (by decide) (ad := "[B") (by decide +kernel)
 obtain ⟨b75, q75⟩ : ∃ z, z = h0.size := ⟨_, rfl⟩
 rw [← q75] at A75 Y75 st75
 have lt_b75 : h0.size ≤ b75 := Nat.le_of_eq q75.symm
 have ne_r0_b75 : r0 ≠ b75 := Nat.ne_of_lt (Nat.lt_of_lt_of_le T_c.lt lt_b75)
 have g_b75 : n0 ≤ b75 := Nat.le_trans Z0 lt_b75
 have sz_b75 : h0.size ≤ b75 := Nat.le_trans (Keep.refl h0 ([] : List Addr)).1 lt_b75
 have V75 : o_Tb Z h75 b75 .byte (64 : Int32) (fun _ => 0) := o_Tb.new A75 (by decide) rfl
 refine o_go st75 ?_
 refine o_gi (XS.astoreN X75.here hx rfl (hb hby o_d7_3) rfl rfl (l' := #[o_A r0, o_I 0, o_I 64, o_A b75, o_u, o_u]) rfl) ?_
 refine o_gi (XS.aloadN X75.here hx rfl (hb hby o_d7_4) rfl rfl) ?_
 refine o_gi (XS.iloadN X75.here hx rfl (hb hby o_d7_5) rfl) ?_
 refine o_gi (XS.aloadN X75.here hx rfl (hb hby o_d7_6) rfl rfl) ?_
 refine o_gi (XS.iconst X75.here hx rfl (hb hby o_d7_7)) ?_
 refine o_gi (XS.iloadN X75.here hx rfl (hb hby o_d7_8) rfl) ?_
 show o_Gs p e below _ T75 m 9 #[o_A r0, o_I 0, o_I 64, o_A b75, o_u, o_u] [(.int 64), (.int 0), (.ref b75), (.int 0), (.ref r0)]
 obtain ⟨_, T76, L76, X76, ⟨rfl, N76q, K76, G76_0⟩, st76⟩ := o_callS X75 hx hZ hown (hw _ o_t31) (hw _ o_t32) (hw _ o_t29) (hw _ o_t33) (by decide) (as := [(.ref r0), (.int 0), (.ref b75), (.int 0), (.int 64)]) (rm8 l Z a0 hw [] r0 b75 (64 : Int32) q_G (fun _ => 0) h75 n0 (Nat.le_trans Z0 E75.1) g_b75 (T_c.ext E75) V75 ne_r0_b75 hG (by decide)) e75 o_pd1 rfl (pc := 9) (Ls := #[o_A r0, o_I 0, o_I 64, o_A b75, o_u, o_u]) (rest := []) (W := 0) (by rw [hml]; rfl) (Nat.le_of_eq rfl) (by decide) (by decide) (hb hby o_d7_9) (by decide) (by decide)
 have N76 := Fr.app N0 N76q
 refine o_go st76 ?_
 refine o_gi (XS.istore X76.here hx rfl (hb hby o_d7_12) rfl (l' := #[o_A r0, o_I 0, o_I 64, o_A b75, o_I 64, o_u]) rfl) ?_
 refine o_gi (XS.iload X76.here hx rfl (hb hby o_d7_14) rfl) ?_
 refine o_gi (XS.iloadN X76.here hx rfl (hb hby o_d7_16) rfl) ?_
 show o_Gs p e below _ T76 m 17 #[o_A r0, o_I 0, o_I 64, o_A b75, o_I 64, o_u] [(.int 64), (.int 64)]
 have hd77 : (64 : Int32) = (64 : Int32) := (by decide)
 refine o_gi (XS.icmpYes X76.here hx rfl (pc0 := 17) (pc' := 57) rfl (hb hby o_d7_17) rfl (teq hd77).1 (by decide) (by decide)) ?_
 refine o_gi (XS.aloadN X76.here hx rfl (hb hby o_d7_57) rfl rfl) ?_
 show o_Gs p e below _ T76 m 58 #[o_A r0, o_I 0, o_I 64, o_A b75, o_I 64, o_u] [(.ref b75)]
 exact o_retR X76 hx hlk hret rfl rfl (hb hby o_d7_58) (by decide) (by decide) (⟨_, rfl, N76, (((Keep.refl h0 ([] : List Addr)).ext E75).trans K76 (fun x hx => by cases List.mem_singleton.mp hx; exact Or.inr sz_b75)), sz_b75, (Y75.keep K76), G76_0⟩)
def o_Q9_64 (r0 : Addr) (q_F : Int32 → Int32) (h0 : Heap) (n0 : Nat) (v : Option Value) (h : Heap) (L : List Loc) : Prop := v = some (.int 0) ∧ Fr n0 L ∧ h = h0
abbrev o_R9_64 : Room := { frames := 0, cells := 0, slots := 0, locals := 0 }
theorem o_ef9_64 (m : MethodId) (z0 : Addr) : entryFrame m #[(.ref z0), (.int 64)] 2 = mkF m 0 #[o_A z0, o_I 64] [] := by first | (simp [entryFrame, mkF, argsToLocals, Value.category]; done) | rfl
set_option maxRecDepth 65536 in
set_option maxHeartbeats 40000000 in
theorem rm9_64 (l : Launch) (Z : State) (a0 : Array Value) (hw : ∀ d ∈ tables_1, d.before a0 Z = true) (ws : List Jvm.Cond) (r0 : Addr) (q_F : Int32 → Int32) (h0 : Heap) (n0 : Nat) (T_b : o_Tb Z h0 r0 .byte (64 : Int32) q_F) : o_Met l Z (⟨"java/lang/StringUTF16", "coderFromArrayLen", "([BI)B"⟩ : MethodName) jdk_52_method_15_code 2 (some .byte) ws o_R9_64 #[(.ref r0), (.int 64)] h0 (o_Q9_64 r0 q_F h0 n0) := by
 refine o_met (plainFor_of_name o_pn1) ?_
 intro p e s m below meth c s₁ hx hby hml hown hnm hret hlk hZ e0 X0
 have N0 := Fr.nil n0
 have hml : c.maxLocals = 2 := hml
 have hown : s.vm.findClass "java/lang/StringUTF16" = some m.cls := hown
 have hret : meth.sig.returnType = (some .byte) := hret
 have hby : c.code = jdk_52_method_15_code := hby
 have hnm : meth.name = "coderFromArrayLen" := hnm
 rw [o_ef9_64]
 refine o_gi (XS.iloadN X0.here hx rfl (hb hby o_d9_0) rfl) ?_
 refine o_gi (XS.aloadN X0.here hx rfl (hb hby o_d9_1) rfl rfl) ?_
 show o_Gs p e below _ s₁ m 2 #[o_A r0, o_I 64] [(.ref r0), (.int 64)]
 obtain ⟨cl78, Ar78, sa78, na78, ha78⟩ := id T_b
 refine o_go (X0.arraylength hx (by rw [e0]; exact Ar78.1) (State.isArrayOf_alike hZ.alike Ar78.2.1) (g := (mkF m 2 #[o_A r0, o_I 64] [(.ref r0), (.int 64)])) rfl rfl (hb hby o_d9_2)) ?_
 rw [len_of sa78 na78]
 show o_Gs p e below _ s₁ m 3 #[o_A r0, o_I 64] [(.int 64), (.int 64)]
 refine o_gi (XS.isub X0.here hx rfl (hb hby o_d9_3) rfl) ?_
 show o_Gs p e below _ s₁ m 4 #[o_A r0, o_I 64] [(.int ((64 : Int32) - (64 : Int32)))]
 rw [show ((64 : Int32) - (64 : Int32)) = (0 : Int32) from by decide]
 refine o_gi (XS.bipush X0.here hx rfl (hb hby o_d9_4)) ?_
 show o_Gs p e below _ s₁ m 6 #[o_A r0, o_I 64] [(.int 31), (.int 0)]
 refine o_gi (XS.iushr X0.here hx rfl (hb hby o_d9_6) rfl) ?_
 show o_Gs p e below _ s₁ m 7 #[o_A r0, o_I 64] [(.int (((0 : Int32).toUInt32 >>> ((31 : Int32) &&& 31).toUInt32).toInt32))]
 rw [show (((0 : Int32).toUInt32 >>> ((31 : Int32) &&& 31).toUInt32).toInt32) = (0 : Int32) from by decide]
 show o_Gs p e below _ s₁ m 7 #[o_A r0, o_I 64] [(.int 0)]
 refine o_gi (XS.i2b X0.here hx rfl (hb hby o_d9_7) rfl) ?_
 show o_Gs p e below _ s₁ m 8 #[o_A r0, o_I 64] [(.int ((0 : Int32).toInt8.toInt32))]
 rw [show ((0 : Int32).toInt8.toInt32) = (0 : Int32) from by decide]
 show o_Gs p e below _ s₁ m 8 #[o_A r0, o_I 64] [(.int 0)]
 exact o_retN X0 hx hlk hret (by simp) (z' := (0 : Int32)) rfl (hb hby o_d9_8) (by decide) (by decide) ⟨rfl, N0, e0⟩
def o_Q5_64 (Z : State) (r0 : Addr) (r1 : Addr) (q_G : Int32 → Int32) (z_cs : Int32) (h0 : Heap) (n0 : Nat) (v : Option Value) (h : Heap) (L : List Loc) : Prop := ∃ b : Addr, v = none ∧ Fr n0 L ∧ Keep h0 h [r0] ∧ h0.size ≤ b ∧ Exa Z h r0 "java/lang/String" ∧ Fld Z h r0 "java/lang/String" "coder" "B" (.int 0) ∧ Fld Z h r0 "java/lang/String" "value" "[B" (.ref b) ∧ Exa Z h b "[B" ∧ o_Tb Z h b .byte (64 : Int32) (o_b8 q_G)
abbrev o_R5_64 : Room := { frames := 2, cells := 1, slots := 64, locals := 35 }
theorem o_ef5_64 (m : MethodId) (z0 : Addr) (z1 : Addr) : entryFrame m #[(.ref z0), (.ref z1), (.int 0), (.int 64), .null] 6 = mkF m 0 #[o_A z0, o_A z1, o_I 0, o_I 64, .val .null, o_u] [] := by first | (simp [entryFrame, mkF, argsToLocals, Value.category]; done) | rfl
set_option maxRecDepth 65536 in
set_option maxHeartbeats 40000000 in
theorem rm5_64 (l : Launch) (Z : State) (a0 : Array Value) (hw : ∀ d ∈ tables_1, d.before a0 Z = true) (ws : List Jvm.Cond) (r0 : Addr) (r1 : Addr) (q_G : Int32 → Int32) (z_cs : Int32) (h0 : Heap) (n0 : Nat) (Z0 : n0 ≤ h0.size) (g_r0 : n0 ≤ r0) (O0 : Old Z n0 h0) (z_CS : ¬ z_cs = 0) (E_r0 : Exa Z h0 r0 "java/lang/String") (F_v : Fld Z h0 r0 "java/lang/String" "value" "[B" .null) (F_c : Fld Z h0 r0 "java/lang/String" "coder" "B" (.int 0)) (T_c : o_Tb Z h0 r1 .char (64 : Int32) q_G) (hG : o_C255 q_G) (ne_r0_r1 : r0 ≠ r1) (S_z_cs : Sta Z Z.heap "java/lang/String" "COMPACT_STRINGS" "Z" (.int z_cs)) : o_Met l Z (⟨"java/lang/String", "<init>", "([CIILjava/lang/Void;)V"⟩ : MethodName) jdk_42_method_149_code 6 none ws o_R5_64 #[(.ref r0), (.ref r1), (.int 0), (.int 64), .null] h0 (o_Q5_64 Z r0 r1 q_G z_cs h0 n0) := by
 refine o_met (plainFor_of_name o_pn2) ?_
 intro p e s m below meth c s₁ hx hby hml hown hnm hret hlk hZ e0 X0
 have N0 := Fr.nil n0
 have hml : c.maxLocals = 6 := hml
 have hown : s.vm.findClass "java/lang/String" = some m.cls := hown
 have hret : meth.sig.returnType = none := hret
 have hby : c.code = jdk_42_method_149_code := hby
 have hnm : meth.name = "<init>" := hnm
 rw [o_ef5_64]
 refine o_gi (XS.aloadN X0.here hx rfl (hb hby o_d5_0) rfl rfl) ?_
 show o_Gs p e below _ s₁ m 1 #[o_A r0, o_A r1, o_I 0, o_I 64, .val .null, o_u] [(.ref r0)]
 obtain ⟨T79, X79, e79, st79⟩ := initO X0 hx hZ hown (hw _ o_t23) (hw _ o_t24) (hw _ o_t25) e0 (g := (mkF m 1 #[o_A r0, o_A r1, o_I 0, o_I 64, .val .null, o_u] [(.ref r0)])) rfl (by rw [hml]; rfl) rfl (hb hby o_d5_1) (by decide) (W := 0) (by show 2 * 0 + _ ≤ _; exact Nat.le_of_eq rfl) (by decide)
 refine o_go st79 ?_
 refine o_gi (XS.iloadN X79.here hx rfl (hb hby o_d5_4) rfl) ?_
 show o_Gs p e below _ T79 m 5 #[o_A r0, o_A r1, o_I 0, o_I 64, .val .null, o_u] [(.int 64)]
 have hd80 : ¬ ((64 : Int32) = (0 : Int32)) := (by decide)
 refine o_gi (XS.ifYes X79.here hx rfl (pc0 := 5) (pc' := 27) rfl (hb hby o_d5_5) rfl ((if0 _ _).trans (feq hd80).2) (by decide) (by decide)) ?_
 show o_Gs p e below _ T79 m 27 #[o_A r0, o_A r1, o_I 0, o_I 64, .val .null, o_u] []
 obtain ⟨T81, X81, e81, st81⟩ := getS2 X79 hx hZ hown (host := "") (Or.inl (hw _ o_t26)) Via.refl e79 (S_z_cs.ext O0.2) (g := (mkF m 27 #[o_A r0, o_A r1, o_I 0, o_I 64, .val .null, o_u] [])) rfl (hb hby o_d5_27)
 refine o_go st81 ?_
 show o_Gs p e below _ T81 m 30 #[o_A r0, o_A r1, o_I 0, o_I 64, .val .null, o_u] [(.int z_cs)]
 have hd82 : ¬ (z_cs = (0 : Int32)) := z_CS
 refine o_gi (XS.ifNo X81.here hx rfl (hb hby o_d5_30) rfl ((if0 _ _).trans (feq hd82).1)) ?_
 refine o_gi (XS.aloadN X81.here hx rfl (hb hby o_d5_33) rfl rfl) ?_
 refine o_gi (XS.iloadN X81.here hx rfl (hb hby o_d5_34) rfl) ?_
 refine o_gi (XS.iloadN X81.here hx rfl (hb hby o_d5_35) rfl) ?_
 show o_Gs p e below _ T81 m 36 #[o_A r0, o_A r1, o_I 0, o_I 64, .val .null, o_u] [(.int 64), (.int 0), (.ref r1)]
 obtain ⟨_, T83, L83, X83, ⟨b83, rfl, N83q, K83, lt_b83, G83_0, G83_1⟩, st83⟩ := o_callS X81 hx hZ hown (hw _ o_t27) (hw _ o_t28) (hw _ o_t29) (hw _ o_t30) (by decide) (as := [(.ref r1), (.int 0), (.int 64)]) (rm7_64 l Z a0 hw [] r1 q_G h0 n0 Z0 T_c hG) e81 o_pd2 rfl (pc := 36) (Ls := #[o_A r0, o_A r1, o_I 0, o_I 64, .val .null, o_u]) (rest := []) (W := 0) (by rw [hml]; rfl) (Nat.le_of_eq rfl) (by decide) (by decide) (hb hby o_d5_36) (by decide) (by decide)
 have N83 := Fr.app N0 N83q
 have ne_r0_b83 : r0 ≠ b83 := Nat.ne_of_lt (Nat.lt_of_lt_of_le E_r0.lt lt_b83)
 have ne_r1_b83 : r1 ≠ b83 := Nat.ne_of_lt (Nat.lt_of_lt_of_le T_c.lt lt_b83)
 have g_b83 : n0 ≤ b83 := Nat.le_trans Z0 lt_b83
 have sz_b83 : h0.size ≤ b83 := Nat.le_trans (Keep.refl h0 ([r0] : List Addr)).1 lt_b83
 refine o_go st83 ?_
 refine o_gi (XS.astore X83.here hx rfl (hb hby o_d5_39) rfl rfl (l' := #[o_A r0, o_A r1, o_I 0, o_I 64, .val .null, o_A b83]) rfl) ?_
 refine o_gi (XS.aloadN X83.here hx rfl (hb hby o_d5_41) rfl rfl) ?_
 refine o_gi (XS.aload X83.here hx rfl (hb hby o_d5_42) rfl rfl) ?_
 refine o_gi (XS.iloadN X83.here hx rfl (hb hby o_d5_44) rfl) ?_
 show o_Gs p e below _ T83 m 45 #[o_A r0, o_A r1, o_I 0, o_I 64, .val .null, o_A b83] [(.int 64), (.ref b83), (.ref r0)]
 obtain ⟨_, T84, L84, X84, ⟨rfl, N84q, e84⟩, st84⟩ := o_callS X83 hx hZ hown (hw _ o_t34) (hw _ o_t35) (hw _ o_t29) (hw _ o_t36) (by decide) (as := [(.ref b83), (.int 64)]) (rm9_64 l Z a0 hw [] b83 (o_b8 q_G) T83.heap n0 G83_1) rfl o_pd3 rfl (pc := 45) (Ls := #[o_A r0, o_A r1, o_I 0, o_I 64, .val .null, o_A b83]) (rest := [(.ref r0)]) (W := 1) (by rw [hml]; rfl) (Nat.le_of_eq rfl) (by decide) (by decide) (hb hby o_d5_45) (by decide) (by decide)
 have N84 := Fr.app N83 N84q
 refine o_go st84 ?_
 show o_Gs p e below _ T84 m 48 #[o_A r0, o_A r1, o_I 0, o_I 64, .val .null, o_A b83] [(.int 0), (.ref r0)]
 have ff86 : Fld Z T83.heap r0 "java/lang/String" "coder" "B" (.int 0) := (F_c.keep K83 List.not_mem_nil)
 obtain ⟨T85, h85, X85, e85, W85, st85⟩ := putFN X84 hx hZ hown (hw _ o_t37) Via.refl e84 ff86 (E_r0.keep K83) (Or.inr ⟨(hw _ o_t38), rfl, hnm⟩) (hw _ o_t14) (ty := .byte) (v' := .int 0) (by decide) rfl (by decide) (g := (mkF m 48 #[o_A r0, o_A r1, o_I 0, o_I 64, .val .null, o_A b83] [(.int 0), (.ref r0)])) rfl rfl (hb hby o_d5_48)
 have N85 := Fr.snoc X85 N84 g_r0
 have Fw85 := ff86.same W85
 refine o_go st85 ?_
 refine o_gi (XS.aloadN X85.here hx rfl (hb hby o_d5_51) rfl rfl) ?_
 refine o_gi (XS.aload X85.here hx rfl (hb hby o_d5_52) rfl rfl) ?_
 show o_Gs p e below _ T85 m 54 #[o_A r0, o_A r1, o_I 0, o_I 64, .val .null, o_A b83] [(.ref b83), (.ref r0)]
 have ff88 : Fld Z h85 r0 "java/lang/String" "value" "[B" .null := ((F_v.keep K83 List.not_mem_nil).other W85 (Or.inr (slot_ne (Or.inr (hw _ o_t40)) (Or.inr (hw _ o_t38)) (by decide) (t := (.array .byte)) (t' := .byte) (by decide) (by decide))))
 obtain ⟨T87, h87, X87, e87, W87, st87⟩ := putF X85 hx hZ hown (host := "") (Or.inl (hw _ o_t39)) Via.refl e85 ff88 ((E_r0.keep K83).wr W85) (Or.inr ⟨(hw _ o_t40), rfl, hnm⟩) (hw _ o_t14) (ty := (.array .byte)) (by decide) rfl rfl (g := (mkF m 54 #[o_A r0, o_A r1, o_I 0, o_I 64, .val .null, o_A b83] [(.ref b83), (.ref r0)])) rfl rfl (hb hby o_d5_54)
 have N87 := Fr.snoc X87 N85 g_r0
 have Fw87 := ff88.same W87
 refine o_go st87 ?_
 show o_Gs p e below _ T87 m 57 #[o_A r0, o_A r1, o_I 0, o_I 64, .val .null, o_A b83] []
 have ff89 : Exa Z h87 r0 "java/lang/String" := (((E_r0.keep K83).wr W85).wr W87)
 have ff90 : Fld Z h87 r0 "java/lang/String" "coder" "B" (.int 0) := (Fw85.other W87 (Or.inr (slot_ne (Or.inr (hw _ o_t38)) (Or.inr (hw _ o_t40)) (by decide) (t := .byte) (t' := (.array .byte)) (by decide) (by decide))))
 have ff91 : o_Tb Z h87 b83 .byte (64 : Int32) (o_b8 q_G) := ((G83_1.other W85 (Ne.symm ne_r0_b83)).other W87 (Ne.symm ne_r0_b83))
 exact o_ret0 X87 hx hlk hret (hb hby o_d5_57) (by decide) (by decide) (by show o_Q5_64 Z r0 r1 q_G z_cs h0 n0 _ T87.heap _; rw [e87]; exact ⟨_, rfl, N87, ((((Keep.refl h0 ([r0] : List Addr)).trans K83 (fun x hx => nomatch hx)).wr W85 (Or.inl (List.mem_of_getElem? (i := 0) rfl))).wr W87 (Or.inl (List.mem_of_getElem? (i := 0) rfl))), sz_b83, ff89, ff90, Fw87, ((G83_0.wr W85).wr W87), ff91⟩)
def o_Q4_64 (Z : State) (r0 : Addr) (r1 : Addr) (q_G : Int32 → Int32) (z_cs : Int32) (h0 : Heap) (n0 : Nat) (v : Option Value) (h : Heap) (L : List Loc) : Prop := ∃ b : Addr, v = none ∧ Fr n0 L ∧ Keep h0 h [r0] ∧ h0.size ≤ b ∧ Exa Z h r0 "java/lang/String" ∧ Fld Z h r0 "java/lang/String" "coder" "B" (.int 0) ∧ Fld Z h r0 "java/lang/String" "value" "[B" (.ref b) ∧ Exa Z h b "[B" ∧ o_Tb Z h b .byte (64 : Int32) (o_b8 q_G)
abbrev o_R4_64 : Room := { frames := 3, cells := 1, slots := 64, locals := 52 }
theorem o_ef4_64 (m : MethodId) (z0 : Addr) (z1 : Addr) : entryFrame m #[(.ref z0), (.ref z1)] 2 = mkF m 0 #[o_A z0, o_A z1] [] := by first | (simp [entryFrame, mkF, argsToLocals, Value.category]; done) | rfl
set_option maxRecDepth 65536 in
set_option maxHeartbeats 40000000 in
theorem rm4_64 (l : Launch) (Z : State) (a0 : Array Value) (hw : ∀ d ∈ tables_1, d.before a0 Z = true) (ws : List Jvm.Cond) (r0 : Addr) (r1 : Addr) (q_G : Int32 → Int32) (z_cs : Int32) (h0 : Heap) (n0 : Nat) (Z0 : n0 ≤ h0.size) (g_r0 : n0 ≤ r0) (O0 : Old Z n0 h0) (z_CS : ¬ z_cs = 0) (E_r0 : Exa Z h0 r0 "java/lang/String") (F_v : Fld Z h0 r0 "java/lang/String" "value" "[B" .null) (F_c : Fld Z h0 r0 "java/lang/String" "coder" "B" (.int 0)) (T_c : o_Tb Z h0 r1 .char (64 : Int32) q_G) (hG : o_C255 q_G) (ne_r0_r1 : r0 ≠ r1) (S_z_cs : Sta Z Z.heap "java/lang/String" "COMPACT_STRINGS" "Z" (.int z_cs)) : o_Met l Z (⟨"java/lang/String", "<init>", "([C)V"⟩ : MethodName) jdk_42_method_3_code 2 none ws o_R4_64 #[(.ref r0), (.ref r1)] h0 (o_Q4_64 Z r0 r1 q_G z_cs h0 n0) := by
 refine o_met (plainFor_of_name o_pn2) ?_
 intro p e s m below meth c s₁ hx hby hml hown hnm hret hlk hZ e0 X0
 have N0 := Fr.nil n0
 have hml : c.maxLocals = 2 := hml
 have hown : s.vm.findClass "java/lang/String" = some m.cls := hown
 have hret : meth.sig.returnType = none := hret
 have hby : c.code = jdk_42_method_3_code := hby
 have hnm : meth.name = "<init>" := hnm
 rw [o_ef4_64]
 refine o_gi (XS.aloadN X0.here hx rfl (hb hby o_d4_0) rfl rfl) ?_
 refine o_gi (XS.aloadN X0.here hx rfl (hb hby o_d4_1) rfl rfl) ?_
 refine o_gi (XS.iconst X0.here hx rfl (hb hby o_d4_2)) ?_
 refine o_gi (XS.aloadN X0.here hx rfl (hb hby o_d4_3) rfl rfl) ?_
 show o_Gs p e below _ s₁ m 4 #[o_A r0, o_A r1] [(.ref r1), (.int 0), (.ref r1), (.ref r0)]
 obtain ⟨cl92, Ar92, sa92, na92, ha92⟩ := id T_c
 refine o_go (X0.arraylength hx (by rw [e0]; exact Ar92.1) (State.isArrayOf_alike hZ.alike Ar92.2.1) (g := (mkF m 4 #[o_A r0, o_A r1] [(.ref r1), (.int 0), (.ref r1), (.ref r0)])) rfl rfl (hb hby o_d4_4)) ?_
 rw [len_of sa92 na92]
 refine o_gi (XS.aconstNull X0.here hx rfl (hb hby o_d4_5)) ?_
 show o_Gs p e below _ s₁ m 6 #[o_A r0, o_A r1] [.null, (.int 64), (.int 0), (.ref r1), (.ref r0)]
 obtain ⟨_, T93, L93, X93, ⟨b93, rfl, N93q, K93, lt_b93, G93_0, G93_1, G93_2, G93_3, G93_4⟩, st93⟩ := o_callI X0 hx hZ rfl hown (hw _ o_t19) (hw _ o_t20) (hw _ o_t15) (hw _ o_t22) (by decide) (b := r0) (as := [(.ref r1), (.int 0), (.int 64), .null]) (rm5_64 l Z a0 hw [] r0 r1 q_G z_cs h0 n0 Z0 g_r0 O0 z_CS E_r0 F_v F_c T_c hG ne_r0_r1 S_z_cs) e0 o_pd4 rfl (pc := 6) (Ls := #[o_A r0, o_A r1]) (rest := []) (W := 0) (by rw [hml]; rfl) (Nat.le_of_eq rfl) (by decide) (by decide) (hb hby o_d4_6) (by decide) (by decide)
 have N93 := Fr.app N0 N93q
 have ne_r0_b93 : r0 ≠ b93 := Nat.ne_of_lt (Nat.lt_of_lt_of_le E_r0.lt lt_b93)
 have ne_r1_b93 : r1 ≠ b93 := Nat.ne_of_lt (Nat.lt_of_lt_of_le T_c.lt lt_b93)
 have g_b93 : n0 ≤ b93 := Nat.le_trans Z0 lt_b93
 have sz_b93 : h0.size ≤ b93 := Nat.le_trans (Keep.refl h0 ([r0] : List Addr)).1 lt_b93
 refine o_go st93 ?_
 show o_Gs p e below _ T93 m 9 #[o_A r0, o_A r1] []
 exact o_ret0 X93 hx hlk hret (hb hby o_d4_9) (by decide) (by decide) (⟨_, rfl, N93, ((Keep.refl h0 ([r0] : List Addr)).trans K93 (fun x hx => by cases List.mem_singleton.mp hx; exact Or.inl (List.mem_of_getElem? (i := 0) rfl))), sz_b93, G93_0, G93_1, G93_2, G93_3, G93_4⟩)
theorem o_d11_0 : decode jdk_2448_method_6_code 0 = .ok (.getstatic 57, 3) := by decide +kernel
theorem o_t49 : (Jvm.Cond.fieldLink "java/util/Base64" (57 : Nat) "java/util/Base64$Decoder" "RFC4648" "Ljava/util/Base64$Decoder;") ∈ tables_1 := List.mem_of_getElem? (i := 49) rfl
theorem o_pn3 : plainName "java/util/Base64" = true := by first | (simp [plainName, overriddenIn]; done) | decide +kernel
theorem o_d11_3 : decode jdk_2448_method_6_code 3 = .ok (.areturn, 1) := by decide +kernel
def o_Q11 (s_d : Addr) (h0 : Heap) (n0 : Nat) (v : Option Value) (h : Heap) (L : List Loc) : Prop := v = some (.ref s_d) ∧ Fr n0 L ∧ h = h0
abbrev o_R11 : Room := { frames := 0, cells := 0, slots := 0, locals := 0 }
theorem o_ef11 (m : MethodId)  : entryFrame m #[] 0 = mkF m 0 #[] [] := by first | (simp [entryFrame, mkF, argsToLocals, Value.category]; done) | rfl
set_option maxRecDepth 65536 in
set_option maxHeartbeats 40000000 in
theorem rm11 (l : Launch) (Z : State) (a0 : Array Value) (hw : ∀ d ∈ tables_1, d.before a0 Z = true) (ws : List Jvm.Cond) (s_d : Addr) (h0 : Heap) (n0 : Nat) (O0 : Old Z n0 h0) (S_s_d : Sta Z Z.heap "java/util/Base64$Decoder" "RFC4648" "Ljava/util/Base64$Decoder;" (.ref s_d)) : o_Met l Z (⟨"java/util/Base64", "getDecoder", "()Ljava/util/Base64$Decoder;"⟩ : MethodName) jdk_2448_method_6_code 0 (some (.object "java/util/Base64$Decoder")) ws o_R11 #[] h0 (o_Q11 s_d h0 n0) := by
 refine o_met (plainFor_of_name o_pn3) ?_
 intro p e s m below meth c s₁ hx hby hml hown hnm hret hlk hZ e0 X0
 have N0 := Fr.nil n0
 have hml : c.maxLocals = 0 := hml
 have hown : s.vm.findClass "java/util/Base64" = some m.cls := hown
 have hret : meth.sig.returnType = (some (.object "java/util/Base64$Decoder")) := hret
 have hby : c.code = jdk_2448_method_6_code := hby
 have hnm : meth.name = "getDecoder" := hnm
 rw [o_ef11]
 show o_Gs p e below _ s₁ m 0 #[] []
 obtain ⟨T94, X94, e94, st94⟩ := getS2 X0 hx hZ hown (host := "") (Or.inl (hw _ o_t49)) Via.refl e0 (S_s_d.ext O0.2) (g := (mkF m 0 #[] [])) rfl (hb hby o_d11_0)
 refine o_go st94 ?_
 show o_Gs p e below _ T94 m 3 #[] [(.ref s_d)]
 exact o_retR X94 hx hlk hret rfl rfl (hb hby o_d11_3) (by decide) (by decide) ⟨rfl, N0, e94⟩
theorem o_d14_0 : decode jdk_42_method_152_code 0 = .ok (.getstatic 38, 3) := by decide +kernel
theorem o_d14_3 : decode jdk_42_method_152_code 3 = .ok (.ifCond .eq 10, 3) := by decide +kernel
theorem o_d14_6 : decode jdk_42_method_152_code 6 = .ok (.aload_n 0, 1) := by decide +kernel
theorem o_d14_7 : decode jdk_42_method_152_code 7 = .ok (.getfield 15, 3) := by decide +kernel
theorem o_d14_10 : decode jdk_42_method_152_code 10 = .ok (.goto 4, 3) := by decide +kernel
theorem o_d14_14 : decode jdk_42_method_152_code 14 = .ok (.ireturn, 1) := by decide +kernel
def o_Q14 (r0 : Addr) (z_cs : Int32) (h0 : Heap) (n0 : Nat) (v : Option Value) (h : Heap) (L : List Loc) : Prop := v = some (.int 0) ∧ Fr n0 L ∧ h = h0
abbrev o_R14 : Room := { frames := 0, cells := 0, slots := 0, locals := 0 }
theorem o_ef14 (m : MethodId) (z0 : Addr) : entryFrame m #[(.ref z0)] 1 = mkF m 0 #[o_A z0] [] := by first | (simp [entryFrame, mkF, argsToLocals, Value.category]; done) | rfl
set_option maxRecDepth 65536 in
set_option maxHeartbeats 40000000 in
theorem rm14 (l : Launch) (Z : State) (a0 : Array Value) (hw : ∀ d ∈ tables_1, d.before a0 Z = true) (ws : List Jvm.Cond) (r0 : Addr) (z_cs : Int32) (h0 : Heap) (n0 : Nat) (O0 : Old Z n0 h0) (z_CS : ¬ z_cs = 0) (F_c : Fld Z h0 r0 "java/lang/String" "coder" "B" (.int 0)) (S_z_cs : Sta Z Z.heap "java/lang/String" "COMPACT_STRINGS" "Z" (.int z_cs)) : o_Met l Z (⟨"java/lang/String", "coder", "()B"⟩ : MethodName) jdk_42_method_152_code 1 (some .byte) ws o_R14 #[(.ref r0)] h0 (o_Q14 r0 z_cs h0 n0) := by
 refine o_met (plainFor_of_name o_pn2) ?_
 intro p e s m below meth c s₁ hx hby hml hown hnm hret hlk hZ e0 X0
 have N0 := Fr.nil n0
 have hml : c.maxLocals = 1 := hml
 have hown : s.vm.findClass "java/lang/String" = some m.cls := hown
 have hret : meth.sig.returnType = (some .byte) := hret
 have hby : c.code = jdk_42_method_152_code := hby
 have hnm : meth.name = "coder" := hnm
 rw [o_ef14]
 show o_Gs p e below _ s₁ m 0 #[o_A r0] []
 obtain ⟨T95, X95, e95, st95⟩ := getS2 X0 hx hZ hown (host := "") (Or.inl (hw _ o_t26)) Via.refl e0 (S_z_cs.ext O0.2) (g := (mkF m 0 #[o_A r0] [])) rfl (hb hby o_d14_0)
 refine o_go st95 ?_
 show o_Gs p e below _ T95 m 3 #[o_A r0] [(.int z_cs)]
 have hd96 : ¬ (z_cs = (0 : Int32)) := z_CS
 refine o_gi (XS.ifNo X95.here hx rfl (hb hby o_d14_3) rfl ((if0 _ _).trans (feq hd96).1)) ?_
 refine o_gi (XS.aloadN X95.here hx rfl (hb hby o_d14_6) rfl rfl) ?_
 show o_Gs p e below _ T95 m 7 #[o_A r0] [(.ref r0)]
 obtain ⟨T97, X97, e97, st97⟩ := getF X95 hx hZ hown (host := "") (Or.inl (hw _ o_t37)) Via.refl e95 F_c (g := (mkF m 7 #[o_A r0] [(.ref r0)])) rfl rfl (hb hby o_d14_7)
 refine o_go st97 ?_
 refine o_gi (XS.goto X97.here hx rfl (pc0 := 10) (pc' := 14) rfl (hb hby o_d14_10) (by decide) (by decide)) ?_
 show o_Gs p e below _ T97 m 14 #[o_A r0] [(.int 0)]
 exact o_retN X97 hx hlk hret (by simp) (z' := (0 : Int32)) rfl (hb hby o_d14_14) (by decide) (by decide) ⟨rfl, N0, e97⟩
theorem o_d17_0 : decode jdk_42_method_27_code 0 = .ok (.iload_n 0, 1) := by decide +kernel
theorem o_d17_1 : decode jdk_42_method_27_code 1 = .ok (.ifCond .ne 11, 3) := by decide +kernel
theorem o_d17_4 : decode jdk_42_method_27_code 4 = .ok (.aload_n 1, 1) := by decide +kernel
theorem o_d17_5 : decode jdk_42_method_27_code 5 = .ok (.invokevirtual 279, 3) := by decide +kernel
theorem o_t80 : (Jvm.Cond.methodLink "java/lang/String" (279 : Nat) ({ cls := "[B", name := "clone", desc := "()Ljava/lang/Object;" } : Jvm.MethodName)) ∈ tables_1 := List.mem_of_getElem? (i := 80) rfl
theorem o_t81 : (Jvm.Cond.sameMethod "[B" "java/lang/Object" "clone" "()Ljava/lang/Object;") ∈ tables_1 := List.mem_of_getElem? (i := 81) rfl
theorem o_t85 : (Jvm.Cond.native ({ cls := "java/lang/Object", name := "clone", desc := "()Ljava/lang/Object;" } : Jvm.MethodName)) ∈ tables_1 := List.mem_of_getElem? (i := 85) rfl
theorem o_t83 : (Jvm.Cond.instanceMethod ({ cls := "java/lang/Object", name := "clone", desc := "()Ljava/lang/Object;" } : Jvm.MethodName)) ∈ tables_1 := List.mem_of_getElem? (i := 83) rfl
theorem o_t84 : (Jvm.Cond.selects "[B" ({ cls := "[B", name := "clone", desc := "()Ljava/lang/Object;" } : Jvm.MethodName) ({ cls := "java/lang/Object", name := "clone", desc := "()Ljava/lang/Object;" } : Jvm.MethodName)) ∈ tables_1 := List.mem_of_getElem? (i := 84) rfl
theorem o_t86 : (Jvm.Cond.castable "[B" "java/lang/Cloneable") ∈ tables_1 := List.mem_of_getElem? (i := 86) rfl
theorem o_d17_8 : decode jdk_42_method_27_code 8 = .ok (.checkcast 280, 3) := by decide +kernel
theorem o_t87 : (Jvm.Cond.classLink "java/lang/String" (280 : Nat) "[B") ∈ tables_1 := List.mem_of_getElem? (i := 87) rfl
theorem o_d17_11 : decode jdk_42_method_27_code 11 = .ok (.areturn, 1) := by decide +kernel
def o_Q17 (Z : State) (r1 : Addr) (q_m : Int32) (q_S : Int32 → Int32) (h0 : Heap) (n0 : Nat) (v : Option Value) (h : Heap) (L : List Loc) : Prop := ∃ b : Addr, v = some (.ref b) ∧ Fr n0 L ∧ Keep h0 h [] ∧ h0.size ≤ b ∧ Exa Z h b "[B" ∧ o_Tb Z h b .byte q_m q_S
abbrev o_R17 : Room := { frames := 1, cells := 1, slots := 64, locals := 14 }
theorem o_ef17 (m : MethodId) (z1 : Addr) : entryFrame m #[(.int 0), (.ref z1), (.int 1)] 10 = mkF m 0 #[o_I 0, o_A z1, o_I 1, o_u, o_u, o_u, o_u, o_u, o_u, o_u] [] := by first | (simp [entryFrame, mkF, argsToLocals, Value.category]; done) | rfl
set_option maxRecDepth 65536 in
set_option maxHeartbeats 40000000 in
theorem rm17 (l : Launch) (Z : State) (a0 : Array Value) (hw : ∀ d ∈ tables_1, d.before a0 Z = true) (ws : List Jvm.Cond) (r1 : Addr) (q_m : Int32) (q_S : Int32 → Int32) (h0 : Heap) (n0 : Nat) (Z0 : n0 ≤ h0.size) (E_a : Exa Z h0 r1 "[B") (T_a : o_Tb Z h0 r1 .byte q_m q_S) (hS : o_By q_S) (hcap : q_m.toNatClampNeg ≤ 64) : o_Met l Z (⟨"java/lang/String", "encode8859_1", "(B[BZ)[B"⟩ : MethodName) jdk_42_method_27_code 10 (some (.array .byte)) ws o_R17 #[(.int 0), (.ref r1), (.int 1)] h0 (o_Q17 Z r1 q_m q_S h0 n0) := by
 refine o_met (plainFor_of_name o_pn2) ?_
 intro p e s m below meth c s₁ hx hby hml hown hnm hret hlk hZ e0 X0
 have N0 := Fr.nil n0
 have hml : c.maxLocals = 10 := hml
 have hown : s.vm.findClass "java/lang/String" = some m.cls := hown
 have hret : meth.sig.returnType = (some (.array .byte)) := hret
 have hby : c.code = jdk_42_method_27_code := hby
 have hnm : meth.name = "encode8859_1" := hnm
 rw [o_ef17]
 refine o_gi (XS.iloadN X0.here hx rfl (hb hby o_d17_0) rfl) ?_
 show o_Gs p e below _ s₁ m 1 #[o_I 0, o_A r1, o_I 1, o_u, o_u, o_u, o_u, o_u, o_u, o_u] [(.int 0)]
 have hd98 : (0 : Int32) = (0 : Int32) := (by decide)
 refine o_gi (XS.ifNo X0.here hx rfl (hb hby o_d17_1) rfl ((if0 _ _).trans (teq hd98).2)) ?_
 refine o_gi (XS.aloadN X0.here hx rfl (hb hby o_d17_4) rfl rfl) ?_
 show o_Gs p e below _ s₁ m 5 #[o_I 0, o_A r1, o_I 1, o_u, o_u, o_u, o_u, o_u, o_u, o_u] [(.ref r1)]
 obtain ⟨T99, h99, X99, e99, E99, V99, Y99, st99⟩ := o_clone X0 hx hZ hown (hw _ o_t80) (hw _ o_t81) (hw _ o_t85) (hw _ o_t83) (hw _ o_t84) (hw _ o_t86) e0 T_a E_a hS (pc := 5) (Ls := #[o_I 0, o_A r1, o_I 1, o_u, o_u, o_u, o_u, o_u, o_u, o_u]) (rest := []) (W := 0) (cap := 64) (by rw [hml]; rfl) (Nat.le_of_eq rfl) (by decide) (by decide) (hb hby o_d17_5) hcap (by decide) (by decide)
 obtain ⟨b99, q99⟩ : ∃ z, z = h0.size := ⟨_, rfl⟩
 rw [← q99] at V99 Y99 st99
 have lt_b99 : h0.size ≤ b99 := Nat.le_of_eq q99.symm
 have ne_r1_b99 : r1 ≠ b99 := Nat.ne_of_lt (Nat.lt_of_lt_of_le E_a.lt lt_b99)
 have g_b99 : n0 ≤ b99 := Nat.le_trans Z0 lt_b99
 have sz_b99 : h0.size ≤ b99 := Nat.le_trans (Keep.refl h0 ([] : List Addr)).1 lt_b99
 refine o_go st99 ?_
 show o_Gs p e below _ T99 m 8 #[o_I 0, o_A r1, o_I 1, o_u, o_u, o_u, o_u, o_u, o_u, o_u] [(.ref b99)]
 obtain ⟨T100, X100, e100, st100⟩ := castY X99 hx hZ hown (hw _ o_t87) e99 (Ins.self Y99) (g := (mkF m 8 #[o_I 0, o_A r1, o_I 1, o_u, o_u, o_u, o_u, o_u, o_u, o_u] [(.ref b99)])) rfl rfl (hb hby o_d17_8)
 refine o_go st100 ?_
 show o_Gs p e below _ T100 m 11 #[o_I 0, o_A r1, o_I 1, o_u, o_u, o_u, o_u, o_u, o_u, o_u] [(.ref b99)]
 exact o_retR X100 hx hlk hret rfl rfl (hb hby o_d17_11) (by decide) (by decide) (by show o_Q17 Z r1 q_m q_S h0 n0 _ T100.heap _; rw [e100]; exact ⟨_, rfl, N0, ((Keep.refl h0 ([] : List Addr)).ext E99), sz_b99, Y99, V99⟩)
theorem o_d16_0 : decode jdk_42_method_26_code 0 = .ok (.iload_n 0, 1) := by decide +kernel
theorem o_d16_1 : decode jdk_42_method_26_code 1 = .ok (.aload_n 1, 1) := by decide +kernel
theorem o_d16_2 : decode jdk_42_method_26_code 2 = .ok (.iconst 1, 1) := by decide +kernel
theorem o_d16_3 : decode jdk_42_method_26_code 3 = .ok (.invokestatic 351, 3) := by decide +kernel
theorem o_t77 : (Jvm.Cond.methodLink "java/lang/String" (351 : Nat) ({ cls := "java/lang/String", name := "encode8859_1", desc := "(B[BZ)[B" } : Jvm.MethodName)) ∈ tables_1 := List.mem_of_getElem? (i := 77) rfl
theorem o_pd5 : parseMethodDescriptor "(B[BZ)[B" = some ⟨[.byte, (.array .byte), .boolean], some (.array .byte)⟩ := by decide +kernel
theorem o_t78 : (Jvm.Cond.static ({ cls := "java/lang/String", name := "encode8859_1", desc := "(B[BZ)[B" } : Jvm.MethodName)) ∈ tables_1 := List.mem_of_getElem? (i := 78) rfl
theorem o_t79 : (Jvm.Cond.code ({ cls := "java/lang/String", name := "encode8859_1", desc := "(B[BZ)[B" } : Jvm.MethodName) jdk_42_method_27_code (10 : Nat) (Option.some (Jvm.ClassFile.FieldType.array Jvm.ClassFile.FieldType.byte))) ∈ tables_1 := List.mem_of_getElem? (i := 79) rfl
theorem o_d16_6 : decode jdk_42_method_26_code 6 = .ok (.areturn, 1) := by decide +kernel
def o_Q16 (Z : State) (r1 : Addr) (q_m : Int32) (q_S : Int32 → Int32) (h0 : Heap) (n0 : Nat) (v : Option Value) (h : Heap) (L : List Loc) : Prop := ∃ b : Addr, v = some (.ref b) ∧ Fr n0 L ∧ Keep h0 h [] ∧ h0.size ≤ b ∧ Exa Z h b "[B" ∧ o_Tb Z h b .byte q_m q_S
abbrev o_R16 : Room := { frames := 2, cells := 1, slots := 64, locals := 35 }
theorem o_ef16 (m : MethodId) (z1 : Addr) : entryFrame m #[(.int 0), (.ref z1)] 2 = mkF m 0 #[o_I 0, o_A z1] [] := by first | (simp [entryFrame, mkF, argsToLocals, Value.category]; done) | rfl
set_option maxRecDepth 65536 in
set_option maxHeartbeats 40000000 in
theorem rm16 (l : Launch) (Z : State) (a0 : Array Value) (hw : ∀ d ∈ tables_1, d.before a0 Z = true) (ws : List Jvm.Cond) (r1 : Addr) (q_m : Int32) (q_S : Int32 → Int32) (h0 : Heap) (n0 : Nat) (Z0 : n0 ≤ h0.size) (E_a : Exa Z h0 r1 "[B") (T_a : o_Tb Z h0 r1 .byte q_m q_S) (hS : o_By q_S) (hcap : q_m.toNatClampNeg ≤ 64) : o_Met l Z (⟨"java/lang/String", "encode8859_1", "(B[B)[B"⟩ : MethodName) jdk_42_method_26_code 2 (some (.array .byte)) ws o_R16 #[(.int 0), (.ref r1)] h0 (o_Q16 Z r1 q_m q_S h0 n0) := by
 refine o_met (plainFor_of_name o_pn2) ?_
 intro p e s m below meth c s₁ hx hby hml hown hnm hret hlk hZ e0 X0
 have N0 := Fr.nil n0
 have hml : c.maxLocals = 2 := hml
 have hown : s.vm.findClass "java/lang/String" = some m.cls := hown
 have hret : meth.sig.returnType = (some (.array .byte)) := hret
 have hby : c.code = jdk_42_method_26_code := hby
 have hnm : meth.name = "encode8859_1" := hnm
 rw [o_ef16]
 refine o_gi (XS.iloadN X0.here hx rfl (hb hby o_d16_0) rfl) ?_
 refine o_gi (XS.aloadN X0.here hx rfl (hb hby o_d16_1) rfl rfl) ?_
 refine o_gi (XS.iconst X0.here hx rfl (hb hby o_d16_2)) ?_
 show o_Gs p e below _ s₁ m 3 #[o_I 0, o_A r1] [(.int 1), (.ref r1), (.int 0)]
 obtain ⟨_, T101, L101, X101, ⟨b101, rfl, N101q, K101, lt_b101, G101_0, G101_1⟩, st101⟩ := o_callS X0 hx hZ hown (hw _ o_t77) (hw _ o_t78) (hw _ o_t15) (hw _ o_t79) (by decide) (as := [(.int 0), (.ref r1), (.int 1)]) (rm17 l Z a0 hw [] r1 q_m q_S h0 n0 Z0 E_a T_a hS hcap) e0 o_pd5 rfl (pc := 3) (Ls := #[o_I 0, o_A r1]) (rest := []) (W := 0) (by rw [hml]; rfl) (Nat.le_of_eq rfl) (by decide) (by decide) (hb hby o_d16_3) (by decide) (by decide)
 have N101 := Fr.app N0 N101q
 have ne_r1_b101 : r1 ≠ b101 := Nat.ne_of_lt (Nat.lt_of_lt_of_le E_a.lt lt_b101)
 have g_b101 : n0 ≤ b101 := Nat.le_trans Z0 lt_b101
 have sz_b101 : h0.size ≤ b101 := Nat.le_trans (Keep.refl h0 ([] : List Addr)).1 lt_b101
 refine o_go st101 ?_
 show o_Gs p e below _ T101 m 6 #[o_I 0, o_A r1] [(.ref b101)]
 exact o_retR X101 hx hlk hret rfl rfl (hb hby o_d16_6) (by decide) (by decide) (⟨_, rfl, N101, ((Keep.refl h0 ([] : List Addr)).trans K101 (fun x hx => nomatch hx)), sz_b101, G101_0, G101_1⟩)
theorem o_d15_0 : decode jdk_42_method_18_code 0 = .ok (.aload_n 0, 1) := by decide +kernel
theorem o_d15_1 : decode jdk_42_method_18_code 1 = .ok (.getstatic 86, 3) := by decide +kernel
theorem o_t71 : (Jvm.Cond.fieldLink "java/lang/String" (86 : Nat) "sun/nio/cs/UTF_8" "INSTANCE" "Lsun/nio/cs/UTF_8;") ∈ tables_1 := List.mem_of_getElem? (i := 71) rfl
theorem o_d15_4 : decode jdk_42_method_18_code 4 = .ok (.if_acmp .ne 10, 3) := by decide +kernel
theorem o_d15_14 : decode jdk_42_method_18_code 14 = .ok (.aload_n 0, 1) := by decide +kernel
theorem o_d15_15 : decode jdk_42_method_18_code 15 = .ok (.getstatic 116, 3) := by decide +kernel
theorem o_t73 : (Jvm.Cond.fieldLink "java/lang/String" (116 : Nat) "sun/nio/cs/ISO_8859_1" "INSTANCE" "Lsun/nio/cs/ISO_8859_1;") ∈ tables_1 := List.mem_of_getElem? (i := 73) rfl
theorem o_d15_18 : decode jdk_42_method_18_code 18 = .ok (.if_acmp .ne 9, 3) := by decide +kernel
theorem o_d15_21 : decode jdk_42_method_18_code 21 = .ok (.iload_n 1, 1) := by decide +kernel
theorem o_d15_22 : decode jdk_42_method_18_code 22 = .ok (.aload_n 2, 1) := by decide +kernel
theorem o_d15_23 : decode jdk_42_method_18_code 23 = .ok (.invokestatic 256, 3) := by decide +kernel
theorem o_t74 : (Jvm.Cond.methodLink "java/lang/String" (256 : Nat) ({ cls := "java/lang/String", name := "encode8859_1", desc := "(B[B)[B" } : Jvm.MethodName)) ∈ tables_1 := List.mem_of_getElem? (i := 74) rfl
theorem o_pd6 : parseMethodDescriptor "(B[B)[B" = some ⟨[.byte, (.array .byte)], some (.array .byte)⟩ := by decide +kernel
theorem o_t75 : (Jvm.Cond.static ({ cls := "java/lang/String", name := "encode8859_1", desc := "(B[B)[B" } : Jvm.MethodName)) ∈ tables_1 := List.mem_of_getElem? (i := 75) rfl
theorem o_t76 : (Jvm.Cond.code ({ cls := "java/lang/String", name := "encode8859_1", desc := "(B[B)[B" } : Jvm.MethodName) jdk_42_method_26_code (2 : Nat) (Option.some (Jvm.ClassFile.FieldType.array Jvm.ClassFile.FieldType.byte))) ∈ tables_1 := List.mem_of_getElem? (i := 76) rfl
theorem o_d15_26 : decode jdk_42_method_18_code 26 = .ok (.areturn, 1) := by decide +kernel
def o_Q15 (Z : State) (r2 : Addr) (q_m : Int32) (q_S : Int32 → Int32) (s_u : Addr) (s_i : Addr) (h0 : Heap) (n0 : Nat) (v : Option Value) (h : Heap) (L : List Loc) : Prop := ∃ b : Addr, v = some (.ref b) ∧ Fr n0 L ∧ Keep h0 h [] ∧ h0.size ≤ b ∧ Exa Z h b "[B" ∧ o_Tb Z h b .byte q_m q_S
abbrev o_R15 : Room := { frames := 3, cells := 1, slots := 64, locals := 48 }
theorem o_ef15 (m : MethodId) (z0 : Addr) (z2 : Addr) : entryFrame m #[(.ref z0), (.int 0), (.ref z2)] 3 = mkF m 0 #[o_A z0, o_I 0, o_A z2] [] := by first | (simp [entryFrame, mkF, argsToLocals, Value.category]; done) | rfl
set_option maxRecDepth 65536 in
set_option maxHeartbeats 40000000 in
theorem rm15 (l : Launch) (Z : State) (a0 : Array Value) (hw : ∀ d ∈ tables_1, d.before a0 Z = true) (ws : List Jvm.Cond) (r2 : Addr) (q_m : Int32) (q_S : Int32 → Int32) (s_u : Addr) (s_i : Addr) (h0 : Heap) (n0 : Nat) (Z0 : n0 ≤ h0.size) (O0 : Old Z n0 h0) (E_a : Exa Z h0 r2 "[B") (T_a : o_Tb Z h0 r2 .byte q_m q_S) (hS : o_By q_S) (hcap : q_m.toNatClampNeg ≤ 64) (ne_iu : s_i ≠ s_u) (S_s_u : Sta Z Z.heap "sun/nio/cs/UTF_8" "INSTANCE" "Lsun/nio/cs/UTF_8;" (.ref s_u)) (S_s_i : Sta Z Z.heap "sun/nio/cs/ISO_8859_1" "INSTANCE" "Lsun/nio/cs/ISO_8859_1;" (.ref s_i)) : o_Met l Z (⟨"java/lang/String", "encode", "(Ljava/nio/charset/Charset;B[B)[B"⟩ : MethodName) jdk_42_method_18_code 3 (some (.array .byte)) ws o_R15 #[(.ref s_i), (.int 0), (.ref r2)] h0 (o_Q15 Z r2 q_m q_S s_u s_i h0 n0) := by
 refine o_met (plainFor_of_name o_pn2) ?_
 intro p e s m below meth c s₁ hx hby hml hown hnm hret hlk hZ e0 X0
 have N0 := Fr.nil n0
 have hml : c.maxLocals = 3 := hml
 have hown : s.vm.findClass "java/lang/String" = some m.cls := hown
 have hret : meth.sig.returnType = (some (.array .byte)) := hret
 have hby : c.code = jdk_42_method_18_code := hby
 have hnm : meth.name = "encode" := hnm
 rw [o_ef15]
 refine o_gi (XS.aloadN X0.here hx rfl (hb hby o_d15_0) rfl rfl) ?_
 show o_Gs p e below _ s₁ m 1 #[o_A s_i, o_I 0, o_A r2] [(.ref s_i)]
 obtain ⟨T102, X102, e102, st102⟩ := getS2 X0 hx hZ hown (host := "") (Or.inl (hw _ o_t71)) Via.refl e0 (S_s_u.ext O0.2) (g := (mkF m 1 #[o_A s_i, o_I 0, o_A r2] [(.ref s_i)])) rfl (hb hby o_d15_1)
 refine o_go st102 ?_
 show o_Gs p e below _ T102 m 4 #[o_A s_i, o_I 0, o_A r2] [(.ref s_u), (.ref s_i)]
 have hd103 : ¬ (s_i = s_u) := ne_iu
 refine o_gi (Jvm.RoadKit.acmp (g := (mkF m 4 #[o_A s_i, o_I 0, o_A r2] [(.ref s_u), (.ref s_i)])) X102 hx rfl rfl rfl (pc0 := 4) (pc' := 14) (same := false) rfl (hb hby o_d15_4) rfl (decide_eq_false (fun q => hd103 (Value.ref.inj q))) (by decide) (by decide)) ?_
 refine o_gi (XS.aloadN X102.here hx rfl (hb hby o_d15_14) rfl rfl) ?_
 show o_Gs p e below _ T102 m 15 #[o_A s_i, o_I 0, o_A r2] [(.ref s_i)]
 obtain ⟨T104, X104, e104, st104⟩ := getS2 X102 hx hZ hown (host := "") (Or.inl (hw _ o_t73)) Via.refl e102 (S_s_i.ext O0.2) (g := (mkF m 15 #[o_A s_i, o_I 0, o_A r2] [(.ref s_i)])) rfl (hb hby o_d15_15)
 refine o_go st104 ?_
 show o_Gs p e below _ T104 m 18 #[o_A s_i, o_I 0, o_A r2] [(.ref s_i), (.ref s_i)]
 have hd105 : s_i = s_i := rfl
 refine o_gi (Jvm.RoadKit.acmp (g := (mkF m 18 #[o_A s_i, o_I 0, o_A r2] [(.ref s_i), (.ref s_i)])) X104 hx rfl rfl rfl (pc0 := 18) (pc' := 21) (same := true) rfl (hb hby o_d15_18) rfl (decide_eq_true (congrArg Value.ref hd105)) (by decide) (by decide)) ?_
 refine o_gi (XS.iloadN X104.here hx rfl (hb hby o_d15_21) rfl) ?_
 refine o_gi (XS.aloadN X104.here hx rfl (hb hby o_d15_22) rfl rfl) ?_
 show o_Gs p e below _ T104 m 23 #[o_A s_i, o_I 0, o_A r2] [(.ref r2), (.int 0)]
 obtain ⟨_, T106, L106, X106, ⟨b106, rfl, N106q, K106, lt_b106, G106_0, G106_1⟩, st106⟩ := o_callS X104 hx hZ hown (hw _ o_t74) (hw _ o_t75) (hw _ o_t15) (hw _ o_t76) (by decide) (as := [(.int 0), (.ref r2)]) (rm16 l Z a0 hw [] r2 q_m q_S h0 n0 Z0 E_a T_a hS hcap) e104 o_pd6 rfl (pc := 23) (Ls := #[o_A s_i, o_I 0, o_A r2]) (rest := []) (W := 0) (by rw [hml]; rfl) (Nat.le_of_eq rfl) (by decide) (by decide) (hb hby o_d15_23) (by decide) (by decide)
 have N106 := Fr.app N0 N106q
 have ne_r2_b106 : r2 ≠ b106 := Nat.ne_of_lt (Nat.lt_of_lt_of_le E_a.lt lt_b106)
 have g_b106 : n0 ≤ b106 := Nat.le_trans Z0 lt_b106
 have sz_b106 : h0.size ≤ b106 := Nat.le_trans (Keep.refl h0 ([] : List Addr)).1 lt_b106
 refine o_go st106 ?_
 show o_Gs p e below _ T106 m 26 #[o_A s_i, o_I 0, o_A r2] [(.ref b106)]
 exact o_retR X106 hx hlk hret rfl rfl (hb hby o_d15_26) (by decide) (by decide) (⟨_, rfl, N106, ((Keep.refl h0 ([] : List Addr)).trans K106 (fun x hx => nomatch hx)), sz_b106, G106_0, G106_1⟩)
theorem o_d13_0 : decode jdk_42_method_64_code 0 = .ok (.aload_n 1, 1) := by decide +kernel
theorem o_d13_1 : decode jdk_42_method_64_code 1 = .ok (.ifnonnull 11, 3) := by decide +kernel
theorem o_d13_12 : decode jdk_42_method_64_code 12 = .ok (.aload_n 1, 1) := by decide +kernel
theorem o_d13_13 : decode jdk_42_method_64_code 13 = .ok (.aload_n 0, 1) := by decide +kernel
theorem o_d13_14 : decode jdk_42_method_64_code 14 = .ok (.invokevirtual 335, 3) := by decide +kernel
theorem o_t63 : (Jvm.Cond.methodLink "java/lang/String" (335 : Nat) ({ cls := "java/lang/String", name := "coder", desc := "()B" } : Jvm.MethodName)) ∈ tables_1 := List.mem_of_getElem? (i := 63) rfl
theorem o_pd7 : parseMethodDescriptor "()B" = some ⟨[], some .byte⟩ := by decide +kernel
theorem o_t64 : (Jvm.Cond.declares ({ cls := "java/lang/String", name := "coder", desc := "()B" } : Jvm.MethodName)) ∈ tables_1 := List.mem_of_getElem? (i := 64) rfl
theorem o_t66 : (Jvm.Cond.selects "java/lang/String" ({ cls := "java/lang/String", name := "coder", desc := "()B" } : Jvm.MethodName) ({ cls := "java/lang/String", name := "coder", desc := "()B" } : Jvm.MethodName)) ∈ tables_1 := List.mem_of_getElem? (i := 66) rfl
theorem o_t65 : (Jvm.Cond.instanceMethod ({ cls := "java/lang/String", name := "coder", desc := "()B" } : Jvm.MethodName)) ∈ tables_1 := List.mem_of_getElem? (i := 65) rfl
theorem o_t67 : (Jvm.Cond.code ({ cls := "java/lang/String", name := "coder", desc := "()B" } : Jvm.MethodName) jdk_42_method_152_code (1 : Nat) (Option.some Jvm.ClassFile.FieldType.byte)) ∈ tables_1 := List.mem_of_getElem? (i := 67) rfl
theorem o_d13_17 : decode jdk_42_method_64_code 17 = .ok (.aload_n 0, 1) := by decide +kernel
theorem o_d13_18 : decode jdk_42_method_64_code 18 = .ok (.getfield 9, 3) := by decide +kernel
theorem o_d13_21 : decode jdk_42_method_64_code 21 = .ok (.invokestatic 535, 3) := by decide +kernel
theorem o_t68 : (Jvm.Cond.methodLink "java/lang/String" (535 : Nat) ({ cls := "java/lang/String", name := "encode", desc := "(Ljava/nio/charset/Charset;B[B)[B" } : Jvm.MethodName)) ∈ tables_1 := List.mem_of_getElem? (i := 68) rfl
theorem o_pd8 : parseMethodDescriptor "(Ljava/nio/charset/Charset;B[B)[B" = some ⟨[(.object "java/nio/charset/Charset"), .byte, (.array .byte)], some (.array .byte)⟩ := by decide +kernel
theorem o_t69 : (Jvm.Cond.static ({ cls := "java/lang/String", name := "encode", desc := "(Ljava/nio/charset/Charset;B[B)[B" } : Jvm.MethodName)) ∈ tables_1 := List.mem_of_getElem? (i := 69) rfl
theorem o_t70 : (Jvm.Cond.code ({ cls := "java/lang/String", name := "encode", desc := "(Ljava/nio/charset/Charset;B[B)[B" } : Jvm.MethodName) jdk_42_method_18_code (3 : Nat) (Option.some (Jvm.ClassFile.FieldType.array Jvm.ClassFile.FieldType.byte))) ∈ tables_1 := List.mem_of_getElem? (i := 70) rfl
theorem o_d13_24 : decode jdk_42_method_64_code 24 = .ok (.areturn, 1) := by decide +kernel
def o_Q13 (Z : State) (r0 : Addr) (t : Addr) (q_m : Int32) (q_S : Int32 → Int32) (z_cs : Int32) (s_u : Addr) (s_i : Addr) (h0 : Heap) (n0 : Nat) (v : Option Value) (h : Heap) (L : List Loc) : Prop := ∃ b : Addr, v = some (.ref b) ∧ Fr n0 L ∧ Keep h0 h [] ∧ h0.size ≤ b ∧ Exa Z h b "[B" ∧ o_Tb Z h b .byte q_m q_S
abbrev o_R13 : Room := { frames := 4, cells := 1, slots := 64, locals := 62 }
theorem o_ef13 (m : MethodId) (z0 : Addr) (z1 : Addr) : entryFrame m #[(.ref z0), (.ref z1)] 2 = mkF m 0 #[o_A z0, o_A z1] [] := by first | (simp [entryFrame, mkF, argsToLocals, Value.category]; done) | rfl
set_option maxRecDepth 65536 in
set_option maxHeartbeats 40000000 in
theorem rm13 (l : Launch) (Z : State) (a0 : Array Value) (hw : ∀ d ∈ tables_1, d.before a0 Z = true) (ws : List Jvm.Cond) (r0 : Addr) (t : Addr) (q_m : Int32) (q_S : Int32 → Int32) (z_cs : Int32) (s_u : Addr) (s_i : Addr) (h0 : Heap) (n0 : Nat) (Z0 : n0 ≤ h0.size) (O0 : Old Z n0 h0) (z_CS : ¬ z_cs = 0) (E_s : Exa Z h0 r0 "java/lang/String") (F_v : Fld Z h0 r0 "java/lang/String" "value" "[B" (.ref t)) (F_c : Fld Z h0 r0 "java/lang/String" "coder" "B" (.int 0)) (E_t : Exa Z h0 t "[B") (T_s : o_Tb Z h0 t .byte q_m q_S) (hS : o_By q_S) (hcap : q_m.toNatClampNeg ≤ 64) (ne_iu : s_i ≠ s_u) (ne_r0_t : r0 ≠ t) (S_z_cs : Sta Z Z.heap "java/lang/String" "COMPACT_STRINGS" "Z" (.int z_cs)) (S_s_u : Sta Z Z.heap "sun/nio/cs/UTF_8" "INSTANCE" "Lsun/nio/cs/UTF_8;" (.ref s_u)) (S_s_i : Sta Z Z.heap "sun/nio/cs/ISO_8859_1" "INSTANCE" "Lsun/nio/cs/ISO_8859_1;" (.ref s_i)) : o_Met l Z (⟨"java/lang/String", "getBytes", "(Ljava/nio/charset/Charset;)[B"⟩ : MethodName) jdk_42_method_64_code 2 (some (.array .byte)) ws o_R13 #[(.ref r0), (.ref s_i)] h0 (o_Q13 Z r0 t q_m q_S z_cs s_u s_i h0 n0) := by
 refine o_met (plainFor_of_name o_pn2) ?_
 intro p e s m below meth c s₁ hx hby hml hown hnm hret hlk hZ e0 X0
 have N0 := Fr.nil n0
 have hml : c.maxLocals = 2 := hml
 have hown : s.vm.findClass "java/lang/String" = some m.cls := hown
 have hret : meth.sig.returnType = (some (.array .byte)) := hret
 have hby : c.code = jdk_42_method_64_code := hby
 have hnm : meth.name = "getBytes" := hnm
 rw [o_ef13]
 refine o_gi (XS.aloadN X0.here hx rfl (hb hby o_d13_0) rfl rfl) ?_
 show o_Gs p e below _ s₁ m 1 #[o_A r0, o_A s_i] [(.ref s_i)]
 refine o_gi (XS.ifnonnullYes X0.here hx rfl (pc0 := 1) (pc' := 12) rfl (hb hby o_d13_1) rfl (by decide) (by decide)) ?_
 refine o_gi (XS.aloadN X0.here hx rfl (hb hby o_d13_12) rfl rfl) ?_
 refine o_gi (XS.aloadN X0.here hx rfl (hb hby o_d13_13) rfl rfl) ?_
 show o_Gs p e below _ s₁ m 14 #[o_A r0, o_A s_i] [(.ref r0), (.ref s_i)]
 obtain ⟨_, T107, L107, X107, ⟨rfl, N107q, e107⟩, st107⟩ := o_callV X0 hx hZ hown (hw _ o_t63) (hw _ o_t64) (hw _ o_t66) (hw _ o_t65) (hw _ o_t15) (hw _ o_t67) (by decide) (b := r0) (as := []) (rm14 l Z a0 hw [] r0 z_cs h0 n0 O0 z_CS F_c S_z_cs) e0 E_s o_pd7 rfl (pc := 14) (Ls := #[o_A r0, o_A s_i]) (rest := [(.ref s_i)]) (W := 1) (by rw [hml]; rfl) (Nat.le_of_eq rfl) (by decide) (by decide) (hb hby o_d13_14) (by decide) (by decide)
 have N107 := Fr.app N0 N107q
 refine o_go st107 ?_
 refine o_gi (XS.aloadN X107.here hx rfl (hb hby o_d13_17) rfl rfl) ?_
 show o_Gs p e below _ T107 m 18 #[o_A r0, o_A s_i] [(.ref r0), (.int 0), (.ref s_i)]
 obtain ⟨T108, X108, e108, st108⟩ := getF X107 hx hZ hown (host := "") (Or.inl (hw _ o_t39)) Via.refl e107 F_v (g := (mkF m 18 #[o_A r0, o_A s_i] [(.ref r0), (.int 0), (.ref s_i)])) rfl rfl (hb hby o_d13_18)
 refine o_go st108 ?_
 show o_Gs p e below _ T108 m 21 #[o_A r0, o_A s_i] [(.ref t), (.int 0), (.ref s_i)]
 obtain ⟨_, T109, L109, X109, ⟨b109, rfl, N109q, K109, lt_b109, G109_0, G109_1⟩, st109⟩ := o_callS X108 hx hZ hown (hw _ o_t68) (hw _ o_t69) (hw _ o_t15) (hw _ o_t70) (by decide) (as := [(.ref s_i), (.int 0), (.ref t)]) (rm15 l Z a0 hw [] t q_m q_S s_u s_i h0 n0 Z0 O0 E_t T_s hS hcap ne_iu S_s_u S_s_i) e108 o_pd8 rfl (pc := 21) (Ls := #[o_A r0, o_A s_i]) (rest := []) (W := 0) (by rw [hml]; rfl) (Nat.le_of_eq rfl) (by decide) (by decide) (hb hby o_d13_21) (by decide) (by decide)
 have N109 := Fr.app N107 N109q
 have ne_r0_b109 : r0 ≠ b109 := Nat.ne_of_lt (Nat.lt_of_lt_of_le E_s.lt lt_b109)
 have ne_t_b109 : t ≠ b109 := Nat.ne_of_lt (Nat.lt_of_lt_of_le E_t.lt lt_b109)
 have g_b109 : n0 ≤ b109 := Nat.le_trans Z0 lt_b109
 have sz_b109 : h0.size ≤ b109 := Nat.le_trans (Keep.refl h0 ([] : List Addr)).1 lt_b109
 refine o_go st109 ?_
 show o_Gs p e below _ T109 m 24 #[o_A r0, o_A s_i] [(.ref b109)]
 exact o_retR X109 hx hlk hret rfl rfl (hb hby o_d13_24) (by decide) (by decide) (⟨_, rfl, N109, ((Keep.refl h0 ([] : List Addr)).trans K109 (fun x hx => nomatch hx)), sz_b109, G109_0, G109_1⟩)
def o_Q21 (Z : State) (r4 : Addr) (q_n : Int32) (x_r : Int32) (q_B : Int32 → Int32) (h0 : Heap) (n0 : Nat) (v : Option Value) (h : Heap) (L : List Loc) : Prop := v = some (.int x_r) ∧ Fr n0 L ∧ Keep h0 h [r4] ∧ o_Tb Z h r4 .byte q_n (o_cut x_r q_B)
abbrev o_R21 : Room := { frames := 0, cells := 0, slots := 0, locals := 0 }
theorem o_d21_30 : decode jdk_2450_method_8_code 30 = .ok (.iload_n 2, 1) := by decide +kernel
theorem o_d21_31 : decode jdk_2450_method_8_code 31 = .ok (.iload 9, 2) := by decide +kernel
theorem o_d21_33 : decode jdk_2450_method_8_code 33 = .ok (.if_icmp .ge 147, 3) := by decide +kernel
theorem o_d21_180 : decode jdk_2450_method_8_code 180 = .ok (.iload 10, 2) := by decide +kernel
theorem o_d21_182 : decode jdk_2450_method_8_code 182 = .ok (.iload 5, 2) := by decide +kernel
theorem o_d21_184 : decode jdk_2450_method_8_code 184 = .ok (.isub, 1) := by decide +kernel
theorem o_d21_185 : decode jdk_2450_method_8_code 185 = .ok (.ireturn, 1) := by decide +kernel
theorem o_d21_36 : decode jdk_2450_method_8_code 36 = .ok (.aload 8, 2) := by decide +kernel
theorem o_d21_38 : decode jdk_2450_method_8_code 38 = .ok (.aload_n 1, 1) := by decide +kernel
theorem o_d21_39 : decode jdk_2450_method_8_code 39 = .ok (.iload_n 2, 1) := by decide +kernel
theorem o_d21_40 : decode jdk_2450_method_8_code 40 = .ok (.iinc 2 1, 3) := by decide +kernel
theorem o_d21_43 : decode jdk_2450_method_8_code 43 = .ok (.baload, 1) := by decide +kernel
theorem o_d21_44 : decode jdk_2450_method_8_code 44 = .ok (.sipush 255, 3) := by decide +kernel
theorem o_d21_47 : decode jdk_2450_method_8_code 47 = .ok (.iand, 1) := by decide +kernel
theorem o_d21_48 : decode jdk_2450_method_8_code 48 = .ok (.iaload, 1) := by decide +kernel
theorem o_d21_49 : decode jdk_2450_method_8_code 49 = .ok (.istore 11, 2) := by decide +kernel
theorem o_d21_51 : decode jdk_2450_method_8_code 51 = .ok (.aload 8, 2) := by decide +kernel
theorem o_d21_53 : decode jdk_2450_method_8_code 53 = .ok (.aload_n 1, 1) := by decide +kernel
theorem o_d21_54 : decode jdk_2450_method_8_code 54 = .ok (.iload_n 2, 1) := by decide +kernel
theorem o_d21_55 : decode jdk_2450_method_8_code 55 = .ok (.iinc 2 1, 3) := by decide +kernel
theorem o_d21_58 : decode jdk_2450_method_8_code 58 = .ok (.baload, 1) := by decide +kernel
theorem o_d21_59 : decode jdk_2450_method_8_code 59 = .ok (.sipush 255, 3) := by decide +kernel
theorem o_d21_62 : decode jdk_2450_method_8_code 62 = .ok (.iand, 1) := by decide +kernel
theorem o_d21_63 : decode jdk_2450_method_8_code 63 = .ok (.iaload, 1) := by decide +kernel
theorem o_d21_64 : decode jdk_2450_method_8_code 64 = .ok (.istore 12, 2) := by decide +kernel
theorem o_d21_66 : decode jdk_2450_method_8_code 66 = .ok (.aload 8, 2) := by decide +kernel
theorem o_d21_68 : decode jdk_2450_method_8_code 68 = .ok (.aload_n 1, 1) := by decide +kernel
theorem o_d21_69 : decode jdk_2450_method_8_code 69 = .ok (.iload_n 2, 1) := by decide +kernel
theorem o_d21_70 : decode jdk_2450_method_8_code 70 = .ok (.iinc 2 1, 3) := by decide +kernel
theorem o_d21_73 : decode jdk_2450_method_8_code 73 = .ok (.baload, 1) := by decide +kernel
theorem o_d21_74 : decode jdk_2450_method_8_code 74 = .ok (.sipush 255, 3) := by decide +kernel
theorem o_d21_77 : decode jdk_2450_method_8_code 77 = .ok (.iand, 1) := by decide +kernel
theorem o_d21_78 : decode jdk_2450_method_8_code 78 = .ok (.iaload, 1) := by decide +kernel
theorem o_d21_79 : decode jdk_2450_method_8_code 79 = .ok (.istore 13, 2) := by decide +kernel
theorem o_d21_81 : decode jdk_2450_method_8_code 81 = .ok (.aload 8, 2) := by decide +kernel
theorem o_d21_83 : decode jdk_2450_method_8_code 83 = .ok (.aload_n 1, 1) := by decide +kernel
theorem o_d21_84 : decode jdk_2450_method_8_code 84 = .ok (.iload_n 2, 1) := by decide +kernel
theorem o_d21_85 : decode jdk_2450_method_8_code 85 = .ok (.iinc 2 1, 3) := by decide +kernel
theorem o_d21_88 : decode jdk_2450_method_8_code 88 = .ok (.baload, 1) := by decide +kernel
theorem o_d21_89 : decode jdk_2450_method_8_code 89 = .ok (.sipush 255, 3) := by decide +kernel
theorem o_d21_92 : decode jdk_2450_method_8_code 92 = .ok (.iand, 1) := by decide +kernel
theorem o_d21_93 : decode jdk_2450_method_8_code 93 = .ok (.iaload, 1) := by decide +kernel
theorem o_d21_94 : decode jdk_2450_method_8_code 94 = .ok (.istore 14, 2) := by decide +kernel
theorem o_d21_96 : decode jdk_2450_method_8_code 96 = .ok (.iload 11, 2) := by decide +kernel
theorem o_d21_98 : decode jdk_2450_method_8_code 98 = .ok (.iload 12, 2) := by decide +kernel
theorem o_d21_100 : decode jdk_2450_method_8_code 100 = .ok (.ior, 1) := by decide +kernel
theorem o_d21_101 : decode jdk_2450_method_8_code 101 = .ok (.iload 13, 2) := by decide +kernel
theorem o_d21_103 : decode jdk_2450_method_8_code 103 = .ok (.ior, 1) := by decide +kernel
theorem o_d21_104 : decode jdk_2450_method_8_code 104 = .ok (.iload 14, 2) := by decide +kernel
theorem o_d21_106 : decode jdk_2450_method_8_code 106 = .ok (.ior, 1) := by decide +kernel
theorem o_d21_107 : decode jdk_2450_method_8_code 107 = .ok (.ifCond .ge 9, 3) := by decide +kernel
theorem o_d21_110 : decode jdk_2450_method_8_code 110 = .ok (.iload 10, 2) := by decide +kernel
theorem o_d21_112 : decode jdk_2450_method_8_code 112 = .ok (.iload 5, 2) := by decide +kernel
theorem o_d21_114 : decode jdk_2450_method_8_code 114 = .ok (.isub, 1) := by decide +kernel
theorem o_d21_115 : decode jdk_2450_method_8_code 115 = .ok (.ireturn, 1) := by decide +kernel
theorem o_d21_116 : decode jdk_2450_method_8_code 116 = .ok (.iload 11, 2) := by decide +kernel
theorem o_d21_118 : decode jdk_2450_method_8_code 118 = .ok (.bipush 18, 2) := by decide +kernel
theorem o_d21_120 : decode jdk_2450_method_8_code 120 = .ok (.ishl, 1) := by decide +kernel
theorem o_d21_121 : decode jdk_2450_method_8_code 121 = .ok (.iload 12, 2) := by decide +kernel
theorem o_d21_123 : decode jdk_2450_method_8_code 123 = .ok (.bipush 12, 2) := by decide +kernel
theorem o_d21_125 : decode jdk_2450_method_8_code 125 = .ok (.ishl, 1) := by decide +kernel
theorem o_d21_126 : decode jdk_2450_method_8_code 126 = .ok (.ior, 1) := by decide +kernel
theorem o_d21_127 : decode jdk_2450_method_8_code 127 = .ok (.iload 13, 2) := by decide +kernel
theorem o_d21_129 : decode jdk_2450_method_8_code 129 = .ok (.bipush 6, 2) := by decide +kernel
theorem o_d21_131 : decode jdk_2450_method_8_code 131 = .ok (.ishl, 1) := by decide +kernel
theorem o_d21_132 : decode jdk_2450_method_8_code 132 = .ok (.ior, 1) := by decide +kernel
theorem o_d21_133 : decode jdk_2450_method_8_code 133 = .ok (.iload 14, 2) := by decide +kernel
theorem o_d21_135 : decode jdk_2450_method_8_code 135 = .ok (.ior, 1) := by decide +kernel
theorem o_d21_136 : decode jdk_2450_method_8_code 136 = .ok (.istore 15, 2) := by decide +kernel
theorem o_d21_138 : decode jdk_2450_method_8_code 138 = .ok (.aload 4, 2) := by decide +kernel
theorem o_d21_140 : decode jdk_2450_method_8_code 140 = .ok (.iload 10, 2) := by decide +kernel
theorem o_d21_142 : decode jdk_2450_method_8_code 142 = .ok (.iinc 10 1, 3) := by decide +kernel
theorem o_d21_145 : decode jdk_2450_method_8_code 145 = .ok (.iload 15, 2) := by decide +kernel
theorem o_d21_147 : decode jdk_2450_method_8_code 147 = .ok (.bipush 16, 2) := by decide +kernel
theorem o_d21_149 : decode jdk_2450_method_8_code 149 = .ok (.ishr, 1) := by decide +kernel
theorem o_d21_150 : decode jdk_2450_method_8_code 150 = .ok (.i2b, 1) := by decide +kernel
theorem o_d21_151 : decode jdk_2450_method_8_code 151 = .ok (.bastore, 1) := by decide +kernel
theorem o_d21_152 : decode jdk_2450_method_8_code 152 = .ok (.aload 4, 2) := by decide +kernel
theorem o_d21_154 : decode jdk_2450_method_8_code 154 = .ok (.iload 10, 2) := by decide +kernel
theorem o_d21_156 : decode jdk_2450_method_8_code 156 = .ok (.iinc 10 1, 3) := by decide +kernel
theorem o_d21_159 : decode jdk_2450_method_8_code 159 = .ok (.iload 15, 2) := by decide +kernel
theorem o_d21_161 : decode jdk_2450_method_8_code 161 = .ok (.bipush 8, 2) := by decide +kernel
theorem o_d21_163 : decode jdk_2450_method_8_code 163 = .ok (.ishr, 1) := by decide +kernel
theorem o_d21_164 : decode jdk_2450_method_8_code 164 = .ok (.i2b, 1) := by decide +kernel
theorem o_d21_165 : decode jdk_2450_method_8_code 165 = .ok (.bastore, 1) := by decide +kernel
theorem o_d21_166 : decode jdk_2450_method_8_code 166 = .ok (.aload 4, 2) := by decide +kernel
theorem o_d21_168 : decode jdk_2450_method_8_code 168 = .ok (.iload 10, 2) := by decide +kernel
theorem o_d21_170 : decode jdk_2450_method_8_code 170 = .ok (.iinc 10 1, 3) := by decide +kernel
theorem o_d21_173 : decode jdk_2450_method_8_code 173 = .ok (.iload 15, 2) := by decide +kernel
theorem o_d21_175 : decode jdk_2450_method_8_code 175 = .ok (.i2b, 1) := by decide +kernel
theorem o_d21_176 : decode jdk_2450_method_8_code 176 = .ok (.bastore, 1) := by decide +kernel
theorem o_d21_177 : decode jdk_2450_method_8_code 177 = .ok (.goto (-147), 3) := by decide +kernel
set_option maxRecDepth 65536 in
set_option maxHeartbeats 40000000 in
theorem o_p30_21 (l : Launch) (Z : State) (a0 : Array Value) (hw : ∀ d ∈ tables_1, d.before a0 Z = true) (r1 : Addr) (r4 : Addr) (s_d : Addr) (q_m : Int32) (q_n : Int32) (x_r : Int32) (e_ : Nat) (q_B : Int32 → Int32) (q_S : Int32 → Int32) (s_t : Addr) (h0 : Heap) (n0 : Nat) (Z0 : n0 ≤ h0.size) (g_r4 : n0 ≤ r4) (O0 : Old Z n0 h0) (T_t : o_Tb Z Z.heap s_t .int 256 o_b64) (T_s : o_Tb Z h0 r1 .byte q_m q_S) (T_d : o_Tb Z h0 r4 .byte q_n (fun _ => 0)) (ne_r1_r4 : r1 ≠ r4) (hm : q_m = 24 ∨ q_m = 44 ∨ q_m = 64) (hq : o_Blk q_B q_S e_ q_m q_n x_r) (S_s_t : Sta Z Z.heap "java/util/Base64$Decoder" "fromBase64" "[I" (.ref s_t)) (p : Program) (e : Env) (s : State) (m : MethodId) (below : List Frame) (meth : Method) (c : Code) (hx : p.tables.exec = Jvm.exec) (hby : c.code = jdk_2450_method_8_code) (hml : c.maxLocals = 16) (hown : s.vm.findClass "java/util/Base64$Decoder" = some m.cls) (hret : meth.sig.returnType = (some .int)) (hlk : meth.locks = false) (hZ : Z.Warmed39 s.vm) (k : Nat) : ∀ (T0 : State) (L0 : List Loc) (hh : Heap) (i d : Int32) (g : Nat) (u1 : Slot) (u2 : Slot) (u3 : Slot) (u4 : Slot) (u5 : Slot) (X0 : Stand p l e o_R21 s m #[(.ref s_d), (.ref r1), (.int 0), (.int q_m), (.ref r4), (.int 0), (.int 0), (.int 0)] below meth c T0 L0 0 0) (e0 : T0.heap = hh) (N0 : Fr n0 L0) (Z1 : n0 ≤ hh.size) (O1 : Old Z n0 hh) (KK : Keep h0 hh [r4]) (hg : g + k = e_ ∧ i.toInt = 4 * g ∧ d.toInt = 3 * g) (V_s : o_Tb Z hh r1 .byte q_m q_S) (V_d : o_Tb Z hh r4 .byte q_n (o_cut d q_B)) (hu1 : One u1) (hu2 : One u2) (hu3 : One u3) (hu4 : One u4) (hu5 : One u5), o_Goes p e below (o_End s o_R21 (o_Q21 Z r4 q_n x_r q_B h0 n0)) (T0.setTop (mkF m 30 #[o_A s_d, o_A r1, o_I i, o_I q_m, o_A r4, o_I 0, o_I 0, o_I 0, o_A s_t, o_I q_m, o_I d, u1, u2, u3, u4, u5] [])) := by
 induction k with
 | zero =>
  intro T0 L0 hh i d g u1 u2 u3 u4 u5 X0 e0 N0 Z1 O1 KK hg V_s V_d hu1 hu2 hu3 hu4 hu5
  have hd : x_r = d := o_dEnd hq hg
  subst hd
  rcases hq.2.2.1 with hA | hB
  ·refine o_gi (XS.iloadN X0.here hx rfl (hb hby o_d21_30) rfl) ?_
   refine o_gi (XS.iload X0.here hx rfl (hb hby o_d21_31) rfl) ?_
   show o_Gs p e below _ T0 m 33 #[o_A s_d, o_A r1, o_I i, o_I q_m, o_A r4, o_I 0, o_I 0, o_I 0, o_A s_t, o_I q_m, o_I x_r, u1, u2, u3, u4, u5] [(.int q_m), (.int i)]
   have hd110 : ¬ (i < q_m) := (o_bA hg hA)
   refine o_gi (XS.icmpYes X0.here hx rfl (pc0 := 33) (pc' := 180) rfl (hb hby o_d21_33) rfl (flt hd110).2.1 (by decide) (by decide)) ?_
   refine o_gi (XS.iload X0.here hx rfl (hb hby o_d21_180) rfl) ?_
   refine o_gi (XS.iload X0.here hx rfl (hb hby o_d21_182) rfl) ?_
   show o_Gs p e below _ T0 m 184 #[o_A s_d, o_A r1, o_I i, o_I q_m, o_A r4, o_I 0, o_I 0, o_I 0, o_A s_t, o_I q_m, o_I x_r, u1, u2, u3, u4, u5] [(.int 0), (.int x_r)]
   refine o_gi (XS.isub X0.here hx rfl (hb hby o_d21_184) rfl) ?_
   show o_Gs p e below _ T0 m 185 #[o_A s_d, o_A r1, o_I i, o_I q_m, o_A r4, o_I 0, o_I 0, o_I 0, o_A s_t, o_I q_m, o_I x_r, u1, u2, u3, u4, u5] [(.int (x_r - (0 : Int32)))]
   show o_Gs p e below _ T0 m 185 #[o_A s_d, o_A r1, o_I i, o_I q_m, o_A r4, o_I 0, o_I 0, o_I 0, o_A s_t, o_I q_m, o_I x_r, u1, u2, u3, u4, u5] [(.int (x_r - (0 : Int32)))]
   rw [Int32.sub_zero]
   exact o_retI X0 hx hlk hret (hb hby o_d21_185) (by decide) (by decide) (by rw [e0]; exact ⟨rfl, N0, KK, V_d⟩)
  ·have hM := o_bmB hm hg hB.1
   refine o_gi (XS.iloadN X0.here hx rfl (hb hby o_d21_30) rfl) ?_
   refine o_gi (XS.iload X0.here hx rfl (hb hby o_d21_31) rfl) ?_
   show o_Gs p e below _ T0 m 33 #[o_A s_d, o_A r1, o_I i, o_I q_m, o_A r4, o_I 0, o_I 0, o_I 0, o_A s_t, o_I q_m, o_I x_r, u1, u2, u3, u4, u5] [(.int q_m), (.int i)]
   have hd111 : i < q_m := (o_bB hg hB.1)
   refine o_gi (XS.icmpNo X0.here hx rfl (hb hby o_d21_33) rfl (tlt hd111).2.1) ?_
   refine o_gi (XS.aload X0.here hx rfl (hb hby o_d21_36) rfl rfl) ?_
   refine o_gi (XS.aloadN X0.here hx rfl (hb hby o_d21_38) rfl rfl) ?_
   refine o_gi (XS.iloadN X0.here hx rfl (hb hby o_d21_39) rfl) ?_
   show o_Gs p e below _ T0 m 40 #[o_A s_d, o_A r1, o_I i, o_I q_m, o_A r4, o_I 0, o_I 0, o_I 0, o_A s_t, o_I q_m, o_I x_r, u1, u2, u3, u4, u5] [(.int i), (.ref r1), (.ref s_t)]
   refine o_gi (XS.iinc X0.here hx rfl (hb hby o_d21_40) rfl (l' := #[o_A s_d, o_A r1, .val (.int (i + (1 : Int32))), o_I q_m, o_A r4, o_I 0, o_I 0, o_I 0, o_A s_t, o_I q_m, o_I x_r, u1, u2, u3, u4, u5]) rfl) ?_
   show o_Gs p e below _ T0 m 43 #[o_A s_d, o_A r1, .val (.int (i + (1 : Int32))), o_I q_m, o_A r4, o_I 0, o_I 0, o_I 0, o_A s_t, o_I q_m, o_I x_r, u1, u2, u3, u4, u5] [(.int i), (.ref r1), (.ref s_t)]
   obtain ⟨cl112, Ar112, sa112, na112, ha112⟩ := id V_s
   have ix112 : ¬ i < 0 ∧ i < q_m := (o_bi hM).1
   refine o_go (X0.baloadBytes hx (j := i) (v := (.int (q_S i))) (by rw [e0]; exact Ar112.1) (State.isArrayOf_alike hZ.alike Ar112.2.1) Ar112.2.2 (inb_of sa112 ix112) (ha112 _ ix112.1 ix112.2) (g := (mkF m 43 #[o_A s_d, o_A r1, .val (.int (i + (1 : Int32))), o_I q_m, o_A r4, o_I 0, o_I 0, o_I 0, o_A s_t, o_I q_m, o_I x_r, u1, u2, u3, u4, u5] [(.int i), (.ref r1), (.ref s_t)])) rfl rfl (hb hby o_d21_43)) ?_
   refine o_gi (XS.sipush X0.here hx rfl (hb hby o_d21_44)) ?_
   show o_Gs p e below _ T0 m 47 #[o_A s_d, o_A r1, .val (.int (i + (1 : Int32))), o_I q_m, o_A r4, o_I 0, o_I 0, o_I 0, o_A s_t, o_I q_m, o_I x_r, u1, u2, u3, u4, u5] [(.int 255), (.int (q_S i)), (.ref s_t)]
   refine o_gi (XS.iand X0.here hx rfl (hb hby o_d21_47) rfl) ?_
   show o_Gs p e below _ T0 m 48 #[o_A s_d, o_A r1, .val (.int (i + (1 : Int32))), o_I q_m, o_A r4, o_I 0, o_I 0, o_I 0, o_A s_t, o_I q_m, o_I x_r, u1, u2, u3, u4, u5] [(.int ((q_S i) &&& (255 : Int32))), (.ref s_t)]
   obtain ⟨cl113, Ar113, sa113, na113, ha113⟩ := id (T_t.ext O1.2)
   have ix113 : ¬ ((q_S i) &&& (255 : Int32)) < 0 ∧ ((q_S i) &&& (255 : Int32)) < (256 : Int32) := (o_ix255 _)
   refine o_go (X0.iaload hx (j := ((q_S i) &&& (255 : Int32))) (v := (.int (o_b64 ((q_S i) &&& (255 : Int32))))) (by rw [e0]; exact Ar113.1) (State.isArrayOf_alike hZ.alike Ar113.2.1) Ar113.2.2 (inb_of sa113 ix113) (ha113 _ ix113.1 ix113.2) (g := (mkF m 48 #[o_A s_d, o_A r1, .val (.int (i + (1 : Int32))), o_I q_m, o_A r4, o_I 0, o_I 0, o_I 0, o_A s_t, o_I q_m, o_I x_r, u1, u2, u3, u4, u5] [(.int ((q_S i) &&& (255 : Int32))), (.ref s_t)])) rfl rfl (hb hby o_d21_48)) ?_
   refine o_gi (XS.istore X0.here hx rfl (hb hby o_d21_49) rfl (l' := #[o_A s_d, o_A r1, .val (.int (i + (1 : Int32))), o_I q_m, o_A r4, o_I 0, o_I 0, o_I 0, o_A s_t, o_I q_m, o_I x_r, .val (.int (o_b64 ((q_S i) &&& (255 : Int32)))), u2, u3, u4, u5]) (XS.store1 (o := u1) rfl hu1 rfl)) ?_
   obtain ⟨b1, q_b1⟩ : ∃ z : Int32, z = (o_b64 ((q_S i) &&& (255 : Int32))) := ⟨_, rfl⟩
   show o_Gs p e below _ T0 m 51 #[o_A s_d, o_A r1, .val (.int (i + (1 : Int32))), o_I q_m, o_A r4, o_I 0, o_I 0, o_I 0, o_A s_t, o_I q_m, o_I x_r, .val (.int (o_b64 ((q_S i) &&& (255 : Int32)))), u2, u3, u4, u5] []
   rw [← q_b1]
   refine o_gi (XS.aload X0.here hx rfl (hb hby o_d21_51) rfl rfl) ?_
   refine o_gi (XS.aloadN X0.here hx rfl (hb hby o_d21_53) rfl rfl) ?_
   refine o_gi (XS.iloadN X0.here hx rfl (hb hby o_d21_54) rfl) ?_
   show o_Gs p e below _ T0 m 55 #[o_A s_d, o_A r1, .val (.int (i + (1 : Int32))), o_I q_m, o_A r4, o_I 0, o_I 0, o_I 0, o_A s_t, o_I q_m, o_I x_r, o_I b1, u2, u3, u4, u5] [(.int (i + (1 : Int32))), (.ref r1), (.ref s_t)]
   refine o_gi (XS.iinc X0.here hx rfl (hb hby o_d21_55) rfl (l' := #[o_A s_d, o_A r1, .val (.int ((i + (1 : Int32)) + (1 : Int32))), o_I q_m, o_A r4, o_I 0, o_I 0, o_I 0, o_A s_t, o_I q_m, o_I x_r, o_I b1, u2, u3, u4, u5]) rfl) ?_
   show o_Gs p e below _ T0 m 58 #[o_A s_d, o_A r1, .val (.int ((i + (1 : Int32)) + (1 : Int32))), o_I q_m, o_A r4, o_I 0, o_I 0, o_I 0, o_A s_t, o_I q_m, o_I x_r, o_I b1, u2, u3, u4, u5] [(.int (i + (1 : Int32))), (.ref r1), (.ref s_t)]
   obtain ⟨cl114, Ar114, sa114, na114, ha114⟩ := id V_s
   have ix114 : ¬ (i + (1 : Int32)) < 0 ∧ (i + (1 : Int32)) < q_m := (o_bi hM).2.1
   refine o_go (X0.baloadBytes hx (j := (i + (1 : Int32))) (v := (.int (q_S (i + (1 : Int32))))) (by rw [e0]; exact Ar114.1) (State.isArrayOf_alike hZ.alike Ar114.2.1) Ar114.2.2 (inb_of sa114 ix114) (ha114 _ ix114.1 ix114.2) (g := (mkF m 58 #[o_A s_d, o_A r1, .val (.int ((i + (1 : Int32)) + (1 : Int32))), o_I q_m, o_A r4, o_I 0, o_I 0, o_I 0, o_A s_t, o_I q_m, o_I x_r, o_I b1, u2, u3, u4, u5] [(.int (i + (1 : Int32))), (.ref r1), (.ref s_t)])) rfl rfl (hb hby o_d21_58)) ?_
   refine o_gi (XS.sipush X0.here hx rfl (hb hby o_d21_59)) ?_
   show o_Gs p e below _ T0 m 62 #[o_A s_d, o_A r1, .val (.int ((i + (1 : Int32)) + (1 : Int32))), o_I q_m, o_A r4, o_I 0, o_I 0, o_I 0, o_A s_t, o_I q_m, o_I x_r, o_I b1, u2, u3, u4, u5] [(.int 255), (.int (q_S (i + (1 : Int32)))), (.ref s_t)]
   refine o_gi (XS.iand X0.here hx rfl (hb hby o_d21_62) rfl) ?_
   show o_Gs p e below _ T0 m 63 #[o_A s_d, o_A r1, .val (.int ((i + (1 : Int32)) + (1 : Int32))), o_I q_m, o_A r4, o_I 0, o_I 0, o_I 0, o_A s_t, o_I q_m, o_I x_r, o_I b1, u2, u3, u4, u5] [(.int ((q_S (i + (1 : Int32))) &&& (255 : Int32))), (.ref s_t)]
   obtain ⟨cl115, Ar115, sa115, na115, ha115⟩ := id (T_t.ext O1.2)
   have ix115 : ¬ ((q_S (i + (1 : Int32))) &&& (255 : Int32)) < 0 ∧ ((q_S (i + (1 : Int32))) &&& (255 : Int32)) < (256 : Int32) := (o_ix255 _)
   refine o_go (X0.iaload hx (j := ((q_S (i + (1 : Int32))) &&& (255 : Int32))) (v := (.int (o_b64 ((q_S (i + (1 : Int32))) &&& (255 : Int32))))) (by rw [e0]; exact Ar115.1) (State.isArrayOf_alike hZ.alike Ar115.2.1) Ar115.2.2 (inb_of sa115 ix115) (ha115 _ ix115.1 ix115.2) (g := (mkF m 63 #[o_A s_d, o_A r1, .val (.int ((i + (1 : Int32)) + (1 : Int32))), o_I q_m, o_A r4, o_I 0, o_I 0, o_I 0, o_A s_t, o_I q_m, o_I x_r, o_I b1, u2, u3, u4, u5] [(.int ((q_S (i + (1 : Int32))) &&& (255 : Int32))), (.ref s_t)])) rfl rfl (hb hby o_d21_63)) ?_
   refine o_gi (XS.istore X0.here hx rfl (hb hby o_d21_64) rfl (l' := #[o_A s_d, o_A r1, .val (.int ((i + (1 : Int32)) + (1 : Int32))), o_I q_m, o_A r4, o_I 0, o_I 0, o_I 0, o_A s_t, o_I q_m, o_I x_r, o_I b1, .val (.int (o_b64 ((q_S (i + (1 : Int32))) &&& (255 : Int32)))), u3, u4, u5]) (XS.store1 (o := u2) rfl hu2 rfl)) ?_
   obtain ⟨b2, q_b2⟩ : ∃ z : Int32, z = (o_b64 ((q_S (i + (1 : Int32))) &&& (255 : Int32))) := ⟨_, rfl⟩
   show o_Gs p e below _ T0 m 66 #[o_A s_d, o_A r1, .val (.int ((i + (1 : Int32)) + (1 : Int32))), o_I q_m, o_A r4, o_I 0, o_I 0, o_I 0, o_A s_t, o_I q_m, o_I x_r, o_I b1, .val (.int (o_b64 ((q_S (i + (1 : Int32))) &&& (255 : Int32)))), u3, u4, u5] []
   rw [← q_b2]
   refine o_gi (XS.aload X0.here hx rfl (hb hby o_d21_66) rfl rfl) ?_
   refine o_gi (XS.aloadN X0.here hx rfl (hb hby o_d21_68) rfl rfl) ?_
   refine o_gi (XS.iloadN X0.here hx rfl (hb hby o_d21_69) rfl) ?_
   show o_Gs p e below _ T0 m 70 #[o_A s_d, o_A r1, .val (.int ((i + (1 : Int32)) + (1 : Int32))), o_I q_m, o_A r4, o_I 0, o_I 0, o_I 0, o_A s_t, o_I q_m, o_I x_r, o_I b1, o_I b2, u3, u4, u5] [(.int ((i + (1 : Int32)) + (1 : Int32))), (.ref r1), (.ref s_t)]
   refine o_gi (XS.iinc X0.here hx rfl (hb hby o_d21_70) rfl (l' := #[o_A s_d, o_A r1, .val (.int (((i + (1 : Int32)) + (1 : Int32)) + (1 : Int32))), o_I q_m, o_A r4, o_I 0, o_I 0, o_I 0, o_A s_t, o_I q_m, o_I x_r, o_I b1, o_I b2, u3, u4, u5]) rfl) ?_
   show o_Gs p e below _ T0 m 73 #[o_A s_d, o_A r1, .val (.int (((i + (1 : Int32)) + (1 : Int32)) + (1 : Int32))), o_I q_m, o_A r4, o_I 0, o_I 0, o_I 0, o_A s_t, o_I q_m, o_I x_r, o_I b1, o_I b2, u3, u4, u5] [(.int ((i + (1 : Int32)) + (1 : Int32))), (.ref r1), (.ref s_t)]
   obtain ⟨cl116, Ar116, sa116, na116, ha116⟩ := id V_s
   have ix116 : ¬ ((i + (1 : Int32)) + (1 : Int32)) < 0 ∧ ((i + (1 : Int32)) + (1 : Int32)) < q_m := (o_bi hM).2.2.1
   refine o_go (X0.baloadBytes hx (j := ((i + (1 : Int32)) + (1 : Int32))) (v := (.int (q_S ((i + (1 : Int32)) + (1 : Int32))))) (by rw [e0]; exact Ar116.1) (State.isArrayOf_alike hZ.alike Ar116.2.1) Ar116.2.2 (inb_of sa116 ix116) (ha116 _ ix116.1 ix116.2) (g := (mkF m 73 #[o_A s_d, o_A r1, .val (.int (((i + (1 : Int32)) + (1 : Int32)) + (1 : Int32))), o_I q_m, o_A r4, o_I 0, o_I 0, o_I 0, o_A s_t, o_I q_m, o_I x_r, o_I b1, o_I b2, u3, u4, u5] [(.int ((i + (1 : Int32)) + (1 : Int32))), (.ref r1), (.ref s_t)])) rfl rfl (hb hby o_d21_73)) ?_
   refine o_gi (XS.sipush X0.here hx rfl (hb hby o_d21_74)) ?_
   show o_Gs p e below _ T0 m 77 #[o_A s_d, o_A r1, .val (.int (((i + (1 : Int32)) + (1 : Int32)) + (1 : Int32))), o_I q_m, o_A r4, o_I 0, o_I 0, o_I 0, o_A s_t, o_I q_m, o_I x_r, o_I b1, o_I b2, u3, u4, u5] [(.int 255), (.int (q_S ((i + (1 : Int32)) + (1 : Int32)))), (.ref s_t)]
   refine o_gi (XS.iand X0.here hx rfl (hb hby o_d21_77) rfl) ?_
   show o_Gs p e below _ T0 m 78 #[o_A s_d, o_A r1, .val (.int (((i + (1 : Int32)) + (1 : Int32)) + (1 : Int32))), o_I q_m, o_A r4, o_I 0, o_I 0, o_I 0, o_A s_t, o_I q_m, o_I x_r, o_I b1, o_I b2, u3, u4, u5] [(.int ((q_S ((i + (1 : Int32)) + (1 : Int32))) &&& (255 : Int32))), (.ref s_t)]
   obtain ⟨cl117, Ar117, sa117, na117, ha117⟩ := id (T_t.ext O1.2)
   have ix117 : ¬ ((q_S ((i + (1 : Int32)) + (1 : Int32))) &&& (255 : Int32)) < 0 ∧ ((q_S ((i + (1 : Int32)) + (1 : Int32))) &&& (255 : Int32)) < (256 : Int32) := (o_ix255 _)
   refine o_go (X0.iaload hx (j := ((q_S ((i + (1 : Int32)) + (1 : Int32))) &&& (255 : Int32))) (v := (.int (o_b64 ((q_S ((i + (1 : Int32)) + (1 : Int32))) &&& (255 : Int32))))) (by rw [e0]; exact Ar117.1) (State.isArrayOf_alike hZ.alike Ar117.2.1) Ar117.2.2 (inb_of sa117 ix117) (ha117 _ ix117.1 ix117.2) (g := (mkF m 78 #[o_A s_d, o_A r1, .val (.int (((i + (1 : Int32)) + (1 : Int32)) + (1 : Int32))), o_I q_m, o_A r4, o_I 0, o_I 0, o_I 0, o_A s_t, o_I q_m, o_I x_r, o_I b1, o_I b2, u3, u4, u5] [(.int ((q_S ((i + (1 : Int32)) + (1 : Int32))) &&& (255 : Int32))), (.ref s_t)])) rfl rfl (hb hby o_d21_78)) ?_
   refine o_gi (XS.istore X0.here hx rfl (hb hby o_d21_79) rfl (l' := #[o_A s_d, o_A r1, .val (.int (((i + (1 : Int32)) + (1 : Int32)) + (1 : Int32))), o_I q_m, o_A r4, o_I 0, o_I 0, o_I 0, o_A s_t, o_I q_m, o_I x_r, o_I b1, o_I b2, .val (.int (o_b64 ((q_S ((i + (1 : Int32)) + (1 : Int32))) &&& (255 : Int32)))), u4, u5]) (XS.store1 (o := u3) rfl hu3 rfl)) ?_
   obtain ⟨b3, q_b3⟩ : ∃ z : Int32, z = (o_b64 ((q_S ((i + (1 : Int32)) + (1 : Int32))) &&& (255 : Int32))) := ⟨_, rfl⟩
   show o_Gs p e below _ T0 m 81 #[o_A s_d, o_A r1, .val (.int (((i + (1 : Int32)) + (1 : Int32)) + (1 : Int32))), o_I q_m, o_A r4, o_I 0, o_I 0, o_I 0, o_A s_t, o_I q_m, o_I x_r, o_I b1, o_I b2, .val (.int (o_b64 ((q_S ((i + (1 : Int32)) + (1 : Int32))) &&& (255 : Int32)))), u4, u5] []
   rw [← q_b3]
   refine o_gi (XS.aload X0.here hx rfl (hb hby o_d21_81) rfl rfl) ?_
   refine o_gi (XS.aloadN X0.here hx rfl (hb hby o_d21_83) rfl rfl) ?_
   refine o_gi (XS.iloadN X0.here hx rfl (hb hby o_d21_84) rfl) ?_
   show o_Gs p e below _ T0 m 85 #[o_A s_d, o_A r1, .val (.int (((i + (1 : Int32)) + (1 : Int32)) + (1 : Int32))), o_I q_m, o_A r4, o_I 0, o_I 0, o_I 0, o_A s_t, o_I q_m, o_I x_r, o_I b1, o_I b2, o_I b3, u4, u5] [(.int (((i + (1 : Int32)) + (1 : Int32)) + (1 : Int32))), (.ref r1), (.ref s_t)]
   refine o_gi (XS.iinc X0.here hx rfl (hb hby o_d21_85) rfl (l' := #[o_A s_d, o_A r1, .val (.int ((((i + (1 : Int32)) + (1 : Int32)) + (1 : Int32)) + (1 : Int32))), o_I q_m, o_A r4, o_I 0, o_I 0, o_I 0, o_A s_t, o_I q_m, o_I x_r, o_I b1, o_I b2, o_I b3, u4, u5]) rfl) ?_
   show o_Gs p e below _ T0 m 88 #[o_A s_d, o_A r1, .val (.int ((((i + (1 : Int32)) + (1 : Int32)) + (1 : Int32)) + (1 : Int32))), o_I q_m, o_A r4, o_I 0, o_I 0, o_I 0, o_A s_t, o_I q_m, o_I x_r, o_I b1, o_I b2, o_I b3, u4, u5] [(.int (((i + (1 : Int32)) + (1 : Int32)) + (1 : Int32))), (.ref r1), (.ref s_t)]
   obtain ⟨cl118, Ar118, sa118, na118, ha118⟩ := id V_s
   have ix118 : ¬ (((i + (1 : Int32)) + (1 : Int32)) + (1 : Int32)) < 0 ∧ (((i + (1 : Int32)) + (1 : Int32)) + (1 : Int32)) < q_m := (o_bi hM).2.2.2
   refine o_go (X0.baloadBytes hx (j := (((i + (1 : Int32)) + (1 : Int32)) + (1 : Int32))) (v := (.int (q_S (((i + (1 : Int32)) + (1 : Int32)) + (1 : Int32))))) (by rw [e0]; exact Ar118.1) (State.isArrayOf_alike hZ.alike Ar118.2.1) Ar118.2.2 (inb_of sa118 ix118) (ha118 _ ix118.1 ix118.2) (g := (mkF m 88 #[o_A s_d, o_A r1, .val (.int ((((i + (1 : Int32)) + (1 : Int32)) + (1 : Int32)) + (1 : Int32))), o_I q_m, o_A r4, o_I 0, o_I 0, o_I 0, o_A s_t, o_I q_m, o_I x_r, o_I b1, o_I b2, o_I b3, u4, u5] [(.int (((i + (1 : Int32)) + (1 : Int32)) + (1 : Int32))), (.ref r1), (.ref s_t)])) rfl rfl (hb hby o_d21_88)) ?_
   refine o_gi (XS.sipush X0.here hx rfl (hb hby o_d21_89)) ?_
   show o_Gs p e below _ T0 m 92 #[o_A s_d, o_A r1, .val (.int ((((i + (1 : Int32)) + (1 : Int32)) + (1 : Int32)) + (1 : Int32))), o_I q_m, o_A r4, o_I 0, o_I 0, o_I 0, o_A s_t, o_I q_m, o_I x_r, o_I b1, o_I b2, o_I b3, u4, u5] [(.int 255), (.int (q_S (((i + (1 : Int32)) + (1 : Int32)) + (1 : Int32)))), (.ref s_t)]
   refine o_gi (XS.iand X0.here hx rfl (hb hby o_d21_92) rfl) ?_
   show o_Gs p e below _ T0 m 93 #[o_A s_d, o_A r1, .val (.int ((((i + (1 : Int32)) + (1 : Int32)) + (1 : Int32)) + (1 : Int32))), o_I q_m, o_A r4, o_I 0, o_I 0, o_I 0, o_A s_t, o_I q_m, o_I x_r, o_I b1, o_I b2, o_I b3, u4, u5] [(.int ((q_S (((i + (1 : Int32)) + (1 : Int32)) + (1 : Int32))) &&& (255 : Int32))), (.ref s_t)]
   obtain ⟨cl119, Ar119, sa119, na119, ha119⟩ := id (T_t.ext O1.2)
   have ix119 : ¬ ((q_S (((i + (1 : Int32)) + (1 : Int32)) + (1 : Int32))) &&& (255 : Int32)) < 0 ∧ ((q_S (((i + (1 : Int32)) + (1 : Int32)) + (1 : Int32))) &&& (255 : Int32)) < (256 : Int32) := (o_ix255 _)
   refine o_go (X0.iaload hx (j := ((q_S (((i + (1 : Int32)) + (1 : Int32)) + (1 : Int32))) &&& (255 : Int32))) (v := (.int (o_b64 ((q_S (((i + (1 : Int32)) + (1 : Int32)) + (1 : Int32))) &&& (255 : Int32))))) (by rw [e0]; exact Ar119.1) (State.isArrayOf_alike hZ.alike Ar119.2.1) Ar119.2.2 (inb_of sa119 ix119) (ha119 _ ix119.1 ix119.2) (g := (mkF m 93 #[o_A s_d, o_A r1, .val (.int ((((i + (1 : Int32)) + (1 : Int32)) + (1 : Int32)) + (1 : Int32))), o_I q_m, o_A r4, o_I 0, o_I 0, o_I 0, o_A s_t, o_I q_m, o_I x_r, o_I b1, o_I b2, o_I b3, u4, u5] [(.int ((q_S (((i + (1 : Int32)) + (1 : Int32)) + (1 : Int32))) &&& (255 : Int32))), (.ref s_t)])) rfl rfl (hb hby o_d21_93)) ?_
   refine o_gi (XS.istore X0.here hx rfl (hb hby o_d21_94) rfl (l' := #[o_A s_d, o_A r1, .val (.int ((((i + (1 : Int32)) + (1 : Int32)) + (1 : Int32)) + (1 : Int32))), o_I q_m, o_A r4, o_I 0, o_I 0, o_I 0, o_A s_t, o_I q_m, o_I x_r, o_I b1, o_I b2, o_I b3, .val (.int (o_b64 ((q_S (((i + (1 : Int32)) + (1 : Int32)) + (1 : Int32))) &&& (255 : Int32)))), u5]) (XS.store1 (o := u4) rfl hu4 rfl)) ?_
   obtain ⟨b4, q_b4⟩ : ∃ z : Int32, z = (o_b64 ((q_S (((i + (1 : Int32)) + (1 : Int32)) + (1 : Int32))) &&& (255 : Int32))) := ⟨_, rfl⟩
   show o_Gs p e below _ T0 m 96 #[o_A s_d, o_A r1, .val (.int ((((i + (1 : Int32)) + (1 : Int32)) + (1 : Int32)) + (1 : Int32))), o_I q_m, o_A r4, o_I 0, o_I 0, o_I 0, o_A s_t, o_I q_m, o_I x_r, o_I b1, o_I b2, o_I b3, .val (.int (o_b64 ((q_S (((i + (1 : Int32)) + (1 : Int32)) + (1 : Int32))) &&& (255 : Int32)))), u5] []
   rw [← q_b4]
   refine o_gi (XS.iload X0.here hx rfl (hb hby o_d21_96) rfl) ?_
   refine o_gi (XS.iload X0.here hx rfl (hb hby o_d21_98) rfl) ?_
   show o_Gs p e below _ T0 m 100 #[o_A s_d, o_A r1, .val (.int ((((i + (1 : Int32)) + (1 : Int32)) + (1 : Int32)) + (1 : Int32))), o_I q_m, o_A r4, o_I 0, o_I 0, o_I 0, o_A s_t, o_I q_m, o_I x_r, o_I b1, o_I b2, o_I b3, o_I b4, u5] [(.int b2), (.int b1)]
   refine o_gi (XS.ior X0.here hx rfl (hb hby o_d21_100) rfl) ?_
   refine o_gi (XS.iload X0.here hx rfl (hb hby o_d21_101) rfl) ?_
   show o_Gs p e below _ T0 m 103 #[o_A s_d, o_A r1, .val (.int ((((i + (1 : Int32)) + (1 : Int32)) + (1 : Int32)) + (1 : Int32))), o_I q_m, o_A r4, o_I 0, o_I 0, o_I 0, o_A s_t, o_I q_m, o_I x_r, o_I b1, o_I b2, o_I b3, o_I b4, u5] [(.int b3), (.int (b1 ||| b2))]
   refine o_gi (XS.ior X0.here hx rfl (hb hby o_d21_103) rfl) ?_
   refine o_gi (XS.iload X0.here hx rfl (hb hby o_d21_104) rfl) ?_
   show o_Gs p e below _ T0 m 106 #[o_A s_d, o_A r1, .val (.int ((((i + (1 : Int32)) + (1 : Int32)) + (1 : Int32)) + (1 : Int32))), o_I q_m, o_A r4, o_I 0, o_I 0, o_I 0, o_A s_t, o_I q_m, o_I x_r, o_I b1, o_I b2, o_I b3, o_I b4, u5] [(.int b4), (.int ((b1 ||| b2) ||| b3))]
   refine o_gi (XS.ior X0.here hx rfl (hb hby o_d21_106) rfl) ?_
   show o_Gs p e below _ T0 m 107 #[o_A s_d, o_A r1, .val (.int ((((i + (1 : Int32)) + (1 : Int32)) + (1 : Int32)) + (1 : Int32))), o_I q_m, o_A r4, o_I 0, o_I 0, o_I 0, o_A s_t, o_I q_m, o_I x_r, o_I b1, o_I b2, o_I b3, o_I b4, u5] [(.int (((b1 ||| b2) ||| b3) ||| b4))]
   have hd120 : (((b1 ||| b2) ||| b3) ||| b4) < (0 : Int32) := (o_bN q_b4 hB.2 (by omega))
   refine o_gi (XS.ifNo X0.here hx rfl (hb hby o_d21_107) rfl ((if0 _ _).trans (tlt hd120).2.1)) ?_
   refine o_gi (XS.iload X0.here hx rfl (hb hby o_d21_110) rfl) ?_
   refine o_gi (XS.iload X0.here hx rfl (hb hby o_d21_112) rfl) ?_
   show o_Gs p e below _ T0 m 114 #[o_A s_d, o_A r1, .val (.int ((((i + (1 : Int32)) + (1 : Int32)) + (1 : Int32)) + (1 : Int32))), o_I q_m, o_A r4, o_I 0, o_I 0, o_I 0, o_A s_t, o_I q_m, o_I x_r, o_I b1, o_I b2, o_I b3, o_I b4, u5] [(.int 0), (.int x_r)]
   refine o_gi (XS.isub X0.here hx rfl (hb hby o_d21_114) rfl) ?_
   show o_Gs p e below _ T0 m 115 #[o_A s_d, o_A r1, .val (.int ((((i + (1 : Int32)) + (1 : Int32)) + (1 : Int32)) + (1 : Int32))), o_I q_m, o_A r4, o_I 0, o_I 0, o_I 0, o_A s_t, o_I q_m, o_I x_r, o_I b1, o_I b2, o_I b3, o_I b4, u5] [(.int (x_r - (0 : Int32)))]
   show o_Gs p e below _ T0 m 115 #[o_A s_d, o_A r1, .val (.int ((((i + (1 : Int32)) + (1 : Int32)) + (1 : Int32)) + (1 : Int32))), o_I q_m, o_A r4, o_I 0, o_I 0, o_I 0, o_A s_t, o_I q_m, o_I x_r, o_I b1, o_I b2, o_I b3, o_I b4, u5] [(.int (x_r - (0 : Int32)))]
   rw [Int32.sub_zero]
   exact o_retI X0 hx hlk hret (hb hby o_d21_115) (by decide) (by decide) (by rw [e0]; exact ⟨rfl, N0, KK, V_d⟩)
 | succ k ih =>
  intro T0 L0 hh i d g u1 u2 u3 u4 u5 X0 e0 N0 Z1 O1 KK hg V_s V_d hu1 hu2 hu3 hu4 hu5
  have hM := o_bm hq hm hg
  refine o_gi (XS.iloadN X0.here hx rfl (hb hby o_d21_30) rfl) ?_
  refine o_gi (XS.iload X0.here hx rfl (hb hby o_d21_31) rfl) ?_
  show o_Gs p e below _ T0 m 33 #[o_A s_d, o_A r1, o_I i, o_I q_m, o_A r4, o_I 0, o_I 0, o_I 0, o_A s_t, o_I q_m, o_I d, u1, u2, u3, u4, u5] [(.int q_m), (.int i)]
  have hd121 : i < q_m := (o_bS hq hg)
  refine o_gi (XS.icmpNo X0.here hx rfl (hb hby o_d21_33) rfl (tlt hd121).2.1) ?_
  refine o_gi (XS.aload X0.here hx rfl (hb hby o_d21_36) rfl rfl) ?_
  refine o_gi (XS.aloadN X0.here hx rfl (hb hby o_d21_38) rfl rfl) ?_
  refine o_gi (XS.iloadN X0.here hx rfl (hb hby o_d21_39) rfl) ?_
  show o_Gs p e below _ T0 m 40 #[o_A s_d, o_A r1, o_I i, o_I q_m, o_A r4, o_I 0, o_I 0, o_I 0, o_A s_t, o_I q_m, o_I d, u1, u2, u3, u4, u5] [(.int i), (.ref r1), (.ref s_t)]
  refine o_gi (XS.iinc X0.here hx rfl (hb hby o_d21_40) rfl (l' := #[o_A s_d, o_A r1, .val (.int (i + (1 : Int32))), o_I q_m, o_A r4, o_I 0, o_I 0, o_I 0, o_A s_t, o_I q_m, o_I d, u1, u2, u3, u4, u5]) rfl) ?_
  show o_Gs p e below _ T0 m 43 #[o_A s_d, o_A r1, .val (.int (i + (1 : Int32))), o_I q_m, o_A r4, o_I 0, o_I 0, o_I 0, o_A s_t, o_I q_m, o_I d, u1, u2, u3, u4, u5] [(.int i), (.ref r1), (.ref s_t)]
  obtain ⟨cl122, Ar122, sa122, na122, ha122⟩ := id V_s
  have ix122 : ¬ i < 0 ∧ i < q_m := (o_bi hM).1
  refine o_go (X0.baloadBytes hx (j := i) (v := (.int (q_S i))) (by rw [e0]; exact Ar122.1) (State.isArrayOf_alike hZ.alike Ar122.2.1) Ar122.2.2 (inb_of sa122 ix122) (ha122 _ ix122.1 ix122.2) (g := (mkF m 43 #[o_A s_d, o_A r1, .val (.int (i + (1 : Int32))), o_I q_m, o_A r4, o_I 0, o_I 0, o_I 0, o_A s_t, o_I q_m, o_I d, u1, u2, u3, u4, u5] [(.int i), (.ref r1), (.ref s_t)])) rfl rfl (hb hby o_d21_43)) ?_
  refine o_gi (XS.sipush X0.here hx rfl (hb hby o_d21_44)) ?_
  show o_Gs p e below _ T0 m 47 #[o_A s_d, o_A r1, .val (.int (i + (1 : Int32))), o_I q_m, o_A r4, o_I 0, o_I 0, o_I 0, o_A s_t, o_I q_m, o_I d, u1, u2, u3, u4, u5] [(.int 255), (.int (q_S i)), (.ref s_t)]
  refine o_gi (XS.iand X0.here hx rfl (hb hby o_d21_47) rfl) ?_
  show o_Gs p e below _ T0 m 48 #[o_A s_d, o_A r1, .val (.int (i + (1 : Int32))), o_I q_m, o_A r4, o_I 0, o_I 0, o_I 0, o_A s_t, o_I q_m, o_I d, u1, u2, u3, u4, u5] [(.int ((q_S i) &&& (255 : Int32))), (.ref s_t)]
  obtain ⟨cl123, Ar123, sa123, na123, ha123⟩ := id (T_t.ext O1.2)
  have ix123 : ¬ ((q_S i) &&& (255 : Int32)) < 0 ∧ ((q_S i) &&& (255 : Int32)) < (256 : Int32) := (o_ix255 _)
  refine o_go (X0.iaload hx (j := ((q_S i) &&& (255 : Int32))) (v := (.int (o_b64 ((q_S i) &&& (255 : Int32))))) (by rw [e0]; exact Ar123.1) (State.isArrayOf_alike hZ.alike Ar123.2.1) Ar123.2.2 (inb_of sa123 ix123) (ha123 _ ix123.1 ix123.2) (g := (mkF m 48 #[o_A s_d, o_A r1, .val (.int (i + (1 : Int32))), o_I q_m, o_A r4, o_I 0, o_I 0, o_I 0, o_A s_t, o_I q_m, o_I d, u1, u2, u3, u4, u5] [(.int ((q_S i) &&& (255 : Int32))), (.ref s_t)])) rfl rfl (hb hby o_d21_48)) ?_
  refine o_gi (XS.istore X0.here hx rfl (hb hby o_d21_49) rfl (l' := #[o_A s_d, o_A r1, .val (.int (i + (1 : Int32))), o_I q_m, o_A r4, o_I 0, o_I 0, o_I 0, o_A s_t, o_I q_m, o_I d, .val (.int (o_b64 ((q_S i) &&& (255 : Int32)))), u2, u3, u4, u5]) (XS.store1 (o := u1) rfl hu1 rfl)) ?_
  obtain ⟨b1, q_b1⟩ : ∃ z : Int32, z = (o_b64 ((q_S i) &&& (255 : Int32))) := ⟨_, rfl⟩
  show o_Gs p e below _ T0 m 51 #[o_A s_d, o_A r1, .val (.int (i + (1 : Int32))), o_I q_m, o_A r4, o_I 0, o_I 0, o_I 0, o_A s_t, o_I q_m, o_I d, .val (.int (o_b64 ((q_S i) &&& (255 : Int32)))), u2, u3, u4, u5] []
  rw [← q_b1]
  refine o_gi (XS.aload X0.here hx rfl (hb hby o_d21_51) rfl rfl) ?_
  refine o_gi (XS.aloadN X0.here hx rfl (hb hby o_d21_53) rfl rfl) ?_
  refine o_gi (XS.iloadN X0.here hx rfl (hb hby o_d21_54) rfl) ?_
  show o_Gs p e below _ T0 m 55 #[o_A s_d, o_A r1, .val (.int (i + (1 : Int32))), o_I q_m, o_A r4, o_I 0, o_I 0, o_I 0, o_A s_t, o_I q_m, o_I d, o_I b1, u2, u3, u4, u5] [(.int (i + (1 : Int32))), (.ref r1), (.ref s_t)]
  refine o_gi (XS.iinc X0.here hx rfl (hb hby o_d21_55) rfl (l' := #[o_A s_d, o_A r1, .val (.int ((i + (1 : Int32)) + (1 : Int32))), o_I q_m, o_A r4, o_I 0, o_I 0, o_I 0, o_A s_t, o_I q_m, o_I d, o_I b1, u2, u3, u4, u5]) rfl) ?_
  show o_Gs p e below _ T0 m 58 #[o_A s_d, o_A r1, .val (.int ((i + (1 : Int32)) + (1 : Int32))), o_I q_m, o_A r4, o_I 0, o_I 0, o_I 0, o_A s_t, o_I q_m, o_I d, o_I b1, u2, u3, u4, u5] [(.int (i + (1 : Int32))), (.ref r1), (.ref s_t)]
  obtain ⟨cl124, Ar124, sa124, na124, ha124⟩ := id V_s
  have ix124 : ¬ (i + (1 : Int32)) < 0 ∧ (i + (1 : Int32)) < q_m := (o_bi hM).2.1
  refine o_go (X0.baloadBytes hx (j := (i + (1 : Int32))) (v := (.int (q_S (i + (1 : Int32))))) (by rw [e0]; exact Ar124.1) (State.isArrayOf_alike hZ.alike Ar124.2.1) Ar124.2.2 (inb_of sa124 ix124) (ha124 _ ix124.1 ix124.2) (g := (mkF m 58 #[o_A s_d, o_A r1, .val (.int ((i + (1 : Int32)) + (1 : Int32))), o_I q_m, o_A r4, o_I 0, o_I 0, o_I 0, o_A s_t, o_I q_m, o_I d, o_I b1, u2, u3, u4, u5] [(.int (i + (1 : Int32))), (.ref r1), (.ref s_t)])) rfl rfl (hb hby o_d21_58)) ?_
  refine o_gi (XS.sipush X0.here hx rfl (hb hby o_d21_59)) ?_
  show o_Gs p e below _ T0 m 62 #[o_A s_d, o_A r1, .val (.int ((i + (1 : Int32)) + (1 : Int32))), o_I q_m, o_A r4, o_I 0, o_I 0, o_I 0, o_A s_t, o_I q_m, o_I d, o_I b1, u2, u3, u4, u5] [(.int 255), (.int (q_S (i + (1 : Int32)))), (.ref s_t)]
  refine o_gi (XS.iand X0.here hx rfl (hb hby o_d21_62) rfl) ?_
  show o_Gs p e below _ T0 m 63 #[o_A s_d, o_A r1, .val (.int ((i + (1 : Int32)) + (1 : Int32))), o_I q_m, o_A r4, o_I 0, o_I 0, o_I 0, o_A s_t, o_I q_m, o_I d, o_I b1, u2, u3, u4, u5] [(.int ((q_S (i + (1 : Int32))) &&& (255 : Int32))), (.ref s_t)]
  obtain ⟨cl125, Ar125, sa125, na125, ha125⟩ := id (T_t.ext O1.2)
  have ix125 : ¬ ((q_S (i + (1 : Int32))) &&& (255 : Int32)) < 0 ∧ ((q_S (i + (1 : Int32))) &&& (255 : Int32)) < (256 : Int32) := (o_ix255 _)
  refine o_go (X0.iaload hx (j := ((q_S (i + (1 : Int32))) &&& (255 : Int32))) (v := (.int (o_b64 ((q_S (i + (1 : Int32))) &&& (255 : Int32))))) (by rw [e0]; exact Ar125.1) (State.isArrayOf_alike hZ.alike Ar125.2.1) Ar125.2.2 (inb_of sa125 ix125) (ha125 _ ix125.1 ix125.2) (g := (mkF m 63 #[o_A s_d, o_A r1, .val (.int ((i + (1 : Int32)) + (1 : Int32))), o_I q_m, o_A r4, o_I 0, o_I 0, o_I 0, o_A s_t, o_I q_m, o_I d, o_I b1, u2, u3, u4, u5] [(.int ((q_S (i + (1 : Int32))) &&& (255 : Int32))), (.ref s_t)])) rfl rfl (hb hby o_d21_63)) ?_
  refine o_gi (XS.istore X0.here hx rfl (hb hby o_d21_64) rfl (l' := #[o_A s_d, o_A r1, .val (.int ((i + (1 : Int32)) + (1 : Int32))), o_I q_m, o_A r4, o_I 0, o_I 0, o_I 0, o_A s_t, o_I q_m, o_I d, o_I b1, .val (.int (o_b64 ((q_S (i + (1 : Int32))) &&& (255 : Int32)))), u3, u4, u5]) (XS.store1 (o := u2) rfl hu2 rfl)) ?_
  obtain ⟨b2, q_b2⟩ : ∃ z : Int32, z = (o_b64 ((q_S (i + (1 : Int32))) &&& (255 : Int32))) := ⟨_, rfl⟩
  show o_Gs p e below _ T0 m 66 #[o_A s_d, o_A r1, .val (.int ((i + (1 : Int32)) + (1 : Int32))), o_I q_m, o_A r4, o_I 0, o_I 0, o_I 0, o_A s_t, o_I q_m, o_I d, o_I b1, .val (.int (o_b64 ((q_S (i + (1 : Int32))) &&& (255 : Int32)))), u3, u4, u5] []
  rw [← q_b2]
  refine o_gi (XS.aload X0.here hx rfl (hb hby o_d21_66) rfl rfl) ?_
  refine o_gi (XS.aloadN X0.here hx rfl (hb hby o_d21_68) rfl rfl) ?_
  refine o_gi (XS.iloadN X0.here hx rfl (hb hby o_d21_69) rfl) ?_
  show o_Gs p e below _ T0 m 70 #[o_A s_d, o_A r1, .val (.int ((i + (1 : Int32)) + (1 : Int32))), o_I q_m, o_A r4, o_I 0, o_I 0, o_I 0, o_A s_t, o_I q_m, o_I d, o_I b1, o_I b2, u3, u4, u5] [(.int ((i + (1 : Int32)) + (1 : Int32))), (.ref r1), (.ref s_t)]
  refine o_gi (XS.iinc X0.here hx rfl (hb hby o_d21_70) rfl (l' := #[o_A s_d, o_A r1, .val (.int (((i + (1 : Int32)) + (1 : Int32)) + (1 : Int32))), o_I q_m, o_A r4, o_I 0, o_I 0, o_I 0, o_A s_t, o_I q_m, o_I d, o_I b1, o_I b2, u3, u4, u5]) rfl) ?_
  show o_Gs p e below _ T0 m 73 #[o_A s_d, o_A r1, .val (.int (((i + (1 : Int32)) + (1 : Int32)) + (1 : Int32))), o_I q_m, o_A r4, o_I 0, o_I 0, o_I 0, o_A s_t, o_I q_m, o_I d, o_I b1, o_I b2, u3, u4, u5] [(.int ((i + (1 : Int32)) + (1 : Int32))), (.ref r1), (.ref s_t)]
  obtain ⟨cl126, Ar126, sa126, na126, ha126⟩ := id V_s
  have ix126 : ¬ ((i + (1 : Int32)) + (1 : Int32)) < 0 ∧ ((i + (1 : Int32)) + (1 : Int32)) < q_m := (o_bi hM).2.2.1
  refine o_go (X0.baloadBytes hx (j := ((i + (1 : Int32)) + (1 : Int32))) (v := (.int (q_S ((i + (1 : Int32)) + (1 : Int32))))) (by rw [e0]; exact Ar126.1) (State.isArrayOf_alike hZ.alike Ar126.2.1) Ar126.2.2 (inb_of sa126 ix126) (ha126 _ ix126.1 ix126.2) (g := (mkF m 73 #[o_A s_d, o_A r1, .val (.int (((i + (1 : Int32)) + (1 : Int32)) + (1 : Int32))), o_I q_m, o_A r4, o_I 0, o_I 0, o_I 0, o_A s_t, o_I q_m, o_I d, o_I b1, o_I b2, u3, u4, u5] [(.int ((i + (1 : Int32)) + (1 : Int32))), (.ref r1), (.ref s_t)])) rfl rfl (hb hby o_d21_73)) ?_
  refine o_gi (XS.sipush X0.here hx rfl (hb hby o_d21_74)) ?_
  show o_Gs p e below _ T0 m 77 #[o_A s_d, o_A r1, .val (.int (((i + (1 : Int32)) + (1 : Int32)) + (1 : Int32))), o_I q_m, o_A r4, o_I 0, o_I 0, o_I 0, o_A s_t, o_I q_m, o_I d, o_I b1, o_I b2, u3, u4, u5] [(.int 255), (.int (q_S ((i + (1 : Int32)) + (1 : Int32)))), (.ref s_t)]
  refine o_gi (XS.iand X0.here hx rfl (hb hby o_d21_77) rfl) ?_
  show o_Gs p e below _ T0 m 78 #[o_A s_d, o_A r1, .val (.int (((i + (1 : Int32)) + (1 : Int32)) + (1 : Int32))), o_I q_m, o_A r4, o_I 0, o_I 0, o_I 0, o_A s_t, o_I q_m, o_I d, o_I b1, o_I b2, u3, u4, u5] [(.int ((q_S ((i + (1 : Int32)) + (1 : Int32))) &&& (255 : Int32))), (.ref s_t)]
  obtain ⟨cl127, Ar127, sa127, na127, ha127⟩ := id (T_t.ext O1.2)
  have ix127 : ¬ ((q_S ((i + (1 : Int32)) + (1 : Int32))) &&& (255 : Int32)) < 0 ∧ ((q_S ((i + (1 : Int32)) + (1 : Int32))) &&& (255 : Int32)) < (256 : Int32) := (o_ix255 _)
  refine o_go (X0.iaload hx (j := ((q_S ((i + (1 : Int32)) + (1 : Int32))) &&& (255 : Int32))) (v := (.int (o_b64 ((q_S ((i + (1 : Int32)) + (1 : Int32))) &&& (255 : Int32))))) (by rw [e0]; exact Ar127.1) (State.isArrayOf_alike hZ.alike Ar127.2.1) Ar127.2.2 (inb_of sa127 ix127) (ha127 _ ix127.1 ix127.2) (g := (mkF m 78 #[o_A s_d, o_A r1, .val (.int (((i + (1 : Int32)) + (1 : Int32)) + (1 : Int32))), o_I q_m, o_A r4, o_I 0, o_I 0, o_I 0, o_A s_t, o_I q_m, o_I d, o_I b1, o_I b2, u3, u4, u5] [(.int ((q_S ((i + (1 : Int32)) + (1 : Int32))) &&& (255 : Int32))), (.ref s_t)])) rfl rfl (hb hby o_d21_78)) ?_
  refine o_gi (XS.istore X0.here hx rfl (hb hby o_d21_79) rfl (l' := #[o_A s_d, o_A r1, .val (.int (((i + (1 : Int32)) + (1 : Int32)) + (1 : Int32))), o_I q_m, o_A r4, o_I 0, o_I 0, o_I 0, o_A s_t, o_I q_m, o_I d, o_I b1, o_I b2, .val (.int (o_b64 ((q_S ((i + (1 : Int32)) + (1 : Int32))) &&& (255 : Int32)))), u4, u5]) (XS.store1 (o := u3) rfl hu3 rfl)) ?_
  obtain ⟨b3, q_b3⟩ : ∃ z : Int32, z = (o_b64 ((q_S ((i + (1 : Int32)) + (1 : Int32))) &&& (255 : Int32))) := ⟨_, rfl⟩
  show o_Gs p e below _ T0 m 81 #[o_A s_d, o_A r1, .val (.int (((i + (1 : Int32)) + (1 : Int32)) + (1 : Int32))), o_I q_m, o_A r4, o_I 0, o_I 0, o_I 0, o_A s_t, o_I q_m, o_I d, o_I b1, o_I b2, .val (.int (o_b64 ((q_S ((i + (1 : Int32)) + (1 : Int32))) &&& (255 : Int32)))), u4, u5] []
  rw [← q_b3]
  refine o_gi (XS.aload X0.here hx rfl (hb hby o_d21_81) rfl rfl) ?_
  refine o_gi (XS.aloadN X0.here hx rfl (hb hby o_d21_83) rfl rfl) ?_
  refine o_gi (XS.iloadN X0.here hx rfl (hb hby o_d21_84) rfl) ?_
  show o_Gs p e below _ T0 m 85 #[o_A s_d, o_A r1, .val (.int (((i + (1 : Int32)) + (1 : Int32)) + (1 : Int32))), o_I q_m, o_A r4, o_I 0, o_I 0, o_I 0, o_A s_t, o_I q_m, o_I d, o_I b1, o_I b2, o_I b3, u4, u5] [(.int (((i + (1 : Int32)) + (1 : Int32)) + (1 : Int32))), (.ref r1), (.ref s_t)]
  refine o_gi (XS.iinc X0.here hx rfl (hb hby o_d21_85) rfl (l' := #[o_A s_d, o_A r1, .val (.int ((((i + (1 : Int32)) + (1 : Int32)) + (1 : Int32)) + (1 : Int32))), o_I q_m, o_A r4, o_I 0, o_I 0, o_I 0, o_A s_t, o_I q_m, o_I d, o_I b1, o_I b2, o_I b3, u4, u5]) rfl) ?_
  show o_Gs p e below _ T0 m 88 #[o_A s_d, o_A r1, .val (.int ((((i + (1 : Int32)) + (1 : Int32)) + (1 : Int32)) + (1 : Int32))), o_I q_m, o_A r4, o_I 0, o_I 0, o_I 0, o_A s_t, o_I q_m, o_I d, o_I b1, o_I b2, o_I b3, u4, u5] [(.int (((i + (1 : Int32)) + (1 : Int32)) + (1 : Int32))), (.ref r1), (.ref s_t)]
  obtain ⟨cl128, Ar128, sa128, na128, ha128⟩ := id V_s
  have ix128 : ¬ (((i + (1 : Int32)) + (1 : Int32)) + (1 : Int32)) < 0 ∧ (((i + (1 : Int32)) + (1 : Int32)) + (1 : Int32)) < q_m := (o_bi hM).2.2.2
  refine o_go (X0.baloadBytes hx (j := (((i + (1 : Int32)) + (1 : Int32)) + (1 : Int32))) (v := (.int (q_S (((i + (1 : Int32)) + (1 : Int32)) + (1 : Int32))))) (by rw [e0]; exact Ar128.1) (State.isArrayOf_alike hZ.alike Ar128.2.1) Ar128.2.2 (inb_of sa128 ix128) (ha128 _ ix128.1 ix128.2) (g := (mkF m 88 #[o_A s_d, o_A r1, .val (.int ((((i + (1 : Int32)) + (1 : Int32)) + (1 : Int32)) + (1 : Int32))), o_I q_m, o_A r4, o_I 0, o_I 0, o_I 0, o_A s_t, o_I q_m, o_I d, o_I b1, o_I b2, o_I b3, u4, u5] [(.int (((i + (1 : Int32)) + (1 : Int32)) + (1 : Int32))), (.ref r1), (.ref s_t)])) rfl rfl (hb hby o_d21_88)) ?_
  refine o_gi (XS.sipush X0.here hx rfl (hb hby o_d21_89)) ?_
  show o_Gs p e below _ T0 m 92 #[o_A s_d, o_A r1, .val (.int ((((i + (1 : Int32)) + (1 : Int32)) + (1 : Int32)) + (1 : Int32))), o_I q_m, o_A r4, o_I 0, o_I 0, o_I 0, o_A s_t, o_I q_m, o_I d, o_I b1, o_I b2, o_I b3, u4, u5] [(.int 255), (.int (q_S (((i + (1 : Int32)) + (1 : Int32)) + (1 : Int32)))), (.ref s_t)]
  refine o_gi (XS.iand X0.here hx rfl (hb hby o_d21_92) rfl) ?_
  show o_Gs p e below _ T0 m 93 #[o_A s_d, o_A r1, .val (.int ((((i + (1 : Int32)) + (1 : Int32)) + (1 : Int32)) + (1 : Int32))), o_I q_m, o_A r4, o_I 0, o_I 0, o_I 0, o_A s_t, o_I q_m, o_I d, o_I b1, o_I b2, o_I b3, u4, u5] [(.int ((q_S (((i + (1 : Int32)) + (1 : Int32)) + (1 : Int32))) &&& (255 : Int32))), (.ref s_t)]
  obtain ⟨cl129, Ar129, sa129, na129, ha129⟩ := id (T_t.ext O1.2)
  have ix129 : ¬ ((q_S (((i + (1 : Int32)) + (1 : Int32)) + (1 : Int32))) &&& (255 : Int32)) < 0 ∧ ((q_S (((i + (1 : Int32)) + (1 : Int32)) + (1 : Int32))) &&& (255 : Int32)) < (256 : Int32) := (o_ix255 _)
  refine o_go (X0.iaload hx (j := ((q_S (((i + (1 : Int32)) + (1 : Int32)) + (1 : Int32))) &&& (255 : Int32))) (v := (.int (o_b64 ((q_S (((i + (1 : Int32)) + (1 : Int32)) + (1 : Int32))) &&& (255 : Int32))))) (by rw [e0]; exact Ar129.1) (State.isArrayOf_alike hZ.alike Ar129.2.1) Ar129.2.2 (inb_of sa129 ix129) (ha129 _ ix129.1 ix129.2) (g := (mkF m 93 #[o_A s_d, o_A r1, .val (.int ((((i + (1 : Int32)) + (1 : Int32)) + (1 : Int32)) + (1 : Int32))), o_I q_m, o_A r4, o_I 0, o_I 0, o_I 0, o_A s_t, o_I q_m, o_I d, o_I b1, o_I b2, o_I b3, u4, u5] [(.int ((q_S (((i + (1 : Int32)) + (1 : Int32)) + (1 : Int32))) &&& (255 : Int32))), (.ref s_t)])) rfl rfl (hb hby o_d21_93)) ?_
  refine o_gi (XS.istore X0.here hx rfl (hb hby o_d21_94) rfl (l' := #[o_A s_d, o_A r1, .val (.int ((((i + (1 : Int32)) + (1 : Int32)) + (1 : Int32)) + (1 : Int32))), o_I q_m, o_A r4, o_I 0, o_I 0, o_I 0, o_A s_t, o_I q_m, o_I d, o_I b1, o_I b2, o_I b3, .val (.int (o_b64 ((q_S (((i + (1 : Int32)) + (1 : Int32)) + (1 : Int32))) &&& (255 : Int32)))), u5]) (XS.store1 (o := u4) rfl hu4 rfl)) ?_
  obtain ⟨b4, q_b4⟩ : ∃ z : Int32, z = (o_b64 ((q_S (((i + (1 : Int32)) + (1 : Int32)) + (1 : Int32))) &&& (255 : Int32))) := ⟨_, rfl⟩
  show o_Gs p e below _ T0 m 96 #[o_A s_d, o_A r1, .val (.int ((((i + (1 : Int32)) + (1 : Int32)) + (1 : Int32)) + (1 : Int32))), o_I q_m, o_A r4, o_I 0, o_I 0, o_I 0, o_A s_t, o_I q_m, o_I d, o_I b1, o_I b2, o_I b3, .val (.int (o_b64 ((q_S (((i + (1 : Int32)) + (1 : Int32)) + (1 : Int32))) &&& (255 : Int32)))), u5] []
  rw [← q_b4]
  have hP := o_bP q_b1 q_b2 q_b3 q_b4 hq hg
  refine o_gi (XS.iload X0.here hx rfl (hb hby o_d21_96) rfl) ?_
  refine o_gi (XS.iload X0.here hx rfl (hb hby o_d21_98) rfl) ?_
  show o_Gs p e below _ T0 m 100 #[o_A s_d, o_A r1, .val (.int ((((i + (1 : Int32)) + (1 : Int32)) + (1 : Int32)) + (1 : Int32))), o_I q_m, o_A r4, o_I 0, o_I 0, o_I 0, o_A s_t, o_I q_m, o_I d, o_I b1, o_I b2, o_I b3, o_I b4, u5] [(.int b2), (.int b1)]
  refine o_gi (XS.ior X0.here hx rfl (hb hby o_d21_100) rfl) ?_
  refine o_gi (XS.iload X0.here hx rfl (hb hby o_d21_101) rfl) ?_
  show o_Gs p e below _ T0 m 103 #[o_A s_d, o_A r1, .val (.int ((((i + (1 : Int32)) + (1 : Int32)) + (1 : Int32)) + (1 : Int32))), o_I q_m, o_A r4, o_I 0, o_I 0, o_I 0, o_A s_t, o_I q_m, o_I d, o_I b1, o_I b2, o_I b3, o_I b4, u5] [(.int b3), (.int (b1 ||| b2))]
  refine o_gi (XS.ior X0.here hx rfl (hb hby o_d21_103) rfl) ?_
  refine o_gi (XS.iload X0.here hx rfl (hb hby o_d21_104) rfl) ?_
  show o_Gs p e below _ T0 m 106 #[o_A s_d, o_A r1, .val (.int ((((i + (1 : Int32)) + (1 : Int32)) + (1 : Int32)) + (1 : Int32))), o_I q_m, o_A r4, o_I 0, o_I 0, o_I 0, o_A s_t, o_I q_m, o_I d, o_I b1, o_I b2, o_I b3, o_I b4, u5] [(.int b4), (.int ((b1 ||| b2) ||| b3))]
  refine o_gi (XS.ior X0.here hx rfl (hb hby o_d21_106) rfl) ?_
  show o_Gs p e below _ T0 m 107 #[o_A s_d, o_A r1, .val (.int ((((i + (1 : Int32)) + (1 : Int32)) + (1 : Int32)) + (1 : Int32))), o_I q_m, o_A r4, o_I 0, o_I 0, o_I 0, o_A s_t, o_I q_m, o_I d, o_I b1, o_I b2, o_I b3, o_I b4, u5] [(.int (((b1 ||| b2) ||| b3) ||| b4))]
  have hd130 : ¬ ((((b1 ||| b2) ||| b3) ||| b4) < (0 : Int32)) := (o_bQ hP)
  refine o_gi (XS.ifYes X0.here hx rfl (pc0 := 107) (pc' := 116) rfl (hb hby o_d21_107) rfl ((if0 _ _).trans (flt hd130).2.1) (by decide) (by decide)) ?_
  refine o_gi (XS.iload X0.here hx rfl (hb hby o_d21_116) rfl) ?_
  refine o_gi (XS.bipush X0.here hx rfl (hb hby o_d21_118)) ?_
  show o_Gs p e below _ T0 m 120 #[o_A s_d, o_A r1, .val (.int ((((i + (1 : Int32)) + (1 : Int32)) + (1 : Int32)) + (1 : Int32))), o_I q_m, o_A r4, o_I 0, o_I 0, o_I 0, o_A s_t, o_I q_m, o_I d, o_I b1, o_I b2, o_I b3, o_I b4, u5] [(.int 18), (.int b1)]
  refine o_gi (XS.ishl X0.here hx rfl (hb hby o_d21_120) rfl) ?_
  refine o_gi (XS.iload X0.here hx rfl (hb hby o_d21_121) rfl) ?_
  refine o_gi (XS.bipush X0.here hx rfl (hb hby o_d21_123)) ?_
  show o_Gs p e below _ T0 m 125 #[o_A s_d, o_A r1, .val (.int ((((i + (1 : Int32)) + (1 : Int32)) + (1 : Int32)) + (1 : Int32))), o_I q_m, o_A r4, o_I 0, o_I 0, o_I 0, o_A s_t, o_I q_m, o_I d, o_I b1, o_I b2, o_I b3, o_I b4, u5] [(.int 12), (.int b2), (.int (b1 <<< ((18 : Int32) &&& 31)))]
  refine o_gi (XS.ishl X0.here hx rfl (hb hby o_d21_125) rfl) ?_
  show o_Gs p e below _ T0 m 126 #[o_A s_d, o_A r1, .val (.int ((((i + (1 : Int32)) + (1 : Int32)) + (1 : Int32)) + (1 : Int32))), o_I q_m, o_A r4, o_I 0, o_I 0, o_I 0, o_A s_t, o_I q_m, o_I d, o_I b1, o_I b2, o_I b3, o_I b4, u5] [(.int (b2 <<< ((12 : Int32) &&& 31))), (.int (b1 <<< ((18 : Int32) &&& 31)))]
  refine o_gi (XS.ior X0.here hx rfl (hb hby o_d21_126) rfl) ?_
  refine o_gi (XS.iload X0.here hx rfl (hb hby o_d21_127) rfl) ?_
  refine o_gi (XS.bipush X0.here hx rfl (hb hby o_d21_129)) ?_
  show o_Gs p e below _ T0 m 131 #[o_A s_d, o_A r1, .val (.int ((((i + (1 : Int32)) + (1 : Int32)) + (1 : Int32)) + (1 : Int32))), o_I q_m, o_A r4, o_I 0, o_I 0, o_I 0, o_A s_t, o_I q_m, o_I d, o_I b1, o_I b2, o_I b3, o_I b4, u5] [(.int 6), (.int b3), (.int ((b1 <<< ((18 : Int32) &&& 31)) ||| (b2 <<< ((12 : Int32) &&& 31))))]
  refine o_gi (XS.ishl X0.here hx rfl (hb hby o_d21_131) rfl) ?_
  show o_Gs p e below _ T0 m 132 #[o_A s_d, o_A r1, .val (.int ((((i + (1 : Int32)) + (1 : Int32)) + (1 : Int32)) + (1 : Int32))), o_I q_m, o_A r4, o_I 0, o_I 0, o_I 0, o_A s_t, o_I q_m, o_I d, o_I b1, o_I b2, o_I b3, o_I b4, u5] [(.int (b3 <<< ((6 : Int32) &&& 31))), (.int ((b1 <<< ((18 : Int32) &&& 31)) ||| (b2 <<< ((12 : Int32) &&& 31))))]
  refine o_gi (XS.ior X0.here hx rfl (hb hby o_d21_132) rfl) ?_
  refine o_gi (XS.iload X0.here hx rfl (hb hby o_d21_133) rfl) ?_
  show o_Gs p e below _ T0 m 135 #[o_A s_d, o_A r1, .val (.int ((((i + (1 : Int32)) + (1 : Int32)) + (1 : Int32)) + (1 : Int32))), o_I q_m, o_A r4, o_I 0, o_I 0, o_I 0, o_A s_t, o_I q_m, o_I d, o_I b1, o_I b2, o_I b3, o_I b4, u5] [(.int b4), (.int (((b1 <<< ((18 : Int32) &&& 31)) ||| (b2 <<< ((12 : Int32) &&& 31))) ||| (b3 <<< ((6 : Int32) &&& 31))))]
  refine o_gi (XS.ior X0.here hx rfl (hb hby o_d21_135) rfl) ?_
  refine o_gi (XS.istore X0.here hx rfl (hb hby o_d21_136) rfl (l' := #[o_A s_d, o_A r1, .val (.int ((((i + (1 : Int32)) + (1 : Int32)) + (1 : Int32)) + (1 : Int32))), o_I q_m, o_A r4, o_I 0, o_I 0, o_I 0, o_A s_t, o_I q_m, o_I d, o_I b1, o_I b2, o_I b3, o_I b4, .val (.int ((((b1 <<< ((18 : Int32) &&& 31)) ||| (b2 <<< ((12 : Int32) &&& 31))) ||| (b3 <<< ((6 : Int32) &&& 31))) ||| b4))]) (XS.store1 (o := u5) rfl hu5 rfl)) ?_
  obtain ⟨bt, q_bt⟩ : ∃ z : Int32, z = ((((b1 <<< ((18 : Int32) &&& 31)) ||| (b2 <<< ((12 : Int32) &&& 31))) ||| (b3 <<< ((6 : Int32) &&& 31))) ||| b4) := ⟨_, rfl⟩
  show o_Gs p e below _ T0 m 138 #[o_A s_d, o_A r1, .val (.int ((((i + (1 : Int32)) + (1 : Int32)) + (1 : Int32)) + (1 : Int32))), o_I q_m, o_A r4, o_I 0, o_I 0, o_I 0, o_A s_t, o_I q_m, o_I d, o_I b1, o_I b2, o_I b3, o_I b4, .val (.int ((((b1 <<< ((18 : Int32) &&& 31)) ||| (b2 <<< ((12 : Int32) &&& 31))) ||| (b3 <<< ((6 : Int32) &&& 31))) ||| b4))] []
  rw [← q_bt]
  have hbt := (congrArg Int32.toInt q_bt).trans (o_unpack _ (o_wB _ _) hP.1 hP.2.1 hP.2.2.1 hP.2.2.2)
  refine o_gi (XS.aload X0.here hx rfl (hb hby o_d21_138) rfl rfl) ?_
  refine o_gi (XS.iload X0.here hx rfl (hb hby o_d21_140) rfl) ?_
  show o_Gs p e below _ T0 m 142 #[o_A s_d, o_A r1, .val (.int ((((i + (1 : Int32)) + (1 : Int32)) + (1 : Int32)) + (1 : Int32))), o_I q_m, o_A r4, o_I 0, o_I 0, o_I 0, o_A s_t, o_I q_m, o_I d, o_I b1, o_I b2, o_I b3, o_I b4, o_I bt] [(.int d), (.ref r4)]
  refine o_gi (XS.iinc X0.here hx rfl (hb hby o_d21_142) rfl (l' := #[o_A s_d, o_A r1, .val (.int ((((i + (1 : Int32)) + (1 : Int32)) + (1 : Int32)) + (1 : Int32))), o_I q_m, o_A r4, o_I 0, o_I 0, o_I 0, o_A s_t, o_I q_m, .val (.int (d + (1 : Int32))), o_I b1, o_I b2, o_I b3, o_I b4, o_I bt]) rfl) ?_
  refine o_gi (XS.iload X0.here hx rfl (hb hby o_d21_145) rfl) ?_
  refine o_gi (XS.bipush X0.here hx rfl (hb hby o_d21_147)) ?_
  show o_Gs p e below _ T0 m 149 #[o_A s_d, o_A r1, .val (.int ((((i + (1 : Int32)) + (1 : Int32)) + (1 : Int32)) + (1 : Int32))), o_I q_m, o_A r4, o_I 0, o_I 0, o_I 0, o_A s_t, o_I q_m, .val (.int (d + (1 : Int32))), o_I b1, o_I b2, o_I b3, o_I b4, o_I bt] [(.int 16), (.int bt), (.int d), (.ref r4)]
  refine o_gi (XS.ishr X0.here hx rfl (hb hby o_d21_149) rfl) ?_
  show o_Gs p e below _ T0 m 150 #[o_A s_d, o_A r1, .val (.int ((((i + (1 : Int32)) + (1 : Int32)) + (1 : Int32)) + (1 : Int32))), o_I q_m, o_A r4, o_I 0, o_I 0, o_I 0, o_A s_t, o_I q_m, .val (.int (d + (1 : Int32))), o_I b1, o_I b2, o_I b3, o_I b4, o_I bt] [(.int (bt >>> ((16 : Int32) &&& 31))), (.int d), (.ref r4)]
  refine o_gi (XS.i2b X0.here hx rfl (hb hby o_d21_150) rfl) ?_
  show o_Gs p e below _ T0 m 151 #[o_A s_d, o_A r1, .val (.int ((((i + (1 : Int32)) + (1 : Int32)) + (1 : Int32)) + (1 : Int32))), o_I q_m, o_A r4, o_I 0, o_I 0, o_I 0, o_A s_t, o_I q_m, .val (.int (d + (1 : Int32))), o_I b1, o_I b2, o_I b3, o_I b4, o_I bt] [(.int ((bt >>> ((16 : Int32) &&& 31)).toInt8.toInt32)), (.int d), (.ref r4)]
  obtain ⟨cl131, Ar131, sa131, na131, ha131⟩ := id V_d
  obtain ⟨T131, h131, X131, e131, W131, st131⟩ := stB X0 hx hZ e0 Ar131 (j := d) (inb_of sa131 (o_bd0 hq hg).1) (g := (mkF m 151 #[o_A s_d, o_A r1, .val (.int ((((i + (1 : Int32)) + (1 : Int32)) + (1 : Int32)) + (1 : Int32))), o_I q_m, o_A r4, o_I 0, o_I 0, o_I 0, o_A s_t, o_I q_m, .val (.int (d + (1 : Int32))), o_I b1, o_I b2, o_I b3, o_I b4, o_I bt] [(.int ((bt >>> ((16 : Int32) &&& 31)).toInt8.toInt32)), (.int d), (.ref r4)])) rfl rfl (hb hby o_d21_151)
  have V131 : o_Tb Z h131 r4 .byte q_n (fun k => if k = d then (nar .byte ((bt >>> ((16 : Int32) &&& 31)).toInt8.toInt32)) else (o_cut d q_B) k) := o_Tb.set Ar131 sa131 na131 ha131 W131 (o_bd0 hq hg).1
  have N131 := Fr.snoc X131 N0 g_r4
  refine o_go st131 ?_
  refine o_gi (XS.aload X131.here hx rfl (hb hby o_d21_152) rfl rfl) ?_
  refine o_gi (XS.iload X131.here hx rfl (hb hby o_d21_154) rfl) ?_
  show o_Gs p e below _ T131 m 156 #[o_A s_d, o_A r1, .val (.int ((((i + (1 : Int32)) + (1 : Int32)) + (1 : Int32)) + (1 : Int32))), o_I q_m, o_A r4, o_I 0, o_I 0, o_I 0, o_A s_t, o_I q_m, .val (.int (d + (1 : Int32))), o_I b1, o_I b2, o_I b3, o_I b4, o_I bt] [(.int (d + (1 : Int32))), (.ref r4)]
  refine o_gi (XS.iinc X131.here hx rfl (hb hby o_d21_156) rfl (l' := #[o_A s_d, o_A r1, .val (.int ((((i + (1 : Int32)) + (1 : Int32)) + (1 : Int32)) + (1 : Int32))), o_I q_m, o_A r4, o_I 0, o_I 0, o_I 0, o_A s_t, o_I q_m, .val (.int ((d + (1 : Int32)) + (1 : Int32))), o_I b1, o_I b2, o_I b3, o_I b4, o_I bt]) rfl) ?_
  refine o_gi (XS.iload X131.here hx rfl (hb hby o_d21_159) rfl) ?_
  refine o_gi (XS.bipush X131.here hx rfl (hb hby o_d21_161)) ?_
  show o_Gs p e below _ T131 m 163 #[o_A s_d, o_A r1, .val (.int ((((i + (1 : Int32)) + (1 : Int32)) + (1 : Int32)) + (1 : Int32))), o_I q_m, o_A r4, o_I 0, o_I 0, o_I 0, o_A s_t, o_I q_m, .val (.int ((d + (1 : Int32)) + (1 : Int32))), o_I b1, o_I b2, o_I b3, o_I b4, o_I bt] [(.int 8), (.int bt), (.int (d + (1 : Int32))), (.ref r4)]
  refine o_gi (XS.ishr X131.here hx rfl (hb hby o_d21_163) rfl) ?_
  show o_Gs p e below _ T131 m 164 #[o_A s_d, o_A r1, .val (.int ((((i + (1 : Int32)) + (1 : Int32)) + (1 : Int32)) + (1 : Int32))), o_I q_m, o_A r4, o_I 0, o_I 0, o_I 0, o_A s_t, o_I q_m, .val (.int ((d + (1 : Int32)) + (1 : Int32))), o_I b1, o_I b2, o_I b3, o_I b4, o_I bt] [(.int (bt >>> ((8 : Int32) &&& 31))), (.int (d + (1 : Int32))), (.ref r4)]
  refine o_gi (XS.i2b X131.here hx rfl (hb hby o_d21_164) rfl) ?_
  show o_Gs p e below _ T131 m 165 #[o_A s_d, o_A r1, .val (.int ((((i + (1 : Int32)) + (1 : Int32)) + (1 : Int32)) + (1 : Int32))), o_I q_m, o_A r4, o_I 0, o_I 0, o_I 0, o_A s_t, o_I q_m, .val (.int ((d + (1 : Int32)) + (1 : Int32))), o_I b1, o_I b2, o_I b3, o_I b4, o_I bt] [(.int ((bt >>> ((8 : Int32) &&& 31)).toInt8.toInt32)), (.int (d + (1 : Int32))), (.ref r4)]
  obtain ⟨cl132, Ar132, sa132, na132, ha132⟩ := id V131
  obtain ⟨T132, h132, X132, e132, W132, st132⟩ := stB X131 hx hZ e131 Ar132 (j := (d + (1 : Int32))) (inb_of sa132 (o_bd0 hq hg).2.1) (g := (mkF m 165 #[o_A s_d, o_A r1, .val (.int ((((i + (1 : Int32)) + (1 : Int32)) + (1 : Int32)) + (1 : Int32))), o_I q_m, o_A r4, o_I 0, o_I 0, o_I 0, o_A s_t, o_I q_m, .val (.int ((d + (1 : Int32)) + (1 : Int32))), o_I b1, o_I b2, o_I b3, o_I b4, o_I bt] [(.int ((bt >>> ((8 : Int32) &&& 31)).toInt8.toInt32)), (.int (d + (1 : Int32))), (.ref r4)])) rfl rfl (hb hby o_d21_165)
  have V132 : o_Tb Z h132 r4 .byte q_n (fun k => if k = (d + (1 : Int32)) then (nar .byte ((bt >>> ((8 : Int32) &&& 31)).toInt8.toInt32)) else (fun k => if k = d then (nar .byte ((bt >>> ((16 : Int32) &&& 31)).toInt8.toInt32)) else (o_cut d q_B) k) k) := o_Tb.set Ar132 sa132 na132 ha132 W132 (o_bd0 hq hg).2.1
  have N132 := Fr.snoc X132 N131 g_r4
  refine o_go st132 ?_
  refine o_gi (XS.aload X132.here hx rfl (hb hby o_d21_166) rfl rfl) ?_
  refine o_gi (XS.iload X132.here hx rfl (hb hby o_d21_168) rfl) ?_
  show o_Gs p e below _ T132 m 170 #[o_A s_d, o_A r1, .val (.int ((((i + (1 : Int32)) + (1 : Int32)) + (1 : Int32)) + (1 : Int32))), o_I q_m, o_A r4, o_I 0, o_I 0, o_I 0, o_A s_t, o_I q_m, .val (.int ((d + (1 : Int32)) + (1 : Int32))), o_I b1, o_I b2, o_I b3, o_I b4, o_I bt] [(.int ((d + (1 : Int32)) + (1 : Int32))), (.ref r4)]
  refine o_gi (XS.iinc X132.here hx rfl (hb hby o_d21_170) rfl (l' := #[o_A s_d, o_A r1, .val (.int ((((i + (1 : Int32)) + (1 : Int32)) + (1 : Int32)) + (1 : Int32))), o_I q_m, o_A r4, o_I 0, o_I 0, o_I 0, o_A s_t, o_I q_m, .val (.int (((d + (1 : Int32)) + (1 : Int32)) + (1 : Int32))), o_I b1, o_I b2, o_I b3, o_I b4, o_I bt]) rfl) ?_
  refine o_gi (XS.iload X132.here hx rfl (hb hby o_d21_173) rfl) ?_
  show o_Gs p e below _ T132 m 175 #[o_A s_d, o_A r1, .val (.int ((((i + (1 : Int32)) + (1 : Int32)) + (1 : Int32)) + (1 : Int32))), o_I q_m, o_A r4, o_I 0, o_I 0, o_I 0, o_A s_t, o_I q_m, .val (.int (((d + (1 : Int32)) + (1 : Int32)) + (1 : Int32))), o_I b1, o_I b2, o_I b3, o_I b4, o_I bt] [(.int bt), (.int ((d + (1 : Int32)) + (1 : Int32))), (.ref r4)]
  refine o_gi (XS.i2b X132.here hx rfl (hb hby o_d21_175) rfl) ?_
  show o_Gs p e below _ T132 m 176 #[o_A s_d, o_A r1, .val (.int ((((i + (1 : Int32)) + (1 : Int32)) + (1 : Int32)) + (1 : Int32))), o_I q_m, o_A r4, o_I 0, o_I 0, o_I 0, o_A s_t, o_I q_m, .val (.int (((d + (1 : Int32)) + (1 : Int32)) + (1 : Int32))), o_I b1, o_I b2, o_I b3, o_I b4, o_I bt] [(.int (bt.toInt8.toInt32)), (.int ((d + (1 : Int32)) + (1 : Int32))), (.ref r4)]
  obtain ⟨cl133, Ar133, sa133, na133, ha133⟩ := id V132
  obtain ⟨T133, h133, X133, e133, W133, st133⟩ := stB X132 hx hZ e132 Ar133 (j := ((d + (1 : Int32)) + (1 : Int32))) (inb_of sa133 (o_bd0 hq hg).2.2) (g := (mkF m 176 #[o_A s_d, o_A r1, .val (.int ((((i + (1 : Int32)) + (1 : Int32)) + (1 : Int32)) + (1 : Int32))), o_I q_m, o_A r4, o_I 0, o_I 0, o_I 0, o_A s_t, o_I q_m, .val (.int (((d + (1 : Int32)) + (1 : Int32)) + (1 : Int32))), o_I b1, o_I b2, o_I b3, o_I b4, o_I bt] [(.int (bt.toInt8.toInt32)), (.int ((d + (1 : Int32)) + (1 : Int32))), (.ref r4)])) rfl rfl (hb hby o_d21_176)
  have V133 : o_Tb Z h133 r4 .byte q_n (fun k => if k = ((d + (1 : Int32)) + (1 : Int32)) then (nar .byte (bt.toInt8.toInt32)) else (fun k => if k = (d + (1 : Int32)) then (nar .byte ((bt >>> ((8 : Int32) &&& 31)).toInt8.toInt32)) else (fun k => if k = d then (nar .byte ((bt >>> ((16 : Int32) &&& 31)).toInt8.toInt32)) else (o_cut d q_B) k) k) k) := o_Tb.set Ar133 sa133 na133 ha133 W133 (o_bd0 hq hg).2.2
  have N133 := Fr.snoc X133 N132 g_r4
  refine o_go st133 ?_
  refine o_gi (XS.goto X133.here hx rfl (pc0 := 177) (pc' := 30) rfl (hb hby o_d21_177) (by decide) (by decide)) ?_
  have ff134 : o_Tb Z h133 r1 .byte q_m q_S := (((V_s.other W131 ne_r1_r4).other W132 ne_r1_r4).other W133 ne_r1_r4)
  have oo135 : Old Z n0 h133 := (((O1.wr W131 g_r4).wr W132 g_r4).wr W133 g_r4)
  exact ih _ _ _ _ _ (g + 1) _ _ _ _ _ X133 e133 N133 (Nat.le_trans (Nat.le_trans (Nat.le_trans Z1 (Keep.of_wr W131).1) (Keep.of_wr W132).1) (Keep.of_wr W133).1) oo135 (((KK.wr W131 (Or.inl (List.mem_of_getElem? (i := 0) rfl))).wr W132 (Or.inl (List.mem_of_getElem? (i := 0) rfl))).wr W133 (Or.inl (List.mem_of_getElem? (i := 0) rfl))) (o_bG hq hg) ff134 (o_Tb.congr V133 (fun j h1 _ => o_bC hbt hq hg j h1)) (One.val rfl) (One.val rfl) (One.val rfl) (One.val rfl) (One.val rfl)
theorem o_d21_0 : decode jdk_2450_method_8_code 0 = .ok (.iload 6, 2) := by decide +kernel
theorem o_d21_2 : decode jdk_2450_method_8_code 2 = .ok (.ifCond .eq 9, 3) := by decide +kernel
theorem o_d21_11 : decode jdk_2450_method_8_code 11 = .ok (.getstatic 99, 3) := by decide +kernel
theorem o_t101 : (Jvm.Cond.fieldLink "java/util/Base64$Decoder" (99 : Nat) "java/util/Base64$Decoder" "fromBase64" "[I") ∈ tables_1 := List.mem_of_getElem? (i := 101) rfl
theorem o_d21_14 : decode jdk_2450_method_8_code 14 = .ok (.astore 8, 2) := by decide +kernel
theorem o_d21_16 : decode jdk_2450_method_8_code 16 = .ok (.iload_n 2, 1) := by decide +kernel
theorem o_d21_17 : decode jdk_2450_method_8_code 17 = .ok (.iload_n 3, 1) := by decide +kernel
theorem o_d21_18 : decode jdk_2450_method_8_code 18 = .ok (.iload_n 2, 1) := by decide +kernel
theorem o_d21_19 : decode jdk_2450_method_8_code 19 = .ok (.isub, 1) := by decide +kernel
theorem o_d21_20 : decode jdk_2450_method_8_code 20 = .ok (.bipush (-4), 2) := by decide +kernel
theorem o_d21_22 : decode jdk_2450_method_8_code 22 = .ok (.iand, 1) := by decide +kernel
theorem o_d21_23 : decode jdk_2450_method_8_code 23 = .ok (.iadd, 1) := by decide +kernel
theorem o_d21_24 : decode jdk_2450_method_8_code 24 = .ok (.istore 9, 2) := by decide +kernel
theorem o_d21_26 : decode jdk_2450_method_8_code 26 = .ok (.iload 5, 2) := by decide +kernel
theorem o_d21_28 : decode jdk_2450_method_8_code 28 = .ok (.istore 10, 2) := by decide +kernel
theorem o_pn4 : plainName "java/util/Base64$Decoder" = true := by first | (simp [plainName, overriddenIn]; done) | decide +kernel
theorem o_ef21 (m : MethodId) (z0 : Addr) (z1 : Addr) (z3 : Int32) (z4 : Addr) : entryFrame m #[(.ref z0), (.ref z1), (.int 0), (.int z3), (.ref z4), (.int 0), (.int 0), (.int 0)] 16 = mkF m 0 #[o_A z0, o_A z1, o_I 0, o_I z3, o_A z4, o_I 0, o_I 0, o_I 0, o_u, o_u, o_u, o_u, o_u, o_u, o_u, o_u] [] := by first | (simp [entryFrame, mkF, argsToLocals, Value.category]; done) | rfl
set_option maxRecDepth 65536 in
set_option maxHeartbeats 40000000 in
theorem rm21 (l : Launch) (Z : State) (a0 : Array Value) (hw : ∀ d ∈ tables_1, d.before a0 Z = true) (ws : List Jvm.Cond) (r1 : Addr) (r4 : Addr) (s_d : Addr) (q_m : Int32) (q_n : Int32) (x_r : Int32) (e_ : Nat) (q_B : Int32 → Int32) (q_S : Int32 → Int32) (s_t : Addr) (h0 : Heap) (n0 : Nat) (Z0 : n0 ≤ h0.size) (g_r4 : n0 ≤ r4) (O0 : Old Z n0 h0) (T_t : o_Tb Z Z.heap s_t .int 256 o_b64) (T_s : o_Tb Z h0 r1 .byte q_m q_S) (T_d : o_Tb Z h0 r4 .byte q_n (fun _ => 0)) (ne_r1_r4 : r1 ≠ r4) (hm : q_m = 24 ∨ q_m = 44 ∨ q_m = 64) (hq : o_Blk q_B q_S e_ q_m q_n x_r) (S_s_t : Sta Z Z.heap "java/util/Base64$Decoder" "fromBase64" "[I" (.ref s_t)) : o_Met l Z (⟨"java/util/Base64$Decoder", "decodeBlock", "([BII[BIZZ)I"⟩ : MethodName) jdk_2450_method_8_code 16 (some .int) ws o_R21 #[(.ref s_d), (.ref r1), (.int 0), (.int q_m), (.ref r4), (.int 0), (.int 0), (.int 0)] h0 (o_Q21 Z r4 q_n x_r q_B h0 n0) := by
 refine o_met (plainFor_of_name o_pn4) ?_
 intro p e s m below meth c s₁ hx hby hml hown hnm hret hlk hZ e0 X0
 have N0 := Fr.nil n0
 have hml : c.maxLocals = 16 := hml
 have hown : s.vm.findClass "java/util/Base64$Decoder" = some m.cls := hown
 have hret : meth.sig.returnType = (some .int) := hret
 have hby : c.code = jdk_2450_method_8_code := hby
 have hnm : meth.name = "decodeBlock" := hnm
 rw [o_ef21]
 refine o_gi (XS.iload X0.here hx rfl (hb hby o_d21_0) rfl) ?_
 show o_Gs p e below _ s₁ m 2 #[o_A s_d, o_A r1, o_I 0, o_I q_m, o_A r4, o_I 0, o_I 0, o_I 0, o_u, o_u, o_u, o_u, o_u, o_u, o_u, o_u] [(.int 0)]
 have hd136 : (0 : Int32) = (0 : Int32) := (by decide)
 refine o_gi (XS.ifYes X0.here hx rfl (pc0 := 2) (pc' := 11) rfl (hb hby o_d21_2) rfl ((if0 _ _).trans (teq hd136).1) (by decide) (by decide)) ?_
 show o_Gs p e below _ s₁ m 11 #[o_A s_d, o_A r1, o_I 0, o_I q_m, o_A r4, o_I 0, o_I 0, o_I 0, o_u, o_u, o_u, o_u, o_u, o_u, o_u, o_u] []
 obtain ⟨T137, X137, e137, st137⟩ := getS2 X0 hx hZ hown (host := "") (Or.inl (hw _ o_t101)) Via.refl e0 (S_s_t.ext O0.2) (g := (mkF m 11 #[o_A s_d, o_A r1, o_I 0, o_I q_m, o_A r4, o_I 0, o_I 0, o_I 0, o_u, o_u, o_u, o_u, o_u, o_u, o_u, o_u] [])) rfl (hb hby o_d21_11)
 refine o_go st137 ?_
 refine o_gi (XS.astore X137.here hx rfl (hb hby o_d21_14) rfl rfl (l' := #[o_A s_d, o_A r1, o_I 0, o_I q_m, o_A r4, o_I 0, o_I 0, o_I 0, o_A s_t, o_u, o_u, o_u, o_u, o_u, o_u, o_u]) rfl) ?_
 refine o_gi (XS.iloadN X137.here hx rfl (hb hby o_d21_16) rfl) ?_
 refine o_gi (XS.iloadN X137.here hx rfl (hb hby o_d21_17) rfl) ?_
 refine o_gi (XS.iloadN X137.here hx rfl (hb hby o_d21_18) rfl) ?_
 show o_Gs p e below _ T137 m 19 #[o_A s_d, o_A r1, o_I 0, o_I q_m, o_A r4, o_I 0, o_I 0, o_I 0, o_A s_t, o_u, o_u, o_u, o_u, o_u, o_u, o_u] [(.int 0), (.int q_m), (.int 0)]
 refine o_gi (XS.isub X137.here hx rfl (hb hby o_d21_19) rfl) ?_
 refine o_gi (XS.bipush X137.here hx rfl (hb hby o_d21_20)) ?_
 show o_Gs p e below _ T137 m 22 #[o_A s_d, o_A r1, o_I 0, o_I q_m, o_A r4, o_I 0, o_I 0, o_I 0, o_A s_t, o_u, o_u, o_u, o_u, o_u, o_u, o_u] [(.int (-4 : Int32)), (.int (q_m - (0 : Int32))), (.int 0)]
 refine o_gi (XS.iand X137.here hx rfl (hb hby o_d21_22) rfl) ?_
 show o_Gs p e below _ T137 m 23 #[o_A s_d, o_A r1, o_I 0, o_I q_m, o_A r4, o_I 0, o_I 0, o_I 0, o_A s_t, o_u, o_u, o_u, o_u, o_u, o_u, o_u] [(.int ((q_m - (0 : Int32)) &&& (-4 : Int32))), (.int 0)]
 refine o_gi (XS.iadd X137.here hx rfl (hb hby o_d21_23) rfl) ?_
 show o_Gs p e below _ T137 m 24 #[o_A s_d, o_A r1, o_I 0, o_I q_m, o_A r4, o_I 0, o_I 0, o_I 0, o_A s_t, o_u, o_u, o_u, o_u, o_u, o_u, o_u] [(.int ((0 : Int32) + ((q_m - (0 : Int32)) &&& (-4 : Int32))))]
 rw [show ((0 : Int32) + ((q_m - (0 : Int32)) &&& (-4 : Int32))) = q_m from o_sl0 hm]
 refine o_gi (XS.istore X137.here hx rfl (hb hby o_d21_24) rfl (l' := #[o_A s_d, o_A r1, o_I 0, o_I q_m, o_A r4, o_I 0, o_I 0, o_I 0, o_A s_t, o_I q_m, o_u, o_u, o_u, o_u, o_u, o_u]) rfl) ?_
 refine o_gi (XS.iload X137.here hx rfl (hb hby o_d21_26) rfl) ?_
 refine o_gi (XS.istore X137.here hx rfl (hb hby o_d21_28) rfl (l' := #[o_A s_d, o_A r1, o_I 0, o_I q_m, o_A r4, o_I 0, o_I 0, o_I 0, o_A s_t, o_I q_m, o_I 0, o_u, o_u, o_u, o_u, o_u]) rfl) ?_
 exact o_p30_21 l Z a0 hw r1 r4 s_d q_m q_n x_r e_ q_B q_S s_t h0 n0 Z0 g_r4 O0 T_t T_s T_d ne_r1_r4 hm hq S_s_t p e s m below meth c hx hby hml hown hret hlk hZ e_ _ _ _ _ _ 0 _ _ _ _ _ X137 e137 N0 Z0 O0 (Keep.refl _ _) ⟨Nat.zero_add _, rfl, rfl⟩ T_s (o_Tb.congr T_d (fun j h1 _ => (if_neg h1).symm)) One.u One.u One.u One.u One.u
theorem o_e61 {x : Int32} (h : x = 61) : o_b64 (x &&& (255 : Int32)) = (-2 : Int32) := by rw [h]; decide
theorem o_nn {x : Int32} {z : Int} (h : x.toInt = z) (hz : 0 ≤ z) : ¬ x < (0 : Int32) := by rw [o_lt, show (0 : Int32).toInt = 0 from rfl]; omega
theorem o_d19_0 : decode jdk_2450_method_7_code 0 = .ok (.aload_n 0, 1) := by decide +kernel
theorem o_d19_1 : decode jdk_2450_method_7_code 1 = .ok (.getfield 7, 3) := by decide +kernel
theorem o_t99 : (Jvm.Cond.fieldLink "java/util/Base64$Decoder" (7 : Nat) "java/util/Base64$Decoder" "isURL" "Z") ∈ tables_1 := List.mem_of_getElem? (i := 99) rfl
theorem o_d19_4 : decode jdk_2450_method_7_code 4 = .ok (.ifCond .eq 9, 3) := by decide +kernel
theorem o_d19_13 : decode jdk_2450_method_7_code 13 = .ok (.getstatic 99, 3) := by decide +kernel
theorem o_d19_16 : decode jdk_2450_method_7_code 16 = .ok (.astore 4, 2) := by decide +kernel
theorem o_d19_18 : decode jdk_2450_method_7_code 18 = .ok (.iconst 0, 1) := by decide +kernel
theorem o_d19_19 : decode jdk_2450_method_7_code 19 = .ok (.istore 5, 2) := by decide +kernel
theorem o_d19_21 : decode jdk_2450_method_7_code 21 = .ok (.iload_n 3, 1) := by decide +kernel
theorem o_d19_22 : decode jdk_2450_method_7_code 22 = .ok (.iload_n 2, 1) := by decide +kernel
theorem o_d19_23 : decode jdk_2450_method_7_code 23 = .ok (.isub, 1) := by decide +kernel
theorem o_d19_24 : decode jdk_2450_method_7_code 24 = .ok (.istore 6, 2) := by decide +kernel
theorem o_d19_26 : decode jdk_2450_method_7_code 26 = .ok (.iload 6, 2) := by decide +kernel
theorem o_d19_28 : decode jdk_2450_method_7_code 28 = .ok (.ifCond .ne 5, 3) := by decide +kernel
theorem o_d19_33 : decode jdk_2450_method_7_code 33 = .ok (.iload 6, 2) := by decide +kernel
theorem o_d19_35 : decode jdk_2450_method_7_code 35 = .ok (.iconst 2, 1) := by decide +kernel
theorem o_d19_36 : decode jdk_2450_method_7_code 36 = .ok (.if_icmp .ge 30, 3) := by decide +kernel
theorem o_d19_66 : decode jdk_2450_method_7_code 66 = .ok (.aload_n 0, 1) := by decide +kernel
theorem o_d19_67 : decode jdk_2450_method_7_code 67 = .ok (.getfield 13, 3) := by decide +kernel
theorem o_t102 : (Jvm.Cond.fieldLink "java/util/Base64$Decoder" (13 : Nat) "java/util/Base64$Decoder" "isMIME" "Z") ∈ tables_1 := List.mem_of_getElem? (i := 102) rfl
theorem o_d19_70 : decode jdk_2450_method_7_code 70 = .ok (.ifCond .eq 71, 3) := by decide +kernel
theorem o_d19_141 : decode jdk_2450_method_7_code 141 = .ok (.aload_n 1, 1) := by decide +kernel
theorem o_d19_142 : decode jdk_2450_method_7_code 142 = .ok (.iload_n 3, 1) := by decide +kernel
theorem o_d19_143 : decode jdk_2450_method_7_code 143 = .ok (.iconst 1, 1) := by decide +kernel
theorem o_d19_144 : decode jdk_2450_method_7_code 144 = .ok (.isub, 1) := by decide +kernel
theorem o_d19_145 : decode jdk_2450_method_7_code 145 = .ok (.baload, 1) := by decide +kernel
theorem o_d19_146 : decode jdk_2450_method_7_code 146 = .ok (.bipush 61, 2) := by decide +kernel
theorem o_d19_148 : decode jdk_2450_method_7_code 148 = .ok (.if_icmp .ne 19, 3) := by decide +kernel
theorem o_d19_151 : decode jdk_2450_method_7_code 151 = .ok (.iinc 5 1, 3) := by decide +kernel
theorem o_d19_154 : decode jdk_2450_method_7_code 154 = .ok (.aload_n 1, 1) := by decide +kernel
theorem o_d19_155 : decode jdk_2450_method_7_code 155 = .ok (.iload_n 3, 1) := by decide +kernel
theorem o_d19_156 : decode jdk_2450_method_7_code 156 = .ok (.iconst 2, 1) := by decide +kernel
theorem o_d19_157 : decode jdk_2450_method_7_code 157 = .ok (.isub, 1) := by decide +kernel
theorem o_d19_158 : decode jdk_2450_method_7_code 158 = .ok (.baload, 1) := by decide +kernel
theorem o_d19_159 : decode jdk_2450_method_7_code 159 = .ok (.bipush 61, 2) := by decide +kernel
theorem o_d19_161 : decode jdk_2450_method_7_code 161 = .ok (.if_icmp .ne 6, 3) := by decide +kernel
theorem o_d19_164 : decode jdk_2450_method_7_code 164 = .ok (.iinc 5 1, 3) := by decide +kernel
theorem o_d19_167 : decode jdk_2450_method_7_code 167 = .ok (.iload 5, 2) := by decide +kernel
theorem o_d19_169 : decode jdk_2450_method_7_code 169 = .ok (.ifCond .ne 18, 3) := by decide +kernel
theorem o_d19_187 : decode jdk_2450_method_7_code 187 = .ok (.iconst 3, 1) := by decide +kernel
theorem o_d19_188 : decode jdk_2450_method_7_code 188 = .ok (.iload 6, 2) := by decide +kernel
theorem o_d19_190 : decode jdk_2450_method_7_code 190 = .ok (.i2l, 1) := by decide +kernel
theorem o_d19_191 : decode jdk_2450_method_7_code 191 = .ok (.ldc2_w 107, 3) := by decide +kernel
theorem o_t104 : (Jvm.Cond.constantLong "java/util/Base64$Decoder" (107 : Nat) (3 : Int64)) ∈ tables_1 := List.mem_of_getElem? (i := 104) rfl
theorem o_d19_194 : decode jdk_2450_method_7_code 194 = .ok (.ladd, 1) := by decide +kernel
theorem o_d19_195 : decode jdk_2450_method_7_code 195 = .ok (.ldc2_w 109, 3) := by decide +kernel
theorem o_t105 : (Jvm.Cond.constantLong "java/util/Base64$Decoder" (109 : Nat) (4 : Int64)) ∈ tables_1 := List.mem_of_getElem? (i := 105) rfl
theorem o_d19_198 : decode jdk_2450_method_7_code 198 = .ok (.ldiv, 1) := by decide +kernel
theorem o_d19_199 : decode jdk_2450_method_7_code 199 = .ok (.l2i, 1) := by decide +kernel
theorem o_d19_200 : decode jdk_2450_method_7_code 200 = .ok (.imul, 1) := by decide +kernel
theorem o_d19_201 : decode jdk_2450_method_7_code 201 = .ok (.iload 5, 2) := by decide +kernel
theorem o_d19_203 : decode jdk_2450_method_7_code 203 = .ok (.isub, 1) := by decide +kernel
theorem o_d19_204 : decode jdk_2450_method_7_code 204 = .ok (.ireturn, 1) := by decide +kernel
def o_Q19_0 (r1 : Addr) (s_d : Addr) (q_B : Int32 → Int32) (q_S : Int32 → Int32) (s_t : Addr) (h0 : Heap) (n0 : Nat) (v : Option Value) (h : Heap) (L : List Loc) : Prop := v = some (.int 16) ∧ Fr n0 L ∧ h = h0
abbrev o_R19_0 : Room := { frames := 0, cells := 0, slots := 0, locals := 0 }
theorem o_ef19_0 (m : MethodId) (z0 : Addr) (z1 : Addr) : entryFrame m #[(.ref z0), (.ref z1), (.int 0), (.int 24)] 9 = mkF m 0 #[o_A z0, o_A z1, o_I 0, o_I 24, o_u, o_u, o_u, o_u, o_u] [] := by first | (simp [entryFrame, mkF, argsToLocals, Value.category]; done) | rfl
set_option maxRecDepth 65536 in
set_option maxHeartbeats 40000000 in
theorem rm19_0 (l : Launch) (Z : State) (a0 : Array Value) (hw : ∀ d ∈ tables_1, d.before a0 Z = true) (ws : List Jvm.Cond) (r1 : Addr) (s_d : Addr) (q_B : Int32 → Int32) (q_S : Int32 → Int32) (s_t : Addr) (h0 : Heap) (n0 : Nat) (Z0 : n0 ≤ h0.size) (O0 : Old Z n0 h0) (E_d : Exa Z Z.heap s_d "java/util/Base64$Decoder") (F_u : Fld Z Z.heap s_d "java/util/Base64$Decoder" "isURL" "Z" (.int 0)) (F_m : Fld Z Z.heap s_d "java/util/Base64$Decoder" "isMIME" "Z" (.int 0)) (T_t : o_Tb Z Z.heap s_t .int 256 o_b64) (T_s : o_Tb Z h0 r1 .byte (24 : Int32) q_S) (hq : o_Md0 q_B q_S) (S_s_t : Sta Z Z.heap "java/util/Base64$Decoder" "fromBase64" "[I" (.ref s_t)) : o_Met l Z (⟨"java/util/Base64$Decoder", "decodedOutLength", "([BII)I"⟩ : MethodName) jdk_2450_method_7_code 9 (some .int) ws o_R19_0 #[(.ref s_d), (.ref r1), (.int 0), (.int 24)] h0 (o_Q19_0 r1 s_d q_B q_S s_t h0 n0) := by
 refine o_met (plainFor_of_name o_pn4) ?_
 intro p e s m below meth c s₁ hx hby hml hown hnm hret hlk hZ e0 X0
 have N0 := Fr.nil n0
 have hml : c.maxLocals = 9 := hml
 have hown : s.vm.findClass "java/util/Base64$Decoder" = some m.cls := hown
 have hret : meth.sig.returnType = (some .int) := hret
 have hby : c.code = jdk_2450_method_7_code := hby
 have hnm : meth.name = "decodedOutLength" := hnm
 rw [o_ef19_0]
 refine o_gi (XS.aloadN X0.here hx rfl (hb hby o_d19_0) rfl rfl) ?_
 show o_Gs p e below _ s₁ m 1 #[o_A s_d, o_A r1, o_I 0, o_I 24, o_u, o_u, o_u, o_u, o_u] [(.ref s_d)]
 obtain ⟨T138, X138, e138, st138⟩ := getF X0 hx hZ hown (host := "") (Or.inl (hw _ o_t99)) Via.refl e0 (F_u.ext O0.2) (g := (mkF m 1 #[o_A s_d, o_A r1, o_I 0, o_I 24, o_u, o_u, o_u, o_u, o_u] [(.ref s_d)])) rfl rfl (hb hby o_d19_1)
 refine o_go st138 ?_
 show o_Gs p e below _ T138 m 4 #[o_A s_d, o_A r1, o_I 0, o_I 24, o_u, o_u, o_u, o_u, o_u] [(.int 0)]
 have hd139 : (0 : Int32) = (0 : Int32) := (by decide)
 refine o_gi (XS.ifYes X138.here hx rfl (pc0 := 4) (pc' := 13) rfl (hb hby o_d19_4) rfl ((if0 _ _).trans (teq hd139).1) (by decide) (by decide)) ?_
 show o_Gs p e below _ T138 m 13 #[o_A s_d, o_A r1, o_I 0, o_I 24, o_u, o_u, o_u, o_u, o_u] []
 obtain ⟨T140, X140, e140, st140⟩ := getS2 X138 hx hZ hown (host := "") (Or.inl (hw _ o_t101)) Via.refl e138 (S_s_t.ext O0.2) (g := (mkF m 13 #[o_A s_d, o_A r1, o_I 0, o_I 24, o_u, o_u, o_u, o_u, o_u] [])) rfl (hb hby o_d19_13)
 refine o_go st140 ?_
 refine o_gi (XS.astore X140.here hx rfl (hb hby o_d19_16) rfl rfl (l' := #[o_A s_d, o_A r1, o_I 0, o_I 24, o_A s_t, o_u, o_u, o_u, o_u]) rfl) ?_
 refine o_gi (XS.iconst X140.here hx rfl (hb hby o_d19_18)) ?_
 refine o_gi (XS.istore X140.here hx rfl (hb hby o_d19_19) rfl (l' := #[o_A s_d, o_A r1, o_I 0, o_I 24, o_A s_t, o_I 0, o_u, o_u, o_u]) rfl) ?_
 refine o_gi (XS.iloadN X140.here hx rfl (hb hby o_d19_21) rfl) ?_
 refine o_gi (XS.iloadN X140.here hx rfl (hb hby o_d19_22) rfl) ?_
 show o_Gs p e below _ T140 m 23 #[o_A s_d, o_A r1, o_I 0, o_I 24, o_A s_t, o_I 0, o_u, o_u, o_u] [(.int 0), (.int 24)]
 refine o_gi (XS.isub X140.here hx rfl (hb hby o_d19_23) rfl) ?_
 show o_Gs p e below _ T140 m 24 #[o_A s_d, o_A r1, o_I 0, o_I 24, o_A s_t, o_I 0, o_u, o_u, o_u] [(.int ((24 : Int32) - (0 : Int32)))]
 rw [show ((24 : Int32) - (0 : Int32)) = (24 : Int32) from by decide]
 refine o_gi (XS.istore X140.here hx rfl (hb hby o_d19_24) rfl (l' := #[o_A s_d, o_A r1, o_I 0, o_I 24, o_A s_t, o_I 0, o_I 24, o_u, o_u]) rfl) ?_
 refine o_gi (XS.iload X140.here hx rfl (hb hby o_d19_26) rfl) ?_
 show o_Gs p e below _ T140 m 28 #[o_A s_d, o_A r1, o_I 0, o_I 24, o_A s_t, o_I 0, o_I 24, o_u, o_u] [(.int 24)]
 have hd141 : ¬ ((24 : Int32) = (0 : Int32)) := (by decide)
 refine o_gi (XS.ifYes X140.here hx rfl (pc0 := 28) (pc' := 33) rfl (hb hby o_d19_28) rfl ((if0 _ _).trans (feq hd141).2) (by decide) (by decide)) ?_
 refine o_gi (XS.iload X140.here hx rfl (hb hby o_d19_33) rfl) ?_
 refine o_gi (XS.iconst X140.here hx rfl (hb hby o_d19_35)) ?_
 show o_Gs p e below _ T140 m 36 #[o_A s_d, o_A r1, o_I 0, o_I 24, o_A s_t, o_I 0, o_I 24, o_u, o_u] [(.int 2), (.int 24)]
 have hd142 : ¬ ((24 : Int32) < (2 : Int32)) := (by decide)
 refine o_gi (XS.icmpYes X140.here hx rfl (pc0 := 36) (pc' := 66) rfl (hb hby o_d19_36) rfl (flt hd142).2.1 (by decide) (by decide)) ?_
 refine o_gi (XS.aloadN X140.here hx rfl (hb hby o_d19_66) rfl rfl) ?_
 show o_Gs p e below _ T140 m 67 #[o_A s_d, o_A r1, o_I 0, o_I 24, o_A s_t, o_I 0, o_I 24, o_u, o_u] [(.ref s_d)]
 obtain ⟨T143, X143, e143, st143⟩ := getF X140 hx hZ hown (host := "") (Or.inl (hw _ o_t102)) Via.refl e140 (F_m.ext O0.2) (g := (mkF m 67 #[o_A s_d, o_A r1, o_I 0, o_I 24, o_A s_t, o_I 0, o_I 24, o_u, o_u] [(.ref s_d)])) rfl rfl (hb hby o_d19_67)
 refine o_go st143 ?_
 show o_Gs p e below _ T143 m 70 #[o_A s_d, o_A r1, o_I 0, o_I 24, o_A s_t, o_I 0, o_I 24, o_u, o_u] [(.int 0)]
 have hd144 : (0 : Int32) = (0 : Int32) := (by decide)
 refine o_gi (XS.ifYes X143.here hx rfl (pc0 := 70) (pc' := 141) rfl (hb hby o_d19_70) rfl ((if0 _ _).trans (teq hd144).1) (by decide) (by decide)) ?_
 refine o_gi (XS.aloadN X143.here hx rfl (hb hby o_d19_141) rfl rfl) ?_
 refine o_gi (XS.iloadN X143.here hx rfl (hb hby o_d19_142) rfl) ?_
 refine o_gi (XS.iconst X143.here hx rfl (hb hby o_d19_143)) ?_
 show o_Gs p e below _ T143 m 144 #[o_A s_d, o_A r1, o_I 0, o_I 24, o_A s_t, o_I 0, o_I 24, o_u, o_u] [(.int 1), (.int 24), (.ref r1)]
 refine o_gi (XS.isub X143.here hx rfl (hb hby o_d19_144) rfl) ?_
 show o_Gs p e below _ T143 m 145 #[o_A s_d, o_A r1, o_I 0, o_I 24, o_A s_t, o_I 0, o_I 24, o_u, o_u] [(.int ((24 : Int32) - (1 : Int32))), (.ref r1)]
 rw [show ((24 : Int32) - (1 : Int32)) = (23 : Int32) from by decide]
 show o_Gs p e below _ T143 m 145 #[o_A s_d, o_A r1, o_I 0, o_I 24, o_A s_t, o_I 0, o_I 24, o_u, o_u] [(.int 23), (.ref r1)]
 obtain ⟨cl145, Ar145, sa145, na145, ha145⟩ := id T_s
 have ix145 : ¬ (23 : Int32) < 0 ∧ (23 : Int32) < (24 : Int32) := ⟨by decide, by decide⟩
 refine o_go (X143.baloadBytes hx (j := (23 : Int32)) (v := (.int (q_S (23 : Int32)))) (by rw [e143]; exact Ar145.1) (State.isArrayOf_alike hZ.alike Ar145.2.1) Ar145.2.2 (inb_of sa145 ix145) (ha145 _ ix145.1 ix145.2) (g := (mkF m 145 #[o_A s_d, o_A r1, o_I 0, o_I 24, o_A s_t, o_I 0, o_I 24, o_u, o_u] [(.int 23), (.ref r1)])) rfl rfl (hb hby o_d19_145)) ?_
 refine o_gi (XS.bipush X143.here hx rfl (hb hby o_d19_146)) ?_
 show o_Gs p e below _ T143 m 148 #[o_A s_d, o_A r1, o_I 0, o_I 24, o_A s_t, o_I 0, o_I 24, o_u, o_u] [(.int 61), (.int (q_S (23 : Int32)))]
 have hd146 : (q_S (23 : Int32)) = (61 : Int32) := hq.2.2.2.2.2
 refine o_gi (XS.icmpNo X143.here hx rfl (hb hby o_d19_148) rfl (teq hd146).2) ?_
 show o_Gs p e below _ T143 m 151 #[o_A s_d, o_A r1, o_I 0, o_I 24, o_A s_t, o_I 0, o_I 24, o_u, o_u] []
 refine o_gi (XS.iinc X143.here hx rfl (hb hby o_d19_151) rfl (l' := #[o_A s_d, o_A r1, o_I 0, o_I 24, o_A s_t, .val (.int ((0 : Int32) + (1 : Int32))), o_I 24, o_u, o_u]) rfl) ?_
 show o_Gs p e below _ T143 m 154 #[o_A s_d, o_A r1, o_I 0, o_I 24, o_A s_t, .val (.int ((0 : Int32) + (1 : Int32))), o_I 24, o_u, o_u] []
 rw [show ((0 : Int32) + (1 : Int32)) = (1 : Int32) from by decide]
 refine o_gi (XS.aloadN X143.here hx rfl (hb hby o_d19_154) rfl rfl) ?_
 refine o_gi (XS.iloadN X143.here hx rfl (hb hby o_d19_155) rfl) ?_
 refine o_gi (XS.iconst X143.here hx rfl (hb hby o_d19_156)) ?_
 show o_Gs p e below _ T143 m 157 #[o_A s_d, o_A r1, o_I 0, o_I 24, o_A s_t, o_I 1, o_I 24, o_u, o_u] [(.int 2), (.int 24), (.ref r1)]
 refine o_gi (XS.isub X143.here hx rfl (hb hby o_d19_157) rfl) ?_
 show o_Gs p e below _ T143 m 158 #[o_A s_d, o_A r1, o_I 0, o_I 24, o_A s_t, o_I 1, o_I 24, o_u, o_u] [(.int ((24 : Int32) - (2 : Int32))), (.ref r1)]
 rw [show ((24 : Int32) - (2 : Int32)) = (22 : Int32) from by decide]
 show o_Gs p e below _ T143 m 158 #[o_A s_d, o_A r1, o_I 0, o_I 24, o_A s_t, o_I 1, o_I 24, o_u, o_u] [(.int 22), (.ref r1)]
 obtain ⟨cl147, Ar147, sa147, na147, ha147⟩ := id T_s
 have ix147 : ¬ (22 : Int32) < 0 ∧ (22 : Int32) < (24 : Int32) := ⟨by decide, by decide⟩
 refine o_go (X143.baloadBytes hx (j := (22 : Int32)) (v := (.int (q_S (22 : Int32)))) (by rw [e143]; exact Ar147.1) (State.isArrayOf_alike hZ.alike Ar147.2.1) Ar147.2.2 (inb_of sa147 ix147) (ha147 _ ix147.1 ix147.2) (g := (mkF m 158 #[o_A s_d, o_A r1, o_I 0, o_I 24, o_A s_t, o_I 1, o_I 24, o_u, o_u] [(.int 22), (.ref r1)])) rfl rfl (hb hby o_d19_158)) ?_
 refine o_gi (XS.bipush X143.here hx rfl (hb hby o_d19_159)) ?_
 show o_Gs p e below _ T143 m 161 #[o_A s_d, o_A r1, o_I 0, o_I 24, o_A s_t, o_I 1, o_I 24, o_u, o_u] [(.int 61), (.int (q_S (22 : Int32)))]
 have hd148 : (q_S (22 : Int32)) = (61 : Int32) := hq.2.2.2.2.1
 refine o_gi (XS.icmpNo X143.here hx rfl (hb hby o_d19_161) rfl (teq hd148).2) ?_
 show o_Gs p e below _ T143 m 164 #[o_A s_d, o_A r1, o_I 0, o_I 24, o_A s_t, o_I 1, o_I 24, o_u, o_u] []
 refine o_gi (XS.iinc X143.here hx rfl (hb hby o_d19_164) rfl (l' := #[o_A s_d, o_A r1, o_I 0, o_I 24, o_A s_t, .val (.int ((1 : Int32) + (1 : Int32))), o_I 24, o_u, o_u]) rfl) ?_
 show o_Gs p e below _ T143 m 167 #[o_A s_d, o_A r1, o_I 0, o_I 24, o_A s_t, .val (.int ((1 : Int32) + (1 : Int32))), o_I 24, o_u, o_u] []
 rw [show ((1 : Int32) + (1 : Int32)) = (2 : Int32) from by decide]
 refine o_gi (XS.iload X143.here hx rfl (hb hby o_d19_167) rfl) ?_
 show o_Gs p e below _ T143 m 169 #[o_A s_d, o_A r1, o_I 0, o_I 24, o_A s_t, o_I 2, o_I 24, o_u, o_u] [(.int 2)]
 have hd149 : ¬ ((2 : Int32) = (0 : Int32)) := (by decide)
 refine o_gi (XS.ifYes X143.here hx rfl (pc0 := 169) (pc' := 187) rfl (hb hby o_d19_169) rfl ((if0 _ _).trans (feq hd149).2) (by decide) (by decide)) ?_
 refine o_gi (XS.iconst X143.here hx rfl (hb hby o_d19_187)) ?_
 refine o_gi (XS.iload X143.here hx rfl (hb hby o_d19_188) rfl) ?_
 show o_Gs p e below _ T143 m 190 #[o_A s_d, o_A r1, o_I 0, o_I 24, o_A s_t, o_I 2, o_I 24, o_u, o_u] [(.int 24), (.int 3)]
 refine o_gi (XS.i2l X143.here hx rfl (hb hby o_d19_190) rfl) ?_
 show o_Gs p e below _ T143 m 191 #[o_A s_d, o_A r1, o_I 0, o_I 24, o_A s_t, o_I 2, o_I 24, o_u, o_u] [(.long ((24 : Int32).toInt64)), (.int 3)]
 refine o_go (X143.ldc2Long hx hown (mvT hZ (hw _ o_t104)) (g := (mkF m 191 #[o_A s_d, o_A r1, o_I 0, o_I 24, o_A s_t, o_I 2, o_I 24, o_u, o_u] [(.long ((24 : Int32).toInt64)), (.int 3)])) rfl (hb hby o_d19_191)) ?_
 show o_Gs p e below _ T143 m 194 #[o_A s_d, o_A r1, o_I 0, o_I 24, o_A s_t, o_I 2, o_I 24, o_u, o_u] [(.long (3 : Int64)), (.long ((24 : Int32).toInt64)), (.int 3)]
 refine o_gi (XS.ladd X143.here hx rfl (hb hby o_d19_194) rfl) ?_
 show o_Gs p e below _ T143 m 195 #[o_A s_d, o_A r1, o_I 0, o_I 24, o_A s_t, o_I 2, o_I 24, o_u, o_u] [(.long (((24 : Int32).toInt64) + (3 : Int64))), (.int 3)]
 refine o_go (X143.ldc2Long hx hown (mvT hZ (hw _ o_t105)) (g := (mkF m 195 #[o_A s_d, o_A r1, o_I 0, o_I 24, o_A s_t, o_I 2, o_I 24, o_u, o_u] [(.long (((24 : Int32).toInt64) + (3 : Int64))), (.int 3)])) rfl (hb hby o_d19_195)) ?_
 show o_Gs p e below _ T143 m 198 #[o_A s_d, o_A r1, o_I 0, o_I 24, o_A s_t, o_I 2, o_I 24, o_u, o_u] [(.long (4 : Int64)), (.long (((24 : Int32).toInt64) + (3 : Int64))), (.int 3)]
 refine o_gi (XS.ldiv X143.here hx rfl (hb hby o_d19_198) rfl (by decide)) ?_
 show o_Gs p e below _ T143 m 199 #[o_A s_d, o_A r1, o_I 0, o_I 24, o_A s_t, o_I 2, o_I 24, o_u, o_u] [(.long ((((24 : Int32).toInt64) + (3 : Int64)) / (4 : Int64))), (.int 3)]
 refine o_gi (XS.l2i X143.here hx rfl (hb hby o_d19_199) rfl) ?_
 show o_Gs p e below _ T143 m 200 #[o_A s_d, o_A r1, o_I 0, o_I 24, o_A s_t, o_I 2, o_I 24, o_u, o_u] [(.int (((((24 : Int32).toInt64) + (3 : Int64)) / (4 : Int64)).toInt32)), (.int 3)]
 refine o_gi (XS.imul X143.here hx rfl (hb hby o_d19_200) rfl) ?_
 refine o_gi (XS.iload X143.here hx rfl (hb hby o_d19_201) rfl) ?_
 show o_Gs p e below _ T143 m 203 #[o_A s_d, o_A r1, o_I 0, o_I 24, o_A s_t, o_I 2, o_I 24, o_u, o_u] [(.int 2), (.int ((3 : Int32) * (((((24 : Int32).toInt64) + (3 : Int64)) / (4 : Int64)).toInt32)))]
 refine o_gi (XS.isub X143.here hx rfl (hb hby o_d19_203) rfl) ?_
 show o_Gs p e below _ T143 m 204 #[o_A s_d, o_A r1, o_I 0, o_I 24, o_A s_t, o_I 2, o_I 24, o_u, o_u] [(.int (((3 : Int32) * (((((24 : Int32).toInt64) + (3 : Int64)) / (4 : Int64)).toInt32)) - (2 : Int32)))]
 rw [show (((3 : Int32) * (((((24 : Int32).toInt64) + (3 : Int64)) / (4 : Int64)).toInt32)) - (2 : Int32)) = (16 : Int32) from by decide]
 show o_Gs p e below _ T143 m 204 #[o_A s_d, o_A r1, o_I 0, o_I 24, o_A s_t, o_I 2, o_I 24, o_u, o_u] [(.int 16)]
 exact o_retI X143 hx hlk hret (hb hby o_d19_204) (by decide) (by decide) ⟨rfl, N0, e143⟩
theorem o_d20_0 : decode jdk_2450_method_9_code 0 = .ok (.aload_n 0, 1) := by decide +kernel
theorem o_d20_1 : decode jdk_2450_method_9_code 1 = .ok (.getfield 7, 3) := by decide +kernel
theorem o_d20_4 : decode jdk_2450_method_9_code 4 = .ok (.ifCond .eq 9, 3) := by decide +kernel
theorem o_d20_13 : decode jdk_2450_method_9_code 13 = .ok (.getstatic 99, 3) := by decide +kernel
theorem o_d20_16 : decode jdk_2450_method_9_code 16 = .ok (.astore 5, 2) := by decide +kernel
theorem o_d20_18 : decode jdk_2450_method_9_code 18 = .ok (.iconst 0, 1) := by decide +kernel
theorem o_d20_19 : decode jdk_2450_method_9_code 19 = .ok (.istore 6, 2) := by decide +kernel
theorem o_d20_21 : decode jdk_2450_method_9_code 21 = .ok (.iconst 0, 1) := by decide +kernel
theorem o_d20_22 : decode jdk_2450_method_9_code 22 = .ok (.istore 7, 2) := by decide +kernel
theorem o_d20_24 : decode jdk_2450_method_9_code 24 = .ok (.bipush 18, 2) := by decide +kernel
theorem o_d20_26 : decode jdk_2450_method_9_code 26 = .ok (.istore 8, 2) := by decide +kernel
theorem o_d20_28 : decode jdk_2450_method_9_code 28 = .ok (.iload_n 2, 1) := by decide +kernel
theorem o_d20_29 : decode jdk_2450_method_9_code 29 = .ok (.iload_n 3, 1) := by decide +kernel
theorem o_d20_30 : decode jdk_2450_method_9_code 30 = .ok (.if_icmp .ge 251, 3) := by decide +kernel
theorem o_d20_33 : decode jdk_2450_method_9_code 33 = .ok (.iload 8, 2) := by decide +kernel
theorem o_d20_35 : decode jdk_2450_method_9_code 35 = .ok (.bipush 18, 2) := by decide +kernel
theorem o_d20_37 : decode jdk_2450_method_9_code 37 = .ok (.if_icmp .ne 53, 3) := by decide +kernel
theorem o_d20_40 : decode jdk_2450_method_9_code 40 = .ok (.iload_n 2, 1) := by decide +kernel
theorem o_d20_41 : decode jdk_2450_method_9_code 41 = .ok (.iload_n 3, 1) := by decide +kernel
theorem o_d20_42 : decode jdk_2450_method_9_code 42 = .ok (.iconst 4, 1) := by decide +kernel
theorem o_d20_43 : decode jdk_2450_method_9_code 43 = .ok (.isub, 1) := by decide +kernel
theorem o_d20_44 : decode jdk_2450_method_9_code 44 = .ok (.if_icmp .ge 46, 3) := by decide +kernel
theorem o_d20_47 : decode jdk_2450_method_9_code 47 = .ok (.aload_n 0, 1) := by decide +kernel
theorem o_d20_48 : decode jdk_2450_method_9_code 48 = .ok (.aload_n 1, 1) := by decide +kernel
theorem o_d20_49 : decode jdk_2450_method_9_code 49 = .ok (.iload_n 2, 1) := by decide +kernel
theorem o_d20_50 : decode jdk_2450_method_9_code 50 = .ok (.iload_n 3, 1) := by decide +kernel
theorem o_d20_51 : decode jdk_2450_method_9_code 51 = .ok (.aload 4, 2) := by decide +kernel
theorem o_d20_53 : decode jdk_2450_method_9_code 53 = .ok (.iload 6, 2) := by decide +kernel
theorem o_d20_55 : decode jdk_2450_method_9_code 55 = .ok (.aload_n 0, 1) := by decide +kernel
theorem o_d20_56 : decode jdk_2450_method_9_code 56 = .ok (.getfield 7, 3) := by decide +kernel
theorem o_d20_59 : decode jdk_2450_method_9_code 59 = .ok (.aload_n 0, 1) := by decide +kernel
theorem o_d20_60 : decode jdk_2450_method_9_code 60 = .ok (.getfield 13, 3) := by decide +kernel
theorem o_d20_63 : decode jdk_2450_method_9_code 63 = .ok (.invokevirtual 111, 3) := by decide +kernel
theorem o_t111 : (Jvm.Cond.methodLink "java/util/Base64$Decoder" (111 : Nat) ({ cls := "java/util/Base64$Decoder", name := "decodeBlock", desc := "([BII[BIZZ)I" } : Jvm.MethodName)) ∈ tables_1 := List.mem_of_getElem? (i := 111) rfl
theorem o_pd9 : parseMethodDescriptor "([BII[BIZZ)I" = some ⟨[(.array .byte), .int, .int, (.array .byte), .int, .boolean, .boolean], some .int⟩ := by decide +kernel
theorem o_t113 : (Jvm.Cond.privateMethod ({ cls := "java/util/Base64$Decoder", name := "decodeBlock", desc := "([BII[BIZZ)I" } : Jvm.MethodName)) ∈ tables_1 := List.mem_of_getElem? (i := 113) rfl
theorem o_t114 : (Jvm.Cond.selects "java/util/Base64$Decoder" ({ cls := "java/util/Base64$Decoder", name := "decodeBlock", desc := "([BII[BIZZ)I" } : Jvm.MethodName) ({ cls := "java/util/Base64$Decoder", name := "decodeBlock", desc := "([BII[BIZZ)I" } : Jvm.MethodName)) ∈ tables_1 := List.mem_of_getElem? (i := 114) rfl
theorem o_t112 : (Jvm.Cond.instanceMethod ({ cls := "java/util/Base64$Decoder", name := "decodeBlock", desc := "([BII[BIZZ)I" } : Jvm.MethodName)) ∈ tables_1 := List.mem_of_getElem? (i := 112) rfl
theorem o_t50 : (Jvm.Cond.initialized "java/util/Base64$Decoder") ∈ tables_1 := List.mem_of_getElem? (i := 50) rfl
theorem o_t115 : (Jvm.Cond.code ({ cls := "java/util/Base64$Decoder", name := "decodeBlock", desc := "([BII[BIZZ)I" } : Jvm.MethodName) jdk_2450_method_8_code (16 : Nat) (Option.some Jvm.ClassFile.FieldType.int)) ∈ tables_1 := List.mem_of_getElem? (i := 115) rfl
theorem o_d20_66 : decode jdk_2450_method_9_code 66 = .ok (.istore 9, 2) := by decide +kernel
theorem o_d20_68 : decode jdk_2450_method_9_code 68 = .ok (.iload 9, 2) := by decide +kernel
theorem o_d20_70 : decode jdk_2450_method_9_code 70 = .ok (.iconst 2, 1) := by decide +kernel
theorem o_d20_71 : decode jdk_2450_method_9_code 71 = .ok (.iadd, 1) := by decide +kernel
theorem o_d20_72 : decode jdk_2450_method_9_code 72 = .ok (.iconst 3, 1) := by decide +kernel
theorem o_d20_73 : decode jdk_2450_method_9_code 73 = .ok (.idiv, 1) := by decide +kernel
theorem o_d20_74 : decode jdk_2450_method_9_code 74 = .ok (.iconst 4, 1) := by decide +kernel
theorem o_d20_75 : decode jdk_2450_method_9_code 75 = .ok (.imul, 1) := by decide +kernel
theorem o_d20_76 : decode jdk_2450_method_9_code 76 = .ok (.istore 10, 2) := by decide +kernel
theorem o_d20_78 : decode jdk_2450_method_9_code 78 = .ok (.iload_n 2, 1) := by decide +kernel
theorem o_d20_79 : decode jdk_2450_method_9_code 79 = .ok (.iload 10, 2) := by decide +kernel
theorem o_d20_81 : decode jdk_2450_method_9_code 81 = .ok (.iadd, 1) := by decide +kernel
theorem o_d20_82 : decode jdk_2450_method_9_code 82 = .ok (.istore_n 2, 1) := by decide +kernel
theorem o_d20_83 : decode jdk_2450_method_9_code 83 = .ok (.iload 6, 2) := by decide +kernel
theorem o_d20_85 : decode jdk_2450_method_9_code 85 = .ok (.iload 9, 2) := by decide +kernel
theorem o_d20_87 : decode jdk_2450_method_9_code 87 = .ok (.iadd, 1) := by decide +kernel
theorem o_d20_88 : decode jdk_2450_method_9_code 88 = .ok (.istore 6, 2) := by decide +kernel
theorem o_d20_90 : decode jdk_2450_method_9_code 90 = .ok (.iload_n 2, 1) := by decide +kernel
theorem o_d20_91 : decode jdk_2450_method_9_code 91 = .ok (.iload_n 3, 1) := by decide +kernel
theorem o_d20_92 : decode jdk_2450_method_9_code 92 = .ok (.if_icmp .lt 6, 3) := by decide +kernel
theorem o_d20_98 : decode jdk_2450_method_9_code 98 = .ok (.aload_n 1, 1) := by decide +kernel
theorem o_d20_99 : decode jdk_2450_method_9_code 99 = .ok (.iload_n 2, 1) := by decide +kernel
theorem o_d20_100 : decode jdk_2450_method_9_code 100 = .ok (.iinc 2 1, 3) := by decide +kernel
theorem o_d20_103 : decode jdk_2450_method_9_code 103 = .ok (.baload, 1) := by decide +kernel
theorem o_d20_104 : decode jdk_2450_method_9_code 104 = .ok (.sipush 255, 3) := by decide +kernel
theorem o_d20_107 : decode jdk_2450_method_9_code 107 = .ok (.iand, 1) := by decide +kernel
theorem o_d20_108 : decode jdk_2450_method_9_code 108 = .ok (.istore 9, 2) := by decide +kernel
theorem o_d20_110 : decode jdk_2450_method_9_code 110 = .ok (.aload 5, 2) := by decide +kernel
theorem o_d20_112 : decode jdk_2450_method_9_code 112 = .ok (.iload 9, 2) := by decide +kernel
theorem o_d20_114 : decode jdk_2450_method_9_code 114 = .ok (.iaload, 1) := by decide +kernel
theorem o_d20_115 : decode jdk_2450_method_9_code 115 = .ok (.dup, 1) := by decide +kernel
theorem o_d20_116 : decode jdk_2450_method_9_code 116 = .ok (.istore 9, 2) := by decide +kernel
theorem o_d20_118 : decode jdk_2450_method_9_code 118 = .ok (.ifCond .ge 96, 3) := by decide +kernel
theorem o_d20_214 : decode jdk_2450_method_9_code 214 = .ok (.iload 7, 2) := by decide +kernel
theorem o_d20_216 : decode jdk_2450_method_9_code 216 = .ok (.iload 9, 2) := by decide +kernel
theorem o_d20_218 : decode jdk_2450_method_9_code 218 = .ok (.iload 8, 2) := by decide +kernel
theorem o_d20_220 : decode jdk_2450_method_9_code 220 = .ok (.ishl, 1) := by decide +kernel
theorem o_d20_221 : decode jdk_2450_method_9_code 221 = .ok (.ior, 1) := by decide +kernel
theorem o_d20_222 : decode jdk_2450_method_9_code 222 = .ok (.istore 7, 2) := by decide +kernel
theorem o_d20_224 : decode jdk_2450_method_9_code 224 = .ok (.iinc 8 (-6), 3) := by decide +kernel
theorem o_d20_227 : decode jdk_2450_method_9_code 227 = .ok (.iload 8, 2) := by decide +kernel
theorem o_d20_229 : decode jdk_2450_method_9_code 229 = .ok (.ifCond .ge 49, 3) := by decide +kernel
theorem o_d20_278 : decode jdk_2450_method_9_code 278 = .ok (.goto (-250), 3) := by decide +kernel
theorem o_d20_121 : decode jdk_2450_method_9_code 121 = .ok (.iload 9, 2) := by decide +kernel
theorem o_d20_123 : decode jdk_2450_method_9_code 123 = .ok (.bipush (-2), 2) := by decide +kernel
theorem o_d20_125 : decode jdk_2450_method_9_code 125 = .ok (.if_icmp .ne 43, 3) := by decide +kernel
theorem o_d20_128 : decode jdk_2450_method_9_code 128 = .ok (.iload 8, 2) := by decide +kernel
theorem o_d20_130 : decode jdk_2450_method_9_code 130 = .ok (.bipush 6, 2) := by decide +kernel
theorem o_d20_132 : decode jdk_2450_method_9_code 132 = .ok (.if_icmp .ne 19, 3) := by decide +kernel
theorem o_d20_135 : decode jdk_2450_method_9_code 135 = .ok (.iload_n 2, 1) := by decide +kernel
theorem o_d20_136 : decode jdk_2450_method_9_code 136 = .ok (.iload_n 3, 1) := by decide +kernel
theorem o_d20_137 : decode jdk_2450_method_9_code 137 = .ok (.if_icmp .eq 21, 3) := by decide +kernel
theorem o_d20_140 : decode jdk_2450_method_9_code 140 = .ok (.aload_n 1, 1) := by decide +kernel
theorem o_d20_141 : decode jdk_2450_method_9_code 141 = .ok (.iload_n 2, 1) := by decide +kernel
theorem o_d20_142 : decode jdk_2450_method_9_code 142 = .ok (.iinc 2 1, 3) := by decide +kernel
theorem o_d20_145 : decode jdk_2450_method_9_code 145 = .ok (.baload, 1) := by decide +kernel
theorem o_d20_146 : decode jdk_2450_method_9_code 146 = .ok (.bipush 61, 2) := by decide +kernel
theorem o_d20_148 : decode jdk_2450_method_9_code 148 = .ok (.if_icmp .ne 10, 3) := by decide +kernel
theorem o_d20_151 : decode jdk_2450_method_9_code 151 = .ok (.iload 8, 2) := by decide +kernel
theorem o_d20_153 : decode jdk_2450_method_9_code 153 = .ok (.bipush 18, 2) := by decide +kernel
theorem o_d20_155 : decode jdk_2450_method_9_code 155 = .ok (.if_icmp .ne 126, 3) := by decide +kernel
theorem o_d20_281 : decode jdk_2450_method_9_code 281 = .ok (.iload 8, 2) := by decide +kernel
theorem o_d20_283 : decode jdk_2450_method_9_code 283 = .ok (.bipush 6, 2) := by decide +kernel
theorem o_d20_285 : decode jdk_2450_method_9_code 285 = .ok (.if_icmp .ne 20, 3) := by decide +kernel
theorem o_d20_288 : decode jdk_2450_method_9_code 288 = .ok (.aload 4, 2) := by decide +kernel
theorem o_d20_290 : decode jdk_2450_method_9_code 290 = .ok (.iload 6, 2) := by decide +kernel
theorem o_d20_292 : decode jdk_2450_method_9_code 292 = .ok (.iinc 6 1, 3) := by decide +kernel
theorem o_d20_295 : decode jdk_2450_method_9_code 295 = .ok (.iload 7, 2) := by decide +kernel
theorem o_d20_297 : decode jdk_2450_method_9_code 297 = .ok (.bipush 16, 2) := by decide +kernel
theorem o_d20_299 : decode jdk_2450_method_9_code 299 = .ok (.ishr, 1) := by decide +kernel
theorem o_d20_300 : decode jdk_2450_method_9_code 300 = .ok (.i2b, 1) := by decide +kernel
theorem o_d20_301 : decode jdk_2450_method_9_code 301 = .ok (.bastore, 1) := by decide +kernel
theorem o_d20_302 : decode jdk_2450_method_9_code 302 = .ok (.goto 56, 3) := by decide +kernel
theorem o_d20_358 : decode jdk_2450_method_9_code 358 = .ok (.iload_n 2, 1) := by decide +kernel
theorem o_d20_359 : decode jdk_2450_method_9_code 359 = .ok (.iload_n 3, 1) := by decide +kernel
theorem o_d20_360 : decode jdk_2450_method_9_code 360 = .ok (.if_icmp .ge 56, 3) := by decide +kernel
theorem o_d20_416 : decode jdk_2450_method_9_code 416 = .ok (.iload 6, 2) := by decide +kernel
theorem o_d20_418 : decode jdk_2450_method_9_code 418 = .ok (.ireturn, 1) := by decide +kernel
def o_Q20_0 (Z : State) (r4 : Addr) (q_B : Int32 → Int32) (h0 : Heap) (n0 : Nat) (v : Option Value) (h : Heap) (L : List Loc) : Prop := v = some (.int 16) ∧ Fr n0 L ∧ Keep h0 h [r4] ∧ o_Tb Z h r4 .byte (16 : Int32) q_B
abbrev o_R20_0 : Room := { frames := 1, cells := 0, slots := 0, locals := 27 }
theorem o_ef20_0 (m : MethodId) (z0 : Addr) (z1 : Addr) (z4 : Addr) : entryFrame m #[(.ref z0), (.ref z1), (.int 0), (.int 24), (.ref z4)] 11 = mkF m 0 #[o_A z0, o_A z1, o_I 0, o_I 24, o_A z4, o_u, o_u, o_u, o_u, o_u, o_u] [] := by first | (simp [entryFrame, mkF, argsToLocals, Value.category]; done) | rfl
set_option maxRecDepth 65536 in
set_option maxHeartbeats 40000000 in
theorem rm20_0 (l : Launch) (Z : State) (a0 : Array Value) (hw : ∀ d ∈ tables_1, d.before a0 Z = true) (ws : List Jvm.Cond) (r1 : Addr) (r4 : Addr) (s_d : Addr) (q_B : Int32 → Int32) (q_S : Int32 → Int32) (s_t : Addr) (h0 : Heap) (n0 : Nat) (Z0 : n0 ≤ h0.size) (g_r4 : n0 ≤ r4) (O0 : Old Z n0 h0) (E_d : Exa Z Z.heap s_d "java/util/Base64$Decoder") (F_u : Fld Z Z.heap s_d "java/util/Base64$Decoder" "isURL" "Z" (.int 0)) (F_m : Fld Z Z.heap s_d "java/util/Base64$Decoder" "isMIME" "Z" (.int 0)) (T_t : o_Tb Z Z.heap s_t .int 256 o_b64) (T_s : o_Tb Z h0 r1 .byte (24 : Int32) q_S) (T_d : o_Tb Z h0 r4 .byte (16 : Int32) (fun _ => 0)) (hq : o_Md0 q_B q_S) (ne_r1_r4 : r1 ≠ r4) (S_s_t : Sta Z Z.heap "java/util/Base64$Decoder" "fromBase64" "[I" (.ref s_t)) : o_Met l Z (⟨"java/util/Base64$Decoder", "decode0", "([BII[B)I"⟩ : MethodName) jdk_2450_method_9_code 11 (some .int) ws o_R20_0 #[(.ref s_d), (.ref r1), (.int 0), (.int 24), (.ref r4)] h0 (o_Q20_0 Z r4 q_B h0 n0) := by
 refine o_met (plainFor_of_name o_pn4) ?_
 intro p e s m below meth c s₁ hx hby hml hown hnm hret hlk hZ e0 X0
 have N0 := Fr.nil n0
 have hml : c.maxLocals = 11 := hml
 have hown : s.vm.findClass "java/util/Base64$Decoder" = some m.cls := hown
 have hret : meth.sig.returnType = (some .int) := hret
 have hby : c.code = jdk_2450_method_9_code := hby
 have hnm : meth.name = "decode0" := hnm
 rw [o_ef20_0]
 refine o_gi (XS.aloadN X0.here hx rfl (hb hby o_d20_0) rfl rfl) ?_
 show o_Gs p e below _ s₁ m 1 #[o_A s_d, o_A r1, o_I 0, o_I 24, o_A r4, o_u, o_u, o_u, o_u, o_u, o_u] [(.ref s_d)]
 obtain ⟨T150, X150, e150, st150⟩ := getF X0 hx hZ hown (host := "") (Or.inl (hw _ o_t99)) Via.refl e0 (F_u.ext O0.2) (g := (mkF m 1 #[o_A s_d, o_A r1, o_I 0, o_I 24, o_A r4, o_u, o_u, o_u, o_u, o_u, o_u] [(.ref s_d)])) rfl rfl (hb hby o_d20_1)
 refine o_go st150 ?_
 show o_Gs p e below _ T150 m 4 #[o_A s_d, o_A r1, o_I 0, o_I 24, o_A r4, o_u, o_u, o_u, o_u, o_u, o_u] [(.int 0)]
 have hd151 : (0 : Int32) = (0 : Int32) := (by decide)
 refine o_gi (XS.ifYes X150.here hx rfl (pc0 := 4) (pc' := 13) rfl (hb hby o_d20_4) rfl ((if0 _ _).trans (teq hd151).1) (by decide) (by decide)) ?_
 show o_Gs p e below _ T150 m 13 #[o_A s_d, o_A r1, o_I 0, o_I 24, o_A r4, o_u, o_u, o_u, o_u, o_u, o_u] []
 obtain ⟨T152, X152, e152, st152⟩ := getS2 X150 hx hZ hown (host := "") (Or.inl (hw _ o_t101)) Via.refl e150 (S_s_t.ext O0.2) (g := (mkF m 13 #[o_A s_d, o_A r1, o_I 0, o_I 24, o_A r4, o_u, o_u, o_u, o_u, o_u, o_u] [])) rfl (hb hby o_d20_13)
 refine o_go st152 ?_
 refine o_gi (XS.astore X152.here hx rfl (hb hby o_d20_16) rfl rfl (l' := #[o_A s_d, o_A r1, o_I 0, o_I 24, o_A r4, o_A s_t, o_u, o_u, o_u, o_u, o_u]) rfl) ?_
 refine o_gi (XS.iconst X152.here hx rfl (hb hby o_d20_18)) ?_
 refine o_gi (XS.istore X152.here hx rfl (hb hby o_d20_19) rfl (l' := #[o_A s_d, o_A r1, o_I 0, o_I 24, o_A r4, o_A s_t, o_I 0, o_u, o_u, o_u, o_u]) rfl) ?_
 refine o_gi (XS.iconst X152.here hx rfl (hb hby o_d20_21)) ?_
 refine o_gi (XS.istore X152.here hx rfl (hb hby o_d20_22) rfl (l' := #[o_A s_d, o_A r1, o_I 0, o_I 24, o_A r4, o_A s_t, o_I 0, o_I 0, o_u, o_u, o_u]) rfl) ?_
 refine o_gi (XS.bipush X152.here hx rfl (hb hby o_d20_24)) ?_
 refine o_gi (XS.istore X152.here hx rfl (hb hby o_d20_26) rfl (l' := #[o_A s_d, o_A r1, o_I 0, o_I 24, o_A r4, o_A s_t, o_I 0, o_I 0, o_I 18, o_u, o_u]) rfl) ?_
 refine o_gi (XS.iloadN X152.here hx rfl (hb hby o_d20_28) rfl) ?_
 refine o_gi (XS.iloadN X152.here hx rfl (hb hby o_d20_29) rfl) ?_
 show o_Gs p e below _ T152 m 30 #[o_A s_d, o_A r1, o_I 0, o_I 24, o_A r4, o_A s_t, o_I 0, o_I 0, o_I 18, o_u, o_u] [(.int 24), (.int 0)]
 have hd153 : (0 : Int32) < (24 : Int32) := (by decide)
 refine o_gi (XS.icmpNo X152.here hx rfl (hb hby o_d20_30) rfl (tlt hd153).2.1) ?_
 refine o_gi (XS.iload X152.here hx rfl (hb hby o_d20_33) rfl) ?_
 refine o_gi (XS.bipush X152.here hx rfl (hb hby o_d20_35)) ?_
 show o_Gs p e below _ T152 m 37 #[o_A s_d, o_A r1, o_I 0, o_I 24, o_A r4, o_A s_t, o_I 0, o_I 0, o_I 18, o_u, o_u] [(.int 18), (.int 18)]
 have hd154 : (18 : Int32) = (18 : Int32) := (by decide)
 refine o_gi (XS.icmpNo X152.here hx rfl (hb hby o_d20_37) rfl (teq hd154).2) ?_
 refine o_gi (XS.iloadN X152.here hx rfl (hb hby o_d20_40) rfl) ?_
 refine o_gi (XS.iloadN X152.here hx rfl (hb hby o_d20_41) rfl) ?_
 refine o_gi (XS.iconst X152.here hx rfl (hb hby o_d20_42)) ?_
 show o_Gs p e below _ T152 m 43 #[o_A s_d, o_A r1, o_I 0, o_I 24, o_A r4, o_A s_t, o_I 0, o_I 0, o_I 18, o_u, o_u] [(.int 4), (.int 24), (.int 0)]
 refine o_gi (XS.isub X152.here hx rfl (hb hby o_d20_43) rfl) ?_
 show o_Gs p e below _ T152 m 44 #[o_A s_d, o_A r1, o_I 0, o_I 24, o_A r4, o_A s_t, o_I 0, o_I 0, o_I 18, o_u, o_u] [(.int ((24 : Int32) - (4 : Int32))), (.int 0)]
 rw [show ((24 : Int32) - (4 : Int32)) = (20 : Int32) from by decide]
 show o_Gs p e below _ T152 m 44 #[o_A s_d, o_A r1, o_I 0, o_I 24, o_A r4, o_A s_t, o_I 0, o_I 0, o_I 18, o_u, o_u] [(.int 20), (.int 0)]
 have hd155 : (0 : Int32) < (20 : Int32) := (by decide)
 refine o_gi (XS.icmpNo X152.here hx rfl (hb hby o_d20_44) rfl (tlt hd155).2.1) ?_
 refine o_gi (XS.aloadN X152.here hx rfl (hb hby o_d20_47) rfl rfl) ?_
 refine o_gi (XS.aloadN X152.here hx rfl (hb hby o_d20_48) rfl rfl) ?_
 refine o_gi (XS.iloadN X152.here hx rfl (hb hby o_d20_49) rfl) ?_
 refine o_gi (XS.iloadN X152.here hx rfl (hb hby o_d20_50) rfl) ?_
 refine o_gi (XS.aload X152.here hx rfl (hb hby o_d20_51) rfl rfl) ?_
 refine o_gi (XS.iload X152.here hx rfl (hb hby o_d20_53) rfl) ?_
 refine o_gi (XS.aloadN X152.here hx rfl (hb hby o_d20_55) rfl rfl) ?_
 show o_Gs p e below _ T152 m 56 #[o_A s_d, o_A r1, o_I 0, o_I 24, o_A r4, o_A s_t, o_I 0, o_I 0, o_I 18, o_u, o_u] [(.ref s_d), (.int 0), (.ref r4), (.int 24), (.int 0), (.ref r1), (.ref s_d)]
 obtain ⟨T156, X156, e156, st156⟩ := getF X152 hx hZ hown (host := "") (Or.inl (hw _ o_t99)) Via.refl e152 (F_u.ext O0.2) (g := (mkF m 56 #[o_A s_d, o_A r1, o_I 0, o_I 24, o_A r4, o_A s_t, o_I 0, o_I 0, o_I 18, o_u, o_u] [(.ref s_d), (.int 0), (.ref r4), (.int 24), (.int 0), (.ref r1), (.ref s_d)])) rfl rfl (hb hby o_d20_56)
 refine o_go st156 ?_
 refine o_gi (XS.aloadN X156.here hx rfl (hb hby o_d20_59) rfl rfl) ?_
 show o_Gs p e below _ T156 m 60 #[o_A s_d, o_A r1, o_I 0, o_I 24, o_A r4, o_A s_t, o_I 0, o_I 0, o_I 18, o_u, o_u] [(.ref s_d), (.int 0), (.int 0), (.ref r4), (.int 24), (.int 0), (.ref r1), (.ref s_d)]
 obtain ⟨T157, X157, e157, st157⟩ := getF X156 hx hZ hown (host := "") (Or.inl (hw _ o_t102)) Via.refl e156 (F_m.ext O0.2) (g := (mkF m 60 #[o_A s_d, o_A r1, o_I 0, o_I 24, o_A r4, o_A s_t, o_I 0, o_I 0, o_I 18, o_u, o_u] [(.ref s_d), (.int 0), (.int 0), (.ref r4), (.int 24), (.int 0), (.ref r1), (.ref s_d)])) rfl rfl (hb hby o_d20_60)
 refine o_go st157 ?_
 show o_Gs p e below _ T157 m 63 #[o_A s_d, o_A r1, o_I 0, o_I 24, o_A r4, o_A s_t, o_I 0, o_I 0, o_I 18, o_u, o_u] [(.int 0), (.int 0), (.int 0), (.ref r4), (.int 24), (.int 0), (.ref r1), (.ref s_d)]
 obtain ⟨_, T158, L158, X158, ⟨rfl, N158q, K158, G158_0⟩, st158⟩ := o_callPS X157 hx hZ hown (hw _ o_t111) (hw _ o_t113) (hw _ o_t114) (hw _ o_t112) (hw _ o_t50) (hw _ o_t115) (by decide) (b := s_d) (as := [(.ref r1), (.int 0), (.int 24), (.ref r4), (.int 0), (.int 0), (.int 0)]) (rm21 l Z a0 hw [] r1 r4 s_d (24 : Int32) (16 : Int32) (15 : Int32) 5 q_B q_S s_t h0 n0 Z0 g_r4 O0 T_t T_s T_d ne_r1_r4 (by decide) (o_blk0 hq) S_s_t) e157 (E_d.ext O0.2) o_pd9 rfl (pc := 63) (Ls := #[o_A s_d, o_A r1, o_I 0, o_I 24, o_A r4, o_A s_t, o_I 0, o_I 0, o_I 18, o_u, o_u]) (rest := []) (W := 0) (by rw [hml]; rfl) (Nat.le_of_eq rfl) (by decide) (by decide) (hb hby o_d20_63) (by decide) (by decide)
 have N158 := Fr.app N0 N158q
 refine o_go st158 ?_
 refine o_gi (XS.istore X158.here hx rfl (hb hby o_d20_66) rfl (l' := #[o_A s_d, o_A r1, o_I 0, o_I 24, o_A r4, o_A s_t, o_I 0, o_I 0, o_I 18, o_I 15, o_u]) rfl) ?_
 refine o_gi (XS.iload X158.here hx rfl (hb hby o_d20_68) rfl) ?_
 refine o_gi (XS.iconst X158.here hx rfl (hb hby o_d20_70)) ?_
 show o_Gs p e below _ T158 m 71 #[o_A s_d, o_A r1, o_I 0, o_I 24, o_A r4, o_A s_t, o_I 0, o_I 0, o_I 18, o_I 15, o_u] [(.int 2), (.int 15)]
 refine o_gi (XS.iadd X158.here hx rfl (hb hby o_d20_71) rfl) ?_
 show o_Gs p e below _ T158 m 72 #[o_A s_d, o_A r1, o_I 0, o_I 24, o_A r4, o_A s_t, o_I 0, o_I 0, o_I 18, o_I 15, o_u] [(.int ((15 : Int32) + (2 : Int32)))]
 rw [show ((15 : Int32) + (2 : Int32)) = (17 : Int32) from by decide]
 refine o_gi (XS.iconst X158.here hx rfl (hb hby o_d20_72)) ?_
 show o_Gs p e below _ T158 m 73 #[o_A s_d, o_A r1, o_I 0, o_I 24, o_A r4, o_A s_t, o_I 0, o_I 0, o_I 18, o_I 15, o_u] [(.int 3), (.int 17)]
 refine o_gi (XS.idiv X158.here hx rfl (hb hby o_d20_73) rfl (by decide)) ?_
 show o_Gs p e below _ T158 m 74 #[o_A s_d, o_A r1, o_I 0, o_I 24, o_A r4, o_A s_t, o_I 0, o_I 0, o_I 18, o_I 15, o_u] [(.int ((17 : Int32) / (3 : Int32)))]
 rw [show ((17 : Int32) / (3 : Int32)) = (5 : Int32) from by decide]
 refine o_gi (XS.iconst X158.here hx rfl (hb hby o_d20_74)) ?_
 show o_Gs p e below _ T158 m 75 #[o_A s_d, o_A r1, o_I 0, o_I 24, o_A r4, o_A s_t, o_I 0, o_I 0, o_I 18, o_I 15, o_u] [(.int 4), (.int 5)]
 refine o_gi (XS.imul X158.here hx rfl (hb hby o_d20_75) rfl) ?_
 show o_Gs p e below _ T158 m 76 #[o_A s_d, o_A r1, o_I 0, o_I 24, o_A r4, o_A s_t, o_I 0, o_I 0, o_I 18, o_I 15, o_u] [(.int ((5 : Int32) * (4 : Int32)))]
 rw [show ((5 : Int32) * (4 : Int32)) = (20 : Int32) from by decide]
 refine o_gi (XS.istore X158.here hx rfl (hb hby o_d20_76) rfl (l' := #[o_A s_d, o_A r1, o_I 0, o_I 24, o_A r4, o_A s_t, o_I 0, o_I 0, o_I 18, o_I 15, o_I 20]) rfl) ?_
 refine o_gi (XS.iloadN X158.here hx rfl (hb hby o_d20_78) rfl) ?_
 refine o_gi (XS.iload X158.here hx rfl (hb hby o_d20_79) rfl) ?_
 show o_Gs p e below _ T158 m 81 #[o_A s_d, o_A r1, o_I 0, o_I 24, o_A r4, o_A s_t, o_I 0, o_I 0, o_I 18, o_I 15, o_I 20] [(.int 20), (.int 0)]
 refine o_gi (XS.iadd X158.here hx rfl (hb hby o_d20_81) rfl) ?_
 show o_Gs p e below _ T158 m 82 #[o_A s_d, o_A r1, o_I 0, o_I 24, o_A r4, o_A s_t, o_I 0, o_I 0, o_I 18, o_I 15, o_I 20] [(.int ((0 : Int32) + (20 : Int32)))]
 rw [show ((0 : Int32) + (20 : Int32)) = (20 : Int32) from by decide]
 refine o_gi (XS.istoreN X158.here hx rfl (hb hby o_d20_82) rfl (l' := #[o_A s_d, o_A r1, o_I 20, o_I 24, o_A r4, o_A s_t, o_I 0, o_I 0, o_I 18, o_I 15, o_I 20]) rfl) ?_
 refine o_gi (XS.iload X158.here hx rfl (hb hby o_d20_83) rfl) ?_
 refine o_gi (XS.iload X158.here hx rfl (hb hby o_d20_85) rfl) ?_
 show o_Gs p e below _ T158 m 87 #[o_A s_d, o_A r1, o_I 20, o_I 24, o_A r4, o_A s_t, o_I 0, o_I 0, o_I 18, o_I 15, o_I 20] [(.int 15), (.int 0)]
 refine o_gi (XS.iadd X158.here hx rfl (hb hby o_d20_87) rfl) ?_
 show o_Gs p e below _ T158 m 88 #[o_A s_d, o_A r1, o_I 20, o_I 24, o_A r4, o_A s_t, o_I 0, o_I 0, o_I 18, o_I 15, o_I 20] [(.int ((0 : Int32) + (15 : Int32)))]
 rw [show ((0 : Int32) + (15 : Int32)) = (15 : Int32) from by decide]
 refine o_gi (XS.istore X158.here hx rfl (hb hby o_d20_88) rfl (l' := #[o_A s_d, o_A r1, o_I 20, o_I 24, o_A r4, o_A s_t, o_I 15, o_I 0, o_I 18, o_I 15, o_I 20]) rfl) ?_
 refine o_gi (XS.iloadN X158.here hx rfl (hb hby o_d20_90) rfl) ?_
 refine o_gi (XS.iloadN X158.here hx rfl (hb hby o_d20_91) rfl) ?_
 show o_Gs p e below _ T158 m 92 #[o_A s_d, o_A r1, o_I 20, o_I 24, o_A r4, o_A s_t, o_I 15, o_I 0, o_I 18, o_I 15, o_I 20] [(.int 24), (.int 20)]
 have hd159 : (20 : Int32) < (24 : Int32) := (by decide)
 refine o_gi (XS.icmpYes X158.here hx rfl (pc0 := 92) (pc' := 98) rfl (hb hby o_d20_92) rfl (tlt hd159).1 (by decide) (by decide)) ?_
 refine o_gi (XS.aloadN X158.here hx rfl (hb hby o_d20_98) rfl rfl) ?_
 refine o_gi (XS.iloadN X158.here hx rfl (hb hby o_d20_99) rfl) ?_
 show o_Gs p e below _ T158 m 100 #[o_A s_d, o_A r1, o_I 20, o_I 24, o_A r4, o_A s_t, o_I 15, o_I 0, o_I 18, o_I 15, o_I 20] [(.int 20), (.ref r1)]
 refine o_gi (XS.iinc X158.here hx rfl (hb hby o_d20_100) rfl (l' := #[o_A s_d, o_A r1, .val (.int ((20 : Int32) + (1 : Int32))), o_I 24, o_A r4, o_A s_t, o_I 15, o_I 0, o_I 18, o_I 15, o_I 20]) rfl) ?_
 show o_Gs p e below _ T158 m 103 #[o_A s_d, o_A r1, .val (.int ((20 : Int32) + (1 : Int32))), o_I 24, o_A r4, o_A s_t, o_I 15, o_I 0, o_I 18, o_I 15, o_I 20] [(.int 20), (.ref r1)]
 rw [show ((20 : Int32) + (1 : Int32)) = (21 : Int32) from by decide]
 show o_Gs p e below _ T158 m 103 #[o_A s_d, o_A r1, o_I 21, o_I 24, o_A r4, o_A s_t, o_I 15, o_I 0, o_I 18, o_I 15, o_I 20] [(.int 20), (.ref r1)]
 have ff160 : o_Tb Z T158.heap r1 .byte (24 : Int32) q_S := (T_s.keep K158 (fun z => ne_r1_r4 (List.mem_singleton.mp z)))
 obtain ⟨cl161, Ar161, sa161, na161, ha161⟩ := id ff160
 have ix161 : ¬ (20 : Int32) < 0 ∧ (20 : Int32) < (24 : Int32) := ⟨by decide, by decide⟩
 refine o_go (X158.baloadBytes hx (j := (20 : Int32)) (v := (.int (q_S (20 : Int32)))) Ar161.1 (State.isArrayOf_alike hZ.alike Ar161.2.1) Ar161.2.2 (inb_of sa161 ix161) (ha161 _ ix161.1 ix161.2) (g := (mkF m 103 #[o_A s_d, o_A r1, o_I 21, o_I 24, o_A r4, o_A s_t, o_I 15, o_I 0, o_I 18, o_I 15, o_I 20] [(.int 20), (.ref r1)])) rfl rfl (hb hby o_d20_103)) ?_
 refine o_gi (XS.sipush X158.here hx rfl (hb hby o_d20_104)) ?_
 show o_Gs p e below _ T158 m 107 #[o_A s_d, o_A r1, o_I 21, o_I 24, o_A r4, o_A s_t, o_I 15, o_I 0, o_I 18, o_I 15, o_I 20] [(.int 255), (.int (q_S (20 : Int32)))]
 refine o_gi (XS.iand X158.here hx rfl (hb hby o_d20_107) rfl) ?_
 refine o_gi (XS.istore X158.here hx rfl (hb hby o_d20_108) rfl (l' := #[o_A s_d, o_A r1, o_I 21, o_I 24, o_A r4, o_A s_t, o_I 15, o_I 0, o_I 18, .val (.int ((q_S (20 : Int32)) &&& (255 : Int32))), o_I 20]) rfl) ?_
 refine o_gi (XS.aload X158.here hx rfl (hb hby o_d20_110) rfl rfl) ?_
 refine o_gi (XS.iload X158.here hx rfl (hb hby o_d20_112) rfl) ?_
 show o_Gs p e below _ T158 m 114 #[o_A s_d, o_A r1, o_I 21, o_I 24, o_A r4, o_A s_t, o_I 15, o_I 0, o_I 18, .val (.int ((q_S (20 : Int32)) &&& (255 : Int32))), o_I 20] [(.int ((q_S (20 : Int32)) &&& (255 : Int32))), (.ref s_t)]
 have oo162 : Old Z n0 T158.heap := (O0.keep K158 (allS g_r4 all0))
 obtain ⟨cl163, Ar163, sa163, na163, ha163⟩ := id (T_t.ext oo162.2)
 have ix163 : ¬ ((q_S (20 : Int32)) &&& (255 : Int32)) < 0 ∧ ((q_S (20 : Int32)) &&& (255 : Int32)) < (256 : Int32) := (o_ix255 _)
 refine o_go (X158.iaload hx (j := ((q_S (20 : Int32)) &&& (255 : Int32))) (v := (.int (o_b64 ((q_S (20 : Int32)) &&& (255 : Int32))))) Ar163.1 (State.isArrayOf_alike hZ.alike Ar163.2.1) Ar163.2.2 (inb_of sa163 ix163) (ha163 _ ix163.1 ix163.2) (g := (mkF m 114 #[o_A s_d, o_A r1, o_I 21, o_I 24, o_A r4, o_A s_t, o_I 15, o_I 0, o_I 18, .val (.int ((q_S (20 : Int32)) &&& (255 : Int32))), o_I 20] [(.int ((q_S (20 : Int32)) &&& (255 : Int32))), (.ref s_t)])) rfl rfl (hb hby o_d20_114)) ?_
 refine o_gi (XS.dup X158.here hx rfl (hb hby o_d20_115) rfl rfl) ?_
 refine o_gi (XS.istore X158.here hx rfl (hb hby o_d20_116) rfl (l' := #[o_A s_d, o_A r1, o_I 21, o_I 24, o_A r4, o_A s_t, o_I 15, o_I 0, o_I 18, .val (.int (o_b64 ((q_S (20 : Int32)) &&& (255 : Int32)))), o_I 20]) rfl) ?_
 show o_Gs p e below _ T158 m 118 #[o_A s_d, o_A r1, o_I 21, o_I 24, o_A r4, o_A s_t, o_I 15, o_I 0, o_I 18, .val (.int (o_b64 ((q_S (20 : Int32)) &&& (255 : Int32)))), o_I 20] [(.int (o_b64 ((q_S (20 : Int32)) &&& (255 : Int32))))]
 have hd164 : ¬ ((o_b64 ((q_S (20 : Int32)) &&& (255 : Int32))) < (0 : Int32)) := (o_nn hq.2.2.1 (by have := o_m255 (q_B 15); have := o_m255 (q_B 15); omega))
 refine o_gi (XS.ifYes X158.here hx rfl (pc0 := 118) (pc' := 214) rfl (hb hby o_d20_118) rfl ((if0 _ _).trans (flt hd164).2.1) (by decide) (by decide)) ?_
 refine o_gi (XS.iload X158.here hx rfl (hb hby o_d20_214) rfl) ?_
 refine o_gi (XS.iload X158.here hx rfl (hb hby o_d20_216) rfl) ?_
 refine o_gi (XS.iload X158.here hx rfl (hb hby o_d20_218) rfl) ?_
 show o_Gs p e below _ T158 m 220 #[o_A s_d, o_A r1, o_I 21, o_I 24, o_A r4, o_A s_t, o_I 15, o_I 0, o_I 18, .val (.int (o_b64 ((q_S (20 : Int32)) &&& (255 : Int32)))), o_I 20] [(.int 18), (.int (o_b64 ((q_S (20 : Int32)) &&& (255 : Int32)))), (.int 0)]
 refine o_gi (XS.ishl X158.here hx rfl (hb hby o_d20_220) rfl) ?_
 show o_Gs p e below _ T158 m 221 #[o_A s_d, o_A r1, o_I 21, o_I 24, o_A r4, o_A s_t, o_I 15, o_I 0, o_I 18, .val (.int (o_b64 ((q_S (20 : Int32)) &&& (255 : Int32)))), o_I 20] [(.int ((o_b64 ((q_S (20 : Int32)) &&& (255 : Int32))) <<< ((18 : Int32) &&& 31))), (.int 0)]
 refine o_gi (XS.ior X158.here hx rfl (hb hby o_d20_221) rfl) ?_
 refine o_gi (XS.istore X158.here hx rfl (hb hby o_d20_222) rfl (l' := #[o_A s_d, o_A r1, o_I 21, o_I 24, o_A r4, o_A s_t, o_I 15, .val (.int ((0 : Int32) ||| ((o_b64 ((q_S (20 : Int32)) &&& (255 : Int32))) <<< ((18 : Int32) &&& 31)))), o_I 18, .val (.int (o_b64 ((q_S (20 : Int32)) &&& (255 : Int32)))), o_I 20]) rfl) ?_
 obtain ⟨w165, q_w165⟩ : ∃ z : Int32, z = ((0 : Int32) ||| ((o_b64 ((q_S (20 : Int32)) &&& (255 : Int32))) <<< ((18 : Int32) &&& 31))) := ⟨_, rfl⟩
 show o_Gs p e below _ T158 m 224 #[o_A s_d, o_A r1, o_I 21, o_I 24, o_A r4, o_A s_t, o_I 15, .val (.int ((0 : Int32) ||| ((o_b64 ((q_S (20 : Int32)) &&& (255 : Int32))) <<< ((18 : Int32) &&& 31)))), o_I 18, .val (.int (o_b64 ((q_S (20 : Int32)) &&& (255 : Int32)))), o_I 20] []
 rw [← q_w165]
 show o_Gs p e below _ T158 m 224 #[o_A s_d, o_A r1, o_I 21, o_I 24, o_A r4, o_A s_t, o_I 15, o_I w165, o_I 18, .val (.int (o_b64 ((q_S (20 : Int32)) &&& (255 : Int32)))), o_I 20] []
 refine o_gi (XS.iinc X158.here hx rfl (hb hby o_d20_224) rfl (l' := #[o_A s_d, o_A r1, o_I 21, o_I 24, o_A r4, o_A s_t, o_I 15, o_I w165, .val (.int ((18 : Int32) + (-6 : Int32))), .val (.int (o_b64 ((q_S (20 : Int32)) &&& (255 : Int32)))), o_I 20]) rfl) ?_
 show o_Gs p e below _ T158 m 227 #[o_A s_d, o_A r1, o_I 21, o_I 24, o_A r4, o_A s_t, o_I 15, o_I w165, .val (.int ((18 : Int32) + (-6 : Int32))), .val (.int (o_b64 ((q_S (20 : Int32)) &&& (255 : Int32)))), o_I 20] []
 rw [show ((18 : Int32) + (-6 : Int32)) = (12 : Int32) from by decide]
 refine o_gi (XS.iload X158.here hx rfl (hb hby o_d20_227) rfl) ?_
 show o_Gs p e below _ T158 m 229 #[o_A s_d, o_A r1, o_I 21, o_I 24, o_A r4, o_A s_t, o_I 15, o_I w165, o_I 12, .val (.int (o_b64 ((q_S (20 : Int32)) &&& (255 : Int32)))), o_I 20] [(.int 12)]
 have hd166 : ¬ ((12 : Int32) < (0 : Int32)) := (by decide)
 refine o_gi (XS.ifYes X158.here hx rfl (pc0 := 229) (pc' := 278) rfl (hb hby o_d20_229) rfl ((if0 _ _).trans (flt hd166).2.1) (by decide) (by decide)) ?_
 refine o_gi (XS.goto X158.here hx rfl (pc0 := 278) (pc' := 28) rfl (hb hby o_d20_278) (by decide) (by decide)) ?_
 refine o_gi (XS.iloadN X158.here hx rfl (hb hby o_d20_28) rfl) ?_
 refine o_gi (XS.iloadN X158.here hx rfl (hb hby o_d20_29) rfl) ?_
 show o_Gs p e below _ T158 m 30 #[o_A s_d, o_A r1, o_I 21, o_I 24, o_A r4, o_A s_t, o_I 15, o_I w165, o_I 12, .val (.int (o_b64 ((q_S (20 : Int32)) &&& (255 : Int32)))), o_I 20] [(.int 24), (.int 21)]
 have hd167 : (21 : Int32) < (24 : Int32) := (by decide)
 refine o_gi (XS.icmpNo X158.here hx rfl (hb hby o_d20_30) rfl (tlt hd167).2.1) ?_
 refine o_gi (XS.iload X158.here hx rfl (hb hby o_d20_33) rfl) ?_
 refine o_gi (XS.bipush X158.here hx rfl (hb hby o_d20_35)) ?_
 show o_Gs p e below _ T158 m 37 #[o_A s_d, o_A r1, o_I 21, o_I 24, o_A r4, o_A s_t, o_I 15, o_I w165, o_I 12, .val (.int (o_b64 ((q_S (20 : Int32)) &&& (255 : Int32)))), o_I 20] [(.int 18), (.int 12)]
 have hd168 : ¬ ((12 : Int32) = (18 : Int32)) := (by decide)
 refine o_gi (XS.icmpYes X158.here hx rfl (pc0 := 37) (pc' := 90) rfl (hb hby o_d20_37) rfl (feq hd168).2 (by decide) (by decide)) ?_
 refine o_gi (XS.iloadN X158.here hx rfl (hb hby o_d20_90) rfl) ?_
 refine o_gi (XS.iloadN X158.here hx rfl (hb hby o_d20_91) rfl) ?_
 show o_Gs p e below _ T158 m 92 #[o_A s_d, o_A r1, o_I 21, o_I 24, o_A r4, o_A s_t, o_I 15, o_I w165, o_I 12, .val (.int (o_b64 ((q_S (20 : Int32)) &&& (255 : Int32)))), o_I 20] [(.int 24), (.int 21)]
 have hd169 : (21 : Int32) < (24 : Int32) := (by decide)
 refine o_gi (XS.icmpYes X158.here hx rfl (pc0 := 92) (pc' := 98) rfl (hb hby o_d20_92) rfl (tlt hd169).1 (by decide) (by decide)) ?_
 refine o_gi (XS.aloadN X158.here hx rfl (hb hby o_d20_98) rfl rfl) ?_
 refine o_gi (XS.iloadN X158.here hx rfl (hb hby o_d20_99) rfl) ?_
 show o_Gs p e below _ T158 m 100 #[o_A s_d, o_A r1, o_I 21, o_I 24, o_A r4, o_A s_t, o_I 15, o_I w165, o_I 12, .val (.int (o_b64 ((q_S (20 : Int32)) &&& (255 : Int32)))), o_I 20] [(.int 21), (.ref r1)]
 refine o_gi (XS.iinc X158.here hx rfl (hb hby o_d20_100) rfl (l' := #[o_A s_d, o_A r1, .val (.int ((21 : Int32) + (1 : Int32))), o_I 24, o_A r4, o_A s_t, o_I 15, o_I w165, o_I 12, .val (.int (o_b64 ((q_S (20 : Int32)) &&& (255 : Int32)))), o_I 20]) rfl) ?_
 show o_Gs p e below _ T158 m 103 #[o_A s_d, o_A r1, .val (.int ((21 : Int32) + (1 : Int32))), o_I 24, o_A r4, o_A s_t, o_I 15, o_I w165, o_I 12, .val (.int (o_b64 ((q_S (20 : Int32)) &&& (255 : Int32)))), o_I 20] [(.int 21), (.ref r1)]
 rw [show ((21 : Int32) + (1 : Int32)) = (22 : Int32) from by decide]
 show o_Gs p e below _ T158 m 103 #[o_A s_d, o_A r1, o_I 22, o_I 24, o_A r4, o_A s_t, o_I 15, o_I w165, o_I 12, .val (.int (o_b64 ((q_S (20 : Int32)) &&& (255 : Int32)))), o_I 20] [(.int 21), (.ref r1)]
 obtain ⟨cl170, Ar170, sa170, na170, ha170⟩ := id ff160
 have ix170 : ¬ (21 : Int32) < 0 ∧ (21 : Int32) < (24 : Int32) := ⟨by decide, by decide⟩
 refine o_go (X158.baloadBytes hx (j := (21 : Int32)) (v := (.int (q_S (21 : Int32)))) Ar170.1 (State.isArrayOf_alike hZ.alike Ar170.2.1) Ar170.2.2 (inb_of sa170 ix170) (ha170 _ ix170.1 ix170.2) (g := (mkF m 103 #[o_A s_d, o_A r1, o_I 22, o_I 24, o_A r4, o_A s_t, o_I 15, o_I w165, o_I 12, .val (.int (o_b64 ((q_S (20 : Int32)) &&& (255 : Int32)))), o_I 20] [(.int 21), (.ref r1)])) rfl rfl (hb hby o_d20_103)) ?_
 refine o_gi (XS.sipush X158.here hx rfl (hb hby o_d20_104)) ?_
 show o_Gs p e below _ T158 m 107 #[o_A s_d, o_A r1, o_I 22, o_I 24, o_A r4, o_A s_t, o_I 15, o_I w165, o_I 12, .val (.int (o_b64 ((q_S (20 : Int32)) &&& (255 : Int32)))), o_I 20] [(.int 255), (.int (q_S (21 : Int32)))]
 refine o_gi (XS.iand X158.here hx rfl (hb hby o_d20_107) rfl) ?_
 refine o_gi (XS.istore X158.here hx rfl (hb hby o_d20_108) rfl (l' := #[o_A s_d, o_A r1, o_I 22, o_I 24, o_A r4, o_A s_t, o_I 15, o_I w165, o_I 12, .val (.int ((q_S (21 : Int32)) &&& (255 : Int32))), o_I 20]) rfl) ?_
 refine o_gi (XS.aload X158.here hx rfl (hb hby o_d20_110) rfl rfl) ?_
 refine o_gi (XS.iload X158.here hx rfl (hb hby o_d20_112) rfl) ?_
 show o_Gs p e below _ T158 m 114 #[o_A s_d, o_A r1, o_I 22, o_I 24, o_A r4, o_A s_t, o_I 15, o_I w165, o_I 12, .val (.int ((q_S (21 : Int32)) &&& (255 : Int32))), o_I 20] [(.int ((q_S (21 : Int32)) &&& (255 : Int32))), (.ref s_t)]
 obtain ⟨cl171, Ar171, sa171, na171, ha171⟩ := id (T_t.ext oo162.2)
 have ix171 : ¬ ((q_S (21 : Int32)) &&& (255 : Int32)) < 0 ∧ ((q_S (21 : Int32)) &&& (255 : Int32)) < (256 : Int32) := (o_ix255 _)
 refine o_go (X158.iaload hx (j := ((q_S (21 : Int32)) &&& (255 : Int32))) (v := (.int (o_b64 ((q_S (21 : Int32)) &&& (255 : Int32))))) Ar171.1 (State.isArrayOf_alike hZ.alike Ar171.2.1) Ar171.2.2 (inb_of sa171 ix171) (ha171 _ ix171.1 ix171.2) (g := (mkF m 114 #[o_A s_d, o_A r1, o_I 22, o_I 24, o_A r4, o_A s_t, o_I 15, o_I w165, o_I 12, .val (.int ((q_S (21 : Int32)) &&& (255 : Int32))), o_I 20] [(.int ((q_S (21 : Int32)) &&& (255 : Int32))), (.ref s_t)])) rfl rfl (hb hby o_d20_114)) ?_
 refine o_gi (XS.dup X158.here hx rfl (hb hby o_d20_115) rfl rfl) ?_
 refine o_gi (XS.istore X158.here hx rfl (hb hby o_d20_116) rfl (l' := #[o_A s_d, o_A r1, o_I 22, o_I 24, o_A r4, o_A s_t, o_I 15, o_I w165, o_I 12, .val (.int (o_b64 ((q_S (21 : Int32)) &&& (255 : Int32)))), o_I 20]) rfl) ?_
 show o_Gs p e below _ T158 m 118 #[o_A s_d, o_A r1, o_I 22, o_I 24, o_A r4, o_A s_t, o_I 15, o_I w165, o_I 12, .val (.int (o_b64 ((q_S (21 : Int32)) &&& (255 : Int32)))), o_I 20] [(.int (o_b64 ((q_S (21 : Int32)) &&& (255 : Int32))))]
 have hd172 : ¬ ((o_b64 ((q_S (21 : Int32)) &&& (255 : Int32))) < (0 : Int32)) := (o_nn hq.2.2.2.1 (by have := o_m255 (q_B 15); have := o_m255 (q_B 15); omega))
 refine o_gi (XS.ifYes X158.here hx rfl (pc0 := 118) (pc' := 214) rfl (hb hby o_d20_118) rfl ((if0 _ _).trans (flt hd172).2.1) (by decide) (by decide)) ?_
 refine o_gi (XS.iload X158.here hx rfl (hb hby o_d20_214) rfl) ?_
 refine o_gi (XS.iload X158.here hx rfl (hb hby o_d20_216) rfl) ?_
 refine o_gi (XS.iload X158.here hx rfl (hb hby o_d20_218) rfl) ?_
 show o_Gs p e below _ T158 m 220 #[o_A s_d, o_A r1, o_I 22, o_I 24, o_A r4, o_A s_t, o_I 15, o_I w165, o_I 12, .val (.int (o_b64 ((q_S (21 : Int32)) &&& (255 : Int32)))), o_I 20] [(.int 12), (.int (o_b64 ((q_S (21 : Int32)) &&& (255 : Int32)))), (.int w165)]
 refine o_gi (XS.ishl X158.here hx rfl (hb hby o_d20_220) rfl) ?_
 show o_Gs p e below _ T158 m 221 #[o_A s_d, o_A r1, o_I 22, o_I 24, o_A r4, o_A s_t, o_I 15, o_I w165, o_I 12, .val (.int (o_b64 ((q_S (21 : Int32)) &&& (255 : Int32)))), o_I 20] [(.int ((o_b64 ((q_S (21 : Int32)) &&& (255 : Int32))) <<< ((12 : Int32) &&& 31))), (.int w165)]
 refine o_gi (XS.ior X158.here hx rfl (hb hby o_d20_221) rfl) ?_
 refine o_gi (XS.istore X158.here hx rfl (hb hby o_d20_222) rfl (l' := #[o_A s_d, o_A r1, o_I 22, o_I 24, o_A r4, o_A s_t, o_I 15, .val (.int (w165 ||| ((o_b64 ((q_S (21 : Int32)) &&& (255 : Int32))) <<< ((12 : Int32) &&& 31)))), o_I 12, .val (.int (o_b64 ((q_S (21 : Int32)) &&& (255 : Int32)))), o_I 20]) rfl) ?_
 obtain ⟨w173, q_w173⟩ : ∃ z : Int32, z = (w165 ||| ((o_b64 ((q_S (21 : Int32)) &&& (255 : Int32))) <<< ((12 : Int32) &&& 31))) := ⟨_, rfl⟩
 show o_Gs p e below _ T158 m 224 #[o_A s_d, o_A r1, o_I 22, o_I 24, o_A r4, o_A s_t, o_I 15, .val (.int (w165 ||| ((o_b64 ((q_S (21 : Int32)) &&& (255 : Int32))) <<< ((12 : Int32) &&& 31)))), o_I 12, .val (.int (o_b64 ((q_S (21 : Int32)) &&& (255 : Int32)))), o_I 20] []
 rw [← q_w173]
 show o_Gs p e below _ T158 m 224 #[o_A s_d, o_A r1, o_I 22, o_I 24, o_A r4, o_A s_t, o_I 15, o_I w173, o_I 12, .val (.int (o_b64 ((q_S (21 : Int32)) &&& (255 : Int32)))), o_I 20] []
 refine o_gi (XS.iinc X158.here hx rfl (hb hby o_d20_224) rfl (l' := #[o_A s_d, o_A r1, o_I 22, o_I 24, o_A r4, o_A s_t, o_I 15, o_I w173, .val (.int ((12 : Int32) + (-6 : Int32))), .val (.int (o_b64 ((q_S (21 : Int32)) &&& (255 : Int32)))), o_I 20]) rfl) ?_
 show o_Gs p e below _ T158 m 227 #[o_A s_d, o_A r1, o_I 22, o_I 24, o_A r4, o_A s_t, o_I 15, o_I w173, .val (.int ((12 : Int32) + (-6 : Int32))), .val (.int (o_b64 ((q_S (21 : Int32)) &&& (255 : Int32)))), o_I 20] []
 rw [show ((12 : Int32) + (-6 : Int32)) = (6 : Int32) from by decide]
 refine o_gi (XS.iload X158.here hx rfl (hb hby o_d20_227) rfl) ?_
 show o_Gs p e below _ T158 m 229 #[o_A s_d, o_A r1, o_I 22, o_I 24, o_A r4, o_A s_t, o_I 15, o_I w173, o_I 6, .val (.int (o_b64 ((q_S (21 : Int32)) &&& (255 : Int32)))), o_I 20] [(.int 6)]
 have hd174 : ¬ ((6 : Int32) < (0 : Int32)) := (by decide)
 refine o_gi (XS.ifYes X158.here hx rfl (pc0 := 229) (pc' := 278) rfl (hb hby o_d20_229) rfl ((if0 _ _).trans (flt hd174).2.1) (by decide) (by decide)) ?_
 refine o_gi (XS.goto X158.here hx rfl (pc0 := 278) (pc' := 28) rfl (hb hby o_d20_278) (by decide) (by decide)) ?_
 refine o_gi (XS.iloadN X158.here hx rfl (hb hby o_d20_28) rfl) ?_
 refine o_gi (XS.iloadN X158.here hx rfl (hb hby o_d20_29) rfl) ?_
 show o_Gs p e below _ T158 m 30 #[o_A s_d, o_A r1, o_I 22, o_I 24, o_A r4, o_A s_t, o_I 15, o_I w173, o_I 6, .val (.int (o_b64 ((q_S (21 : Int32)) &&& (255 : Int32)))), o_I 20] [(.int 24), (.int 22)]
 have hd175 : (22 : Int32) < (24 : Int32) := (by decide)
 refine o_gi (XS.icmpNo X158.here hx rfl (hb hby o_d20_30) rfl (tlt hd175).2.1) ?_
 refine o_gi (XS.iload X158.here hx rfl (hb hby o_d20_33) rfl) ?_
 refine o_gi (XS.bipush X158.here hx rfl (hb hby o_d20_35)) ?_
 show o_Gs p e below _ T158 m 37 #[o_A s_d, o_A r1, o_I 22, o_I 24, o_A r4, o_A s_t, o_I 15, o_I w173, o_I 6, .val (.int (o_b64 ((q_S (21 : Int32)) &&& (255 : Int32)))), o_I 20] [(.int 18), (.int 6)]
 have hd176 : ¬ ((6 : Int32) = (18 : Int32)) := (by decide)
 refine o_gi (XS.icmpYes X158.here hx rfl (pc0 := 37) (pc' := 90) rfl (hb hby o_d20_37) rfl (feq hd176).2 (by decide) (by decide)) ?_
 refine o_gi (XS.iloadN X158.here hx rfl (hb hby o_d20_90) rfl) ?_
 refine o_gi (XS.iloadN X158.here hx rfl (hb hby o_d20_91) rfl) ?_
 show o_Gs p e below _ T158 m 92 #[o_A s_d, o_A r1, o_I 22, o_I 24, o_A r4, o_A s_t, o_I 15, o_I w173, o_I 6, .val (.int (o_b64 ((q_S (21 : Int32)) &&& (255 : Int32)))), o_I 20] [(.int 24), (.int 22)]
 have hd177 : (22 : Int32) < (24 : Int32) := (by decide)
 refine o_gi (XS.icmpYes X158.here hx rfl (pc0 := 92) (pc' := 98) rfl (hb hby o_d20_92) rfl (tlt hd177).1 (by decide) (by decide)) ?_
 refine o_gi (XS.aloadN X158.here hx rfl (hb hby o_d20_98) rfl rfl) ?_
 refine o_gi (XS.iloadN X158.here hx rfl (hb hby o_d20_99) rfl) ?_
 show o_Gs p e below _ T158 m 100 #[o_A s_d, o_A r1, o_I 22, o_I 24, o_A r4, o_A s_t, o_I 15, o_I w173, o_I 6, .val (.int (o_b64 ((q_S (21 : Int32)) &&& (255 : Int32)))), o_I 20] [(.int 22), (.ref r1)]
 refine o_gi (XS.iinc X158.here hx rfl (hb hby o_d20_100) rfl (l' := #[o_A s_d, o_A r1, .val (.int ((22 : Int32) + (1 : Int32))), o_I 24, o_A r4, o_A s_t, o_I 15, o_I w173, o_I 6, .val (.int (o_b64 ((q_S (21 : Int32)) &&& (255 : Int32)))), o_I 20]) rfl) ?_
 show o_Gs p e below _ T158 m 103 #[o_A s_d, o_A r1, .val (.int ((22 : Int32) + (1 : Int32))), o_I 24, o_A r4, o_A s_t, o_I 15, o_I w173, o_I 6, .val (.int (o_b64 ((q_S (21 : Int32)) &&& (255 : Int32)))), o_I 20] [(.int 22), (.ref r1)]
 rw [show ((22 : Int32) + (1 : Int32)) = (23 : Int32) from by decide]
 show o_Gs p e below _ T158 m 103 #[o_A s_d, o_A r1, o_I 23, o_I 24, o_A r4, o_A s_t, o_I 15, o_I w173, o_I 6, .val (.int (o_b64 ((q_S (21 : Int32)) &&& (255 : Int32)))), o_I 20] [(.int 22), (.ref r1)]
 obtain ⟨cl178, Ar178, sa178, na178, ha178⟩ := id ff160
 have ix178 : ¬ (22 : Int32) < 0 ∧ (22 : Int32) < (24 : Int32) := ⟨by decide, by decide⟩
 refine o_go (X158.baloadBytes hx (j := (22 : Int32)) (v := (.int (q_S (22 : Int32)))) Ar178.1 (State.isArrayOf_alike hZ.alike Ar178.2.1) Ar178.2.2 (inb_of sa178 ix178) (ha178 _ ix178.1 ix178.2) (g := (mkF m 103 #[o_A s_d, o_A r1, o_I 23, o_I 24, o_A r4, o_A s_t, o_I 15, o_I w173, o_I 6, .val (.int (o_b64 ((q_S (21 : Int32)) &&& (255 : Int32)))), o_I 20] [(.int 22), (.ref r1)])) rfl rfl (hb hby o_d20_103)) ?_
 refine o_gi (XS.sipush X158.here hx rfl (hb hby o_d20_104)) ?_
 show o_Gs p e below _ T158 m 107 #[o_A s_d, o_A r1, o_I 23, o_I 24, o_A r4, o_A s_t, o_I 15, o_I w173, o_I 6, .val (.int (o_b64 ((q_S (21 : Int32)) &&& (255 : Int32)))), o_I 20] [(.int 255), (.int (q_S (22 : Int32)))]
 refine o_gi (XS.iand X158.here hx rfl (hb hby o_d20_107) rfl) ?_
 refine o_gi (XS.istore X158.here hx rfl (hb hby o_d20_108) rfl (l' := #[o_A s_d, o_A r1, o_I 23, o_I 24, o_A r4, o_A s_t, o_I 15, o_I w173, o_I 6, .val (.int ((q_S (22 : Int32)) &&& (255 : Int32))), o_I 20]) rfl) ?_
 refine o_gi (XS.aload X158.here hx rfl (hb hby o_d20_110) rfl rfl) ?_
 refine o_gi (XS.iload X158.here hx rfl (hb hby o_d20_112) rfl) ?_
 show o_Gs p e below _ T158 m 114 #[o_A s_d, o_A r1, o_I 23, o_I 24, o_A r4, o_A s_t, o_I 15, o_I w173, o_I 6, .val (.int ((q_S (22 : Int32)) &&& (255 : Int32))), o_I 20] [(.int ((q_S (22 : Int32)) &&& (255 : Int32))), (.ref s_t)]
 obtain ⟨cl179, Ar179, sa179, na179, ha179⟩ := id (T_t.ext oo162.2)
 have ix179 : ¬ ((q_S (22 : Int32)) &&& (255 : Int32)) < 0 ∧ ((q_S (22 : Int32)) &&& (255 : Int32)) < (256 : Int32) := (o_ix255 _)
 refine o_go (X158.iaload hx (j := ((q_S (22 : Int32)) &&& (255 : Int32))) (v := (.int (o_b64 ((q_S (22 : Int32)) &&& (255 : Int32))))) Ar179.1 (State.isArrayOf_alike hZ.alike Ar179.2.1) Ar179.2.2 (inb_of sa179 ix179) (ha179 _ ix179.1 ix179.2) (g := (mkF m 114 #[o_A s_d, o_A r1, o_I 23, o_I 24, o_A r4, o_A s_t, o_I 15, o_I w173, o_I 6, .val (.int ((q_S (22 : Int32)) &&& (255 : Int32))), o_I 20] [(.int ((q_S (22 : Int32)) &&& (255 : Int32))), (.ref s_t)])) rfl rfl (hb hby o_d20_114)) ?_
 show o_Gs p e below _ T158 m 115 #[o_A s_d, o_A r1, o_I 23, o_I 24, o_A r4, o_A s_t, o_I 15, o_I w173, o_I 6, .val (.int ((q_S (22 : Int32)) &&& (255 : Int32))), o_I 20] [(.int (o_b64 ((q_S (22 : Int32)) &&& (255 : Int32))))]
 rw [show (o_b64 ((q_S (22 : Int32)) &&& (255 : Int32))) = (-2 : Int32) from o_e61 hq.2.2.2.2.1]
 refine o_gi (XS.dup X158.here hx rfl (hb hby o_d20_115) rfl rfl) ?_
 refine o_gi (XS.istore X158.here hx rfl (hb hby o_d20_116) rfl (l' := #[o_A s_d, o_A r1, o_I 23, o_I 24, o_A r4, o_A s_t, o_I 15, o_I w173, o_I 6, .val (.int (-2 : Int32)), o_I 20]) rfl) ?_
 show o_Gs p e below _ T158 m 118 #[o_A s_d, o_A r1, o_I 23, o_I 24, o_A r4, o_A s_t, o_I 15, o_I w173, o_I 6, .val (.int (-2 : Int32)), o_I 20] [(.int (-2 : Int32))]
 have hd180 : (-2 : Int32) < (0 : Int32) := (by decide)
 refine o_gi (XS.ifNo X158.here hx rfl (hb hby o_d20_118) rfl ((if0 _ _).trans (tlt hd180).2.1)) ?_
 refine o_gi (XS.iload X158.here hx rfl (hb hby o_d20_121) rfl) ?_
 refine o_gi (XS.bipush X158.here hx rfl (hb hby o_d20_123)) ?_
 show o_Gs p e below _ T158 m 125 #[o_A s_d, o_A r1, o_I 23, o_I 24, o_A r4, o_A s_t, o_I 15, o_I w173, o_I 6, .val (.int (-2 : Int32)), o_I 20] [(.int (-2 : Int32)), (.int (-2 : Int32))]
 have hd181 : (-2 : Int32) = (-2 : Int32) := (by decide)
 refine o_gi (XS.icmpNo X158.here hx rfl (hb hby o_d20_125) rfl (teq hd181).2) ?_
 refine o_gi (XS.iload X158.here hx rfl (hb hby o_d20_128) rfl) ?_
 refine o_gi (XS.bipush X158.here hx rfl (hb hby o_d20_130)) ?_
 show o_Gs p e below _ T158 m 132 #[o_A s_d, o_A r1, o_I 23, o_I 24, o_A r4, o_A s_t, o_I 15, o_I w173, o_I 6, .val (.int (-2 : Int32)), o_I 20] [(.int 6), (.int 6)]
 have hd182 : (6 : Int32) = (6 : Int32) := (by decide)
 refine o_gi (XS.icmpNo X158.here hx rfl (hb hby o_d20_132) rfl (teq hd182).2) ?_
 refine o_gi (XS.iloadN X158.here hx rfl (hb hby o_d20_135) rfl) ?_
 refine o_gi (XS.iloadN X158.here hx rfl (hb hby o_d20_136) rfl) ?_
 show o_Gs p e below _ T158 m 137 #[o_A s_d, o_A r1, o_I 23, o_I 24, o_A r4, o_A s_t, o_I 15, o_I w173, o_I 6, .val (.int (-2 : Int32)), o_I 20] [(.int 24), (.int 23)]
 have hd183 : ¬ ((23 : Int32) = (24 : Int32)) := (by decide)
 refine o_gi (XS.icmpNo X158.here hx rfl (hb hby o_d20_137) rfl (feq hd183).1) ?_
 refine o_gi (XS.aloadN X158.here hx rfl (hb hby o_d20_140) rfl rfl) ?_
 refine o_gi (XS.iloadN X158.here hx rfl (hb hby o_d20_141) rfl) ?_
 show o_Gs p e below _ T158 m 142 #[o_A s_d, o_A r1, o_I 23, o_I 24, o_A r4, o_A s_t, o_I 15, o_I w173, o_I 6, .val (.int (-2 : Int32)), o_I 20] [(.int 23), (.ref r1)]
 refine o_gi (XS.iinc X158.here hx rfl (hb hby o_d20_142) rfl (l' := #[o_A s_d, o_A r1, .val (.int ((23 : Int32) + (1 : Int32))), o_I 24, o_A r4, o_A s_t, o_I 15, o_I w173, o_I 6, .val (.int (-2 : Int32)), o_I 20]) rfl) ?_
 show o_Gs p e below _ T158 m 145 #[o_A s_d, o_A r1, .val (.int ((23 : Int32) + (1 : Int32))), o_I 24, o_A r4, o_A s_t, o_I 15, o_I w173, o_I 6, .val (.int (-2 : Int32)), o_I 20] [(.int 23), (.ref r1)]
 rw [show ((23 : Int32) + (1 : Int32)) = (24 : Int32) from by decide]
 show o_Gs p e below _ T158 m 145 #[o_A s_d, o_A r1, o_I 24, o_I 24, o_A r4, o_A s_t, o_I 15, o_I w173, o_I 6, .val (.int (-2 : Int32)), o_I 20] [(.int 23), (.ref r1)]
 obtain ⟨cl184, Ar184, sa184, na184, ha184⟩ := id ff160
 have ix184 : ¬ (23 : Int32) < 0 ∧ (23 : Int32) < (24 : Int32) := ⟨by decide, by decide⟩
 refine o_go (X158.baloadBytes hx (j := (23 : Int32)) (v := (.int (q_S (23 : Int32)))) Ar184.1 (State.isArrayOf_alike hZ.alike Ar184.2.1) Ar184.2.2 (inb_of sa184 ix184) (ha184 _ ix184.1 ix184.2) (g := (mkF m 145 #[o_A s_d, o_A r1, o_I 24, o_I 24, o_A r4, o_A s_t, o_I 15, o_I w173, o_I 6, .val (.int (-2 : Int32)), o_I 20] [(.int 23), (.ref r1)])) rfl rfl (hb hby o_d20_145)) ?_
 show o_Gs p e below _ T158 m 146 #[o_A s_d, o_A r1, o_I 24, o_I 24, o_A r4, o_A s_t, o_I 15, o_I w173, o_I 6, .val (.int (-2 : Int32)), o_I 20] [(.int (q_S (23 : Int32)))]
 rw [show (q_S (23 : Int32)) = (61 : Int32) from hq.2.2.2.2.2]
 refine o_gi (XS.bipush X158.here hx rfl (hb hby o_d20_146)) ?_
 show o_Gs p e below _ T158 m 148 #[o_A s_d, o_A r1, o_I 24, o_I 24, o_A r4, o_A s_t, o_I 15, o_I w173, o_I 6, .val (.int (-2 : Int32)), o_I 20] [(.int 61), (.int 61)]
 have hd185 : (61 : Int32) = (61 : Int32) := (by decide)
 refine o_gi (XS.icmpNo X158.here hx rfl (hb hby o_d20_148) rfl (teq hd185).2) ?_
 refine o_gi (XS.iload X158.here hx rfl (hb hby o_d20_151) rfl) ?_
 refine o_gi (XS.bipush X158.here hx rfl (hb hby o_d20_153)) ?_
 show o_Gs p e below _ T158 m 155 #[o_A s_d, o_A r1, o_I 24, o_I 24, o_A r4, o_A s_t, o_I 15, o_I w173, o_I 6, .val (.int (-2 : Int32)), o_I 20] [(.int 18), (.int 6)]
 have hd186 : ¬ ((6 : Int32) = (18 : Int32)) := (by decide)
 refine o_gi (XS.icmpYes X158.here hx rfl (pc0 := 155) (pc' := 281) rfl (hb hby o_d20_155) rfl (feq hd186).2 (by decide) (by decide)) ?_
 refine o_gi (XS.iload X158.here hx rfl (hb hby o_d20_281) rfl) ?_
 refine o_gi (XS.bipush X158.here hx rfl (hb hby o_d20_283)) ?_
 show o_Gs p e below _ T158 m 285 #[o_A s_d, o_A r1, o_I 24, o_I 24, o_A r4, o_A s_t, o_I 15, o_I w173, o_I 6, .val (.int (-2 : Int32)), o_I 20] [(.int 6), (.int 6)]
 have hd187 : (6 : Int32) = (6 : Int32) := (by decide)
 refine o_gi (XS.icmpNo X158.here hx rfl (hb hby o_d20_285) rfl (teq hd187).2) ?_
 refine o_gi (XS.aload X158.here hx rfl (hb hby o_d20_288) rfl rfl) ?_
 refine o_gi (XS.iload X158.here hx rfl (hb hby o_d20_290) rfl) ?_
 show o_Gs p e below _ T158 m 292 #[o_A s_d, o_A r1, o_I 24, o_I 24, o_A r4, o_A s_t, o_I 15, o_I w173, o_I 6, .val (.int (-2 : Int32)), o_I 20] [(.int 15), (.ref r4)]
 refine o_gi (XS.iinc X158.here hx rfl (hb hby o_d20_292) rfl (l' := #[o_A s_d, o_A r1, o_I 24, o_I 24, o_A r4, o_A s_t, .val (.int ((15 : Int32) + (1 : Int32))), o_I w173, o_I 6, .val (.int (-2 : Int32)), o_I 20]) rfl) ?_
 show o_Gs p e below _ T158 m 295 #[o_A s_d, o_A r1, o_I 24, o_I 24, o_A r4, o_A s_t, .val (.int ((15 : Int32) + (1 : Int32))), o_I w173, o_I 6, .val (.int (-2 : Int32)), o_I 20] [(.int 15), (.ref r4)]
 rw [show ((15 : Int32) + (1 : Int32)) = (16 : Int32) from by decide]
 refine o_gi (XS.iload X158.here hx rfl (hb hby o_d20_295) rfl) ?_
 refine o_gi (XS.bipush X158.here hx rfl (hb hby o_d20_297)) ?_
 show o_Gs p e below _ T158 m 299 #[o_A s_d, o_A r1, o_I 24, o_I 24, o_A r4, o_A s_t, o_I 16, o_I w173, o_I 6, .val (.int (-2 : Int32)), o_I 20] [(.int 16), (.int w173), (.int 15), (.ref r4)]
 refine o_gi (XS.ishr X158.here hx rfl (hb hby o_d20_299) rfl) ?_
 show o_Gs p e below _ T158 m 300 #[o_A s_d, o_A r1, o_I 24, o_I 24, o_A r4, o_A s_t, o_I 16, o_I w173, o_I 6, .val (.int (-2 : Int32)), o_I 20] [(.int (w173 >>> ((16 : Int32) &&& 31))), (.int 15), (.ref r4)]
 refine o_gi (XS.i2b X158.here hx rfl (hb hby o_d20_300) rfl) ?_
 show o_Gs p e below _ T158 m 301 #[o_A s_d, o_A r1, o_I 24, o_I 24, o_A r4, o_A s_t, o_I 16, o_I w173, o_I 6, .val (.int (-2 : Int32)), o_I 20] [(.int ((w173 >>> ((16 : Int32) &&& 31)).toInt8.toInt32)), (.int 15), (.ref r4)]
 obtain ⟨cl188, Ar188, sa188, na188, ha188⟩ := id G158_0
 obtain ⟨T188, h188, X188, e188, W188, st188⟩ := stB X158 hx hZ rfl Ar188 (j := (15 : Int32)) (inb_of sa188 ⟨by decide, by decide⟩) (g := (mkF m 301 #[o_A s_d, o_A r1, o_I 24, o_I 24, o_A r4, o_A s_t, o_I 16, o_I w173, o_I 6, .val (.int (-2 : Int32)), o_I 20] [(.int ((w173 >>> ((16 : Int32) &&& 31)).toInt8.toInt32)), (.int 15), (.ref r4)])) rfl rfl (hb hby o_d20_301)
 have V188 : o_Tb Z h188 r4 .byte (16 : Int32) (fun k => if k = (15 : Int32) then (nar .byte ((w173 >>> ((16 : Int32) &&& 31)).toInt8.toInt32)) else (o_cut (15 : Int32) q_B) k) := o_Tb.set Ar188 sa188 na188 ha188 W188 ⟨by decide, by decide⟩
 have N188 := Fr.snoc X188 N158 g_r4
 refine o_go st188 ?_
 refine o_gi (XS.goto X188.here hx rfl (pc0 := 302) (pc' := 358) rfl (hb hby o_d20_302) (by decide) (by decide)) ?_
 refine o_gi (XS.iloadN X188.here hx rfl (hb hby o_d20_358) rfl) ?_
 refine o_gi (XS.iloadN X188.here hx rfl (hb hby o_d20_359) rfl) ?_
 show o_Gs p e below _ T188 m 360 #[o_A s_d, o_A r1, o_I 24, o_I 24, o_A r4, o_A s_t, o_I 16, o_I w173, o_I 6, .val (.int (-2 : Int32)), o_I 20] [(.int 24), (.int 24)]
 have hd189 : ¬ ((24 : Int32) < (24 : Int32)) := (by decide)
 refine o_gi (XS.icmpYes X188.here hx rfl (pc0 := 360) (pc' := 416) rfl (hb hby o_d20_360) rfl (flt hd189).2.1 (by decide) (by decide)) ?_
 refine o_gi (XS.iload X188.here hx rfl (hb hby o_d20_416) rfl) ?_
 show o_Gs p e below _ T188 m 418 #[o_A s_d, o_A r1, o_I 24, o_I 24, o_A r4, o_A s_t, o_I 16, o_I w173, o_I 6, .val (.int (-2 : Int32)), o_I 20] [(.int 16)]
 exact o_retI X188 hx hlk hret (hb hby o_d20_418) (by decide) (by decide) (by show o_Q20_0 Z r4 q_B h0 n0 _ T188.heap _; rw [e188]; exact ⟨rfl, N188, (((Keep.refl h0 ([r4] : List Addr)).trans K158 (fun x hx => by cases List.mem_singleton.mp hx; exact Or.inl (List.mem_of_getElem? (i := 0) rfl))).wr W188 (Or.inl (List.mem_of_getElem? (i := 0) rfl))), (o_Tb.congr V188 (fun j h1 h2 => by subst q_w165; subst q_w173; exact o_tl0 hq j h1 h2))⟩)
theorem o_d18_0 : decode jdk_2450_method_2_code 0 = .ok (.aload_n 0, 1) := by decide +kernel
theorem o_d18_1 : decode jdk_2450_method_2_code 1 = .ok (.aload_n 1, 1) := by decide +kernel
theorem o_d18_2 : decode jdk_2450_method_2_code 2 = .ok (.iconst 0, 1) := by decide +kernel
theorem o_d18_3 : decode jdk_2450_method_2_code 3 = .ok (.aload_n 1, 1) := by decide +kernel
theorem o_d18_4 : decode jdk_2450_method_2_code 4 = .ok (.arraylength, 1) := by decide +kernel
theorem o_d18_5 : decode jdk_2450_method_2_code 5 = .ok (.invokevirtual 16, 3) := by decide +kernel
theorem o_t94 : (Jvm.Cond.methodLink "java/util/Base64$Decoder" (16 : Nat) ({ cls := "java/util/Base64$Decoder", name := "decodedOutLength", desc := "([BII)I" } : Jvm.MethodName)) ∈ tables_1 := List.mem_of_getElem? (i := 94) rfl
theorem o_pd10 : parseMethodDescriptor "([BII)I" = some ⟨[(.array .byte), .int, .int], some .int⟩ := by decide +kernel
theorem o_t96 : (Jvm.Cond.privateMethod ({ cls := "java/util/Base64$Decoder", name := "decodedOutLength", desc := "([BII)I" } : Jvm.MethodName)) ∈ tables_1 := List.mem_of_getElem? (i := 96) rfl
theorem o_t97 : (Jvm.Cond.selects "java/util/Base64$Decoder" ({ cls := "java/util/Base64$Decoder", name := "decodedOutLength", desc := "([BII)I" } : Jvm.MethodName) ({ cls := "java/util/Base64$Decoder", name := "decodedOutLength", desc := "([BII)I" } : Jvm.MethodName)) ∈ tables_1 := List.mem_of_getElem? (i := 97) rfl
theorem o_t95 : (Jvm.Cond.instanceMethod ({ cls := "java/util/Base64$Decoder", name := "decodedOutLength", desc := "([BII)I" } : Jvm.MethodName)) ∈ tables_1 := List.mem_of_getElem? (i := 95) rfl
theorem o_t98 : (Jvm.Cond.code ({ cls := "java/util/Base64$Decoder", name := "decodedOutLength", desc := "([BII)I" } : Jvm.MethodName) jdk_2450_method_7_code (9 : Nat) (Option.some Jvm.ClassFile.FieldType.int)) ∈ tables_1 := List.mem_of_getElem? (i := 98) rfl
theorem o_d18_8 : decode jdk_2450_method_2_code 8 = .ok (.newarray .byte, 2) := by decide +kernel
theorem o_d18_10 : decode jdk_2450_method_2_code 10 = .ok (.astore_n 2, 1) := by decide +kernel
theorem o_d18_11 : decode jdk_2450_method_2_code 11 = .ok (.aload_n 0, 1) := by decide +kernel
theorem o_d18_12 : decode jdk_2450_method_2_code 12 = .ok (.aload_n 1, 1) := by decide +kernel
theorem o_d18_13 : decode jdk_2450_method_2_code 13 = .ok (.iconst 0, 1) := by decide +kernel
theorem o_d18_14 : decode jdk_2450_method_2_code 14 = .ok (.aload_n 1, 1) := by decide +kernel
theorem o_d18_15 : decode jdk_2450_method_2_code 15 = .ok (.arraylength, 1) := by decide +kernel
theorem o_d18_16 : decode jdk_2450_method_2_code 16 = .ok (.aload_n 2, 1) := by decide +kernel
theorem o_d18_17 : decode jdk_2450_method_2_code 17 = .ok (.invokevirtual 20, 3) := by decide +kernel
theorem o_t106 : (Jvm.Cond.methodLink "java/util/Base64$Decoder" (20 : Nat) ({ cls := "java/util/Base64$Decoder", name := "decode0", desc := "([BII[B)I" } : Jvm.MethodName)) ∈ tables_1 := List.mem_of_getElem? (i := 106) rfl
theorem o_pd11 : parseMethodDescriptor "([BII[B)I" = some ⟨[(.array .byte), .int, .int, (.array .byte)], some .int⟩ := by decide +kernel
theorem o_t108 : (Jvm.Cond.privateMethod ({ cls := "java/util/Base64$Decoder", name := "decode0", desc := "([BII[B)I" } : Jvm.MethodName)) ∈ tables_1 := List.mem_of_getElem? (i := 108) rfl
theorem o_t109 : (Jvm.Cond.selects "java/util/Base64$Decoder" ({ cls := "java/util/Base64$Decoder", name := "decode0", desc := "([BII[B)I" } : Jvm.MethodName) ({ cls := "java/util/Base64$Decoder", name := "decode0", desc := "([BII[B)I" } : Jvm.MethodName)) ∈ tables_1 := List.mem_of_getElem? (i := 109) rfl
theorem o_t107 : (Jvm.Cond.instanceMethod ({ cls := "java/util/Base64$Decoder", name := "decode0", desc := "([BII[B)I" } : Jvm.MethodName)) ∈ tables_1 := List.mem_of_getElem? (i := 107) rfl
theorem o_t110 : (Jvm.Cond.code ({ cls := "java/util/Base64$Decoder", name := "decode0", desc := "([BII[B)I" } : Jvm.MethodName) jdk_2450_method_9_code (11 : Nat) (Option.some Jvm.ClassFile.FieldType.int)) ∈ tables_1 := List.mem_of_getElem? (i := 110) rfl
theorem o_d18_20 : decode jdk_2450_method_2_code 20 = .ok (.istore_n 3, 1) := by decide +kernel
theorem o_d18_21 : decode jdk_2450_method_2_code 21 = .ok (.iload_n 3, 1) := by decide +kernel
theorem o_d18_22 : decode jdk_2450_method_2_code 22 = .ok (.aload_n 2, 1) := by decide +kernel
theorem o_d18_23 : decode jdk_2450_method_2_code 23 = .ok (.arraylength, 1) := by decide +kernel
theorem o_d18_24 : decode jdk_2450_method_2_code 24 = .ok (.if_icmp .eq 9, 3) := by decide +kernel
theorem o_d18_33 : decode jdk_2450_method_2_code 33 = .ok (.aload_n 2, 1) := by decide +kernel
theorem o_d18_34 : decode jdk_2450_method_2_code 34 = .ok (.areturn, 1) := by decide +kernel
def o_Q18_0 (Z : State) (r1 : Addr) (s_d : Addr) (q_B : Int32 → Int32) (q_S : Int32 → Int32) (s_t : Addr) (h0 : Heap) (n0 : Nat) (v : Option Value) (h : Heap) (L : List Loc) : Prop := ∃ b : Addr, v = some (.ref b) ∧ Fr n0 L ∧ Keep h0 h [] ∧ h0.size ≤ b ∧ o_Tb Z h b .byte (16 : Int32) q_B
abbrev o_R18_0 : Room := { frames := 2, cells := 1, slots := 16, locals := 49 }
theorem o_ef18_0 (m : MethodId) (z0 : Addr) (z1 : Addr) : entryFrame m #[(.ref z0), (.ref z1)] 4 = mkF m 0 #[o_A z0, o_A z1, o_u, o_u] [] := by first | (simp [entryFrame, mkF, argsToLocals, Value.category]; done) | rfl
set_option maxRecDepth 65536 in
set_option maxHeartbeats 40000000 in
theorem rm18_0 (l : Launch) (Z : State) (a0 : Array Value) (hw : ∀ d ∈ tables_1, d.before a0 Z = true) (ws : List Jvm.Cond) (r1 : Addr) (s_d : Addr) (q_B : Int32 → Int32) (q_S : Int32 → Int32) (s_t : Addr) (h0 : Heap) (n0 : Nat) (Z0 : n0 ≤ h0.size) (O0 : Old Z n0 h0) (E_d : Exa Z Z.heap s_d "java/util/Base64$Decoder") (F_u : Fld Z Z.heap s_d "java/util/Base64$Decoder" "isURL" "Z" (.int 0)) (F_m : Fld Z Z.heap s_d "java/util/Base64$Decoder" "isMIME" "Z" (.int 0)) (T_t : o_Tb Z Z.heap s_t .int 256 o_b64) (T_s : o_Tb Z h0 r1 .byte (24 : Int32) q_S) (hq : o_Md0 q_B q_S) (S_s_t : Sta Z Z.heap "java/util/Base64$Decoder" "fromBase64" "[I" (.ref s_t)) : o_Met l Z (⟨"java/util/Base64$Decoder", "decode", "([B)[B"⟩ : MethodName) jdk_2450_method_2_code 4 (some (.array .byte)) ws o_R18_0 #[(.ref s_d), (.ref r1)] h0 (o_Q18_0 Z r1 s_d q_B q_S s_t h0 n0) := by
 refine o_met (plainFor_of_name o_pn4) ?_
 intro p e s m below meth c s₁ hx hby hml hown hnm hret hlk hZ e0 X0
 have N0 := Fr.nil n0
 have hml : c.maxLocals = 4 := hml
 have hown : s.vm.findClass "java/util/Base64$Decoder" = some m.cls := hown
 have hret : meth.sig.returnType = (some (.array .byte)) := hret
 have hby : c.code = jdk_2450_method_2_code := hby
 have hnm : meth.name = "decode" := hnm
 rw [o_ef18_0]
 refine o_gi (XS.aloadN X0.here hx rfl (hb hby o_d18_0) rfl rfl) ?_
 refine o_gi (XS.aloadN X0.here hx rfl (hb hby o_d18_1) rfl rfl) ?_
 refine o_gi (XS.iconst X0.here hx rfl (hb hby o_d18_2)) ?_
 refine o_gi (XS.aloadN X0.here hx rfl (hb hby o_d18_3) rfl rfl) ?_
 show o_Gs p e below _ s₁ m 4 #[o_A s_d, o_A r1, o_u, o_u] [(.ref r1), (.int 0), (.ref r1), (.ref s_d)]
 obtain ⟨cl190, Ar190, sa190, na190, ha190⟩ := id T_s
 refine o_go (X0.arraylength hx (by rw [e0]; exact Ar190.1) (State.isArrayOf_alike hZ.alike Ar190.2.1) (g := (mkF m 4 #[o_A s_d, o_A r1, o_u, o_u] [(.ref r1), (.int 0), (.ref r1), (.ref s_d)])) rfl rfl (hb hby o_d18_4)) ?_
 rw [len_of sa190 na190]
 show o_Gs p e below _ s₁ m 5 #[o_A s_d, o_A r1, o_u, o_u] [(.int 24), (.int 0), (.ref r1), (.ref s_d)]
 obtain ⟨_, T191, L191, X191, ⟨rfl, N191q, e191⟩, st191⟩ := o_callPS X0 hx hZ hown (hw _ o_t94) (hw _ o_t96) (hw _ o_t97) (hw _ o_t95) (hw _ o_t50) (hw _ o_t98) (by decide) (b := s_d) (as := [(.ref r1), (.int 0), (.int 24)]) (rm19_0 l Z a0 hw [] r1 s_d q_B q_S s_t h0 n0 Z0 O0 E_d F_u F_m T_t T_s hq S_s_t) e0 (E_d.ext O0.2) o_pd10 rfl (pc := 5) (Ls := #[o_A s_d, o_A r1, o_u, o_u]) (rest := []) (W := 0) (by rw [hml]; rfl) (Nat.le_of_eq rfl) (by decide) (by decide) (hb hby o_d18_5) (by decide) (by decide)
 have N191 := Fr.app N0 N191q
 refine o_go st191 ?_
 show o_Gs p e below _ T191 m 8 #[o_A s_d, o_A r1, o_u, o_u] [(.int 16)]
 obtain ⟨T192, h192, k192, X192, e192, E192, A192, st192⟩ := newP X191 hx hZ (aty := .byte) (hw _ o_t1) e191 (g := (mkF m 8 #[o_A s_d, o_A r1, o_u, o_u] [(.int 16)])) rfl (hb hby o_d18_8) rfl (by decide) (cap := 16) (by decide) (by decide) (by decide) (by decide)
 obtain ⟨b192, q192⟩ : ∃ z, z = h0.size := ⟨_, rfl⟩
 rw [← q192] at A192 st192
 have lt_b192 : h0.size ≤ b192 := Nat.le_of_eq q192.symm
 have ne_r1_b192 : r1 ≠ b192 := Nat.ne_of_lt (Nat.lt_of_lt_of_le T_s.lt lt_b192)
 have g_b192 : n0 ≤ b192 := Nat.le_trans Z0 lt_b192
 have sz_b192 : h0.size ≤ b192 := Nat.le_trans (Keep.refl h0 ([] : List Addr)).1 lt_b192
 have V192 : o_Tb Z h192 b192 .byte (16 : Int32) (fun _ => 0) := o_Tb.new A192 (by decide) rfl
 refine o_go st192 ?_
 refine o_gi (XS.astoreN X192.here hx rfl (hb hby o_d18_10) rfl rfl (l' := #[o_A s_d, o_A r1, o_A b192, o_u]) rfl) ?_
 refine o_gi (XS.aloadN X192.here hx rfl (hb hby o_d18_11) rfl rfl) ?_
 refine o_gi (XS.aloadN X192.here hx rfl (hb hby o_d18_12) rfl rfl) ?_
 refine o_gi (XS.iconst X192.here hx rfl (hb hby o_d18_13)) ?_
 refine o_gi (XS.aloadN X192.here hx rfl (hb hby o_d18_14) rfl rfl) ?_
 show o_Gs p e below _ T192 m 15 #[o_A s_d, o_A r1, o_A b192, o_u] [(.ref r1), (.int 0), (.ref r1), (.ref s_d)]
 obtain ⟨cl193, Ar193, sa193, na193, ha193⟩ := id (T_s.ext E192)
 refine o_go (X192.arraylength hx (by rw [e192]; exact Ar193.1) (State.isArrayOf_alike hZ.alike Ar193.2.1) (g := (mkF m 15 #[o_A s_d, o_A r1, o_A b192, o_u] [(.ref r1), (.int 0), (.ref r1), (.ref s_d)])) rfl rfl (hb hby o_d18_15)) ?_
 rw [len_of sa193 na193]
 refine o_gi (XS.aloadN X192.here hx rfl (hb hby o_d18_16) rfl rfl) ?_
 show o_Gs p e below _ T192 m 17 #[o_A s_d, o_A r1, o_A b192, o_u] [(.ref b192), (.int 24), (.int 0), (.ref r1), (.ref s_d)]
 have oo195 : Old Z n0 h192 := (O0.ext E192)
 obtain ⟨_, T194, L194, X194, ⟨rfl, N194q, K194, G194_0⟩, st194⟩ := o_callPS X192 hx hZ hown (hw _ o_t106) (hw _ o_t108) (hw _ o_t109) (hw _ o_t107) (hw _ o_t50) (hw _ o_t110) (by decide) (b := s_d) (as := [(.ref r1), (.int 0), (.int 24), (.ref b192)]) (rm20_0 l Z a0 hw [] r1 b192 s_d q_B q_S s_t h192 n0 (Nat.le_trans Z0 E192.1) g_b192 (O0.ext E192) E_d F_u F_m T_t (T_s.ext E192) V192 hq ne_r1_b192 S_s_t) e192 (E_d.ext oo195.2) o_pd11 rfl (pc := 17) (Ls := #[o_A s_d, o_A r1, o_A b192, o_u]) (rest := []) (W := 0) (by rw [hml]; rfl) (Nat.le_of_eq rfl) (by decide) (by decide) (hb hby o_d18_17) (by decide) (by decide)
 have N194 := Fr.app N191 N194q
 refine o_go st194 ?_
 refine o_gi (XS.istoreN X194.here hx rfl (hb hby o_d18_20) rfl (l' := #[o_A s_d, o_A r1, o_A b192, o_I 16]) rfl) ?_
 refine o_gi (XS.iloadN X194.here hx rfl (hb hby o_d18_21) rfl) ?_
 refine o_gi (XS.aloadN X194.here hx rfl (hb hby o_d18_22) rfl rfl) ?_
 show o_Gs p e below _ T194 m 23 #[o_A s_d, o_A r1, o_A b192, o_I 16] [(.ref b192), (.int 16)]
 obtain ⟨cl196, Ar196, sa196, na196, ha196⟩ := id G194_0
 refine o_go (X194.arraylength hx Ar196.1 (State.isArrayOf_alike hZ.alike Ar196.2.1) (g := (mkF m 23 #[o_A s_d, o_A r1, o_A b192, o_I 16] [(.ref b192), (.int 16)])) rfl rfl (hb hby o_d18_23)) ?_
 rw [len_of sa196 na196]
 show o_Gs p e below _ T194 m 24 #[o_A s_d, o_A r1, o_A b192, o_I 16] [(.int 16), (.int 16)]
 have hd197 : (16 : Int32) = (16 : Int32) := (by decide)
 refine o_gi (XS.icmpYes X194.here hx rfl (pc0 := 24) (pc' := 33) rfl (hb hby o_d18_24) rfl (teq hd197).1 (by decide) (by decide)) ?_
 refine o_gi (XS.aloadN X194.here hx rfl (hb hby o_d18_33) rfl rfl) ?_
 show o_Gs p e below _ T194 m 34 #[o_A s_d, o_A r1, o_A b192, o_I 16] [(.ref b192)]
 exact o_retR X194 hx hlk hret rfl rfl (hb hby o_d18_34) (by decide) (by decide) (⟨_, rfl, N194, (((Keep.refl h0 ([] : List Addr)).ext E192).trans K194 (fun x hx => by cases List.mem_singleton.mp hx; exact Or.inr sz_b192)), sz_b192, G194_0⟩)
theorem o_d12_0 : decode jdk_2450_method_3_code 0 = .ok (.aload_n 0, 1) := by decide +kernel
theorem o_d12_1 : decode jdk_2450_method_3_code 1 = .ok (.aload_n 1, 1) := by decide +kernel
theorem o_d12_2 : decode jdk_2450_method_3_code 2 = .ok (.getstatic 30, 3) := by decide +kernel
theorem o_t56 : (Jvm.Cond.fieldLink "java/util/Base64$Decoder" (30 : Nat) "sun/nio/cs/ISO_8859_1" "INSTANCE" "Lsun/nio/cs/ISO_8859_1;") ∈ tables_1 := List.mem_of_getElem? (i := 56) rfl
theorem o_d12_5 : decode jdk_2450_method_3_code 5 = .ok (.invokevirtual 36, 3) := by decide +kernel
theorem o_t58 : (Jvm.Cond.methodLink "java/util/Base64$Decoder" (36 : Nat) ({ cls := "java/lang/String", name := "getBytes", desc := "(Ljava/nio/charset/Charset;)[B" } : Jvm.MethodName)) ∈ tables_1 := List.mem_of_getElem? (i := 58) rfl
theorem o_pd12 : parseMethodDescriptor "(Ljava/nio/charset/Charset;)[B" = some ⟨[(.object "java/nio/charset/Charset")], some (.array .byte)⟩ := by decide +kernel
theorem o_t59 : (Jvm.Cond.declares ({ cls := "java/lang/String", name := "getBytes", desc := "(Ljava/nio/charset/Charset;)[B" } : Jvm.MethodName)) ∈ tables_1 := List.mem_of_getElem? (i := 59) rfl
theorem o_t61 : (Jvm.Cond.selects "java/lang/String" ({ cls := "java/lang/String", name := "getBytes", desc := "(Ljava/nio/charset/Charset;)[B" } : Jvm.MethodName) ({ cls := "java/lang/String", name := "getBytes", desc := "(Ljava/nio/charset/Charset;)[B" } : Jvm.MethodName)) ∈ tables_1 := List.mem_of_getElem? (i := 61) rfl
theorem o_t60 : (Jvm.Cond.instanceMethod ({ cls := "java/lang/String", name := "getBytes", desc := "(Ljava/nio/charset/Charset;)[B" } : Jvm.MethodName)) ∈ tables_1 := List.mem_of_getElem? (i := 60) rfl
theorem o_t62 : (Jvm.Cond.code ({ cls := "java/lang/String", name := "getBytes", desc := "(Ljava/nio/charset/Charset;)[B" } : Jvm.MethodName) jdk_42_method_64_code (2 : Nat) (Option.some (Jvm.ClassFile.FieldType.array Jvm.ClassFile.FieldType.byte))) ∈ tables_1 := List.mem_of_getElem? (i := 62) rfl
theorem o_d12_8 : decode jdk_2450_method_3_code 8 = .ok (.invokevirtual 42, 3) := by decide +kernel
theorem o_t89 : (Jvm.Cond.methodLink "java/util/Base64$Decoder" (42 : Nat) ({ cls := "java/util/Base64$Decoder", name := "decode", desc := "([B)[B" } : Jvm.MethodName)) ∈ tables_1 := List.mem_of_getElem? (i := 89) rfl
theorem o_pd13 : parseMethodDescriptor "([B)[B" = some ⟨[(.array .byte)], some (.array .byte)⟩ := by decide +kernel
theorem o_t90 : (Jvm.Cond.declares ({ cls := "java/util/Base64$Decoder", name := "decode", desc := "([B)[B" } : Jvm.MethodName)) ∈ tables_1 := List.mem_of_getElem? (i := 90) rfl
theorem o_t92 : (Jvm.Cond.selects "java/util/Base64$Decoder" ({ cls := "java/util/Base64$Decoder", name := "decode", desc := "([B)[B" } : Jvm.MethodName) ({ cls := "java/util/Base64$Decoder", name := "decode", desc := "([B)[B" } : Jvm.MethodName)) ∈ tables_1 := List.mem_of_getElem? (i := 92) rfl
theorem o_t91 : (Jvm.Cond.instanceMethod ({ cls := "java/util/Base64$Decoder", name := "decode", desc := "([B)[B" } : Jvm.MethodName)) ∈ tables_1 := List.mem_of_getElem? (i := 91) rfl
theorem o_t93 : (Jvm.Cond.code ({ cls := "java/util/Base64$Decoder", name := "decode", desc := "([B)[B" } : Jvm.MethodName) jdk_2450_method_2_code (4 : Nat) (Option.some (Jvm.ClassFile.FieldType.array Jvm.ClassFile.FieldType.byte))) ∈ tables_1 := List.mem_of_getElem? (i := 93) rfl
theorem o_d12_11 : decode jdk_2450_method_3_code 11 = .ok (.areturn, 1) := by decide +kernel
def o_Q12_0 (Z : State) (r1 : Addr) (s_d : Addr) (t : Addr) (q_B : Int32 → Int32) (q_S : Int32 → Int32) (z_cs : Int32) (s_i : Addr) (s_u : Addr) (s_t : Addr) (h0 : Heap) (n0 : Nat) (v : Option Value) (h : Heap) (L : List Loc) : Prop := ∃ b : Addr, v = some (.ref b) ∧ Fr n0 L ∧ Keep h0 h [] ∧ h0.size ≤ b ∧ o_Tb Z h b .byte (16 : Int32) q_B
abbrev o_R12_0 : Room := { frames := 5, cells := 2, slots := 80, locals := 76 }
theorem o_ef12_0 (m : MethodId) (z0 : Addr) (z1 : Addr) : entryFrame m #[(.ref z0), (.ref z1)] 2 = mkF m 0 #[o_A z0, o_A z1] [] := by first | (simp [entryFrame, mkF, argsToLocals, Value.category]; done) | rfl
set_option maxRecDepth 65536 in
set_option maxHeartbeats 40000000 in
theorem rm12_0 (l : Launch) (Z : State) (a0 : Array Value) (hw : ∀ d ∈ tables_1, d.before a0 Z = true) (ws : List Jvm.Cond) (r1 : Addr) (s_d : Addr) (t : Addr) (q_B : Int32 → Int32) (q_S : Int32 → Int32) (z_cs : Int32) (s_i : Addr) (s_u : Addr) (s_t : Addr) (h0 : Heap) (n0 : Nat) (Z0 : n0 ≤ h0.size) (O0 : Old Z n0 h0) (z_CS : ¬ z_cs = 0) (E_d : Exa Z Z.heap s_d "java/util/Base64$Decoder") (F_u : Fld Z Z.heap s_d "java/util/Base64$Decoder" "isURL" "Z" (.int 0)) (F_m : Fld Z Z.heap s_d "java/util/Base64$Decoder" "isMIME" "Z" (.int 0)) (T_t : o_Tb Z Z.heap s_t .int 256 o_b64) (E_s : Exa Z h0 r1 "java/lang/String") (F_v : Fld Z h0 r1 "java/lang/String" "value" "[B" (.ref t)) (F_c : Fld Z h0 r1 "java/lang/String" "coder" "B" (.int 0)) (E_t : Exa Z h0 t "[B") (T_s : o_Tb Z h0 t .byte (24 : Int32) q_S) (hS : o_By q_S) (hq : o_Md0 q_B q_S) (ne_iu : s_i ≠ s_u) (ne_r1_t : r1 ≠ t) (S_z_cs : Sta Z Z.heap "java/lang/String" "COMPACT_STRINGS" "Z" (.int z_cs)) (S_s_i : Sta Z Z.heap "sun/nio/cs/ISO_8859_1" "INSTANCE" "Lsun/nio/cs/ISO_8859_1;" (.ref s_i)) (S_s_u : Sta Z Z.heap "sun/nio/cs/UTF_8" "INSTANCE" "Lsun/nio/cs/UTF_8;" (.ref s_u)) (S_s_t : Sta Z Z.heap "java/util/Base64$Decoder" "fromBase64" "[I" (.ref s_t)) : o_Met l Z (⟨"java/util/Base64$Decoder", "decode", "(Ljava/lang/String;)[B"⟩ : MethodName) jdk_2450_method_3_code 2 (some (.array .byte)) ws o_R12_0 #[(.ref s_d), (.ref r1)] h0 (o_Q12_0 Z r1 s_d t q_B q_S z_cs s_i s_u s_t h0 n0) := by
 refine o_met (plainFor_of_name o_pn4) ?_
 intro p e s m below meth c s₁ hx hby hml hown hnm hret hlk hZ e0 X0
 have N0 := Fr.nil n0
 have hml : c.maxLocals = 2 := hml
 have hown : s.vm.findClass "java/util/Base64$Decoder" = some m.cls := hown
 have hret : meth.sig.returnType = (some (.array .byte)) := hret
 have hby : c.code = jdk_2450_method_3_code := hby
 have hnm : meth.name = "decode" := hnm
 rw [o_ef12_0]
 refine o_gi (XS.aloadN X0.here hx rfl (hb hby o_d12_0) rfl rfl) ?_
 refine o_gi (XS.aloadN X0.here hx rfl (hb hby o_d12_1) rfl rfl) ?_
 show o_Gs p e below _ s₁ m 2 #[o_A s_d, o_A r1] [(.ref r1), (.ref s_d)]
 obtain ⟨T198, X198, e198, st198⟩ := getS2 X0 hx hZ hown (host := "") (Or.inl (hw _ o_t56)) Via.refl e0 (S_s_i.ext O0.2) (g := (mkF m 2 #[o_A s_d, o_A r1] [(.ref r1), (.ref s_d)])) rfl (hb hby o_d12_2)
 refine o_go st198 ?_
 show o_Gs p e below _ T198 m 5 #[o_A s_d, o_A r1] [(.ref s_i), (.ref r1), (.ref s_d)]
 obtain ⟨_, T199, L199, X199, ⟨b199, rfl, N199q, K199, lt_b199, G199_0, G199_1⟩, st199⟩ := o_callV X198 hx hZ hown (hw _ o_t58) (hw _ o_t59) (hw _ o_t61) (hw _ o_t60) (hw _ o_t15) (hw _ o_t62) (by decide) (b := r1) (as := [(.ref s_i)]) (rm13 l Z a0 hw [] r1 t (24 : Int32) q_S z_cs s_u s_i h0 n0 Z0 O0 z_CS E_s F_v F_c E_t T_s hS (by decide) ne_iu ne_r1_t S_z_cs S_s_u S_s_i) e198 E_s o_pd12 rfl (pc := 5) (Ls := #[o_A s_d, o_A r1]) (rest := [(.ref s_d)]) (W := 1) (by rw [hml]; rfl) (Nat.le_of_eq rfl) (by decide) (by decide) (hb hby o_d12_5) (by decide) (by decide)
 have N199 := Fr.app N0 N199q
 have ne_r1_b199 : r1 ≠ b199 := Nat.ne_of_lt (Nat.lt_of_lt_of_le E_s.lt lt_b199)
 have ne_t_b199 : t ≠ b199 := Nat.ne_of_lt (Nat.lt_of_lt_of_le E_t.lt lt_b199)
 have g_b199 : n0 ≤ b199 := Nat.le_trans Z0 lt_b199
 have sz_b199 : h0.size ≤ b199 := Nat.le_trans (Keep.refl h0 ([] : List Addr)).1 lt_b199
 refine o_go st199 ?_
 show o_Gs p e below _ T199 m 8 #[o_A s_d, o_A r1] [(.ref b199), (.ref s_d)]
 have oo201 : Old Z n0 T199.heap := (O0.keep K199 all0)
 obtain ⟨_, T200, L200, X200, ⟨b200, rfl, N200q, K200, lt_b200, G200_0⟩, st200⟩ := o_callV X199 hx hZ hown (hw _ o_t89) (hw _ o_t90) (hw _ o_t92) (hw _ o_t91) (hw _ o_t50) (hw _ o_t93) (by decide) (b := s_d) (as := [(.ref b199)]) (rm18_0 l Z a0 hw [] b199 s_d q_B q_S s_t T199.heap n0 (Nat.le_trans Z0 K199.1) (O0.keep K199 all0) E_d F_u F_m T_t G199_1 hq S_s_t) rfl (E_d.ext oo201.2) o_pd13 rfl (pc := 8) (Ls := #[o_A s_d, o_A r1]) (rest := []) (W := 0) (by rw [hml]; rfl) (Nat.le_of_eq rfl) (by decide) (by decide) (hb hby o_d12_8) (by decide) (by decide)
 have N200 := Fr.app N199 N200q
 have ne_r1_b200 : r1 ≠ b200 := Nat.ne_of_lt (Nat.lt_of_lt_of_le (E_s.keep K199).lt lt_b200)
 have ne_t_b200 : t ≠ b200 := Nat.ne_of_lt (Nat.lt_of_lt_of_le (E_t.keep K199).lt lt_b200)
 have ne_b199_b200 : b199 ≠ b200 := Nat.ne_of_lt (Nat.lt_of_lt_of_le G199_0.lt lt_b200)
 have g_b200 : n0 ≤ b200 := Nat.le_trans (Nat.le_trans Z0 K199.1) lt_b200
 have sz_b200 : h0.size ≤ b200 := Nat.le_trans ((Keep.refl h0 ([] : List Addr)).trans K199 (fun x hx => nomatch hx)).1 lt_b200
 refine o_go st200 ?_
 show o_Gs p e below _ T200 m 11 #[o_A s_d, o_A r1] [(.ref b200)]
 exact o_retR X200 hx hlk hret rfl rfl (hb hby o_d12_11) (by decide) (by decide) (⟨_, rfl, N200, (((Keep.refl h0 ([] : List Addr)).trans K199 (fun x hx => nomatch hx)).trans K200 (fun x hx => nomatch hx)), sz_b200, G200_0⟩)
theorem o_d10_0 : decode prog_9_method_3_code 0 = .ok (.invokestatic 29, 3) := by decide +kernel
theorem o_t45 : (Jvm.Cond.methodLink "com/example/quittance/quittance/dialect/AesCbc" (29 : Nat) ({ cls := "java/util/Base64", name := "getDecoder", desc := "()Ljava/util/Base64$Decoder;" } : Jvm.MethodName)) ∈ tables_1 := List.mem_of_getElem? (i := 45) rfl
theorem o_pd14 : parseMethodDescriptor "()Ljava/util/Base64$Decoder;" = some ⟨[], some (.object "java/util/Base64$Decoder")⟩ := by decide +kernel
theorem o_t46 : (Jvm.Cond.static ({ cls := "java/util/Base64", name := "getDecoder", desc := "()Ljava/util/Base64$Decoder;" } : Jvm.MethodName)) ∈ tables_1 := List.mem_of_getElem? (i := 46) rfl
theorem o_t47 : (Jvm.Cond.initialized "java/util/Base64") ∈ tables_1 := List.mem_of_getElem? (i := 47) rfl
theorem o_t48 : (Jvm.Cond.code ({ cls := "java/util/Base64", name := "getDecoder", desc := "()Ljava/util/Base64$Decoder;" } : Jvm.MethodName) jdk_2448_method_6_code (0 : Nat) (Option.some (Jvm.ClassFile.FieldType.object "java/util/Base64$Decoder"))) ∈ tables_1 := List.mem_of_getElem? (i := 48) rfl
theorem o_d10_3 : decode prog_9_method_3_code 3 = .ok (.aload_n 0, 1) := by decide +kernel
theorem o_d10_4 : decode prog_9_method_3_code 4 = .ok (.invokevirtual 35, 3) := by decide +kernel
theorem o_t51 : (Jvm.Cond.methodLink "com/example/quittance/quittance/dialect/AesCbc" (35 : Nat) ({ cls := "java/util/Base64$Decoder", name := "decode", desc := "(Ljava/lang/String;)[B" } : Jvm.MethodName)) ∈ tables_1 := List.mem_of_getElem? (i := 51) rfl
theorem o_pd15 : parseMethodDescriptor "(Ljava/lang/String;)[B" = some ⟨[(.object "java/lang/String")], some (.array .byte)⟩ := by decide +kernel
theorem o_t52 : (Jvm.Cond.declares ({ cls := "java/util/Base64$Decoder", name := "decode", desc := "(Ljava/lang/String;)[B" } : Jvm.MethodName)) ∈ tables_1 := List.mem_of_getElem? (i := 52) rfl
theorem o_t54 : (Jvm.Cond.selects "java/util/Base64$Decoder" ({ cls := "java/util/Base64$Decoder", name := "decode", desc := "(Ljava/lang/String;)[B" } : Jvm.MethodName) ({ cls := "java/util/Base64$Decoder", name := "decode", desc := "(Ljava/lang/String;)[B" } : Jvm.MethodName)) ∈ tables_1 := List.mem_of_getElem? (i := 54) rfl
theorem o_t53 : (Jvm.Cond.instanceMethod ({ cls := "java/util/Base64$Decoder", name := "decode", desc := "(Ljava/lang/String;)[B" } : Jvm.MethodName)) ∈ tables_1 := List.mem_of_getElem? (i := 53) rfl
theorem o_t55 : (Jvm.Cond.code ({ cls := "java/util/Base64$Decoder", name := "decode", desc := "(Ljava/lang/String;)[B" } : Jvm.MethodName) jdk_2450_method_3_code (2 : Nat) (Option.some (Jvm.ClassFile.FieldType.array Jvm.ClassFile.FieldType.byte))) ∈ tables_1 := List.mem_of_getElem? (i := 55) rfl
theorem o_d10_7 : decode prog_9_method_3_code 7 = .ok (.astore_n 1, 1) := by decide +kernel
theorem o_d10_8 : decode prog_9_method_3_code 8 = .ok (.goto 14, 3) := by decide +kernel
theorem o_d10_22 : decode prog_9_method_3_code 22 = .ok (.aload_n 1, 1) := by decide +kernel
theorem o_d10_23 : decode prog_9_method_3_code 23 = .ok (.arraylength, 1) := by decide +kernel
theorem o_d10_24 : decode prog_9_method_3_code 24 = .ok (.ifCond .eq 11, 3) := by decide +kernel
theorem o_d10_27 : decode prog_9_method_3_code 27 = .ok (.aload_n 1, 1) := by decide +kernel
theorem o_d10_28 : decode prog_9_method_3_code 28 = .ok (.arraylength, 1) := by decide +kernel
theorem o_d10_29 : decode prog_9_method_3_code 29 = .ok (.bipush 16, 2) := by decide +kernel
theorem o_d10_31 : decode prog_9_method_3_code 31 = .ok (.irem, 1) := by decide +kernel
theorem o_d10_32 : decode prog_9_method_3_code 32 = .ok (.ifCond .eq 13, 3) := by decide +kernel
theorem o_d10_45 : decode prog_9_method_3_code 45 = .ok (.aload_n 1, 1) := by decide +kernel
theorem o_pn5 : plainName "com/example/quittance/quittance/dialect/AesCbc" = true := by first | (simp [plainName, overriddenIn]; done) | decide +kernel
theorem o_d10_46 : decode prog_9_method_3_code 46 = .ok (.areturn, 1) := by decide +kernel
def o_Q10_0 (Z : State) (r0 : Addr) (t : Addr) (q_B : Int32 → Int32) (q_S : Int32 → Int32) (z_cs : Int32) (s_d : Addr) (s_i : Addr) (s_u : Addr) (s_t : Addr) (h0 : Heap) (n0 : Nat) (v : Option Value) (h : Heap) (L : List Loc) : Prop := ∃ b : Addr, v = some (.ref b) ∧ Fr n0 L ∧ Keep h0 h [] ∧ h0.size ≤ b ∧ o_Tb Z h b .byte (16 : Int32) q_B
abbrev o_R10_0 : Room := { frames := 6, cells := 2, slots := 80, locals := 89 }
theorem o_ef10_0 (m : MethodId) (z0 : Addr) : entryFrame m #[(.ref z0)] 3 = mkF m 0 #[o_A z0, o_u, o_u] [] := by first | (simp [entryFrame, mkF, argsToLocals, Value.category]; done) | rfl
set_option maxRecDepth 65536 in
set_option maxHeartbeats 40000000 in
theorem rm10_0 (l : Launch) (Z : State) (a0 : Array Value) (hw : ∀ d ∈ tables_1, d.before a0 Z = true) (ws : List Jvm.Cond) (r0 : Addr) (t : Addr) (q_B : Int32 → Int32) (q_S : Int32 → Int32) (z_cs : Int32) (s_d : Addr) (s_i : Addr) (s_u : Addr) (s_t : Addr) (h0 : Heap) (n0 : Nat) (Z0 : n0 ≤ h0.size) (O0 : Old Z n0 h0) (z_CS : ¬ z_cs = 0) (E_d : Exa Z Z.heap s_d "java/util/Base64$Decoder") (F_u : Fld Z Z.heap s_d "java/util/Base64$Decoder" "isURL" "Z" (.int 0)) (F_m : Fld Z Z.heap s_d "java/util/Base64$Decoder" "isMIME" "Z" (.int 0)) (T_t : o_Tb Z Z.heap s_t .int 256 o_b64) (E_s : Exa Z h0 r0 "java/lang/String") (F_v : Fld Z h0 r0 "java/lang/String" "value" "[B" (.ref t)) (F_c : Fld Z h0 r0 "java/lang/String" "coder" "B" (.int 0)) (E_t : Exa Z h0 t "[B") (T_s : o_Tb Z h0 t .byte (24 : Int32) q_S) (hS : o_By q_S) (hq : o_Md0 q_B q_S) (ne_iu : s_i ≠ s_u) (ne_r0_t : r0 ≠ t) (S_z_cs : Sta Z Z.heap "java/lang/String" "COMPACT_STRINGS" "Z" (.int z_cs)) (S_s_d : Sta Z Z.heap "java/util/Base64$Decoder" "RFC4648" "Ljava/util/Base64$Decoder;" (.ref s_d)) (S_s_i : Sta Z Z.heap "sun/nio/cs/ISO_8859_1" "INSTANCE" "Lsun/nio/cs/ISO_8859_1;" (.ref s_i)) (S_s_u : Sta Z Z.heap "sun/nio/cs/UTF_8" "INSTANCE" "Lsun/nio/cs/UTF_8;" (.ref s_u)) (S_s_t : Sta Z Z.heap "java/util/Base64$Decoder" "fromBase64" "[I" (.ref s_t)) : o_MetX l Z [(0, 8, 11, 41)] (⟨"com/example/quittance/quittance/dialect/AesCbc", "blocks", "(Ljava/lang/String;)[B"⟩ : MethodName) prog_9_method_3_code 3 (some (.array .byte)) ws o_R10_0 #[(.ref r0)] h0 (o_Q10_0 Z r0 t q_B q_S z_cs s_d s_i s_u s_t h0 n0) := by
 refine o_metX (plainFor_of_name o_pn5) ?_
 intro p e s m below meth c s₁ hx hby hml hown hnm hret hlk hZ e0 X0
 have N0 := Fr.nil n0
 have hml : c.maxLocals = 3 := hml
 have hown : s.vm.findClass "com/example/quittance/quittance/dialect/AesCbc" = some m.cls := hown
 have hret : meth.sig.returnType = (some (.array .byte)) := hret
 have hby : c.code = prog_9_method_3_code := hby
 have hnm : meth.name = "blocks" := hnm
 rw [o_ef10_0]
 show o_Gs p e below _ s₁ m 0 #[o_A r0, o_u, o_u] []
 obtain ⟨_, T202, L202, X202, ⟨rfl, N202q, e202⟩, st202⟩ := o_callS X0 hx hZ hown (hw _ o_t45) (hw _ o_t46) (hw _ o_t47) (hw _ o_t48) (by decide) (as := []) (rm11 l Z a0 hw [] s_d h0 n0 O0 S_s_d) e0 o_pd14 rfl (pc := 0) (Ls := #[o_A r0, o_u, o_u]) (rest := []) (W := 0) (by rw [hml]; rfl) (Nat.le_of_eq rfl) (by decide) (by decide) (hb hby o_d10_0) (by decide) (by decide)
 have N202 := Fr.app N0 N202q
 refine o_go st202 ?_
 refine o_gi (XS.aloadN X202.here hx rfl (hb hby o_d10_3) rfl rfl) ?_
 show o_Gs p e below _ T202 m 4 #[o_A r0, o_u, o_u] [(.ref r0), (.ref s_d)]
 obtain ⟨_, T203, L203, X203, ⟨b203, rfl, N203q, K203, lt_b203, G203_0⟩, st203⟩ := o_callV X202 hx hZ hown (hw _ o_t51) (hw _ o_t52) (hw _ o_t54) (hw _ o_t53) (hw _ o_t50) (hw _ o_t55) (by decide) (b := s_d) (as := [(.ref r0)]) (rm12_0 l Z a0 hw [] r0 s_d t q_B q_S z_cs s_i s_u s_t h0 n0 Z0 O0 z_CS E_d F_u F_m T_t E_s F_v F_c E_t T_s hS hq ne_iu ne_r0_t S_z_cs S_s_i S_s_u S_s_t) e202 (E_d.ext O0.2) o_pd15 rfl (pc := 4) (Ls := #[o_A r0, o_u, o_u]) (rest := []) (W := 0) (by rw [hml]; rfl) (Nat.le_of_eq rfl) (by decide) (by decide) (hb hby o_d10_4) (by decide) (by decide)
 have N203 := Fr.app N202 N203q
 have ne_r0_b203 : r0 ≠ b203 := Nat.ne_of_lt (Nat.lt_of_lt_of_le E_s.lt lt_b203)
 have ne_t_b203 : t ≠ b203 := Nat.ne_of_lt (Nat.lt_of_lt_of_le E_t.lt lt_b203)
 have g_b203 : n0 ≤ b203 := Nat.le_trans Z0 lt_b203
 have sz_b203 : h0.size ≤ b203 := Nat.le_trans (Keep.refl h0 ([] : List Addr)).1 lt_b203
 refine o_go st203 ?_
 refine o_gi (XS.astoreN X203.here hx rfl (hb hby o_d10_7) rfl rfl (l' := #[o_A r0, o_A b203, o_u]) rfl) ?_
 refine o_gi (XS.goto X203.here hx rfl (pc0 := 8) (pc' := 22) rfl (hb hby o_d10_8) (by decide) (by decide)) ?_
 refine o_gi (XS.aloadN X203.here hx rfl (hb hby o_d10_22) rfl rfl) ?_
 show o_Gs p e below _ T203 m 23 #[o_A r0, o_A b203, o_u] [(.ref b203)]
 obtain ⟨cl204, Ar204, sa204, na204, ha204⟩ := id G203_0
 refine o_go (X203.arraylength hx Ar204.1 (State.isArrayOf_alike hZ.alike Ar204.2.1) (g := (mkF m 23 #[o_A r0, o_A b203, o_u] [(.ref b203)])) rfl rfl (hb hby o_d10_23)) ?_
 rw [len_of sa204 na204]
 show o_Gs p e below _ T203 m 24 #[o_A r0, o_A b203, o_u] [(.int 16)]
 have hd205 : ¬ ((16 : Int32) = (0 : Int32)) := (by decide)
 refine o_gi (XS.ifNo X203.here hx rfl (hb hby o_d10_24) rfl ((if0 _ _).trans (feq hd205).1)) ?_
 refine o_gi (XS.aloadN X203.here hx rfl (hb hby o_d10_27) rfl rfl) ?_
 show o_Gs p e below _ T203 m 28 #[o_A r0, o_A b203, o_u] [(.ref b203)]
 obtain ⟨cl206, Ar206, sa206, na206, ha206⟩ := id G203_0
 refine o_go (X203.arraylength hx Ar206.1 (State.isArrayOf_alike hZ.alike Ar206.2.1) (g := (mkF m 28 #[o_A r0, o_A b203, o_u] [(.ref b203)])) rfl rfl (hb hby o_d10_28)) ?_
 rw [len_of sa206 na206]
 refine o_gi (XS.bipush X203.here hx rfl (hb hby o_d10_29)) ?_
 show o_Gs p e below _ T203 m 31 #[o_A r0, o_A b203, o_u] [(.int 16), (.int 16)]
 refine o_gi (iremM X203 hx rfl (hb hby o_d10_31) rfl (by decide)) ?_
 show o_Gs p e below _ T203 m 32 #[o_A r0, o_A b203, o_u] [(.int ((16 : Int32) % (16 : Int32)))]
 rw [show ((16 : Int32) % (16 : Int32)) = (0 : Int32) from by decide]
 show o_Gs p e below _ T203 m 32 #[o_A r0, o_A b203, o_u] [(.int 0)]
 have hd207 : (0 : Int32) = (0 : Int32) := (by decide)
 refine o_gi (XS.ifYes X203.here hx rfl (pc0 := 32) (pc' := 45) rfl (hb hby o_d10_32) rfl ((if0 _ _).trans (teq hd207).1) (by decide) (by decide)) ?_
 refine o_gi (XS.aloadN X203.here hx rfl (hb hby o_d10_45) rfl rfl) ?_
 show o_Gs p e below _ T203 m 46 #[o_A r0, o_A b203, o_u] [(.ref b203)]
 exact o_retR X203 hx hlk hret rfl rfl (hb hby o_d10_46) (by decide) (by decide) (⟨_, rfl, N203, ((Keep.refl h0 ([] : List Addr)).trans K203 (fun x hx => nomatch hx)), sz_b203, G203_0⟩)
def o_Q19_1 (r1 : Addr) (s_d : Addr) (q_B : Int32 → Int32) (q_S : Int32 → Int32) (s_t : Addr) (h0 : Heap) (n0 : Nat) (v : Option Value) (h : Heap) (L : List Loc) : Prop := v = some (.int 32) ∧ Fr n0 L ∧ h = h0
abbrev o_R19_1 : Room := { frames := 0, cells := 0, slots := 0, locals := 0 }
theorem o_ef19_1 (m : MethodId) (z0 : Addr) (z1 : Addr) : entryFrame m #[(.ref z0), (.ref z1), (.int 0), (.int 44)] 9 = mkF m 0 #[o_A z0, o_A z1, o_I 0, o_I 44, o_u, o_u, o_u, o_u, o_u] [] := by first | (simp [entryFrame, mkF, argsToLocals, Value.category]; done) | rfl
set_option maxRecDepth 65536 in
set_option maxHeartbeats 40000000 in
theorem rm19_1 (l : Launch) (Z : State) (a0 : Array Value) (hw : ∀ d ∈ tables_1, d.before a0 Z = true) (ws : List Jvm.Cond) (r1 : Addr) (s_d : Addr) (q_B : Int32 → Int32) (q_S : Int32 → Int32) (s_t : Addr) (h0 : Heap) (n0 : Nat) (Z0 : n0 ≤ h0.size) (O0 : Old Z n0 h0) (E_d : Exa Z Z.heap s_d "java/util/Base64$Decoder") (F_u : Fld Z Z.heap s_d "java/util/Base64$Decoder" "isURL" "Z" (.int 0)) (F_m : Fld Z Z.heap s_d "java/util/Base64$Decoder" "isMIME" "Z" (.int 0)) (T_t : o_Tb Z Z.heap s_t .int 256 o_b64) (T_s : o_Tb Z h0 r1 .byte (44 : Int32) q_S) (hq : o_Md1 q_B q_S) (S_s_t : Sta Z Z.heap "java/util/Base64$Decoder" "fromBase64" "[I" (.ref s_t)) : o_Met l Z (⟨"java/util/Base64$Decoder", "decodedOutLength", "([BII)I"⟩ : MethodName) jdk_2450_method_7_code 9 (some .int) ws o_R19_1 #[(.ref s_d), (.ref r1), (.int 0), (.int 44)] h0 (o_Q19_1 r1 s_d q_B q_S s_t h0 n0) := by
 refine o_met (plainFor_of_name o_pn4) ?_
 intro p e s m below meth c s₁ hx hby hml hown hnm hret hlk hZ e0 X0
 have N0 := Fr.nil n0
 have hml : c.maxLocals = 9 := hml
 have hown : s.vm.findClass "java/util/Base64$Decoder" = some m.cls := hown
 have hret : meth.sig.returnType = (some .int) := hret
 have hby : c.code = jdk_2450_method_7_code := hby
 have hnm : meth.name = "decodedOutLength" := hnm
 rw [o_ef19_1]
 refine o_gi (XS.aloadN X0.here hx rfl (hb hby o_d19_0) rfl rfl) ?_
 show o_Gs p e below _ s₁ m 1 #[o_A s_d, o_A r1, o_I 0, o_I 44, o_u, o_u, o_u, o_u, o_u] [(.ref s_d)]
 obtain ⟨T208, X208, e208, st208⟩ := getF X0 hx hZ hown (host := "") (Or.inl (hw _ o_t99)) Via.refl e0 (F_u.ext O0.2) (g := (mkF m 1 #[o_A s_d, o_A r1, o_I 0, o_I 44, o_u, o_u, o_u, o_u, o_u] [(.ref s_d)])) rfl rfl (hb hby o_d19_1)
 refine o_go st208 ?_
 show o_Gs p e below _ T208 m 4 #[o_A s_d, o_A r1, o_I 0, o_I 44, o_u, o_u, o_u, o_u, o_u] [(.int 0)]
 have hd209 : (0 : Int32) = (0 : Int32) := (by decide)
 refine o_gi (XS.ifYes X208.here hx rfl (pc0 := 4) (pc' := 13) rfl (hb hby o_d19_4) rfl ((if0 _ _).trans (teq hd209).1) (by decide) (by decide)) ?_
 show o_Gs p e below _ T208 m 13 #[o_A s_d, o_A r1, o_I 0, o_I 44, o_u, o_u, o_u, o_u, o_u] []
 obtain ⟨T210, X210, e210, st210⟩ := getS2 X208 hx hZ hown (host := "") (Or.inl (hw _ o_t101)) Via.refl e208 (S_s_t.ext O0.2) (g := (mkF m 13 #[o_A s_d, o_A r1, o_I 0, o_I 44, o_u, o_u, o_u, o_u, o_u] [])) rfl (hb hby o_d19_13)
 refine o_go st210 ?_
 refine o_gi (XS.astore X210.here hx rfl (hb hby o_d19_16) rfl rfl (l' := #[o_A s_d, o_A r1, o_I 0, o_I 44, o_A s_t, o_u, o_u, o_u, o_u]) rfl) ?_
 refine o_gi (XS.iconst X210.here hx rfl (hb hby o_d19_18)) ?_
 refine o_gi (XS.istore X210.here hx rfl (hb hby o_d19_19) rfl (l' := #[o_A s_d, o_A r1, o_I 0, o_I 44, o_A s_t, o_I 0, o_u, o_u, o_u]) rfl) ?_
 refine o_gi (XS.iloadN X210.here hx rfl (hb hby o_d19_21) rfl) ?_
 refine o_gi (XS.iloadN X210.here hx rfl (hb hby o_d19_22) rfl) ?_
 show o_Gs p e below _ T210 m 23 #[o_A s_d, o_A r1, o_I 0, o_I 44, o_A s_t, o_I 0, o_u, o_u, o_u] [(.int 0), (.int 44)]
 refine o_gi (XS.isub X210.here hx rfl (hb hby o_d19_23) rfl) ?_
 show o_Gs p e below _ T210 m 24 #[o_A s_d, o_A r1, o_I 0, o_I 44, o_A s_t, o_I 0, o_u, o_u, o_u] [(.int ((44 : Int32) - (0 : Int32)))]
 rw [show ((44 : Int32) - (0 : Int32)) = (44 : Int32) from by decide]
 refine o_gi (XS.istore X210.here hx rfl (hb hby o_d19_24) rfl (l' := #[o_A s_d, o_A r1, o_I 0, o_I 44, o_A s_t, o_I 0, o_I 44, o_u, o_u]) rfl) ?_
 refine o_gi (XS.iload X210.here hx rfl (hb hby o_d19_26) rfl) ?_
 show o_Gs p e below _ T210 m 28 #[o_A s_d, o_A r1, o_I 0, o_I 44, o_A s_t, o_I 0, o_I 44, o_u, o_u] [(.int 44)]
 have hd211 : ¬ ((44 : Int32) = (0 : Int32)) := (by decide)
 refine o_gi (XS.ifYes X210.here hx rfl (pc0 := 28) (pc' := 33) rfl (hb hby o_d19_28) rfl ((if0 _ _).trans (feq hd211).2) (by decide) (by decide)) ?_
 refine o_gi (XS.iload X210.here hx rfl (hb hby o_d19_33) rfl) ?_
 refine o_gi (XS.iconst X210.here hx rfl (hb hby o_d19_35)) ?_
 show o_Gs p e below _ T210 m 36 #[o_A s_d, o_A r1, o_I 0, o_I 44, o_A s_t, o_I 0, o_I 44, o_u, o_u] [(.int 2), (.int 44)]
 have hd212 : ¬ ((44 : Int32) < (2 : Int32)) := (by decide)
 refine o_gi (XS.icmpYes X210.here hx rfl (pc0 := 36) (pc' := 66) rfl (hb hby o_d19_36) rfl (flt hd212).2.1 (by decide) (by decide)) ?_
 refine o_gi (XS.aloadN X210.here hx rfl (hb hby o_d19_66) rfl rfl) ?_
 show o_Gs p e below _ T210 m 67 #[o_A s_d, o_A r1, o_I 0, o_I 44, o_A s_t, o_I 0, o_I 44, o_u, o_u] [(.ref s_d)]
 obtain ⟨T213, X213, e213, st213⟩ := getF X210 hx hZ hown (host := "") (Or.inl (hw _ o_t102)) Via.refl e210 (F_m.ext O0.2) (g := (mkF m 67 #[o_A s_d, o_A r1, o_I 0, o_I 44, o_A s_t, o_I 0, o_I 44, o_u, o_u] [(.ref s_d)])) rfl rfl (hb hby o_d19_67)
 refine o_go st213 ?_
 show o_Gs p e below _ T213 m 70 #[o_A s_d, o_A r1, o_I 0, o_I 44, o_A s_t, o_I 0, o_I 44, o_u, o_u] [(.int 0)]
 have hd214 : (0 : Int32) = (0 : Int32) := (by decide)
 refine o_gi (XS.ifYes X213.here hx rfl (pc0 := 70) (pc' := 141) rfl (hb hby o_d19_70) rfl ((if0 _ _).trans (teq hd214).1) (by decide) (by decide)) ?_
 refine o_gi (XS.aloadN X213.here hx rfl (hb hby o_d19_141) rfl rfl) ?_
 refine o_gi (XS.iloadN X213.here hx rfl (hb hby o_d19_142) rfl) ?_
 refine o_gi (XS.iconst X213.here hx rfl (hb hby o_d19_143)) ?_
 show o_Gs p e below _ T213 m 144 #[o_A s_d, o_A r1, o_I 0, o_I 44, o_A s_t, o_I 0, o_I 44, o_u, o_u] [(.int 1), (.int 44), (.ref r1)]
 refine o_gi (XS.isub X213.here hx rfl (hb hby o_d19_144) rfl) ?_
 show o_Gs p e below _ T213 m 145 #[o_A s_d, o_A r1, o_I 0, o_I 44, o_A s_t, o_I 0, o_I 44, o_u, o_u] [(.int ((44 : Int32) - (1 : Int32))), (.ref r1)]
 rw [show ((44 : Int32) - (1 : Int32)) = (43 : Int32) from by decide]
 show o_Gs p e below _ T213 m 145 #[o_A s_d, o_A r1, o_I 0, o_I 44, o_A s_t, o_I 0, o_I 44, o_u, o_u] [(.int 43), (.ref r1)]
 obtain ⟨cl215, Ar215, sa215, na215, ha215⟩ := id T_s
 have ix215 : ¬ (43 : Int32) < 0 ∧ (43 : Int32) < (44 : Int32) := ⟨by decide, by decide⟩
 refine o_go (X213.baloadBytes hx (j := (43 : Int32)) (v := (.int (q_S (43 : Int32)))) (by rw [e213]; exact Ar215.1) (State.isArrayOf_alike hZ.alike Ar215.2.1) Ar215.2.2 (inb_of sa215 ix215) (ha215 _ ix215.1 ix215.2) (g := (mkF m 145 #[o_A s_d, o_A r1, o_I 0, o_I 44, o_A s_t, o_I 0, o_I 44, o_u, o_u] [(.int 43), (.ref r1)])) rfl rfl (hb hby o_d19_145)) ?_
 refine o_gi (XS.bipush X213.here hx rfl (hb hby o_d19_146)) ?_
 show o_Gs p e below _ T213 m 148 #[o_A s_d, o_A r1, o_I 0, o_I 44, o_A s_t, o_I 0, o_I 44, o_u, o_u] [(.int 61), (.int (q_S (43 : Int32)))]
 have hd216 : (q_S (43 : Int32)) = (61 : Int32) := hq.2.2.2.2.2.1
 refine o_gi (XS.icmpNo X213.here hx rfl (hb hby o_d19_148) rfl (teq hd216).2) ?_
 show o_Gs p e below _ T213 m 151 #[o_A s_d, o_A r1, o_I 0, o_I 44, o_A s_t, o_I 0, o_I 44, o_u, o_u] []
 refine o_gi (XS.iinc X213.here hx rfl (hb hby o_d19_151) rfl (l' := #[o_A s_d, o_A r1, o_I 0, o_I 44, o_A s_t, .val (.int ((0 : Int32) + (1 : Int32))), o_I 44, o_u, o_u]) rfl) ?_
 show o_Gs p e below _ T213 m 154 #[o_A s_d, o_A r1, o_I 0, o_I 44, o_A s_t, .val (.int ((0 : Int32) + (1 : Int32))), o_I 44, o_u, o_u] []
 rw [show ((0 : Int32) + (1 : Int32)) = (1 : Int32) from by decide]
 refine o_gi (XS.aloadN X213.here hx rfl (hb hby o_d19_154) rfl rfl) ?_
 refine o_gi (XS.iloadN X213.here hx rfl (hb hby o_d19_155) rfl) ?_
 refine o_gi (XS.iconst X213.here hx rfl (hb hby o_d19_156)) ?_
 show o_Gs p e below _ T213 m 157 #[o_A s_d, o_A r1, o_I 0, o_I 44, o_A s_t, o_I 1, o_I 44, o_u, o_u] [(.int 2), (.int 44), (.ref r1)]
 refine o_gi (XS.isub X213.here hx rfl (hb hby o_d19_157) rfl) ?_
 show o_Gs p e below _ T213 m 158 #[o_A s_d, o_A r1, o_I 0, o_I 44, o_A s_t, o_I 1, o_I 44, o_u, o_u] [(.int ((44 : Int32) - (2 : Int32))), (.ref r1)]
 rw [show ((44 : Int32) - (2 : Int32)) = (42 : Int32) from by decide]
 show o_Gs p e below _ T213 m 158 #[o_A s_d, o_A r1, o_I 0, o_I 44, o_A s_t, o_I 1, o_I 44, o_u, o_u] [(.int 42), (.ref r1)]
 obtain ⟨cl217, Ar217, sa217, na217, ha217⟩ := id T_s
 have ix217 : ¬ (42 : Int32) < 0 ∧ (42 : Int32) < (44 : Int32) := ⟨by decide, by decide⟩
 refine o_go (X213.baloadBytes hx (j := (42 : Int32)) (v := (.int (q_S (42 : Int32)))) (by rw [e213]; exact Ar217.1) (State.isArrayOf_alike hZ.alike Ar217.2.1) Ar217.2.2 (inb_of sa217 ix217) (ha217 _ ix217.1 ix217.2) (g := (mkF m 158 #[o_A s_d, o_A r1, o_I 0, o_I 44, o_A s_t, o_I 1, o_I 44, o_u, o_u] [(.int 42), (.ref r1)])) rfl rfl (hb hby o_d19_158)) ?_
 refine o_gi (XS.bipush X213.here hx rfl (hb hby o_d19_159)) ?_
 show o_Gs p e below _ T213 m 161 #[o_A s_d, o_A r1, o_I 0, o_I 44, o_A s_t, o_I 1, o_I 44, o_u, o_u] [(.int 61), (.int (q_S (42 : Int32)))]
 have hd218 : ¬ ((q_S (42 : Int32)) = (61 : Int32)) := hq.2.2.2.2.2.2
 refine o_gi (XS.icmpYes X213.here hx rfl (pc0 := 161) (pc' := 167) rfl (hb hby o_d19_161) rfl (feq hd218).2 (by decide) (by decide)) ?_
 refine o_gi (XS.iload X213.here hx rfl (hb hby o_d19_167) rfl) ?_
 show o_Gs p e below _ T213 m 169 #[o_A s_d, o_A r1, o_I 0, o_I 44, o_A s_t, o_I 1, o_I 44, o_u, o_u] [(.int 1)]
 have hd219 : ¬ ((1 : Int32) = (0 : Int32)) := (by decide)
 refine o_gi (XS.ifYes X213.here hx rfl (pc0 := 169) (pc' := 187) rfl (hb hby o_d19_169) rfl ((if0 _ _).trans (feq hd219).2) (by decide) (by decide)) ?_
 refine o_gi (XS.iconst X213.here hx rfl (hb hby o_d19_187)) ?_
 refine o_gi (XS.iload X213.here hx rfl (hb hby o_d19_188) rfl) ?_
 show o_Gs p e below _ T213 m 190 #[o_A s_d, o_A r1, o_I 0, o_I 44, o_A s_t, o_I 1, o_I 44, o_u, o_u] [(.int 44), (.int 3)]
 refine o_gi (XS.i2l X213.here hx rfl (hb hby o_d19_190) rfl) ?_
 show o_Gs p e below _ T213 m 191 #[o_A s_d, o_A r1, o_I 0, o_I 44, o_A s_t, o_I 1, o_I 44, o_u, o_u] [(.long ((44 : Int32).toInt64)), (.int 3)]
 refine o_go (X213.ldc2Long hx hown (mvT hZ (hw _ o_t104)) (g := (mkF m 191 #[o_A s_d, o_A r1, o_I 0, o_I 44, o_A s_t, o_I 1, o_I 44, o_u, o_u] [(.long ((44 : Int32).toInt64)), (.int 3)])) rfl (hb hby o_d19_191)) ?_
 show o_Gs p e below _ T213 m 194 #[o_A s_d, o_A r1, o_I 0, o_I 44, o_A s_t, o_I 1, o_I 44, o_u, o_u] [(.long (3 : Int64)), (.long ((44 : Int32).toInt64)), (.int 3)]
 refine o_gi (XS.ladd X213.here hx rfl (hb hby o_d19_194) rfl) ?_
 show o_Gs p e below _ T213 m 195 #[o_A s_d, o_A r1, o_I 0, o_I 44, o_A s_t, o_I 1, o_I 44, o_u, o_u] [(.long (((44 : Int32).toInt64) + (3 : Int64))), (.int 3)]
 refine o_go (X213.ldc2Long hx hown (mvT hZ (hw _ o_t105)) (g := (mkF m 195 #[o_A s_d, o_A r1, o_I 0, o_I 44, o_A s_t, o_I 1, o_I 44, o_u, o_u] [(.long (((44 : Int32).toInt64) + (3 : Int64))), (.int 3)])) rfl (hb hby o_d19_195)) ?_
 show o_Gs p e below _ T213 m 198 #[o_A s_d, o_A r1, o_I 0, o_I 44, o_A s_t, o_I 1, o_I 44, o_u, o_u] [(.long (4 : Int64)), (.long (((44 : Int32).toInt64) + (3 : Int64))), (.int 3)]
 refine o_gi (XS.ldiv X213.here hx rfl (hb hby o_d19_198) rfl (by decide)) ?_
 show o_Gs p e below _ T213 m 199 #[o_A s_d, o_A r1, o_I 0, o_I 44, o_A s_t, o_I 1, o_I 44, o_u, o_u] [(.long ((((44 : Int32).toInt64) + (3 : Int64)) / (4 : Int64))), (.int 3)]
 refine o_gi (XS.l2i X213.here hx rfl (hb hby o_d19_199) rfl) ?_
 show o_Gs p e below _ T213 m 200 #[o_A s_d, o_A r1, o_I 0, o_I 44, o_A s_t, o_I 1, o_I 44, o_u, o_u] [(.int (((((44 : Int32).toInt64) + (3 : Int64)) / (4 : Int64)).toInt32)), (.int 3)]
 refine o_gi (XS.imul X213.here hx rfl (hb hby o_d19_200) rfl) ?_
 refine o_gi (XS.iload X213.here hx rfl (hb hby o_d19_201) rfl) ?_
 show o_Gs p e below _ T213 m 203 #[o_A s_d, o_A r1, o_I 0, o_I 44, o_A s_t, o_I 1, o_I 44, o_u, o_u] [(.int 1), (.int ((3 : Int32) * (((((44 : Int32).toInt64) + (3 : Int64)) / (4 : Int64)).toInt32)))]
 refine o_gi (XS.isub X213.here hx rfl (hb hby o_d19_203) rfl) ?_
 show o_Gs p e below _ T213 m 204 #[o_A s_d, o_A r1, o_I 0, o_I 44, o_A s_t, o_I 1, o_I 44, o_u, o_u] [(.int (((3 : Int32) * (((((44 : Int32).toInt64) + (3 : Int64)) / (4 : Int64)).toInt32)) - (1 : Int32)))]
 rw [show (((3 : Int32) * (((((44 : Int32).toInt64) + (3 : Int64)) / (4 : Int64)).toInt32)) - (1 : Int32)) = (32 : Int32) from by decide]
 show o_Gs p e below _ T213 m 204 #[o_A s_d, o_A r1, o_I 0, o_I 44, o_A s_t, o_I 1, o_I 44, o_u, o_u] [(.int 32)]
 exact o_retI X213 hx hlk hret (hb hby o_d19_204) (by decide) (by decide) ⟨rfl, N0, e213⟩
theorem o_d20_305 : decode jdk_2450_method_9_code 305 = .ok (.iload 8, 2) := by decide +kernel
theorem o_d20_307 : decode jdk_2450_method_9_code 307 = .ok (.ifCond .ne 34, 3) := by decide +kernel
theorem o_d20_310 : decode jdk_2450_method_9_code 310 = .ok (.aload 4, 2) := by decide +kernel
theorem o_d20_312 : decode jdk_2450_method_9_code 312 = .ok (.iload 6, 2) := by decide +kernel
theorem o_d20_314 : decode jdk_2450_method_9_code 314 = .ok (.iinc 6 1, 3) := by decide +kernel
theorem o_d20_317 : decode jdk_2450_method_9_code 317 = .ok (.iload 7, 2) := by decide +kernel
theorem o_d20_319 : decode jdk_2450_method_9_code 319 = .ok (.bipush 16, 2) := by decide +kernel
theorem o_d20_321 : decode jdk_2450_method_9_code 321 = .ok (.ishr, 1) := by decide +kernel
theorem o_d20_322 : decode jdk_2450_method_9_code 322 = .ok (.i2b, 1) := by decide +kernel
theorem o_d20_323 : decode jdk_2450_method_9_code 323 = .ok (.bastore, 1) := by decide +kernel
theorem o_d20_324 : decode jdk_2450_method_9_code 324 = .ok (.aload 4, 2) := by decide +kernel
theorem o_d20_326 : decode jdk_2450_method_9_code 326 = .ok (.iload 6, 2) := by decide +kernel
theorem o_d20_328 : decode jdk_2450_method_9_code 328 = .ok (.iinc 6 1, 3) := by decide +kernel
theorem o_d20_331 : decode jdk_2450_method_9_code 331 = .ok (.iload 7, 2) := by decide +kernel
theorem o_d20_333 : decode jdk_2450_method_9_code 333 = .ok (.bipush 8, 2) := by decide +kernel
theorem o_d20_335 : decode jdk_2450_method_9_code 335 = .ok (.ishr, 1) := by decide +kernel
theorem o_d20_336 : decode jdk_2450_method_9_code 336 = .ok (.i2b, 1) := by decide +kernel
theorem o_d20_337 : decode jdk_2450_method_9_code 337 = .ok (.bastore, 1) := by decide +kernel
theorem o_d20_338 : decode jdk_2450_method_9_code 338 = .ok (.goto 20, 3) := by decide +kernel
def o_Q20_1 (Z : State) (r4 : Addr) (q_B : Int32 → Int32) (h0 : Heap) (n0 : Nat) (v : Option Value) (h : Heap) (L : List Loc) : Prop := v = some (.int 32) ∧ Fr n0 L ∧ Keep h0 h [r4] ∧ o_Tb Z h r4 .byte (32 : Int32) q_B
abbrev o_R20_1 : Room := { frames := 1, cells := 0, slots := 0, locals := 27 }
theorem o_ef20_1 (m : MethodId) (z0 : Addr) (z1 : Addr) (z4 : Addr) : entryFrame m #[(.ref z0), (.ref z1), (.int 0), (.int 44), (.ref z4)] 11 = mkF m 0 #[o_A z0, o_A z1, o_I 0, o_I 44, o_A z4, o_u, o_u, o_u, o_u, o_u, o_u] [] := by first | (simp [entryFrame, mkF, argsToLocals, Value.category]; done) | rfl
set_option maxRecDepth 65536 in
set_option maxHeartbeats 40000000 in
theorem rm20_1 (l : Launch) (Z : State) (a0 : Array Value) (hw : ∀ d ∈ tables_1, d.before a0 Z = true) (ws : List Jvm.Cond) (r1 : Addr) (r4 : Addr) (s_d : Addr) (q_B : Int32 → Int32) (q_S : Int32 → Int32) (s_t : Addr) (h0 : Heap) (n0 : Nat) (Z0 : n0 ≤ h0.size) (g_r4 : n0 ≤ r4) (O0 : Old Z n0 h0) (E_d : Exa Z Z.heap s_d "java/util/Base64$Decoder") (F_u : Fld Z Z.heap s_d "java/util/Base64$Decoder" "isURL" "Z" (.int 0)) (F_m : Fld Z Z.heap s_d "java/util/Base64$Decoder" "isMIME" "Z" (.int 0)) (T_t : o_Tb Z Z.heap s_t .int 256 o_b64) (T_s : o_Tb Z h0 r1 .byte (44 : Int32) q_S) (T_d : o_Tb Z h0 r4 .byte (32 : Int32) (fun _ => 0)) (hq : o_Md1 q_B q_S) (ne_r1_r4 : r1 ≠ r4) (S_s_t : Sta Z Z.heap "java/util/Base64$Decoder" "fromBase64" "[I" (.ref s_t)) : o_Met l Z (⟨"java/util/Base64$Decoder", "decode0", "([BII[B)I"⟩ : MethodName) jdk_2450_method_9_code 11 (some .int) ws o_R20_1 #[(.ref s_d), (.ref r1), (.int 0), (.int 44), (.ref r4)] h0 (o_Q20_1 Z r4 q_B h0 n0) := by
 refine o_met (plainFor_of_name o_pn4) ?_
 intro p e s m below meth c s₁ hx hby hml hown hnm hret hlk hZ e0 X0
 have N0 := Fr.nil n0
 have hml : c.maxLocals = 11 := hml
 have hown : s.vm.findClass "java/util/Base64$Decoder" = some m.cls := hown
 have hret : meth.sig.returnType = (some .int) := hret
 have hby : c.code = jdk_2450_method_9_code := hby
 have hnm : meth.name = "decode0" := hnm
 rw [o_ef20_1]
 refine o_gi (XS.aloadN X0.here hx rfl (hb hby o_d20_0) rfl rfl) ?_
 show o_Gs p e below _ s₁ m 1 #[o_A s_d, o_A r1, o_I 0, o_I 44, o_A r4, o_u, o_u, o_u, o_u, o_u, o_u] [(.ref s_d)]
 obtain ⟨T220, X220, e220, st220⟩ := getF X0 hx hZ hown (host := "") (Or.inl (hw _ o_t99)) Via.refl e0 (F_u.ext O0.2) (g := (mkF m 1 #[o_A s_d, o_A r1, o_I 0, o_I 44, o_A r4, o_u, o_u, o_u, o_u, o_u, o_u] [(.ref s_d)])) rfl rfl (hb hby o_d20_1)
 refine o_go st220 ?_
 show o_Gs p e below _ T220 m 4 #[o_A s_d, o_A r1, o_I 0, o_I 44, o_A r4, o_u, o_u, o_u, o_u, o_u, o_u] [(.int 0)]
 have hd221 : (0 : Int32) = (0 : Int32) := (by decide)
 refine o_gi (XS.ifYes X220.here hx rfl (pc0 := 4) (pc' := 13) rfl (hb hby o_d20_4) rfl ((if0 _ _).trans (teq hd221).1) (by decide) (by decide)) ?_
 show o_Gs p e below _ T220 m 13 #[o_A s_d, o_A r1, o_I 0, o_I 44, o_A r4, o_u, o_u, o_u, o_u, o_u, o_u] []
 obtain ⟨T222, X222, e222, st222⟩ := getS2 X220 hx hZ hown (host := "") (Or.inl (hw _ o_t101)) Via.refl e220 (S_s_t.ext O0.2) (g := (mkF m 13 #[o_A s_d, o_A r1, o_I 0, o_I 44, o_A r4, o_u, o_u, o_u, o_u, o_u, o_u] [])) rfl (hb hby o_d20_13)
 refine o_go st222 ?_
 refine o_gi (XS.astore X222.here hx rfl (hb hby o_d20_16) rfl rfl (l' := #[o_A s_d, o_A r1, o_I 0, o_I 44, o_A r4, o_A s_t, o_u, o_u, o_u, o_u, o_u]) rfl) ?_
 refine o_gi (XS.iconst X222.here hx rfl (hb hby o_d20_18)) ?_
 refine o_gi (XS.istore X222.here hx rfl (hb hby o_d20_19) rfl (l' := #[o_A s_d, o_A r1, o_I 0, o_I 44, o_A r4, o_A s_t, o_I 0, o_u, o_u, o_u, o_u]) rfl) ?_
 refine o_gi (XS.iconst X222.here hx rfl (hb hby o_d20_21)) ?_
 refine o_gi (XS.istore X222.here hx rfl (hb hby o_d20_22) rfl (l' := #[o_A s_d, o_A r1, o_I 0, o_I 44, o_A r4, o_A s_t, o_I 0, o_I 0, o_u, o_u, o_u]) rfl) ?_
 refine o_gi (XS.bipush X222.here hx rfl (hb hby o_d20_24)) ?_
 refine o_gi (XS.istore X222.here hx rfl (hb hby o_d20_26) rfl (l' := #[o_A s_d, o_A r1, o_I 0, o_I 44, o_A r4, o_A s_t, o_I 0, o_I 0, o_I 18, o_u, o_u]) rfl) ?_
 refine o_gi (XS.iloadN X222.here hx rfl (hb hby o_d20_28) rfl) ?_
 refine o_gi (XS.iloadN X222.here hx rfl (hb hby o_d20_29) rfl) ?_
 show o_Gs p e below _ T222 m 30 #[o_A s_d, o_A r1, o_I 0, o_I 44, o_A r4, o_A s_t, o_I 0, o_I 0, o_I 18, o_u, o_u] [(.int 44), (.int 0)]
 have hd223 : (0 : Int32) < (44 : Int32) := (by decide)
 refine o_gi (XS.icmpNo X222.here hx rfl (hb hby o_d20_30) rfl (tlt hd223).2.1) ?_
 refine o_gi (XS.iload X222.here hx rfl (hb hby o_d20_33) rfl) ?_
 refine o_gi (XS.bipush X222.here hx rfl (hb hby o_d20_35)) ?_
 show o_Gs p e below _ T222 m 37 #[o_A s_d, o_A r1, o_I 0, o_I 44, o_A r4, o_A s_t, o_I 0, o_I 0, o_I 18, o_u, o_u] [(.int 18), (.int 18)]
 have hd224 : (18 : Int32) = (18 : Int32) := (by decide)
 refine o_gi (XS.icmpNo X222.here hx rfl (hb hby o_d20_37) rfl (teq hd224).2) ?_
 refine o_gi (XS.iloadN X222.here hx rfl (hb hby o_d20_40) rfl) ?_
 refine o_gi (XS.iloadN X222.here hx rfl (hb hby o_d20_41) rfl) ?_
 refine o_gi (XS.iconst X222.here hx rfl (hb hby o_d20_42)) ?_
 show o_Gs p e below _ T222 m 43 #[o_A s_d, o_A r1, o_I 0, o_I 44, o_A r4, o_A s_t, o_I 0, o_I 0, o_I 18, o_u, o_u] [(.int 4), (.int 44), (.int 0)]
 refine o_gi (XS.isub X222.here hx rfl (hb hby o_d20_43) rfl) ?_
 show o_Gs p e below _ T222 m 44 #[o_A s_d, o_A r1, o_I 0, o_I 44, o_A r4, o_A s_t, o_I 0, o_I 0, o_I 18, o_u, o_u] [(.int ((44 : Int32) - (4 : Int32))), (.int 0)]
 rw [show ((44 : Int32) - (4 : Int32)) = (40 : Int32) from by decide]
 show o_Gs p e below _ T222 m 44 #[o_A s_d, o_A r1, o_I 0, o_I 44, o_A r4, o_A s_t, o_I 0, o_I 0, o_I 18, o_u, o_u] [(.int 40), (.int 0)]
 have hd225 : (0 : Int32) < (40 : Int32) := (by decide)
 refine o_gi (XS.icmpNo X222.here hx rfl (hb hby o_d20_44) rfl (tlt hd225).2.1) ?_
 refine o_gi (XS.aloadN X222.here hx rfl (hb hby o_d20_47) rfl rfl) ?_
 refine o_gi (XS.aloadN X222.here hx rfl (hb hby o_d20_48) rfl rfl) ?_
 refine o_gi (XS.iloadN X222.here hx rfl (hb hby o_d20_49) rfl) ?_
 refine o_gi (XS.iloadN X222.here hx rfl (hb hby o_d20_50) rfl) ?_
 refine o_gi (XS.aload X222.here hx rfl (hb hby o_d20_51) rfl rfl) ?_
 refine o_gi (XS.iload X222.here hx rfl (hb hby o_d20_53) rfl) ?_
 refine o_gi (XS.aloadN X222.here hx rfl (hb hby o_d20_55) rfl rfl) ?_
 show o_Gs p e below _ T222 m 56 #[o_A s_d, o_A r1, o_I 0, o_I 44, o_A r4, o_A s_t, o_I 0, o_I 0, o_I 18, o_u, o_u] [(.ref s_d), (.int 0), (.ref r4), (.int 44), (.int 0), (.ref r1), (.ref s_d)]
 obtain ⟨T226, X226, e226, st226⟩ := getF X222 hx hZ hown (host := "") (Or.inl (hw _ o_t99)) Via.refl e222 (F_u.ext O0.2) (g := (mkF m 56 #[o_A s_d, o_A r1, o_I 0, o_I 44, o_A r4, o_A s_t, o_I 0, o_I 0, o_I 18, o_u, o_u] [(.ref s_d), (.int 0), (.ref r4), (.int 44), (.int 0), (.ref r1), (.ref s_d)])) rfl rfl (hb hby o_d20_56)
 refine o_go st226 ?_
 refine o_gi (XS.aloadN X226.here hx rfl (hb hby o_d20_59) rfl rfl) ?_
 show o_Gs p e below _ T226 m 60 #[o_A s_d, o_A r1, o_I 0, o_I 44, o_A r4, o_A s_t, o_I 0, o_I 0, o_I 18, o_u, o_u] [(.ref s_d), (.int 0), (.int 0), (.ref r4), (.int 44), (.int 0), (.ref r1), (.ref s_d)]
 obtain ⟨T227, X227, e227, st227⟩ := getF X226 hx hZ hown (host := "") (Or.inl (hw _ o_t102)) Via.refl e226 (F_m.ext O0.2) (g := (mkF m 60 #[o_A s_d, o_A r1, o_I 0, o_I 44, o_A r4, o_A s_t, o_I 0, o_I 0, o_I 18, o_u, o_u] [(.ref s_d), (.int 0), (.int 0), (.ref r4), (.int 44), (.int 0), (.ref r1), (.ref s_d)])) rfl rfl (hb hby o_d20_60)
 refine o_go st227 ?_
 show o_Gs p e below _ T227 m 63 #[o_A s_d, o_A r1, o_I 0, o_I 44, o_A r4, o_A s_t, o_I 0, o_I 0, o_I 18, o_u, o_u] [(.int 0), (.int 0), (.int 0), (.ref r4), (.int 44), (.int 0), (.ref r1), (.ref s_d)]
 obtain ⟨_, T228, L228, X228, ⟨rfl, N228q, K228, G228_0⟩, st228⟩ := o_callPS X227 hx hZ hown (hw _ o_t111) (hw _ o_t113) (hw _ o_t114) (hw _ o_t112) (hw _ o_t50) (hw _ o_t115) (by decide) (b := s_d) (as := [(.ref r1), (.int 0), (.int 44), (.ref r4), (.int 0), (.int 0), (.int 0)]) (rm21 l Z a0 hw [] r1 r4 s_d (44 : Int32) (32 : Int32) (30 : Int32) 10 q_B q_S s_t h0 n0 Z0 g_r4 O0 T_t T_s T_d ne_r1_r4 (by decide) (o_blk1 hq) S_s_t) e227 (E_d.ext O0.2) o_pd9 rfl (pc := 63) (Ls := #[o_A s_d, o_A r1, o_I 0, o_I 44, o_A r4, o_A s_t, o_I 0, o_I 0, o_I 18, o_u, o_u]) (rest := []) (W := 0) (by rw [hml]; rfl) (Nat.le_of_eq rfl) (by decide) (by decide) (hb hby o_d20_63) (by decide) (by decide)
 have N228 := Fr.app N0 N228q
 refine o_go st228 ?_
 refine o_gi (XS.istore X228.here hx rfl (hb hby o_d20_66) rfl (l' := #[o_A s_d, o_A r1, o_I 0, o_I 44, o_A r4, o_A s_t, o_I 0, o_I 0, o_I 18, o_I 30, o_u]) rfl) ?_
 refine o_gi (XS.iload X228.here hx rfl (hb hby o_d20_68) rfl) ?_
 refine o_gi (XS.iconst X228.here hx rfl (hb hby o_d20_70)) ?_
 show o_Gs p e below _ T228 m 71 #[o_A s_d, o_A r1, o_I 0, o_I 44, o_A r4, o_A s_t, o_I 0, o_I 0, o_I 18, o_I 30, o_u] [(.int 2), (.int 30)]
 refine o_gi (XS.iadd X228.here hx rfl (hb hby o_d20_71) rfl) ?_
 show o_Gs p e below _ T228 m 72 #[o_A s_d, o_A r1, o_I 0, o_I 44, o_A r4, o_A s_t, o_I 0, o_I 0, o_I 18, o_I 30, o_u] [(.int ((30 : Int32) + (2 : Int32)))]
 rw [show ((30 : Int32) + (2 : Int32)) = (32 : Int32) from by decide]
 refine o_gi (XS.iconst X228.here hx rfl (hb hby o_d20_72)) ?_
 show o_Gs p e below _ T228 m 73 #[o_A s_d, o_A r1, o_I 0, o_I 44, o_A r4, o_A s_t, o_I 0, o_I 0, o_I 18, o_I 30, o_u] [(.int 3), (.int 32)]
 refine o_gi (XS.idiv X228.here hx rfl (hb hby o_d20_73) rfl (by decide)) ?_
 show o_Gs p e below _ T228 m 74 #[o_A s_d, o_A r1, o_I 0, o_I 44, o_A r4, o_A s_t, o_I 0, o_I 0, o_I 18, o_I 30, o_u] [(.int ((32 : Int32) / (3 : Int32)))]
 rw [show ((32 : Int32) / (3 : Int32)) = (10 : Int32) from by decide]
 refine o_gi (XS.iconst X228.here hx rfl (hb hby o_d20_74)) ?_
 show o_Gs p e below _ T228 m 75 #[o_A s_d, o_A r1, o_I 0, o_I 44, o_A r4, o_A s_t, o_I 0, o_I 0, o_I 18, o_I 30, o_u] [(.int 4), (.int 10)]
 refine o_gi (XS.imul X228.here hx rfl (hb hby o_d20_75) rfl) ?_
 show o_Gs p e below _ T228 m 76 #[o_A s_d, o_A r1, o_I 0, o_I 44, o_A r4, o_A s_t, o_I 0, o_I 0, o_I 18, o_I 30, o_u] [(.int ((10 : Int32) * (4 : Int32)))]
 rw [show ((10 : Int32) * (4 : Int32)) = (40 : Int32) from by decide]
 refine o_gi (XS.istore X228.here hx rfl (hb hby o_d20_76) rfl (l' := #[o_A s_d, o_A r1, o_I 0, o_I 44, o_A r4, o_A s_t, o_I 0, o_I 0, o_I 18, o_I 30, o_I 40]) rfl) ?_
 refine o_gi (XS.iloadN X228.here hx rfl (hb hby o_d20_78) rfl) ?_
 refine o_gi (XS.iload X228.here hx rfl (hb hby o_d20_79) rfl) ?_
 show o_Gs p e below _ T228 m 81 #[o_A s_d, o_A r1, o_I 0, o_I 44, o_A r4, o_A s_t, o_I 0, o_I 0, o_I 18, o_I 30, o_I 40] [(.int 40), (.int 0)]
 refine o_gi (XS.iadd X228.here hx rfl (hb hby o_d20_81) rfl) ?_
 show o_Gs p e below _ T228 m 82 #[o_A s_d, o_A r1, o_I 0, o_I 44, o_A r4, o_A s_t, o_I 0, o_I 0, o_I 18, o_I 30, o_I 40] [(.int ((0 : Int32) + (40 : Int32)))]
 rw [show ((0 : Int32) + (40 : Int32)) = (40 : Int32) from by decide]
 refine o_gi (XS.istoreN X228.here hx rfl (hb hby o_d20_82) rfl (l' := #[o_A s_d, o_A r1, o_I 40, o_I 44, o_A r4, o_A s_t, o_I 0, o_I 0, o_I 18, o_I 30, o_I 40]) rfl) ?_
 refine o_gi (XS.iload X228.here hx rfl (hb hby o_d20_83) rfl) ?_
 refine o_gi (XS.iload X228.here hx rfl (hb hby o_d20_85) rfl) ?_
 show o_Gs p e below _ T228 m 87 #[o_A s_d, o_A r1, o_I 40, o_I 44, o_A r4, o_A s_t, o_I 0, o_I 0, o_I 18, o_I 30, o_I 40] [(.int 30), (.int 0)]
 refine o_gi (XS.iadd X228.here hx rfl (hb hby o_d20_87) rfl) ?_
 show o_Gs p e below _ T228 m 88 #[o_A s_d, o_A r1, o_I 40, o_I 44, o_A r4, o_A s_t, o_I 0, o_I 0, o_I 18, o_I 30, o_I 40] [(.int ((0 : Int32) + (30 : Int32)))]
 rw [show ((0 : Int32) + (30 : Int32)) = (30 : Int32) from by decide]
 refine o_gi (XS.istore X228.here hx rfl (hb hby o_d20_88) rfl (l' := #[o_A s_d, o_A r1, o_I 40, o_I 44, o_A r4, o_A s_t, o_I 30, o_I 0, o_I 18, o_I 30, o_I 40]) rfl) ?_
 refine o_gi (XS.iloadN X228.here hx rfl (hb hby o_d20_90) rfl) ?_
 refine o_gi (XS.iloadN X228.here hx rfl (hb hby o_d20_91) rfl) ?_
 show o_Gs p e below _ T228 m 92 #[o_A s_d, o_A r1, o_I 40, o_I 44, o_A r4, o_A s_t, o_I 30, o_I 0, o_I 18, o_I 30, o_I 40] [(.int 44), (.int 40)]
 have hd229 : (40 : Int32) < (44 : Int32) := (by decide)
 refine o_gi (XS.icmpYes X228.here hx rfl (pc0 := 92) (pc' := 98) rfl (hb hby o_d20_92) rfl (tlt hd229).1 (by decide) (by decide)) ?_
 refine o_gi (XS.aloadN X228.here hx rfl (hb hby o_d20_98) rfl rfl) ?_
 refine o_gi (XS.iloadN X228.here hx rfl (hb hby o_d20_99) rfl) ?_
 show o_Gs p e below _ T228 m 100 #[o_A s_d, o_A r1, o_I 40, o_I 44, o_A r4, o_A s_t, o_I 30, o_I 0, o_I 18, o_I 30, o_I 40] [(.int 40), (.ref r1)]
 refine o_gi (XS.iinc X228.here hx rfl (hb hby o_d20_100) rfl (l' := #[o_A s_d, o_A r1, .val (.int ((40 : Int32) + (1 : Int32))), o_I 44, o_A r4, o_A s_t, o_I 30, o_I 0, o_I 18, o_I 30, o_I 40]) rfl) ?_
 show o_Gs p e below _ T228 m 103 #[o_A s_d, o_A r1, .val (.int ((40 : Int32) + (1 : Int32))), o_I 44, o_A r4, o_A s_t, o_I 30, o_I 0, o_I 18, o_I 30, o_I 40] [(.int 40), (.ref r1)]
 rw [show ((40 : Int32) + (1 : Int32)) = (41 : Int32) from by decide]
 show o_Gs p e below _ T228 m 103 #[o_A s_d, o_A r1, o_I 41, o_I 44, o_A r4, o_A s_t, o_I 30, o_I 0, o_I 18, o_I 30, o_I 40] [(.int 40), (.ref r1)]
 have ff230 : o_Tb Z T228.heap r1 .byte (44 : Int32) q_S := (T_s.keep K228 (fun z => ne_r1_r4 (List.mem_singleton.mp z)))
 obtain ⟨cl231, Ar231, sa231, na231, ha231⟩ := id ff230
 have ix231 : ¬ (40 : Int32) < 0 ∧ (40 : Int32) < (44 : Int32) := ⟨by decide, by decide⟩
 refine o_go (X228.baloadBytes hx (j := (40 : Int32)) (v := (.int (q_S (40 : Int32)))) Ar231.1 (State.isArrayOf_alike hZ.alike Ar231.2.1) Ar231.2.2 (inb_of sa231 ix231) (ha231 _ ix231.1 ix231.2) (g := (mkF m 103 #[o_A s_d, o_A r1, o_I 41, o_I 44, o_A r4, o_A s_t, o_I 30, o_I 0, o_I 18, o_I 30, o_I 40] [(.int 40), (.ref r1)])) rfl rfl (hb hby o_d20_103)) ?_
 refine o_gi (XS.sipush X228.here hx rfl (hb hby o_d20_104)) ?_
 show o_Gs p e below _ T228 m 107 #[o_A s_d, o_A r1, o_I 41, o_I 44, o_A r4, o_A s_t, o_I 30, o_I 0, o_I 18, o_I 30, o_I 40] [(.int 255), (.int (q_S (40 : Int32)))]
 refine o_gi (XS.iand X228.here hx rfl (hb hby o_d20_107) rfl) ?_
 refine o_gi (XS.istore X228.here hx rfl (hb hby o_d20_108) rfl (l' := #[o_A s_d, o_A r1, o_I 41, o_I 44, o_A r4, o_A s_t, o_I 30, o_I 0, o_I 18, .val (.int ((q_S (40 : Int32)) &&& (255 : Int32))), o_I 40]) rfl) ?_
 refine o_gi (XS.aload X228.here hx rfl (hb hby o_d20_110) rfl rfl) ?_
 refine o_gi (XS.iload X228.here hx rfl (hb hby o_d20_112) rfl) ?_
 show o_Gs p e below _ T228 m 114 #[o_A s_d, o_A r1, o_I 41, o_I 44, o_A r4, o_A s_t, o_I 30, o_I 0, o_I 18, .val (.int ((q_S (40 : Int32)) &&& (255 : Int32))), o_I 40] [(.int ((q_S (40 : Int32)) &&& (255 : Int32))), (.ref s_t)]
 have oo232 : Old Z n0 T228.heap := (O0.keep K228 (allS g_r4 all0))
 obtain ⟨cl233, Ar233, sa233, na233, ha233⟩ := id (T_t.ext oo232.2)
 have ix233 : ¬ ((q_S (40 : Int32)) &&& (255 : Int32)) < 0 ∧ ((q_S (40 : Int32)) &&& (255 : Int32)) < (256 : Int32) := (o_ix255 _)
 refine o_go (X228.iaload hx (j := ((q_S (40 : Int32)) &&& (255 : Int32))) (v := (.int (o_b64 ((q_S (40 : Int32)) &&& (255 : Int32))))) Ar233.1 (State.isArrayOf_alike hZ.alike Ar233.2.1) Ar233.2.2 (inb_of sa233 ix233) (ha233 _ ix233.1 ix233.2) (g := (mkF m 114 #[o_A s_d, o_A r1, o_I 41, o_I 44, o_A r4, o_A s_t, o_I 30, o_I 0, o_I 18, .val (.int ((q_S (40 : Int32)) &&& (255 : Int32))), o_I 40] [(.int ((q_S (40 : Int32)) &&& (255 : Int32))), (.ref s_t)])) rfl rfl (hb hby o_d20_114)) ?_
 refine o_gi (XS.dup X228.here hx rfl (hb hby o_d20_115) rfl rfl) ?_
 refine o_gi (XS.istore X228.here hx rfl (hb hby o_d20_116) rfl (l' := #[o_A s_d, o_A r1, o_I 41, o_I 44, o_A r4, o_A s_t, o_I 30, o_I 0, o_I 18, .val (.int (o_b64 ((q_S (40 : Int32)) &&& (255 : Int32)))), o_I 40]) rfl) ?_
 show o_Gs p e below _ T228 m 118 #[o_A s_d, o_A r1, o_I 41, o_I 44, o_A r4, o_A s_t, o_I 30, o_I 0, o_I 18, .val (.int (o_b64 ((q_S (40 : Int32)) &&& (255 : Int32)))), o_I 40] [(.int (o_b64 ((q_S (40 : Int32)) &&& (255 : Int32))))]
 have hd234 : ¬ ((o_b64 ((q_S (40 : Int32)) &&& (255 : Int32))) < (0 : Int32)) := (o_nn hq.2.2.1 (by have := o_m255 (q_B 30); have := o_m255 (q_B 31); omega))
 refine o_gi (XS.ifYes X228.here hx rfl (pc0 := 118) (pc' := 214) rfl (hb hby o_d20_118) rfl ((if0 _ _).trans (flt hd234).2.1) (by decide) (by decide)) ?_
 refine o_gi (XS.iload X228.here hx rfl (hb hby o_d20_214) rfl) ?_
 refine o_gi (XS.iload X228.here hx rfl (hb hby o_d20_216) rfl) ?_
 refine o_gi (XS.iload X228.here hx rfl (hb hby o_d20_218) rfl) ?_
 show o_Gs p e below _ T228 m 220 #[o_A s_d, o_A r1, o_I 41, o_I 44, o_A r4, o_A s_t, o_I 30, o_I 0, o_I 18, .val (.int (o_b64 ((q_S (40 : Int32)) &&& (255 : Int32)))), o_I 40] [(.int 18), (.int (o_b64 ((q_S (40 : Int32)) &&& (255 : Int32)))), (.int 0)]
 refine o_gi (XS.ishl X228.here hx rfl (hb hby o_d20_220) rfl) ?_
 show o_Gs p e below _ T228 m 221 #[o_A s_d, o_A r1, o_I 41, o_I 44, o_A r4, o_A s_t, o_I 30, o_I 0, o_I 18, .val (.int (o_b64 ((q_S (40 : Int32)) &&& (255 : Int32)))), o_I 40] [(.int ((o_b64 ((q_S (40 : Int32)) &&& (255 : Int32))) <<< ((18 : Int32) &&& 31))), (.int 0)]
 refine o_gi (XS.ior X228.here hx rfl (hb hby o_d20_221) rfl) ?_
 refine o_gi (XS.istore X228.here hx rfl (hb hby o_d20_222) rfl (l' := #[o_A s_d, o_A r1, o_I 41, o_I 44, o_A r4, o_A s_t, o_I 30, .val (.int ((0 : Int32) ||| ((o_b64 ((q_S (40 : Int32)) &&& (255 : Int32))) <<< ((18 : Int32) &&& 31)))), o_I 18, .val (.int (o_b64 ((q_S (40 : Int32)) &&& (255 : Int32)))), o_I 40]) rfl) ?_
 obtain ⟨w235, q_w235⟩ : ∃ z : Int32, z = ((0 : Int32) ||| ((o_b64 ((q_S (40 : Int32)) &&& (255 : Int32))) <<< ((18 : Int32) &&& 31))) := ⟨_, rfl⟩
 show o_Gs p e below _ T228 m 224 #[o_A s_d, o_A r1, o_I 41, o_I 44, o_A r4, o_A s_t, o_I 30, .val (.int ((0 : Int32) ||| ((o_b64 ((q_S (40 : Int32)) &&& (255 : Int32))) <<< ((18 : Int32) &&& 31)))), o_I 18, .val (.int (o_b64 ((q_S (40 : Int32)) &&& (255 : Int32)))), o_I 40] []
 rw [← q_w235]
 show o_Gs p e below _ T228 m 224 #[o_A s_d, o_A r1, o_I 41, o_I 44, o_A r4, o_A s_t, o_I 30, o_I w235, o_I 18, .val (.int (o_b64 ((q_S (40 : Int32)) &&& (255 : Int32)))), o_I 40] []
 refine o_gi (XS.iinc X228.here hx rfl (hb hby o_d20_224) rfl (l' := #[o_A s_d, o_A r1, o_I 41, o_I 44, o_A r4, o_A s_t, o_I 30, o_I w235, .val (.int ((18 : Int32) + (-6 : Int32))), .val (.int (o_b64 ((q_S (40 : Int32)) &&& (255 : Int32)))), o_I 40]) rfl) ?_
 show o_Gs p e below _ T228 m 227 #[o_A s_d, o_A r1, o_I 41, o_I 44, o_A r4, o_A s_t, o_I 30, o_I w235, .val (.int ((18 : Int32) + (-6 : Int32))), .val (.int (o_b64 ((q_S (40 : Int32)) &&& (255 : Int32)))), o_I 40] []
 rw [show ((18 : Int32) + (-6 : Int32)) = (12 : Int32) from by decide]
 refine o_gi (XS.iload X228.here hx rfl (hb hby o_d20_227) rfl) ?_
 show o_Gs p e below _ T228 m 229 #[o_A s_d, o_A r1, o_I 41, o_I 44, o_A r4, o_A s_t, o_I 30, o_I w235, o_I 12, .val (.int (o_b64 ((q_S (40 : Int32)) &&& (255 : Int32)))), o_I 40] [(.int 12)]
 have hd236 : ¬ ((12 : Int32) < (0 : Int32)) := (by decide)
 refine o_gi (XS.ifYes X228.here hx rfl (pc0 := 229) (pc' := 278) rfl (hb hby o_d20_229) rfl ((if0 _ _).trans (flt hd236).2.1) (by decide) (by decide)) ?_
 refine o_gi (XS.goto X228.here hx rfl (pc0 := 278) (pc' := 28) rfl (hb hby o_d20_278) (by decide) (by decide)) ?_
 refine o_gi (XS.iloadN X228.here hx rfl (hb hby o_d20_28) rfl) ?_
 refine o_gi (XS.iloadN X228.here hx rfl (hb hby o_d20_29) rfl) ?_
 show o_Gs p e below _ T228 m 30 #[o_A s_d, o_A r1, o_I 41, o_I 44, o_A r4, o_A s_t, o_I 30, o_I w235, o_I 12, .val (.int (o_b64 ((q_S (40 : Int32)) &&& (255 : Int32)))), o_I 40] [(.int 44), (.int 41)]
 have hd237 : (41 : Int32) < (44 : Int32) := (by decide)
 refine o_gi (XS.icmpNo X228.here hx rfl (hb hby o_d20_30) rfl (tlt hd237).2.1) ?_
 refine o_gi (XS.iload X228.here hx rfl (hb hby o_d20_33) rfl) ?_
 refine o_gi (XS.bipush X228.here hx rfl (hb hby o_d20_35)) ?_
 show o_Gs p e below _ T228 m 37 #[o_A s_d, o_A r1, o_I 41, o_I 44, o_A r4, o_A s_t, o_I 30, o_I w235, o_I 12, .val (.int (o_b64 ((q_S (40 : Int32)) &&& (255 : Int32)))), o_I 40] [(.int 18), (.int 12)]
 have hd238 : ¬ ((12 : Int32) = (18 : Int32)) := (by decide)
 refine o_gi (XS.icmpYes X228.here hx rfl (pc0 := 37) (pc' := 90) rfl (hb hby o_d20_37) rfl (feq hd238).2 (by decide) (by decide)) ?_
 refine o_gi (XS.iloadN X228.here hx rfl (hb hby o_d20_90) rfl) ?_
 refine o_gi (XS.iloadN X228.here hx rfl (hb hby o_d20_91) rfl) ?_
 show o_Gs p e below _ T228 m 92 #[o_A s_d, o_A r1, o_I 41, o_I 44, o_A r4, o_A s_t, o_I 30, o_I w235, o_I 12, .val (.int (o_b64 ((q_S (40 : Int32)) &&& (255 : Int32)))), o_I 40] [(.int 44), (.int 41)]
 have hd239 : (41 : Int32) < (44 : Int32) := (by decide)
 refine o_gi (XS.icmpYes X228.here hx rfl (pc0 := 92) (pc' := 98) rfl (hb hby o_d20_92) rfl (tlt hd239).1 (by decide) (by decide)) ?_
 refine o_gi (XS.aloadN X228.here hx rfl (hb hby o_d20_98) rfl rfl) ?_
 refine o_gi (XS.iloadN X228.here hx rfl (hb hby o_d20_99) rfl) ?_
 show o_Gs p e below _ T228 m 100 #[o_A s_d, o_A r1, o_I 41, o_I 44, o_A r4, o_A s_t, o_I 30, o_I w235, o_I 12, .val (.int (o_b64 ((q_S (40 : Int32)) &&& (255 : Int32)))), o_I 40] [(.int 41), (.ref r1)]
 refine o_gi (XS.iinc X228.here hx rfl (hb hby o_d20_100) rfl (l' := #[o_A s_d, o_A r1, .val (.int ((41 : Int32) + (1 : Int32))), o_I 44, o_A r4, o_A s_t, o_I 30, o_I w235, o_I 12, .val (.int (o_b64 ((q_S (40 : Int32)) &&& (255 : Int32)))), o_I 40]) rfl) ?_
 show o_Gs p e below _ T228 m 103 #[o_A s_d, o_A r1, .val (.int ((41 : Int32) + (1 : Int32))), o_I 44, o_A r4, o_A s_t, o_I 30, o_I w235, o_I 12, .val (.int (o_b64 ((q_S (40 : Int32)) &&& (255 : Int32)))), o_I 40] [(.int 41), (.ref r1)]
 rw [show ((41 : Int32) + (1 : Int32)) = (42 : Int32) from by decide]
 show o_Gs p e below _ T228 m 103 #[o_A s_d, o_A r1, o_I 42, o_I 44, o_A r4, o_A s_t, o_I 30, o_I w235, o_I 12, .val (.int (o_b64 ((q_S (40 : Int32)) &&& (255 : Int32)))), o_I 40] [(.int 41), (.ref r1)]
 obtain ⟨cl240, Ar240, sa240, na240, ha240⟩ := id ff230
 have ix240 : ¬ (41 : Int32) < 0 ∧ (41 : Int32) < (44 : Int32) := ⟨by decide, by decide⟩
 refine o_go (X228.baloadBytes hx (j := (41 : Int32)) (v := (.int (q_S (41 : Int32)))) Ar240.1 (State.isArrayOf_alike hZ.alike Ar240.2.1) Ar240.2.2 (inb_of sa240 ix240) (ha240 _ ix240.1 ix240.2) (g := (mkF m 103 #[o_A s_d, o_A r1, o_I 42, o_I 44, o_A r4, o_A s_t, o_I 30, o_I w235, o_I 12, .val (.int (o_b64 ((q_S (40 : Int32)) &&& (255 : Int32)))), o_I 40] [(.int 41), (.ref r1)])) rfl rfl (hb hby o_d20_103)) ?_
 refine o_gi (XS.sipush X228.here hx rfl (hb hby o_d20_104)) ?_
 show o_Gs p e below _ T228 m 107 #[o_A s_d, o_A r1, o_I 42, o_I 44, o_A r4, o_A s_t, o_I 30, o_I w235, o_I 12, .val (.int (o_b64 ((q_S (40 : Int32)) &&& (255 : Int32)))), o_I 40] [(.int 255), (.int (q_S (41 : Int32)))]
 refine o_gi (XS.iand X228.here hx rfl (hb hby o_d20_107) rfl) ?_
 refine o_gi (XS.istore X228.here hx rfl (hb hby o_d20_108) rfl (l' := #[o_A s_d, o_A r1, o_I 42, o_I 44, o_A r4, o_A s_t, o_I 30, o_I w235, o_I 12, .val (.int ((q_S (41 : Int32)) &&& (255 : Int32))), o_I 40]) rfl) ?_
 refine o_gi (XS.aload X228.here hx rfl (hb hby o_d20_110) rfl rfl) ?_
 refine o_gi (XS.iload X228.here hx rfl (hb hby o_d20_112) rfl) ?_
 show o_Gs p e below _ T228 m 114 #[o_A s_d, o_A r1, o_I 42, o_I 44, o_A r4, o_A s_t, o_I 30, o_I w235, o_I 12, .val (.int ((q_S (41 : Int32)) &&& (255 : Int32))), o_I 40] [(.int ((q_S (41 : Int32)) &&& (255 : Int32))), (.ref s_t)]
 obtain ⟨cl241, Ar241, sa241, na241, ha241⟩ := id (T_t.ext oo232.2)
 have ix241 : ¬ ((q_S (41 : Int32)) &&& (255 : Int32)) < 0 ∧ ((q_S (41 : Int32)) &&& (255 : Int32)) < (256 : Int32) := (o_ix255 _)
 refine o_go (X228.iaload hx (j := ((q_S (41 : Int32)) &&& (255 : Int32))) (v := (.int (o_b64 ((q_S (41 : Int32)) &&& (255 : Int32))))) Ar241.1 (State.isArrayOf_alike hZ.alike Ar241.2.1) Ar241.2.2 (inb_of sa241 ix241) (ha241 _ ix241.1 ix241.2) (g := (mkF m 114 #[o_A s_d, o_A r1, o_I 42, o_I 44, o_A r4, o_A s_t, o_I 30, o_I w235, o_I 12, .val (.int ((q_S (41 : Int32)) &&& (255 : Int32))), o_I 40] [(.int ((q_S (41 : Int32)) &&& (255 : Int32))), (.ref s_t)])) rfl rfl (hb hby o_d20_114)) ?_
 refine o_gi (XS.dup X228.here hx rfl (hb hby o_d20_115) rfl rfl) ?_
 refine o_gi (XS.istore X228.here hx rfl (hb hby o_d20_116) rfl (l' := #[o_A s_d, o_A r1, o_I 42, o_I 44, o_A r4, o_A s_t, o_I 30, o_I w235, o_I 12, .val (.int (o_b64 ((q_S (41 : Int32)) &&& (255 : Int32)))), o_I 40]) rfl) ?_
 show o_Gs p e below _ T228 m 118 #[o_A s_d, o_A r1, o_I 42, o_I 44, o_A r4, o_A s_t, o_I 30, o_I w235, o_I 12, .val (.int (o_b64 ((q_S (41 : Int32)) &&& (255 : Int32)))), o_I 40] [(.int (o_b64 ((q_S (41 : Int32)) &&& (255 : Int32))))]
 have hd242 : ¬ ((o_b64 ((q_S (41 : Int32)) &&& (255 : Int32))) < (0 : Int32)) := (o_nn hq.2.2.2.1 (by have := o_m255 (q_B 30); have := o_m255 (q_B 31); omega))
 refine o_gi (XS.ifYes X228.here hx rfl (pc0 := 118) (pc' := 214) rfl (hb hby o_d20_118) rfl ((if0 _ _).trans (flt hd242).2.1) (by decide) (by decide)) ?_
 refine o_gi (XS.iload X228.here hx rfl (hb hby o_d20_214) rfl) ?_
 refine o_gi (XS.iload X228.here hx rfl (hb hby o_d20_216) rfl) ?_
 refine o_gi (XS.iload X228.here hx rfl (hb hby o_d20_218) rfl) ?_
 show o_Gs p e below _ T228 m 220 #[o_A s_d, o_A r1, o_I 42, o_I 44, o_A r4, o_A s_t, o_I 30, o_I w235, o_I 12, .val (.int (o_b64 ((q_S (41 : Int32)) &&& (255 : Int32)))), o_I 40] [(.int 12), (.int (o_b64 ((q_S (41 : Int32)) &&& (255 : Int32)))), (.int w235)]
 refine o_gi (XS.ishl X228.here hx rfl (hb hby o_d20_220) rfl) ?_
 show o_Gs p e below _ T228 m 221 #[o_A s_d, o_A r1, o_I 42, o_I 44, o_A r4, o_A s_t, o_I 30, o_I w235, o_I 12, .val (.int (o_b64 ((q_S (41 : Int32)) &&& (255 : Int32)))), o_I 40] [(.int ((o_b64 ((q_S (41 : Int32)) &&& (255 : Int32))) <<< ((12 : Int32) &&& 31))), (.int w235)]
 refine o_gi (XS.ior X228.here hx rfl (hb hby o_d20_221) rfl) ?_
 refine o_gi (XS.istore X228.here hx rfl (hb hby o_d20_222) rfl (l' := #[o_A s_d, o_A r1, o_I 42, o_I 44, o_A r4, o_A s_t, o_I 30, .val (.int (w235 ||| ((o_b64 ((q_S (41 : Int32)) &&& (255 : Int32))) <<< ((12 : Int32) &&& 31)))), o_I 12, .val (.int (o_b64 ((q_S (41 : Int32)) &&& (255 : Int32)))), o_I 40]) rfl) ?_
 obtain ⟨w243, q_w243⟩ : ∃ z : Int32, z = (w235 ||| ((o_b64 ((q_S (41 : Int32)) &&& (255 : Int32))) <<< ((12 : Int32) &&& 31))) := ⟨_, rfl⟩
 show o_Gs p e below _ T228 m 224 #[o_A s_d, o_A r1, o_I 42, o_I 44, o_A r4, o_A s_t, o_I 30, .val (.int (w235 ||| ((o_b64 ((q_S (41 : Int32)) &&& (255 : Int32))) <<< ((12 : Int32) &&& 31)))), o_I 12, .val (.int (o_b64 ((q_S (41 : Int32)) &&& (255 : Int32)))), o_I 40] []
 rw [← q_w243]
 show o_Gs p e below _ T228 m 224 #[o_A s_d, o_A r1, o_I 42, o_I 44, o_A r4, o_A s_t, o_I 30, o_I w243, o_I 12, .val (.int (o_b64 ((q_S (41 : Int32)) &&& (255 : Int32)))), o_I 40] []
 refine o_gi (XS.iinc X228.here hx rfl (hb hby o_d20_224) rfl (l' := #[o_A s_d, o_A r1, o_I 42, o_I 44, o_A r4, o_A s_t, o_I 30, o_I w243, .val (.int ((12 : Int32) + (-6 : Int32))), .val (.int (o_b64 ((q_S (41 : Int32)) &&& (255 : Int32)))), o_I 40]) rfl) ?_
 show o_Gs p e below _ T228 m 227 #[o_A s_d, o_A r1, o_I 42, o_I 44, o_A r4, o_A s_t, o_I 30, o_I w243, .val (.int ((12 : Int32) + (-6 : Int32))), .val (.int (o_b64 ((q_S (41 : Int32)) &&& (255 : Int32)))), o_I 40] []
 rw [show ((12 : Int32) + (-6 : Int32)) = (6 : Int32) from by decide]
 refine o_gi (XS.iload X228.here hx rfl (hb hby o_d20_227) rfl) ?_
 show o_Gs p e below _ T228 m 229 #[o_A s_d, o_A r1, o_I 42, o_I 44, o_A r4, o_A s_t, o_I 30, o_I w243, o_I 6, .val (.int (o_b64 ((q_S (41 : Int32)) &&& (255 : Int32)))), o_I 40] [(.int 6)]
 have hd244 : ¬ ((6 : Int32) < (0 : Int32)) := (by decide)
 refine o_gi (XS.ifYes X228.here hx rfl (pc0 := 229) (pc' := 278) rfl (hb hby o_d20_229) rfl ((if0 _ _).trans (flt hd244).2.1) (by decide) (by decide)) ?_
 refine o_gi (XS.goto X228.here hx rfl (pc0 := 278) (pc' := 28) rfl (hb hby o_d20_278) (by decide) (by decide)) ?_
 refine o_gi (XS.iloadN X228.here hx rfl (hb hby o_d20_28) rfl) ?_
 refine o_gi (XS.iloadN X228.here hx rfl (hb hby o_d20_29) rfl) ?_
 show o_Gs p e below _ T228 m 30 #[o_A s_d, o_A r1, o_I 42, o_I 44, o_A r4, o_A s_t, o_I 30, o_I w243, o_I 6, .val (.int (o_b64 ((q_S (41 : Int32)) &&& (255 : Int32)))), o_I 40] [(.int 44), (.int 42)]
 have hd245 : (42 : Int32) < (44 : Int32) := (by decide)
 refine o_gi (XS.icmpNo X228.here hx rfl (hb hby o_d20_30) rfl (tlt hd245).2.1) ?_
 refine o_gi (XS.iload X228.here hx rfl (hb hby o_d20_33) rfl) ?_
 refine o_gi (XS.bipush X228.here hx rfl (hb hby o_d20_35)) ?_
 show o_Gs p e below _ T228 m 37 #[o_A s_d, o_A r1, o_I 42, o_I 44, o_A r4, o_A s_t, o_I 30, o_I w243, o_I 6, .val (.int (o_b64 ((q_S (41 : Int32)) &&& (255 : Int32)))), o_I 40] [(.int 18), (.int 6)]
 have hd246 : ¬ ((6 : Int32) = (18 : Int32)) := (by decide)
 refine o_gi (XS.icmpYes X228.here hx rfl (pc0 := 37) (pc' := 90) rfl (hb hby o_d20_37) rfl (feq hd246).2 (by decide) (by decide)) ?_
 refine o_gi (XS.iloadN X228.here hx rfl (hb hby o_d20_90) rfl) ?_
 refine o_gi (XS.iloadN X228.here hx rfl (hb hby o_d20_91) rfl) ?_
 show o_Gs p e below _ T228 m 92 #[o_A s_d, o_A r1, o_I 42, o_I 44, o_A r4, o_A s_t, o_I 30, o_I w243, o_I 6, .val (.int (o_b64 ((q_S (41 : Int32)) &&& (255 : Int32)))), o_I 40] [(.int 44), (.int 42)]
 have hd247 : (42 : Int32) < (44 : Int32) := (by decide)
 refine o_gi (XS.icmpYes X228.here hx rfl (pc0 := 92) (pc' := 98) rfl (hb hby o_d20_92) rfl (tlt hd247).1 (by decide) (by decide)) ?_
 refine o_gi (XS.aloadN X228.here hx rfl (hb hby o_d20_98) rfl rfl) ?_
 refine o_gi (XS.iloadN X228.here hx rfl (hb hby o_d20_99) rfl) ?_
 show o_Gs p e below _ T228 m 100 #[o_A s_d, o_A r1, o_I 42, o_I 44, o_A r4, o_A s_t, o_I 30, o_I w243, o_I 6, .val (.int (o_b64 ((q_S (41 : Int32)) &&& (255 : Int32)))), o_I 40] [(.int 42), (.ref r1)]
 refine o_gi (XS.iinc X228.here hx rfl (hb hby o_d20_100) rfl (l' := #[o_A s_d, o_A r1, .val (.int ((42 : Int32) + (1 : Int32))), o_I 44, o_A r4, o_A s_t, o_I 30, o_I w243, o_I 6, .val (.int (o_b64 ((q_S (41 : Int32)) &&& (255 : Int32)))), o_I 40]) rfl) ?_
 show o_Gs p e below _ T228 m 103 #[o_A s_d, o_A r1, .val (.int ((42 : Int32) + (1 : Int32))), o_I 44, o_A r4, o_A s_t, o_I 30, o_I w243, o_I 6, .val (.int (o_b64 ((q_S (41 : Int32)) &&& (255 : Int32)))), o_I 40] [(.int 42), (.ref r1)]
 rw [show ((42 : Int32) + (1 : Int32)) = (43 : Int32) from by decide]
 show o_Gs p e below _ T228 m 103 #[o_A s_d, o_A r1, o_I 43, o_I 44, o_A r4, o_A s_t, o_I 30, o_I w243, o_I 6, .val (.int (o_b64 ((q_S (41 : Int32)) &&& (255 : Int32)))), o_I 40] [(.int 42), (.ref r1)]
 obtain ⟨cl248, Ar248, sa248, na248, ha248⟩ := id ff230
 have ix248 : ¬ (42 : Int32) < 0 ∧ (42 : Int32) < (44 : Int32) := ⟨by decide, by decide⟩
 refine o_go (X228.baloadBytes hx (j := (42 : Int32)) (v := (.int (q_S (42 : Int32)))) Ar248.1 (State.isArrayOf_alike hZ.alike Ar248.2.1) Ar248.2.2 (inb_of sa248 ix248) (ha248 _ ix248.1 ix248.2) (g := (mkF m 103 #[o_A s_d, o_A r1, o_I 43, o_I 44, o_A r4, o_A s_t, o_I 30, o_I w243, o_I 6, .val (.int (o_b64 ((q_S (41 : Int32)) &&& (255 : Int32)))), o_I 40] [(.int 42), (.ref r1)])) rfl rfl (hb hby o_d20_103)) ?_
 refine o_gi (XS.sipush X228.here hx rfl (hb hby o_d20_104)) ?_
 show o_Gs p e below _ T228 m 107 #[o_A s_d, o_A r1, o_I 43, o_I 44, o_A r4, o_A s_t, o_I 30, o_I w243, o_I 6, .val (.int (o_b64 ((q_S (41 : Int32)) &&& (255 : Int32)))), o_I 40] [(.int 255), (.int (q_S (42 : Int32)))]
 refine o_gi (XS.iand X228.here hx rfl (hb hby o_d20_107) rfl) ?_
 refine o_gi (XS.istore X228.here hx rfl (hb hby o_d20_108) rfl (l' := #[o_A s_d, o_A r1, o_I 43, o_I 44, o_A r4, o_A s_t, o_I 30, o_I w243, o_I 6, .val (.int ((q_S (42 : Int32)) &&& (255 : Int32))), o_I 40]) rfl) ?_
 refine o_gi (XS.aload X228.here hx rfl (hb hby o_d20_110) rfl rfl) ?_
 refine o_gi (XS.iload X228.here hx rfl (hb hby o_d20_112) rfl) ?_
 show o_Gs p e below _ T228 m 114 #[o_A s_d, o_A r1, o_I 43, o_I 44, o_A r4, o_A s_t, o_I 30, o_I w243, o_I 6, .val (.int ((q_S (42 : Int32)) &&& (255 : Int32))), o_I 40] [(.int ((q_S (42 : Int32)) &&& (255 : Int32))), (.ref s_t)]
 obtain ⟨cl249, Ar249, sa249, na249, ha249⟩ := id (T_t.ext oo232.2)
 have ix249 : ¬ ((q_S (42 : Int32)) &&& (255 : Int32)) < 0 ∧ ((q_S (42 : Int32)) &&& (255 : Int32)) < (256 : Int32) := (o_ix255 _)
 refine o_go (X228.iaload hx (j := ((q_S (42 : Int32)) &&& (255 : Int32))) (v := (.int (o_b64 ((q_S (42 : Int32)) &&& (255 : Int32))))) Ar249.1 (State.isArrayOf_alike hZ.alike Ar249.2.1) Ar249.2.2 (inb_of sa249 ix249) (ha249 _ ix249.1 ix249.2) (g := (mkF m 114 #[o_A s_d, o_A r1, o_I 43, o_I 44, o_A r4, o_A s_t, o_I 30, o_I w243, o_I 6, .val (.int ((q_S (42 : Int32)) &&& (255 : Int32))), o_I 40] [(.int ((q_S (42 : Int32)) &&& (255 : Int32))), (.ref s_t)])) rfl rfl (hb hby o_d20_114)) ?_
 refine o_gi (XS.dup X228.here hx rfl (hb hby o_d20_115) rfl rfl) ?_
 refine o_gi (XS.istore X228.here hx rfl (hb hby o_d20_116) rfl (l' := #[o_A s_d, o_A r1, o_I 43, o_I 44, o_A r4, o_A s_t, o_I 30, o_I w243, o_I 6, .val (.int (o_b64 ((q_S (42 : Int32)) &&& (255 : Int32)))), o_I 40]) rfl) ?_
 show o_Gs p e below _ T228 m 118 #[o_A s_d, o_A r1, o_I 43, o_I 44, o_A r4, o_A s_t, o_I 30, o_I w243, o_I 6, .val (.int (o_b64 ((q_S (42 : Int32)) &&& (255 : Int32)))), o_I 40] [(.int (o_b64 ((q_S (42 : Int32)) &&& (255 : Int32))))]
 have hd250 : ¬ ((o_b64 ((q_S (42 : Int32)) &&& (255 : Int32))) < (0 : Int32)) := (o_nn hq.2.2.2.2.1 (by have := o_m255 (q_B 30); have := o_m255 (q_B 31); omega))
 refine o_gi (XS.ifYes X228.here hx rfl (pc0 := 118) (pc' := 214) rfl (hb hby o_d20_118) rfl ((if0 _ _).trans (flt hd250).2.1) (by decide) (by decide)) ?_
 refine o_gi (XS.iload X228.here hx rfl (hb hby o_d20_214) rfl) ?_
 refine o_gi (XS.iload X228.here hx rfl (hb hby o_d20_216) rfl) ?_
 refine o_gi (XS.iload X228.here hx rfl (hb hby o_d20_218) rfl) ?_
 show o_Gs p e below _ T228 m 220 #[o_A s_d, o_A r1, o_I 43, o_I 44, o_A r4, o_A s_t, o_I 30, o_I w243, o_I 6, .val (.int (o_b64 ((q_S (42 : Int32)) &&& (255 : Int32)))), o_I 40] [(.int 6), (.int (o_b64 ((q_S (42 : Int32)) &&& (255 : Int32)))), (.int w243)]
 refine o_gi (XS.ishl X228.here hx rfl (hb hby o_d20_220) rfl) ?_
 show o_Gs p e below _ T228 m 221 #[o_A s_d, o_A r1, o_I 43, o_I 44, o_A r4, o_A s_t, o_I 30, o_I w243, o_I 6, .val (.int (o_b64 ((q_S (42 : Int32)) &&& (255 : Int32)))), o_I 40] [(.int ((o_b64 ((q_S (42 : Int32)) &&& (255 : Int32))) <<< ((6 : Int32) &&& 31))), (.int w243)]
 refine o_gi (XS.ior X228.here hx rfl (hb hby o_d20_221) rfl) ?_
 refine o_gi (XS.istore X228.here hx rfl (hb hby o_d20_222) rfl (l' := #[o_A s_d, o_A r1, o_I 43, o_I 44, o_A r4, o_A s_t, o_I 30, .val (.int (w243 ||| ((o_b64 ((q_S (42 : Int32)) &&& (255 : Int32))) <<< ((6 : Int32) &&& 31)))), o_I 6, .val (.int (o_b64 ((q_S (42 : Int32)) &&& (255 : Int32)))), o_I 40]) rfl) ?_
 obtain ⟨w251, q_w251⟩ : ∃ z : Int32, z = (w243 ||| ((o_b64 ((q_S (42 : Int32)) &&& (255 : Int32))) <<< ((6 : Int32) &&& 31))) := ⟨_, rfl⟩
 show o_Gs p e below _ T228 m 224 #[o_A s_d, o_A r1, o_I 43, o_I 44, o_A r4, o_A s_t, o_I 30, .val (.int (w243 ||| ((o_b64 ((q_S (42 : Int32)) &&& (255 : Int32))) <<< ((6 : Int32) &&& 31)))), o_I 6, .val (.int (o_b64 ((q_S (42 : Int32)) &&& (255 : Int32)))), o_I 40] []
 rw [← q_w251]
 show o_Gs p e below _ T228 m 224 #[o_A s_d, o_A r1, o_I 43, o_I 44, o_A r4, o_A s_t, o_I 30, o_I w251, o_I 6, .val (.int (o_b64 ((q_S (42 : Int32)) &&& (255 : Int32)))), o_I 40] []
 refine o_gi (XS.iinc X228.here hx rfl (hb hby o_d20_224) rfl (l' := #[o_A s_d, o_A r1, o_I 43, o_I 44, o_A r4, o_A s_t, o_I 30, o_I w251, .val (.int ((6 : Int32) + (-6 : Int32))), .val (.int (o_b64 ((q_S (42 : Int32)) &&& (255 : Int32)))), o_I 40]) rfl) ?_
 show o_Gs p e below _ T228 m 227 #[o_A s_d, o_A r1, o_I 43, o_I 44, o_A r4, o_A s_t, o_I 30, o_I w251, .val (.int ((6 : Int32) + (-6 : Int32))), .val (.int (o_b64 ((q_S (42 : Int32)) &&& (255 : Int32)))), o_I 40] []
 rw [show ((6 : Int32) + (-6 : Int32)) = (0 : Int32) from by decide]
 refine o_gi (XS.iload X228.here hx rfl (hb hby o_d20_227) rfl) ?_
 show o_Gs p e below _ T228 m 229 #[o_A s_d, o_A r1, o_I 43, o_I 44, o_A r4, o_A s_t, o_I 30, o_I w251, o_I 0, .val (.int (o_b64 ((q_S (42 : Int32)) &&& (255 : Int32)))), o_I 40] [(.int 0)]
 have hd252 : ¬ ((0 : Int32) < (0 : Int32)) := (by decide)
 refine o_gi (XS.ifYes X228.here hx rfl (pc0 := 229) (pc' := 278) rfl (hb hby o_d20_229) rfl ((if0 _ _).trans (flt hd252).2.1) (by decide) (by decide)) ?_
 refine o_gi (XS.goto X228.here hx rfl (pc0 := 278) (pc' := 28) rfl (hb hby o_d20_278) (by decide) (by decide)) ?_
 refine o_gi (XS.iloadN X228.here hx rfl (hb hby o_d20_28) rfl) ?_
 refine o_gi (XS.iloadN X228.here hx rfl (hb hby o_d20_29) rfl) ?_
 show o_Gs p e below _ T228 m 30 #[o_A s_d, o_A r1, o_I 43, o_I 44, o_A r4, o_A s_t, o_I 30, o_I w251, o_I 0, .val (.int (o_b64 ((q_S (42 : Int32)) &&& (255 : Int32)))), o_I 40] [(.int 44), (.int 43)]
 have hd253 : (43 : Int32) < (44 : Int32) := (by decide)
 refine o_gi (XS.icmpNo X228.here hx rfl (hb hby o_d20_30) rfl (tlt hd253).2.1) ?_
 refine o_gi (XS.iload X228.here hx rfl (hb hby o_d20_33) rfl) ?_
 refine o_gi (XS.bipush X228.here hx rfl (hb hby o_d20_35)) ?_
 show o_Gs p e below _ T228 m 37 #[o_A s_d, o_A r1, o_I 43, o_I 44, o_A r4, o_A s_t, o_I 30, o_I w251, o_I 0, .val (.int (o_b64 ((q_S (42 : Int32)) &&& (255 : Int32)))), o_I 40] [(.int 18), (.int 0)]
 have hd254 : ¬ ((0 : Int32) = (18 : Int32)) := (by decide)
 refine o_gi (XS.icmpYes X228.here hx rfl (pc0 := 37) (pc' := 90) rfl (hb hby o_d20_37) rfl (feq hd254).2 (by decide) (by decide)) ?_
 refine o_gi (XS.iloadN X228.here hx rfl (hb hby o_d20_90) rfl) ?_
 refine o_gi (XS.iloadN X228.here hx rfl (hb hby o_d20_91) rfl) ?_
 show o_Gs p e below _ T228 m 92 #[o_A s_d, o_A r1, o_I 43, o_I 44, o_A r4, o_A s_t, o_I 30, o_I w251, o_I 0, .val (.int (o_b64 ((q_S (42 : Int32)) &&& (255 : Int32)))), o_I 40] [(.int 44), (.int 43)]
 have hd255 : (43 : Int32) < (44 : Int32) := (by decide)
 refine o_gi (XS.icmpYes X228.here hx rfl (pc0 := 92) (pc' := 98) rfl (hb hby o_d20_92) rfl (tlt hd255).1 (by decide) (by decide)) ?_
 refine o_gi (XS.aloadN X228.here hx rfl (hb hby o_d20_98) rfl rfl) ?_
 refine o_gi (XS.iloadN X228.here hx rfl (hb hby o_d20_99) rfl) ?_
 show o_Gs p e below _ T228 m 100 #[o_A s_d, o_A r1, o_I 43, o_I 44, o_A r4, o_A s_t, o_I 30, o_I w251, o_I 0, .val (.int (o_b64 ((q_S (42 : Int32)) &&& (255 : Int32)))), o_I 40] [(.int 43), (.ref r1)]
 refine o_gi (XS.iinc X228.here hx rfl (hb hby o_d20_100) rfl (l' := #[o_A s_d, o_A r1, .val (.int ((43 : Int32) + (1 : Int32))), o_I 44, o_A r4, o_A s_t, o_I 30, o_I w251, o_I 0, .val (.int (o_b64 ((q_S (42 : Int32)) &&& (255 : Int32)))), o_I 40]) rfl) ?_
 show o_Gs p e below _ T228 m 103 #[o_A s_d, o_A r1, .val (.int ((43 : Int32) + (1 : Int32))), o_I 44, o_A r4, o_A s_t, o_I 30, o_I w251, o_I 0, .val (.int (o_b64 ((q_S (42 : Int32)) &&& (255 : Int32)))), o_I 40] [(.int 43), (.ref r1)]
 rw [show ((43 : Int32) + (1 : Int32)) = (44 : Int32) from by decide]
 show o_Gs p e below _ T228 m 103 #[o_A s_d, o_A r1, o_I 44, o_I 44, o_A r4, o_A s_t, o_I 30, o_I w251, o_I 0, .val (.int (o_b64 ((q_S (42 : Int32)) &&& (255 : Int32)))), o_I 40] [(.int 43), (.ref r1)]
 obtain ⟨cl256, Ar256, sa256, na256, ha256⟩ := id ff230
 have ix256 : ¬ (43 : Int32) < 0 ∧ (43 : Int32) < (44 : Int32) := ⟨by decide, by decide⟩
 refine o_go (X228.baloadBytes hx (j := (43 : Int32)) (v := (.int (q_S (43 : Int32)))) Ar256.1 (State.isArrayOf_alike hZ.alike Ar256.2.1) Ar256.2.2 (inb_of sa256 ix256) (ha256 _ ix256.1 ix256.2) (g := (mkF m 103 #[o_A s_d, o_A r1, o_I 44, o_I 44, o_A r4, o_A s_t, o_I 30, o_I w251, o_I 0, .val (.int (o_b64 ((q_S (42 : Int32)) &&& (255 : Int32)))), o_I 40] [(.int 43), (.ref r1)])) rfl rfl (hb hby o_d20_103)) ?_
 refine o_gi (XS.sipush X228.here hx rfl (hb hby o_d20_104)) ?_
 show o_Gs p e below _ T228 m 107 #[o_A s_d, o_A r1, o_I 44, o_I 44, o_A r4, o_A s_t, o_I 30, o_I w251, o_I 0, .val (.int (o_b64 ((q_S (42 : Int32)) &&& (255 : Int32)))), o_I 40] [(.int 255), (.int (q_S (43 : Int32)))]
 refine o_gi (XS.iand X228.here hx rfl (hb hby o_d20_107) rfl) ?_
 refine o_gi (XS.istore X228.here hx rfl (hb hby o_d20_108) rfl (l' := #[o_A s_d, o_A r1, o_I 44, o_I 44, o_A r4, o_A s_t, o_I 30, o_I w251, o_I 0, .val (.int ((q_S (43 : Int32)) &&& (255 : Int32))), o_I 40]) rfl) ?_
 refine o_gi (XS.aload X228.here hx rfl (hb hby o_d20_110) rfl rfl) ?_
 refine o_gi (XS.iload X228.here hx rfl (hb hby o_d20_112) rfl) ?_
 show o_Gs p e below _ T228 m 114 #[o_A s_d, o_A r1, o_I 44, o_I 44, o_A r4, o_A s_t, o_I 30, o_I w251, o_I 0, .val (.int ((q_S (43 : Int32)) &&& (255 : Int32))), o_I 40] [(.int ((q_S (43 : Int32)) &&& (255 : Int32))), (.ref s_t)]
 obtain ⟨cl257, Ar257, sa257, na257, ha257⟩ := id (T_t.ext oo232.2)
 have ix257 : ¬ ((q_S (43 : Int32)) &&& (255 : Int32)) < 0 ∧ ((q_S (43 : Int32)) &&& (255 : Int32)) < (256 : Int32) := (o_ix255 _)
 refine o_go (X228.iaload hx (j := ((q_S (43 : Int32)) &&& (255 : Int32))) (v := (.int (o_b64 ((q_S (43 : Int32)) &&& (255 : Int32))))) Ar257.1 (State.isArrayOf_alike hZ.alike Ar257.2.1) Ar257.2.2 (inb_of sa257 ix257) (ha257 _ ix257.1 ix257.2) (g := (mkF m 114 #[o_A s_d, o_A r1, o_I 44, o_I 44, o_A r4, o_A s_t, o_I 30, o_I w251, o_I 0, .val (.int ((q_S (43 : Int32)) &&& (255 : Int32))), o_I 40] [(.int ((q_S (43 : Int32)) &&& (255 : Int32))), (.ref s_t)])) rfl rfl (hb hby o_d20_114)) ?_
 show o_Gs p e below _ T228 m 115 #[o_A s_d, o_A r1, o_I 44, o_I 44, o_A r4, o_A s_t, o_I 30, o_I w251, o_I 0, .val (.int ((q_S (43 : Int32)) &&& (255 : Int32))), o_I 40] [(.int (o_b64 ((q_S (43 : Int32)) &&& (255 : Int32))))]
 rw [show (o_b64 ((q_S (43 : Int32)) &&& (255 : Int32))) = (-2 : Int32) from o_e61 hq.2.2.2.2.2.1]
 refine o_gi (XS.dup X228.here hx rfl (hb hby o_d20_115) rfl rfl) ?_
 refine o_gi (XS.istore X228.here hx rfl (hb hby o_d20_116) rfl (l' := #[o_A s_d, o_A r1, o_I 44, o_I 44, o_A r4, o_A s_t, o_I 30, o_I w251, o_I 0, .val (.int (-2 : Int32)), o_I 40]) rfl) ?_
 show o_Gs p e below _ T228 m 118 #[o_A s_d, o_A r1, o_I 44, o_I 44, o_A r4, o_A s_t, o_I 30, o_I w251, o_I 0, .val (.int (-2 : Int32)), o_I 40] [(.int (-2 : Int32))]
 have hd258 : (-2 : Int32) < (0 : Int32) := (by decide)
 refine o_gi (XS.ifNo X228.here hx rfl (hb hby o_d20_118) rfl ((if0 _ _).trans (tlt hd258).2.1)) ?_
 refine o_gi (XS.iload X228.here hx rfl (hb hby o_d20_121) rfl) ?_
 refine o_gi (XS.bipush X228.here hx rfl (hb hby o_d20_123)) ?_
 show o_Gs p e below _ T228 m 125 #[o_A s_d, o_A r1, o_I 44, o_I 44, o_A r4, o_A s_t, o_I 30, o_I w251, o_I 0, .val (.int (-2 : Int32)), o_I 40] [(.int (-2 : Int32)), (.int (-2 : Int32))]
 have hd259 : (-2 : Int32) = (-2 : Int32) := (by decide)
 refine o_gi (XS.icmpNo X228.here hx rfl (hb hby o_d20_125) rfl (teq hd259).2) ?_
 refine o_gi (XS.iload X228.here hx rfl (hb hby o_d20_128) rfl) ?_
 refine o_gi (XS.bipush X228.here hx rfl (hb hby o_d20_130)) ?_
 show o_Gs p e below _ T228 m 132 #[o_A s_d, o_A r1, o_I 44, o_I 44, o_A r4, o_A s_t, o_I 30, o_I w251, o_I 0, .val (.int (-2 : Int32)), o_I 40] [(.int 6), (.int 0)]
 have hd260 : ¬ ((0 : Int32) = (6 : Int32)) := (by decide)
 refine o_gi (XS.icmpYes X228.here hx rfl (pc0 := 132) (pc' := 151) rfl (hb hby o_d20_132) rfl (feq hd260).2 (by decide) (by decide)) ?_
 refine o_gi (XS.iload X228.here hx rfl (hb hby o_d20_151) rfl) ?_
 refine o_gi (XS.bipush X228.here hx rfl (hb hby o_d20_153)) ?_
 show o_Gs p e below _ T228 m 155 #[o_A s_d, o_A r1, o_I 44, o_I 44, o_A r4, o_A s_t, o_I 30, o_I w251, o_I 0, .val (.int (-2 : Int32)), o_I 40] [(.int 18), (.int 0)]
 have hd261 : ¬ ((0 : Int32) = (18 : Int32)) := (by decide)
 refine o_gi (XS.icmpYes X228.here hx rfl (pc0 := 155) (pc' := 281) rfl (hb hby o_d20_155) rfl (feq hd261).2 (by decide) (by decide)) ?_
 refine o_gi (XS.iload X228.here hx rfl (hb hby o_d20_281) rfl) ?_
 refine o_gi (XS.bipush X228.here hx rfl (hb hby o_d20_283)) ?_
 show o_Gs p e below _ T228 m 285 #[o_A s_d, o_A r1, o_I 44, o_I 44, o_A r4, o_A s_t, o_I 30, o_I w251, o_I 0, .val (.int (-2 : Int32)), o_I 40] [(.int 6), (.int 0)]
 have hd262 : ¬ ((0 : Int32) = (6 : Int32)) := (by decide)
 refine o_gi (XS.icmpYes X228.here hx rfl (pc0 := 285) (pc' := 305) rfl (hb hby o_d20_285) rfl (feq hd262).2 (by decide) (by decide)) ?_
 refine o_gi (XS.iload X228.here hx rfl (hb hby o_d20_305) rfl) ?_
 show o_Gs p e below _ T228 m 307 #[o_A s_d, o_A r1, o_I 44, o_I 44, o_A r4, o_A s_t, o_I 30, o_I w251, o_I 0, .val (.int (-2 : Int32)), o_I 40] [(.int 0)]
 have hd263 : (0 : Int32) = (0 : Int32) := (by decide)
 refine o_gi (XS.ifNo X228.here hx rfl (hb hby o_d20_307) rfl ((if0 _ _).trans (teq hd263).2)) ?_
 refine o_gi (XS.aload X228.here hx rfl (hb hby o_d20_310) rfl rfl) ?_
 refine o_gi (XS.iload X228.here hx rfl (hb hby o_d20_312) rfl) ?_
 show o_Gs p e below _ T228 m 314 #[o_A s_d, o_A r1, o_I 44, o_I 44, o_A r4, o_A s_t, o_I 30, o_I w251, o_I 0, .val (.int (-2 : Int32)), o_I 40] [(.int 30), (.ref r4)]
 refine o_gi (XS.iinc X228.here hx rfl (hb hby o_d20_314) rfl (l' := #[o_A s_d, o_A r1, o_I 44, o_I 44, o_A r4, o_A s_t, .val (.int ((30 : Int32) + (1 : Int32))), o_I w251, o_I 0, .val (.int (-2 : Int32)), o_I 40]) rfl) ?_
 show o_Gs p e below _ T228 m 317 #[o_A s_d, o_A r1, o_I 44, o_I 44, o_A r4, o_A s_t, .val (.int ((30 : Int32) + (1 : Int32))), o_I w251, o_I 0, .val (.int (-2 : Int32)), o_I 40] [(.int 30), (.ref r4)]
 rw [show ((30 : Int32) + (1 : Int32)) = (31 : Int32) from by decide]
 refine o_gi (XS.iload X228.here hx rfl (hb hby o_d20_317) rfl) ?_
 refine o_gi (XS.bipush X228.here hx rfl (hb hby o_d20_319)) ?_
 show o_Gs p e below _ T228 m 321 #[o_A s_d, o_A r1, o_I 44, o_I 44, o_A r4, o_A s_t, o_I 31, o_I w251, o_I 0, .val (.int (-2 : Int32)), o_I 40] [(.int 16), (.int w251), (.int 30), (.ref r4)]
 refine o_gi (XS.ishr X228.here hx rfl (hb hby o_d20_321) rfl) ?_
 show o_Gs p e below _ T228 m 322 #[o_A s_d, o_A r1, o_I 44, o_I 44, o_A r4, o_A s_t, o_I 31, o_I w251, o_I 0, .val (.int (-2 : Int32)), o_I 40] [(.int (w251 >>> ((16 : Int32) &&& 31))), (.int 30), (.ref r4)]
 refine o_gi (XS.i2b X228.here hx rfl (hb hby o_d20_322) rfl) ?_
 show o_Gs p e below _ T228 m 323 #[o_A s_d, o_A r1, o_I 44, o_I 44, o_A r4, o_A s_t, o_I 31, o_I w251, o_I 0, .val (.int (-2 : Int32)), o_I 40] [(.int ((w251 >>> ((16 : Int32) &&& 31)).toInt8.toInt32)), (.int 30), (.ref r4)]
 obtain ⟨cl264, Ar264, sa264, na264, ha264⟩ := id G228_0
 obtain ⟨T264, h264, X264, e264, W264, st264⟩ := stB X228 hx hZ rfl Ar264 (j := (30 : Int32)) (inb_of sa264 ⟨by decide, by decide⟩) (g := (mkF m 323 #[o_A s_d, o_A r1, o_I 44, o_I 44, o_A r4, o_A s_t, o_I 31, o_I w251, o_I 0, .val (.int (-2 : Int32)), o_I 40] [(.int ((w251 >>> ((16 : Int32) &&& 31)).toInt8.toInt32)), (.int 30), (.ref r4)])) rfl rfl (hb hby o_d20_323)
 have V264 : o_Tb Z h264 r4 .byte (32 : Int32) (fun k => if k = (30 : Int32) then (nar .byte ((w251 >>> ((16 : Int32) &&& 31)).toInt8.toInt32)) else (o_cut (30 : Int32) q_B) k) := o_Tb.set Ar264 sa264 na264 ha264 W264 ⟨by decide, by decide⟩
 have N264 := Fr.snoc X264 N228 g_r4
 refine o_go st264 ?_
 refine o_gi (XS.aload X264.here hx rfl (hb hby o_d20_324) rfl rfl) ?_
 refine o_gi (XS.iload X264.here hx rfl (hb hby o_d20_326) rfl) ?_
 show o_Gs p e below _ T264 m 328 #[o_A s_d, o_A r1, o_I 44, o_I 44, o_A r4, o_A s_t, o_I 31, o_I w251, o_I 0, .val (.int (-2 : Int32)), o_I 40] [(.int 31), (.ref r4)]
 refine o_gi (XS.iinc X264.here hx rfl (hb hby o_d20_328) rfl (l' := #[o_A s_d, o_A r1, o_I 44, o_I 44, o_A r4, o_A s_t, .val (.int ((31 : Int32) + (1 : Int32))), o_I w251, o_I 0, .val (.int (-2 : Int32)), o_I 40]) rfl) ?_
 show o_Gs p e below _ T264 m 331 #[o_A s_d, o_A r1, o_I 44, o_I 44, o_A r4, o_A s_t, .val (.int ((31 : Int32) + (1 : Int32))), o_I w251, o_I 0, .val (.int (-2 : Int32)), o_I 40] [(.int 31), (.ref r4)]
 rw [show ((31 : Int32) + (1 : Int32)) = (32 : Int32) from by decide]
 refine o_gi (XS.iload X264.here hx rfl (hb hby o_d20_331) rfl) ?_
 refine o_gi (XS.bipush X264.here hx rfl (hb hby o_d20_333)) ?_
 show o_Gs p e below _ T264 m 335 #[o_A s_d, o_A r1, o_I 44, o_I 44, o_A r4, o_A s_t, o_I 32, o_I w251, o_I 0, .val (.int (-2 : Int32)), o_I 40] [(.int 8), (.int w251), (.int 31), (.ref r4)]
 refine o_gi (XS.ishr X264.here hx rfl (hb hby o_d20_335) rfl) ?_
 show o_Gs p e below _ T264 m 336 #[o_A s_d, o_A r1, o_I 44, o_I 44, o_A r4, o_A s_t, o_I 32, o_I w251, o_I 0, .val (.int (-2 : Int32)), o_I 40] [(.int (w251 >>> ((8 : Int32) &&& 31))), (.int 31), (.ref r4)]
 refine o_gi (XS.i2b X264.here hx rfl (hb hby o_d20_336) rfl) ?_
 show o_Gs p e below _ T264 m 337 #[o_A s_d, o_A r1, o_I 44, o_I 44, o_A r4, o_A s_t, o_I 32, o_I w251, o_I 0, .val (.int (-2 : Int32)), o_I 40] [(.int ((w251 >>> ((8 : Int32) &&& 31)).toInt8.toInt32)), (.int 31), (.ref r4)]
 obtain ⟨cl265, Ar265, sa265, na265, ha265⟩ := id V264
 obtain ⟨T265, h265, X265, e265, W265, st265⟩ := stB X264 hx hZ e264 Ar265 (j := (31 : Int32)) (inb_of sa265 ⟨by decide, by decide⟩) (g := (mkF m 337 #[o_A s_d, o_A r1, o_I 44, o_I 44, o_A r4, o_A s_t, o_I 32, o_I w251, o_I 0, .val (.int (-2 : Int32)), o_I 40] [(.int ((w251 >>> ((8 : Int32) &&& 31)).toInt8.toInt32)), (.int 31), (.ref r4)])) rfl rfl (hb hby o_d20_337)
 have V265 : o_Tb Z h265 r4 .byte (32 : Int32) (fun k => if k = (31 : Int32) then (nar .byte ((w251 >>> ((8 : Int32) &&& 31)).toInt8.toInt32)) else (fun k => if k = (30 : Int32) then (nar .byte ((w251 >>> ((16 : Int32) &&& 31)).toInt8.toInt32)) else (o_cut (30 : Int32) q_B) k) k) := o_Tb.set Ar265 sa265 na265 ha265 W265 ⟨by decide, by decide⟩
 have N265 := Fr.snoc X265 N264 g_r4
 refine o_go st265 ?_
 refine o_gi (XS.goto X265.here hx rfl (pc0 := 338) (pc' := 358) rfl (hb hby o_d20_338) (by decide) (by decide)) ?_
 refine o_gi (XS.iloadN X265.here hx rfl (hb hby o_d20_358) rfl) ?_
 refine o_gi (XS.iloadN X265.here hx rfl (hb hby o_d20_359) rfl) ?_
 show o_Gs p e below _ T265 m 360 #[o_A s_d, o_A r1, o_I 44, o_I 44, o_A r4, o_A s_t, o_I 32, o_I w251, o_I 0, .val (.int (-2 : Int32)), o_I 40] [(.int 44), (.int 44)]
 have hd266 : ¬ ((44 : Int32) < (44 : Int32)) := (by decide)
 refine o_gi (XS.icmpYes X265.here hx rfl (pc0 := 360) (pc' := 416) rfl (hb hby o_d20_360) rfl (flt hd266).2.1 (by decide) (by decide)) ?_
 refine o_gi (XS.iload X265.here hx rfl (hb hby o_d20_416) rfl) ?_
 show o_Gs p e below _ T265 m 418 #[o_A s_d, o_A r1, o_I 44, o_I 44, o_A r4, o_A s_t, o_I 32, o_I w251, o_I 0, .val (.int (-2 : Int32)), o_I 40] [(.int 32)]
 exact o_retI X265 hx hlk hret (hb hby o_d20_418) (by decide) (by decide) (by show o_Q20_1 Z r4 q_B h0 n0 _ T265.heap _; rw [e265]; exact ⟨rfl, N265, ((((Keep.refl h0 ([r4] : List Addr)).trans K228 (fun x hx => by cases List.mem_singleton.mp hx; exact Or.inl (List.mem_of_getElem? (i := 0) rfl))).wr W264 (Or.inl (List.mem_of_getElem? (i := 0) rfl))).wr W265 (Or.inl (List.mem_of_getElem? (i := 0) rfl))), (o_Tb.congr V265 (fun j h1 h2 => by subst q_w235; subst q_w243; subst q_w251; exact o_tl1 hq j h1 h2))⟩)
def o_Q18_1 (Z : State) (r1 : Addr) (s_d : Addr) (q_B : Int32 → Int32) (q_S : Int32 → Int32) (s_t : Addr) (h0 : Heap) (n0 : Nat) (v : Option Value) (h : Heap) (L : List Loc) : Prop := ∃ b : Addr, v = some (.ref b) ∧ Fr n0 L ∧ Keep h0 h [] ∧ h0.size ≤ b ∧ o_Tb Z h b .byte (32 : Int32) q_B
abbrev o_R18_1 : Room := { frames := 2, cells := 1, slots := 32, locals := 49 }
theorem o_ef18_1 (m : MethodId) (z0 : Addr) (z1 : Addr) : entryFrame m #[(.ref z0), (.ref z1)] 4 = mkF m 0 #[o_A z0, o_A z1, o_u, o_u] [] := by first | (simp [entryFrame, mkF, argsToLocals, Value.category]; done) | rfl
set_option maxRecDepth 65536 in
set_option maxHeartbeats 40000000 in
theorem rm18_1 (l : Launch) (Z : State) (a0 : Array Value) (hw : ∀ d ∈ tables_1, d.before a0 Z = true) (ws : List Jvm.Cond) (r1 : Addr) (s_d : Addr) (q_B : Int32 → Int32) (q_S : Int32 → Int32) (s_t : Addr) (h0 : Heap) (n0 : Nat) (Z0 : n0 ≤ h0.size) (O0 : Old Z n0 h0) (E_d : Exa Z Z.heap s_d "java/util/Base64$Decoder") (F_u : Fld Z Z.heap s_d "java/util/Base64$Decoder" "isURL" "Z" (.int 0)) (F_m : Fld Z Z.heap s_d "java/util/Base64$Decoder" "isMIME" "Z" (.int 0)) (T_t : o_Tb Z Z.heap s_t .int 256 o_b64) (T_s : o_Tb Z h0 r1 .byte (44 : Int32) q_S) (hq : o_Md1 q_B q_S) (S_s_t : Sta Z Z.heap "java/util/Base64$Decoder" "fromBase64" "[I" (.ref s_t)) : o_Met l Z (⟨"java/util/Base64$Decoder", "decode", "([B)[B"⟩ : MethodName) jdk_2450_method_2_code 4 (some (.array .byte)) ws o_R18_1 #[(.ref s_d), (.ref r1)] h0 (o_Q18_1 Z r1 s_d q_B q_S s_t h0 n0) := by
 refine o_met (plainFor_of_name o_pn4) ?_
 intro p e s m below meth c s₁ hx hby hml hown hnm hret hlk hZ e0 X0
 have N0 := Fr.nil n0
 have hml : c.maxLocals = 4 := hml
 have hown : s.vm.findClass "java/util/Base64$Decoder" = some m.cls := hown
 have hret : meth.sig.returnType = (some (.array .byte)) := hret
 have hby : c.code = jdk_2450_method_2_code := hby
 have hnm : meth.name = "decode" := hnm
 rw [o_ef18_1]
 refine o_gi (XS.aloadN X0.here hx rfl (hb hby o_d18_0) rfl rfl) ?_
 refine o_gi (XS.aloadN X0.here hx rfl (hb hby o_d18_1) rfl rfl) ?_
 refine o_gi (XS.iconst X0.here hx rfl (hb hby o_d18_2)) ?_
 refine o_gi (XS.aloadN X0.here hx rfl (hb hby o_d18_3) rfl rfl) ?_
 show o_Gs p e below _ s₁ m 4 #[o_A s_d, o_A r1, o_u, o_u] [(.ref r1), (.int 0), (.ref r1), (.ref s_d)]
 obtain ⟨cl267, Ar267, sa267, na267, ha267⟩ := id T_s
 refine o_go (X0.arraylength hx (by rw [e0]; exact Ar267.1) (State.isArrayOf_alike hZ.alike Ar267.2.1) (g := (mkF m 4 #[o_A s_d, o_A r1, o_u, o_u] [(.ref r1), (.int 0), (.ref r1), (.ref s_d)])) rfl rfl (hb hby o_d18_4)) ?_
 rw [len_of sa267 na267]
 show o_Gs p e below _ s₁ m 5 #[o_A s_d, o_A r1, o_u, o_u] [(.int 44), (.int 0), (.ref r1), (.ref s_d)]
 obtain ⟨_, T268, L268, X268, ⟨rfl, N268q, e268⟩, st268⟩ := o_callPS X0 hx hZ hown (hw _ o_t94) (hw _ o_t96) (hw _ o_t97) (hw _ o_t95) (hw _ o_t50) (hw _ o_t98) (by decide) (b := s_d) (as := [(.ref r1), (.int 0), (.int 44)]) (rm19_1 l Z a0 hw [] r1 s_d q_B q_S s_t h0 n0 Z0 O0 E_d F_u F_m T_t T_s hq S_s_t) e0 (E_d.ext O0.2) o_pd10 rfl (pc := 5) (Ls := #[o_A s_d, o_A r1, o_u, o_u]) (rest := []) (W := 0) (by rw [hml]; rfl) (Nat.le_of_eq rfl) (by decide) (by decide) (hb hby o_d18_5) (by decide) (by decide)
 have N268 := Fr.app N0 N268q
 refine o_go st268 ?_
 show o_Gs p e below _ T268 m 8 #[o_A s_d, o_A r1, o_u, o_u] [(.int 32)]
 obtain ⟨T269, h269, k269, X269, e269, E269, A269, st269⟩ := newP X268 hx hZ (aty := .byte) (hw _ o_t1) e268 (g := (mkF m 8 #[o_A s_d, o_A r1, o_u, o_u] [(.int 32)])) rfl (hb hby o_d18_8) rfl (by decide) (cap := 32) (by decide) (by decide) (by decide) (by decide)
 obtain ⟨b269, q269⟩ : ∃ z, z = h0.size := ⟨_, rfl⟩
 rw [← q269] at A269 st269
 have lt_b269 : h0.size ≤ b269 := Nat.le_of_eq q269.symm
 have ne_r1_b269 : r1 ≠ b269 := Nat.ne_of_lt (Nat.lt_of_lt_of_le T_s.lt lt_b269)
 have g_b269 : n0 ≤ b269 := Nat.le_trans Z0 lt_b269
 have sz_b269 : h0.size ≤ b269 := Nat.le_trans (Keep.refl h0 ([] : List Addr)).1 lt_b269
 have V269 : o_Tb Z h269 b269 .byte (32 : Int32) (fun _ => 0) := o_Tb.new A269 (by decide) rfl
 refine o_go st269 ?_
 refine o_gi (XS.astoreN X269.here hx rfl (hb hby o_d18_10) rfl rfl (l' := #[o_A s_d, o_A r1, o_A b269, o_u]) rfl) ?_
 refine o_gi (XS.aloadN X269.here hx rfl (hb hby o_d18_11) rfl rfl) ?_
 refine o_gi (XS.aloadN X269.here hx rfl (hb hby o_d18_12) rfl rfl) ?_
 refine o_gi (XS.iconst X269.here hx rfl (hb hby o_d18_13)) ?_
 refine o_gi (XS.aloadN X269.here hx rfl (hb hby o_d18_14) rfl rfl) ?_
 show o_Gs p e below _ T269 m 15 #[o_A s_d, o_A r1, o_A b269, o_u] [(.ref r1), (.int 0), (.ref r1), (.ref s_d)]
 obtain ⟨cl270, Ar270, sa270, na270, ha270⟩ := id (T_s.ext E269)
 refine o_go (X269.arraylength hx (by rw [e269]; exact Ar270.1) (State.isArrayOf_alike hZ.alike Ar270.2.1) (g := (mkF m 15 #[o_A s_d, o_A r1, o_A b269, o_u] [(.ref r1), (.int 0), (.ref r1), (.ref s_d)])) rfl rfl (hb hby o_d18_15)) ?_
 rw [len_of sa270 na270]
 refine o_gi (XS.aloadN X269.here hx rfl (hb hby o_d18_16) rfl rfl) ?_
 show o_Gs p e below _ T269 m 17 #[o_A s_d, o_A r1, o_A b269, o_u] [(.ref b269), (.int 44), (.int 0), (.ref r1), (.ref s_d)]
 have oo272 : Old Z n0 h269 := (O0.ext E269)
 obtain ⟨_, T271, L271, X271, ⟨rfl, N271q, K271, G271_0⟩, st271⟩ := o_callPS X269 hx hZ hown (hw _ o_t106) (hw _ o_t108) (hw _ o_t109) (hw _ o_t107) (hw _ o_t50) (hw _ o_t110) (by decide) (b := s_d) (as := [(.ref r1), (.int 0), (.int 44), (.ref b269)]) (rm20_1 l Z a0 hw [] r1 b269 s_d q_B q_S s_t h269 n0 (Nat.le_trans Z0 E269.1) g_b269 (O0.ext E269) E_d F_u F_m T_t (T_s.ext E269) V269 hq ne_r1_b269 S_s_t) e269 (E_d.ext oo272.2) o_pd11 rfl (pc := 17) (Ls := #[o_A s_d, o_A r1, o_A b269, o_u]) (rest := []) (W := 0) (by rw [hml]; rfl) (Nat.le_of_eq rfl) (by decide) (by decide) (hb hby o_d18_17) (by decide) (by decide)
 have N271 := Fr.app N268 N271q
 refine o_go st271 ?_
 refine o_gi (XS.istoreN X271.here hx rfl (hb hby o_d18_20) rfl (l' := #[o_A s_d, o_A r1, o_A b269, o_I 32]) rfl) ?_
 refine o_gi (XS.iloadN X271.here hx rfl (hb hby o_d18_21) rfl) ?_
 refine o_gi (XS.aloadN X271.here hx rfl (hb hby o_d18_22) rfl rfl) ?_
 show o_Gs p e below _ T271 m 23 #[o_A s_d, o_A r1, o_A b269, o_I 32] [(.ref b269), (.int 32)]
 obtain ⟨cl273, Ar273, sa273, na273, ha273⟩ := id G271_0
 refine o_go (X271.arraylength hx Ar273.1 (State.isArrayOf_alike hZ.alike Ar273.2.1) (g := (mkF m 23 #[o_A s_d, o_A r1, o_A b269, o_I 32] [(.ref b269), (.int 32)])) rfl rfl (hb hby o_d18_23)) ?_
 rw [len_of sa273 na273]
 show o_Gs p e below _ T271 m 24 #[o_A s_d, o_A r1, o_A b269, o_I 32] [(.int 32), (.int 32)]
 have hd274 : (32 : Int32) = (32 : Int32) := (by decide)
 refine o_gi (XS.icmpYes X271.here hx rfl (pc0 := 24) (pc' := 33) rfl (hb hby o_d18_24) rfl (teq hd274).1 (by decide) (by decide)) ?_
 refine o_gi (XS.aloadN X271.here hx rfl (hb hby o_d18_33) rfl rfl) ?_
 show o_Gs p e below _ T271 m 34 #[o_A s_d, o_A r1, o_A b269, o_I 32] [(.ref b269)]
 exact o_retR X271 hx hlk hret rfl rfl (hb hby o_d18_34) (by decide) (by decide) (⟨_, rfl, N271, (((Keep.refl h0 ([] : List Addr)).ext E269).trans K271 (fun x hx => by cases List.mem_singleton.mp hx; exact Or.inr sz_b269)), sz_b269, G271_0⟩)
def o_Q12_1 (Z : State) (r1 : Addr) (s_d : Addr) (t : Addr) (q_B : Int32 → Int32) (q_S : Int32 → Int32) (z_cs : Int32) (s_i : Addr) (s_u : Addr) (s_t : Addr) (h0 : Heap) (n0 : Nat) (v : Option Value) (h : Heap) (L : List Loc) : Prop := ∃ b : Addr, v = some (.ref b) ∧ Fr n0 L ∧ Keep h0 h [] ∧ h0.size ≤ b ∧ o_Tb Z h b .byte (32 : Int32) q_B
abbrev o_R12_1 : Room := { frames := 5, cells := 2, slots := 96, locals := 76 }
theorem o_ef12_1 (m : MethodId) (z0 : Addr) (z1 : Addr) : entryFrame m #[(.ref z0), (.ref z1)] 2 = mkF m 0 #[o_A z0, o_A z1] [] := by first | (simp [entryFrame, mkF, argsToLocals, Value.category]; done) | rfl
set_option maxRecDepth 65536 in
set_option maxHeartbeats 40000000 in
theorem rm12_1 (l : Launch) (Z : State) (a0 : Array Value) (hw : ∀ d ∈ tables_1, d.before a0 Z = true) (ws : List Jvm.Cond) (r1 : Addr) (s_d : Addr) (t : Addr) (q_B : Int32 → Int32) (q_S : Int32 → Int32) (z_cs : Int32) (s_i : Addr) (s_u : Addr) (s_t : Addr) (h0 : Heap) (n0 : Nat) (Z0 : n0 ≤ h0.size) (O0 : Old Z n0 h0) (z_CS : ¬ z_cs = 0) (E_d : Exa Z Z.heap s_d "java/util/Base64$Decoder") (F_u : Fld Z Z.heap s_d "java/util/Base64$Decoder" "isURL" "Z" (.int 0)) (F_m : Fld Z Z.heap s_d "java/util/Base64$Decoder" "isMIME" "Z" (.int 0)) (T_t : o_Tb Z Z.heap s_t .int 256 o_b64) (E_s : Exa Z h0 r1 "java/lang/String") (F_v : Fld Z h0 r1 "java/lang/String" "value" "[B" (.ref t)) (F_c : Fld Z h0 r1 "java/lang/String" "coder" "B" (.int 0)) (E_t : Exa Z h0 t "[B") (T_s : o_Tb Z h0 t .byte (44 : Int32) q_S) (hS : o_By q_S) (hq : o_Md1 q_B q_S) (ne_iu : s_i ≠ s_u) (ne_r1_t : r1 ≠ t) (S_z_cs : Sta Z Z.heap "java/lang/String" "COMPACT_STRINGS" "Z" (.int z_cs)) (S_s_i : Sta Z Z.heap "sun/nio/cs/ISO_8859_1" "INSTANCE" "Lsun/nio/cs/ISO_8859_1;" (.ref s_i)) (S_s_u : Sta Z Z.heap "sun/nio/cs/UTF_8" "INSTANCE" "Lsun/nio/cs/UTF_8;" (.ref s_u)) (S_s_t : Sta Z Z.heap "java/util/Base64$Decoder" "fromBase64" "[I" (.ref s_t)) : o_Met l Z (⟨"java/util/Base64$Decoder", "decode", "(Ljava/lang/String;)[B"⟩ : MethodName) jdk_2450_method_3_code 2 (some (.array .byte)) ws o_R12_1 #[(.ref s_d), (.ref r1)] h0 (o_Q12_1 Z r1 s_d t q_B q_S z_cs s_i s_u s_t h0 n0) := by
 refine o_met (plainFor_of_name o_pn4) ?_
 intro p e s m below meth c s₁ hx hby hml hown hnm hret hlk hZ e0 X0
 have N0 := Fr.nil n0
 have hml : c.maxLocals = 2 := hml
 have hown : s.vm.findClass "java/util/Base64$Decoder" = some m.cls := hown
 have hret : meth.sig.returnType = (some (.array .byte)) := hret
 have hby : c.code = jdk_2450_method_3_code := hby
 have hnm : meth.name = "decode" := hnm
 rw [o_ef12_1]
 refine o_gi (XS.aloadN X0.here hx rfl (hb hby o_d12_0) rfl rfl) ?_
 refine o_gi (XS.aloadN X0.here hx rfl (hb hby o_d12_1) rfl rfl) ?_
 show o_Gs p e below _ s₁ m 2 #[o_A s_d, o_A r1] [(.ref r1), (.ref s_d)]
 obtain ⟨T275, X275, e275, st275⟩ := getS2 X0 hx hZ hown (host := "") (Or.inl (hw _ o_t56)) Via.refl e0 (S_s_i.ext O0.2) (g := (mkF m 2 #[o_A s_d, o_A r1] [(.ref r1), (.ref s_d)])) rfl (hb hby o_d12_2)
 refine o_go st275 ?_
 show o_Gs p e below _ T275 m 5 #[o_A s_d, o_A r1] [(.ref s_i), (.ref r1), (.ref s_d)]
 obtain ⟨_, T276, L276, X276, ⟨b276, rfl, N276q, K276, lt_b276, G276_0, G276_1⟩, st276⟩ := o_callV X275 hx hZ hown (hw _ o_t58) (hw _ o_t59) (hw _ o_t61) (hw _ o_t60) (hw _ o_t15) (hw _ o_t62) (by decide) (b := r1) (as := [(.ref s_i)]) (rm13 l Z a0 hw [] r1 t (44 : Int32) q_S z_cs s_u s_i h0 n0 Z0 O0 z_CS E_s F_v F_c E_t T_s hS (by decide) ne_iu ne_r1_t S_z_cs S_s_u S_s_i) e275 E_s o_pd12 rfl (pc := 5) (Ls := #[o_A s_d, o_A r1]) (rest := [(.ref s_d)]) (W := 1) (by rw [hml]; rfl) (Nat.le_of_eq rfl) (by decide) (by decide) (hb hby o_d12_5) (by decide) (by decide)
 have N276 := Fr.app N0 N276q
 have ne_r1_b276 : r1 ≠ b276 := Nat.ne_of_lt (Nat.lt_of_lt_of_le E_s.lt lt_b276)
 have ne_t_b276 : t ≠ b276 := Nat.ne_of_lt (Nat.lt_of_lt_of_le E_t.lt lt_b276)
 have g_b276 : n0 ≤ b276 := Nat.le_trans Z0 lt_b276
 have sz_b276 : h0.size ≤ b276 := Nat.le_trans (Keep.refl h0 ([] : List Addr)).1 lt_b276
 refine o_go st276 ?_
 show o_Gs p e below _ T276 m 8 #[o_A s_d, o_A r1] [(.ref b276), (.ref s_d)]
 have oo278 : Old Z n0 T276.heap := (O0.keep K276 all0)
 obtain ⟨_, T277, L277, X277, ⟨b277, rfl, N277q, K277, lt_b277, G277_0⟩, st277⟩ := o_callV X276 hx hZ hown (hw _ o_t89) (hw _ o_t90) (hw _ o_t92) (hw _ o_t91) (hw _ o_t50) (hw _ o_t93) (by decide) (b := s_d) (as := [(.ref b276)]) (rm18_1 l Z a0 hw [] b276 s_d q_B q_S s_t T276.heap n0 (Nat.le_trans Z0 K276.1) (O0.keep K276 all0) E_d F_u F_m T_t G276_1 hq S_s_t) rfl (E_d.ext oo278.2) o_pd13 rfl (pc := 8) (Ls := #[o_A s_d, o_A r1]) (rest := []) (W := 0) (by rw [hml]; rfl) (Nat.le_of_eq rfl) (by decide) (by decide) (hb hby o_d12_8) (by decide) (by decide)
 have N277 := Fr.app N276 N277q
 have ne_r1_b277 : r1 ≠ b277 := Nat.ne_of_lt (Nat.lt_of_lt_of_le (E_s.keep K276).lt lt_b277)
 have ne_t_b277 : t ≠ b277 := Nat.ne_of_lt (Nat.lt_of_lt_of_le (E_t.keep K276).lt lt_b277)
 have ne_b276_b277 : b276 ≠ b277 := Nat.ne_of_lt (Nat.lt_of_lt_of_le G276_0.lt lt_b277)
 have g_b277 : n0 ≤ b277 := Nat.le_trans (Nat.le_trans Z0 K276.1) lt_b277
 have sz_b277 : h0.size ≤ b277 := Nat.le_trans ((Keep.refl h0 ([] : List Addr)).trans K276 (fun x hx => nomatch hx)).1 lt_b277
 refine o_go st277 ?_
 show o_Gs p e below _ T277 m 11 #[o_A s_d, o_A r1] [(.ref b277)]
 exact o_retR X277 hx hlk hret rfl rfl (hb hby o_d12_11) (by decide) (by decide) (⟨_, rfl, N277, (((Keep.refl h0 ([] : List Addr)).trans K276 (fun x hx => nomatch hx)).trans K277 (fun x hx => nomatch hx)), sz_b277, G277_0⟩)
def o_Q10_1 (Z : State) (r0 : Addr) (t : Addr) (q_B : Int32 → Int32) (q_S : Int32 → Int32) (z_cs : Int32) (s_d : Addr) (s_i : Addr) (s_u : Addr) (s_t : Addr) (h0 : Heap) (n0 : Nat) (v : Option Value) (h : Heap) (L : List Loc) : Prop := ∃ b : Addr, v = some (.ref b) ∧ Fr n0 L ∧ Keep h0 h [] ∧ h0.size ≤ b ∧ o_Tb Z h b .byte (32 : Int32) q_B
abbrev o_R10_1 : Room := { frames := 6, cells := 2, slots := 96, locals := 89 }
theorem o_ef10_1 (m : MethodId) (z0 : Addr) : entryFrame m #[(.ref z0)] 3 = mkF m 0 #[o_A z0, o_u, o_u] [] := by first | (simp [entryFrame, mkF, argsToLocals, Value.category]; done) | rfl
set_option maxRecDepth 65536 in
set_option maxHeartbeats 40000000 in
theorem rm10_1 (l : Launch) (Z : State) (a0 : Array Value) (hw : ∀ d ∈ tables_1, d.before a0 Z = true) (ws : List Jvm.Cond) (r0 : Addr) (t : Addr) (q_B : Int32 → Int32) (q_S : Int32 → Int32) (z_cs : Int32) (s_d : Addr) (s_i : Addr) (s_u : Addr) (s_t : Addr) (h0 : Heap) (n0 : Nat) (Z0 : n0 ≤ h0.size) (O0 : Old Z n0 h0) (z_CS : ¬ z_cs = 0) (E_d : Exa Z Z.heap s_d "java/util/Base64$Decoder") (F_u : Fld Z Z.heap s_d "java/util/Base64$Decoder" "isURL" "Z" (.int 0)) (F_m : Fld Z Z.heap s_d "java/util/Base64$Decoder" "isMIME" "Z" (.int 0)) (T_t : o_Tb Z Z.heap s_t .int 256 o_b64) (E_s : Exa Z h0 r0 "java/lang/String") (F_v : Fld Z h0 r0 "java/lang/String" "value" "[B" (.ref t)) (F_c : Fld Z h0 r0 "java/lang/String" "coder" "B" (.int 0)) (E_t : Exa Z h0 t "[B") (T_s : o_Tb Z h0 t .byte (44 : Int32) q_S) (hS : o_By q_S) (hq : o_Md1 q_B q_S) (ne_iu : s_i ≠ s_u) (ne_r0_t : r0 ≠ t) (S_z_cs : Sta Z Z.heap "java/lang/String" "COMPACT_STRINGS" "Z" (.int z_cs)) (S_s_d : Sta Z Z.heap "java/util/Base64$Decoder" "RFC4648" "Ljava/util/Base64$Decoder;" (.ref s_d)) (S_s_i : Sta Z Z.heap "sun/nio/cs/ISO_8859_1" "INSTANCE" "Lsun/nio/cs/ISO_8859_1;" (.ref s_i)) (S_s_u : Sta Z Z.heap "sun/nio/cs/UTF_8" "INSTANCE" "Lsun/nio/cs/UTF_8;" (.ref s_u)) (S_s_t : Sta Z Z.heap "java/util/Base64$Decoder" "fromBase64" "[I" (.ref s_t)) : o_MetX l Z [(0, 8, 11, 41)] (⟨"com/example/quittance/quittance/dialect/AesCbc", "blocks", "(Ljava/lang/String;)[B"⟩ : MethodName) prog_9_method_3_code 3 (some (.array .byte)) ws o_R10_1 #[(.ref r0)] h0 (o_Q10_1 Z r0 t q_B q_S z_cs s_d s_i s_u s_t h0 n0) := by
 refine o_metX (plainFor_of_name o_pn5) ?_
 intro p e s m below meth c s₁ hx hby hml hown hnm hret hlk hZ e0 X0
 have N0 := Fr.nil n0
 have hml : c.maxLocals = 3 := hml
 have hown : s.vm.findClass "com/example/quittance/quittance/dialect/AesCbc" = some m.cls := hown
 have hret : meth.sig.returnType = (some (.array .byte)) := hret
 have hby : c.code = prog_9_method_3_code := hby
 have hnm : meth.name = "blocks" := hnm
 rw [o_ef10_1]
 show o_Gs p e below _ s₁ m 0 #[o_A r0, o_u, o_u] []
 obtain ⟨_, T279, L279, X279, ⟨rfl, N279q, e279⟩, st279⟩ := o_callS X0 hx hZ hown (hw _ o_t45) (hw _ o_t46) (hw _ o_t47) (hw _ o_t48) (by decide) (as := []) (rm11 l Z a0 hw [] s_d h0 n0 O0 S_s_d) e0 o_pd14 rfl (pc := 0) (Ls := #[o_A r0, o_u, o_u]) (rest := []) (W := 0) (by rw [hml]; rfl) (Nat.le_of_eq rfl) (by decide) (by decide) (hb hby o_d10_0) (by decide) (by decide)
 have N279 := Fr.app N0 N279q
 refine o_go st279 ?_
 refine o_gi (XS.aloadN X279.here hx rfl (hb hby o_d10_3) rfl rfl) ?_
 show o_Gs p e below _ T279 m 4 #[o_A r0, o_u, o_u] [(.ref r0), (.ref s_d)]
 obtain ⟨_, T280, L280, X280, ⟨b280, rfl, N280q, K280, lt_b280, G280_0⟩, st280⟩ := o_callV X279 hx hZ hown (hw _ o_t51) (hw _ o_t52) (hw _ o_t54) (hw _ o_t53) (hw _ o_t50) (hw _ o_t55) (by decide) (b := s_d) (as := [(.ref r0)]) (rm12_1 l Z a0 hw [] r0 s_d t q_B q_S z_cs s_i s_u s_t h0 n0 Z0 O0 z_CS E_d F_u F_m T_t E_s F_v F_c E_t T_s hS hq ne_iu ne_r0_t S_z_cs S_s_i S_s_u S_s_t) e279 (E_d.ext O0.2) o_pd15 rfl (pc := 4) (Ls := #[o_A r0, o_u, o_u]) (rest := []) (W := 0) (by rw [hml]; rfl) (Nat.le_of_eq rfl) (by decide) (by decide) (hb hby o_d10_4) (by decide) (by decide)
 have N280 := Fr.app N279 N280q
 have ne_r0_b280 : r0 ≠ b280 := Nat.ne_of_lt (Nat.lt_of_lt_of_le E_s.lt lt_b280)
 have ne_t_b280 : t ≠ b280 := Nat.ne_of_lt (Nat.lt_of_lt_of_le E_t.lt lt_b280)
 have g_b280 : n0 ≤ b280 := Nat.le_trans Z0 lt_b280
 have sz_b280 : h0.size ≤ b280 := Nat.le_trans (Keep.refl h0 ([] : List Addr)).1 lt_b280
 refine o_go st280 ?_
 refine o_gi (XS.astoreN X280.here hx rfl (hb hby o_d10_7) rfl rfl (l' := #[o_A r0, o_A b280, o_u]) rfl) ?_
 refine o_gi (XS.goto X280.here hx rfl (pc0 := 8) (pc' := 22) rfl (hb hby o_d10_8) (by decide) (by decide)) ?_
 refine o_gi (XS.aloadN X280.here hx rfl (hb hby o_d10_22) rfl rfl) ?_
 show o_Gs p e below _ T280 m 23 #[o_A r0, o_A b280, o_u] [(.ref b280)]
 obtain ⟨cl281, Ar281, sa281, na281, ha281⟩ := id G280_0
 refine o_go (X280.arraylength hx Ar281.1 (State.isArrayOf_alike hZ.alike Ar281.2.1) (g := (mkF m 23 #[o_A r0, o_A b280, o_u] [(.ref b280)])) rfl rfl (hb hby o_d10_23)) ?_
 rw [len_of sa281 na281]
 show o_Gs p e below _ T280 m 24 #[o_A r0, o_A b280, o_u] [(.int 32)]
 have hd282 : ¬ ((32 : Int32) = (0 : Int32)) := (by decide)
 refine o_gi (XS.ifNo X280.here hx rfl (hb hby o_d10_24) rfl ((if0 _ _).trans (feq hd282).1)) ?_
 refine o_gi (XS.aloadN X280.here hx rfl (hb hby o_d10_27) rfl rfl) ?_
 show o_Gs p e below _ T280 m 28 #[o_A r0, o_A b280, o_u] [(.ref b280)]
 obtain ⟨cl283, Ar283, sa283, na283, ha283⟩ := id G280_0
 refine o_go (X280.arraylength hx Ar283.1 (State.isArrayOf_alike hZ.alike Ar283.2.1) (g := (mkF m 28 #[o_A r0, o_A b280, o_u] [(.ref b280)])) rfl rfl (hb hby o_d10_28)) ?_
 rw [len_of sa283 na283]
 refine o_gi (XS.bipush X280.here hx rfl (hb hby o_d10_29)) ?_
 show o_Gs p e below _ T280 m 31 #[o_A r0, o_A b280, o_u] [(.int 16), (.int 32)]
 refine o_gi (iremM X280 hx rfl (hb hby o_d10_31) rfl (by decide)) ?_
 show o_Gs p e below _ T280 m 32 #[o_A r0, o_A b280, o_u] [(.int ((32 : Int32) % (16 : Int32)))]
 rw [show ((32 : Int32) % (16 : Int32)) = (0 : Int32) from by decide]
 show o_Gs p e below _ T280 m 32 #[o_A r0, o_A b280, o_u] [(.int 0)]
 have hd284 : (0 : Int32) = (0 : Int32) := (by decide)
 refine o_gi (XS.ifYes X280.here hx rfl (pc0 := 32) (pc' := 45) rfl (hb hby o_d10_32) rfl ((if0 _ _).trans (teq hd284).1) (by decide) (by decide)) ?_
 refine o_gi (XS.aloadN X280.here hx rfl (hb hby o_d10_45) rfl rfl) ?_
 show o_Gs p e below _ T280 m 46 #[o_A r0, o_A b280, o_u] [(.ref b280)]
 exact o_retR X280 hx hlk hret rfl rfl (hb hby o_d10_46) (by decide) (by decide) (⟨_, rfl, N280, ((Keep.refl h0 ([] : List Addr)).trans K280 (fun x hx => nomatch hx)), sz_b280, G280_0⟩)
theorem o_d19_172 : decode jdk_2450_method_7_code 172 = .ok (.iload 6, 2) := by decide +kernel
theorem o_d19_174 : decode jdk_2450_method_7_code 174 = .ok (.iconst 3, 1) := by decide +kernel
theorem o_d19_175 : decode jdk_2450_method_7_code 175 = .ok (.iand, 1) := by decide +kernel
theorem o_d19_176 : decode jdk_2450_method_7_code 176 = .ok (.ifCond .eq 11, 3) := by decide +kernel
def o_Q19_2 (r1 : Addr) (s_d : Addr) (q_B : Int32 → Int32) (q_S : Int32 → Int32) (s_t : Addr) (h0 : Heap) (n0 : Nat) (v : Option Value) (h : Heap) (L : List Loc) : Prop := v = some (.int 48) ∧ Fr n0 L ∧ h = h0
abbrev o_R19_2 : Room := { frames := 0, cells := 0, slots := 0, locals := 0 }
theorem o_ef19_2 (m : MethodId) (z0 : Addr) (z1 : Addr) : entryFrame m #[(.ref z0), (.ref z1), (.int 0), (.int 64)] 9 = mkF m 0 #[o_A z0, o_A z1, o_I 0, o_I 64, o_u, o_u, o_u, o_u, o_u] [] := by first | (simp [entryFrame, mkF, argsToLocals, Value.category]; done) | rfl
set_option maxRecDepth 65536 in
set_option maxHeartbeats 40000000 in
theorem rm19_2 (l : Launch) (Z : State) (a0 : Array Value) (hw : ∀ d ∈ tables_1, d.before a0 Z = true) (ws : List Jvm.Cond) (r1 : Addr) (s_d : Addr) (q_B : Int32 → Int32) (q_S : Int32 → Int32) (s_t : Addr) (h0 : Heap) (n0 : Nat) (Z0 : n0 ≤ h0.size) (O0 : Old Z n0 h0) (E_d : Exa Z Z.heap s_d "java/util/Base64$Decoder") (F_u : Fld Z Z.heap s_d "java/util/Base64$Decoder" "isURL" "Z" (.int 0)) (F_m : Fld Z Z.heap s_d "java/util/Base64$Decoder" "isMIME" "Z" (.int 0)) (T_t : o_Tb Z Z.heap s_t .int 256 o_b64) (T_s : o_Tb Z h0 r1 .byte (64 : Int32) q_S) (hq : o_Md2 q_B q_S) (S_s_t : Sta Z Z.heap "java/util/Base64$Decoder" "fromBase64" "[I" (.ref s_t)) : o_Met l Z (⟨"java/util/Base64$Decoder", "decodedOutLength", "([BII)I"⟩ : MethodName) jdk_2450_method_7_code 9 (some .int) ws o_R19_2 #[(.ref s_d), (.ref r1), (.int 0), (.int 64)] h0 (o_Q19_2 r1 s_d q_B q_S s_t h0 n0) := by
 refine o_met (plainFor_of_name o_pn4) ?_
 intro p e s m below meth c s₁ hx hby hml hown hnm hret hlk hZ e0 X0
 have N0 := Fr.nil n0
 have hml : c.maxLocals = 9 := hml
 have hown : s.vm.findClass "java/util/Base64$Decoder" = some m.cls := hown
 have hret : meth.sig.returnType = (some .int) := hret
 have hby : c.code = jdk_2450_method_7_code := hby
 have hnm : meth.name = "decodedOutLength" := hnm
 rw [o_ef19_2]
 refine o_gi (XS.aloadN X0.here hx rfl (hb hby o_d19_0) rfl rfl) ?_
 show o_Gs p e below _ s₁ m 1 #[o_A s_d, o_A r1, o_I 0, o_I 64, o_u, o_u, o_u, o_u, o_u] [(.ref s_d)]
 obtain ⟨T285, X285, e285, st285⟩ := getF X0 hx hZ hown (host := "") (Or.inl (hw _ o_t99)) Via.refl e0 (F_u.ext O0.2) (g := (mkF m 1 #[o_A s_d, o_A r1, o_I 0, o_I 64, o_u, o_u, o_u, o_u, o_u] [(.ref s_d)])) rfl rfl (hb hby o_d19_1)
 refine o_go st285 ?_
 show o_Gs p e below _ T285 m 4 #[o_A s_d, o_A r1, o_I 0, o_I 64, o_u, o_u, o_u, o_u, o_u] [(.int 0)]
 have hd286 : (0 : Int32) = (0 : Int32) := (by decide)
 refine o_gi (XS.ifYes X285.here hx rfl (pc0 := 4) (pc' := 13) rfl (hb hby o_d19_4) rfl ((if0 _ _).trans (teq hd286).1) (by decide) (by decide)) ?_
 show o_Gs p e below _ T285 m 13 #[o_A s_d, o_A r1, o_I 0, o_I 64, o_u, o_u, o_u, o_u, o_u] []
 obtain ⟨T287, X287, e287, st287⟩ := getS2 X285 hx hZ hown (host := "") (Or.inl (hw _ o_t101)) Via.refl e285 (S_s_t.ext O0.2) (g := (mkF m 13 #[o_A s_d, o_A r1, o_I 0, o_I 64, o_u, o_u, o_u, o_u, o_u] [])) rfl (hb hby o_d19_13)
 refine o_go st287 ?_
 refine o_gi (XS.astore X287.here hx rfl (hb hby o_d19_16) rfl rfl (l' := #[o_A s_d, o_A r1, o_I 0, o_I 64, o_A s_t, o_u, o_u, o_u, o_u]) rfl) ?_
 refine o_gi (XS.iconst X287.here hx rfl (hb hby o_d19_18)) ?_
 refine o_gi (XS.istore X287.here hx rfl (hb hby o_d19_19) rfl (l' := #[o_A s_d, o_A r1, o_I 0, o_I 64, o_A s_t, o_I 0, o_u, o_u, o_u]) rfl) ?_
 refine o_gi (XS.iloadN X287.here hx rfl (hb hby o_d19_21) rfl) ?_
 refine o_gi (XS.iloadN X287.here hx rfl (hb hby o_d19_22) rfl) ?_
 show o_Gs p e below _ T287 m 23 #[o_A s_d, o_A r1, o_I 0, o_I 64, o_A s_t, o_I 0, o_u, o_u, o_u] [(.int 0), (.int 64)]
 refine o_gi (XS.isub X287.here hx rfl (hb hby o_d19_23) rfl) ?_
 show o_Gs p e below _ T287 m 24 #[o_A s_d, o_A r1, o_I 0, o_I 64, o_A s_t, o_I 0, o_u, o_u, o_u] [(.int ((64 : Int32) - (0 : Int32)))]
 rw [show ((64 : Int32) - (0 : Int32)) = (64 : Int32) from by decide]
 refine o_gi (XS.istore X287.here hx rfl (hb hby o_d19_24) rfl (l' := #[o_A s_d, o_A r1, o_I 0, o_I 64, o_A s_t, o_I 0, o_I 64, o_u, o_u]) rfl) ?_
 refine o_gi (XS.iload X287.here hx rfl (hb hby o_d19_26) rfl) ?_
 show o_Gs p e below _ T287 m 28 #[o_A s_d, o_A r1, o_I 0, o_I 64, o_A s_t, o_I 0, o_I 64, o_u, o_u] [(.int 64)]
 have hd288 : ¬ ((64 : Int32) = (0 : Int32)) := (by decide)
 refine o_gi (XS.ifYes X287.here hx rfl (pc0 := 28) (pc' := 33) rfl (hb hby o_d19_28) rfl ((if0 _ _).trans (feq hd288).2) (by decide) (by decide)) ?_
 refine o_gi (XS.iload X287.here hx rfl (hb hby o_d19_33) rfl) ?_
 refine o_gi (XS.iconst X287.here hx rfl (hb hby o_d19_35)) ?_
 show o_Gs p e below _ T287 m 36 #[o_A s_d, o_A r1, o_I 0, o_I 64, o_A s_t, o_I 0, o_I 64, o_u, o_u] [(.int 2), (.int 64)]
 have hd289 : ¬ ((64 : Int32) < (2 : Int32)) := (by decide)
 refine o_gi (XS.icmpYes X287.here hx rfl (pc0 := 36) (pc' := 66) rfl (hb hby o_d19_36) rfl (flt hd289).2.1 (by decide) (by decide)) ?_
 refine o_gi (XS.aloadN X287.here hx rfl (hb hby o_d19_66) rfl rfl) ?_
 show o_Gs p e below _ T287 m 67 #[o_A s_d, o_A r1, o_I 0, o_I 64, o_A s_t, o_I 0, o_I 64, o_u, o_u] [(.ref s_d)]
 obtain ⟨T290, X290, e290, st290⟩ := getF X287 hx hZ hown (host := "") (Or.inl (hw _ o_t102)) Via.refl e287 (F_m.ext O0.2) (g := (mkF m 67 #[o_A s_d, o_A r1, o_I 0, o_I 64, o_A s_t, o_I 0, o_I 64, o_u, o_u] [(.ref s_d)])) rfl rfl (hb hby o_d19_67)
 refine o_go st290 ?_
 show o_Gs p e below _ T290 m 70 #[o_A s_d, o_A r1, o_I 0, o_I 64, o_A s_t, o_I 0, o_I 64, o_u, o_u] [(.int 0)]
 have hd291 : (0 : Int32) = (0 : Int32) := (by decide)
 refine o_gi (XS.ifYes X290.here hx rfl (pc0 := 70) (pc' := 141) rfl (hb hby o_d19_70) rfl ((if0 _ _).trans (teq hd291).1) (by decide) (by decide)) ?_
 refine o_gi (XS.aloadN X290.here hx rfl (hb hby o_d19_141) rfl rfl) ?_
 refine o_gi (XS.iloadN X290.here hx rfl (hb hby o_d19_142) rfl) ?_
 refine o_gi (XS.iconst X290.here hx rfl (hb hby o_d19_143)) ?_
 show o_Gs p e below _ T290 m 144 #[o_A s_d, o_A r1, o_I 0, o_I 64, o_A s_t, o_I 0, o_I 64, o_u, o_u] [(.int 1), (.int 64), (.ref r1)]
 refine o_gi (XS.isub X290.here hx rfl (hb hby o_d19_144) rfl) ?_
 show o_Gs p e below _ T290 m 145 #[o_A s_d, o_A r1, o_I 0, o_I 64, o_A s_t, o_I 0, o_I 64, o_u, o_u] [(.int ((64 : Int32) - (1 : Int32))), (.ref r1)]
 rw [show ((64 : Int32) - (1 : Int32)) = (63 : Int32) from by decide]
 show o_Gs p e below _ T290 m 145 #[o_A s_d, o_A r1, o_I 0, o_I 64, o_A s_t, o_I 0, o_I 64, o_u, o_u] [(.int 63), (.ref r1)]
 obtain ⟨cl292, Ar292, sa292, na292, ha292⟩ := id T_s
 have ix292 : ¬ (63 : Int32) < 0 ∧ (63 : Int32) < (64 : Int32) := ⟨by decide, by decide⟩
 refine o_go (X290.baloadBytes hx (j := (63 : Int32)) (v := (.int (q_S (63 : Int32)))) (by rw [e290]; exact Ar292.1) (State.isArrayOf_alike hZ.alike Ar292.2.1) Ar292.2.2 (inb_of sa292 ix292) (ha292 _ ix292.1 ix292.2) (g := (mkF m 145 #[o_A s_d, o_A r1, o_I 0, o_I 64, o_A s_t, o_I 0, o_I 64, o_u, o_u] [(.int 63), (.ref r1)])) rfl rfl (hb hby o_d19_145)) ?_
 refine o_gi (XS.bipush X290.here hx rfl (hb hby o_d19_146)) ?_
 show o_Gs p e below _ T290 m 148 #[o_A s_d, o_A r1, o_I 0, o_I 64, o_A s_t, o_I 0, o_I 64, o_u, o_u] [(.int 61), (.int (q_S (63 : Int32)))]
 have hd293 : ¬ ((q_S (63 : Int32)) = (61 : Int32)) := hq.2.2
 refine o_gi (XS.icmpYes X290.here hx rfl (pc0 := 148) (pc' := 167) rfl (hb hby o_d19_148) rfl (feq hd293).2 (by decide) (by decide)) ?_
 refine o_gi (XS.iload X290.here hx rfl (hb hby o_d19_167) rfl) ?_
 show o_Gs p e below _ T290 m 169 #[o_A s_d, o_A r1, o_I 0, o_I 64, o_A s_t, o_I 0, o_I 64, o_u, o_u] [(.int 0)]
 have hd294 : (0 : Int32) = (0 : Int32) := (by decide)
 refine o_gi (XS.ifNo X290.here hx rfl (hb hby o_d19_169) rfl ((if0 _ _).trans (teq hd294).2)) ?_
 refine o_gi (XS.iload X290.here hx rfl (hb hby o_d19_172) rfl) ?_
 refine o_gi (XS.iconst X290.here hx rfl (hb hby o_d19_174)) ?_
 show o_Gs p e below _ T290 m 175 #[o_A s_d, o_A r1, o_I 0, o_I 64, o_A s_t, o_I 0, o_I 64, o_u, o_u] [(.int 3), (.int 64)]
 refine o_gi (XS.iand X290.here hx rfl (hb hby o_d19_175) rfl) ?_
 show o_Gs p e below _ T290 m 176 #[o_A s_d, o_A r1, o_I 0, o_I 64, o_A s_t, o_I 0, o_I 64, o_u, o_u] [(.int ((64 : Int32) &&& (3 : Int32)))]
 rw [show ((64 : Int32) &&& (3 : Int32)) = (0 : Int32) from by decide]
 show o_Gs p e below _ T290 m 176 #[o_A s_d, o_A r1, o_I 0, o_I 64, o_A s_t, o_I 0, o_I 64, o_u, o_u] [(.int 0)]
 have hd295 : (0 : Int32) = (0 : Int32) := (by decide)
 refine o_gi (XS.ifYes X290.here hx rfl (pc0 := 176) (pc' := 187) rfl (hb hby o_d19_176) rfl ((if0 _ _).trans (teq hd295).1) (by decide) (by decide)) ?_
 refine o_gi (XS.iconst X290.here hx rfl (hb hby o_d19_187)) ?_
 refine o_gi (XS.iload X290.here hx rfl (hb hby o_d19_188) rfl) ?_
 show o_Gs p e below _ T290 m 190 #[o_A s_d, o_A r1, o_I 0, o_I 64, o_A s_t, o_I 0, o_I 64, o_u, o_u] [(.int 64), (.int 3)]
 refine o_gi (XS.i2l X290.here hx rfl (hb hby o_d19_190) rfl) ?_
 show o_Gs p e below _ T290 m 191 #[o_A s_d, o_A r1, o_I 0, o_I 64, o_A s_t, o_I 0, o_I 64, o_u, o_u] [(.long ((64 : Int32).toInt64)), (.int 3)]
 refine o_go (X290.ldc2Long hx hown (mvT hZ (hw _ o_t104)) (g := (mkF m 191 #[o_A s_d, o_A r1, o_I 0, o_I 64, o_A s_t, o_I 0, o_I 64, o_u, o_u] [(.long ((64 : Int32).toInt64)), (.int 3)])) rfl (hb hby o_d19_191)) ?_
 show o_Gs p e below _ T290 m 194 #[o_A s_d, o_A r1, o_I 0, o_I 64, o_A s_t, o_I 0, o_I 64, o_u, o_u] [(.long (3 : Int64)), (.long ((64 : Int32).toInt64)), (.int 3)]
 refine o_gi (XS.ladd X290.here hx rfl (hb hby o_d19_194) rfl) ?_
 show o_Gs p e below _ T290 m 195 #[o_A s_d, o_A r1, o_I 0, o_I 64, o_A s_t, o_I 0, o_I 64, o_u, o_u] [(.long (((64 : Int32).toInt64) + (3 : Int64))), (.int 3)]
 refine o_go (X290.ldc2Long hx hown (mvT hZ (hw _ o_t105)) (g := (mkF m 195 #[o_A s_d, o_A r1, o_I 0, o_I 64, o_A s_t, o_I 0, o_I 64, o_u, o_u] [(.long (((64 : Int32).toInt64) + (3 : Int64))), (.int 3)])) rfl (hb hby o_d19_195)) ?_
 show o_Gs p e below _ T290 m 198 #[o_A s_d, o_A r1, o_I 0, o_I 64, o_A s_t, o_I 0, o_I 64, o_u, o_u] [(.long (4 : Int64)), (.long (((64 : Int32).toInt64) + (3 : Int64))), (.int 3)]
 refine o_gi (XS.ldiv X290.here hx rfl (hb hby o_d19_198) rfl (by decide)) ?_
 show o_Gs p e below _ T290 m 199 #[o_A s_d, o_A r1, o_I 0, o_I 64, o_A s_t, o_I 0, o_I 64, o_u, o_u] [(.long ((((64 : Int32).toInt64) + (3 : Int64)) / (4 : Int64))), (.int 3)]
 refine o_gi (XS.l2i X290.here hx rfl (hb hby o_d19_199) rfl) ?_
 show o_Gs p e below _ T290 m 200 #[o_A s_d, o_A r1, o_I 0, o_I 64, o_A s_t, o_I 0, o_I 64, o_u, o_u] [(.int (((((64 : Int32).toInt64) + (3 : Int64)) / (4 : Int64)).toInt32)), (.int 3)]
 refine o_gi (XS.imul X290.here hx rfl (hb hby o_d19_200) rfl) ?_
 refine o_gi (XS.iload X290.here hx rfl (hb hby o_d19_201) rfl) ?_
 show o_Gs p e below _ T290 m 203 #[o_A s_d, o_A r1, o_I 0, o_I 64, o_A s_t, o_I 0, o_I 64, o_u, o_u] [(.int 0), (.int ((3 : Int32) * (((((64 : Int32).toInt64) + (3 : Int64)) / (4 : Int64)).toInt32)))]
 refine o_gi (XS.isub X290.here hx rfl (hb hby o_d19_203) rfl) ?_
 show o_Gs p e below _ T290 m 204 #[o_A s_d, o_A r1, o_I 0, o_I 64, o_A s_t, o_I 0, o_I 64, o_u, o_u] [(.int (((3 : Int32) * (((((64 : Int32).toInt64) + (3 : Int64)) / (4 : Int64)).toInt32)) - (0 : Int32)))]
 rw [show (((3 : Int32) * (((((64 : Int32).toInt64) + (3 : Int64)) / (4 : Int64)).toInt32)) - (0 : Int32)) = (48 : Int32) from by decide]
 show o_Gs p e below _ T290 m 204 #[o_A s_d, o_A r1, o_I 0, o_I 64, o_A s_t, o_I 0, o_I 64, o_u, o_u] [(.int 48)]
 exact o_retI X290 hx hlk hret (hb hby o_d19_204) (by decide) (by decide) ⟨rfl, N0, e290⟩
theorem o_d20_95 : decode jdk_2450_method_9_code 95 = .ok (.goto 186, 3) := by decide +kernel
theorem o_d20_341 : decode jdk_2450_method_9_code 341 = .ok (.iload 8, 2) := by decide +kernel
theorem o_d20_343 : decode jdk_2450_method_9_code 343 = .ok (.bipush 12, 2) := by decide +kernel
theorem o_d20_345 : decode jdk_2450_method_9_code 345 = .ok (.if_icmp .ne 13, 3) := by decide +kernel
def o_Q20_2 (Z : State) (r4 : Addr) (q_B : Int32 → Int32) (h0 : Heap) (n0 : Nat) (v : Option Value) (h : Heap) (L : List Loc) : Prop := v = some (.int 48) ∧ Fr n0 L ∧ Keep h0 h [r4] ∧ o_Tb Z h r4 .byte (48 : Int32) q_B
abbrev o_R20_2 : Room := { frames := 1, cells := 0, slots := 0, locals := 27 }
theorem o_ef20_2 (m : MethodId) (z0 : Addr) (z1 : Addr) (z4 : Addr) : entryFrame m #[(.ref z0), (.ref z1), (.int 0), (.int 64), (.ref z4)] 11 = mkF m 0 #[o_A z0, o_A z1, o_I 0, o_I 64, o_A z4, o_u, o_u, o_u, o_u, o_u, o_u] [] := by first | (simp [entryFrame, mkF, argsToLocals, Value.category]; done) | rfl
set_option maxRecDepth 65536 in
set_option maxHeartbeats 40000000 in
theorem rm20_2 (l : Launch) (Z : State) (a0 : Array Value) (hw : ∀ d ∈ tables_1, d.before a0 Z = true) (ws : List Jvm.Cond) (r1 : Addr) (r4 : Addr) (s_d : Addr) (q_B : Int32 → Int32) (q_S : Int32 → Int32) (s_t : Addr) (h0 : Heap) (n0 : Nat) (Z0 : n0 ≤ h0.size) (g_r4 : n0 ≤ r4) (O0 : Old Z n0 h0) (E_d : Exa Z Z.heap s_d "java/util/Base64$Decoder") (F_u : Fld Z Z.heap s_d "java/util/Base64$Decoder" "isURL" "Z" (.int 0)) (F_m : Fld Z Z.heap s_d "java/util/Base64$Decoder" "isMIME" "Z" (.int 0)) (T_t : o_Tb Z Z.heap s_t .int 256 o_b64) (T_s : o_Tb Z h0 r1 .byte (64 : Int32) q_S) (T_d : o_Tb Z h0 r4 .byte (48 : Int32) (fun _ => 0)) (hq : o_Md2 q_B q_S) (ne_r1_r4 : r1 ≠ r4) (S_s_t : Sta Z Z.heap "java/util/Base64$Decoder" "fromBase64" "[I" (.ref s_t)) : o_Met l Z (⟨"java/util/Base64$Decoder", "decode0", "([BII[B)I"⟩ : MethodName) jdk_2450_method_9_code 11 (some .int) ws o_R20_2 #[(.ref s_d), (.ref r1), (.int 0), (.int 64), (.ref r4)] h0 (o_Q20_2 Z r4 q_B h0 n0) := by
 refine o_met (plainFor_of_name o_pn4) ?_
 intro p e s m below meth c s₁ hx hby hml hown hnm hret hlk hZ e0 X0
 have N0 := Fr.nil n0
 have hml : c.maxLocals = 11 := hml
 have hown : s.vm.findClass "java/util/Base64$Decoder" = some m.cls := hown
 have hret : meth.sig.returnType = (some .int) := hret
 have hby : c.code = jdk_2450_method_9_code := hby
 have hnm : meth.name = "decode0" := hnm
 rw [o_ef20_2]
 refine o_gi (XS.aloadN X0.here hx rfl (hb hby o_d20_0) rfl rfl) ?_
 show o_Gs p e below _ s₁ m 1 #[o_A s_d, o_A r1, o_I 0, o_I 64, o_A r4, o_u, o_u, o_u, o_u, o_u, o_u] [(.ref s_d)]
 obtain ⟨T296, X296, e296, st296⟩ := getF X0 hx hZ hown (host := "") (Or.inl (hw _ o_t99)) Via.refl e0 (F_u.ext O0.2) (g := (mkF m 1 #[o_A s_d, o_A r1, o_I 0, o_I 64, o_A r4, o_u, o_u, o_u, o_u, o_u, o_u] [(.ref s_d)])) rfl rfl (hb hby o_d20_1)
 refine o_go st296 ?_
 show o_Gs p e below _ T296 m 4 #[o_A s_d, o_A r1, o_I 0, o_I 64, o_A r4, o_u, o_u, o_u, o_u, o_u, o_u] [(.int 0)]
 have hd297 : (0 : Int32) = (0 : Int32) := (by decide)
 refine o_gi (XS.ifYes X296.here hx rfl (pc0 := 4) (pc' := 13) rfl (hb hby o_d20_4) rfl ((if0 _ _).trans (teq hd297).1) (by decide) (by decide)) ?_
 show o_Gs p e below _ T296 m 13 #[o_A s_d, o_A r1, o_I 0, o_I 64, o_A r4, o_u, o_u, o_u, o_u, o_u, o_u] []
 obtain ⟨T298, X298, e298, st298⟩ := getS2 X296 hx hZ hown (host := "") (Or.inl (hw _ o_t101)) Via.refl e296 (S_s_t.ext O0.2) (g := (mkF m 13 #[o_A s_d, o_A r1, o_I 0, o_I 64, o_A r4, o_u, o_u, o_u, o_u, o_u, o_u] [])) rfl (hb hby o_d20_13)
 refine o_go st298 ?_
 refine o_gi (XS.astore X298.here hx rfl (hb hby o_d20_16) rfl rfl (l' := #[o_A s_d, o_A r1, o_I 0, o_I 64, o_A r4, o_A s_t, o_u, o_u, o_u, o_u, o_u]) rfl) ?_
 refine o_gi (XS.iconst X298.here hx rfl (hb hby o_d20_18)) ?_
 refine o_gi (XS.istore X298.here hx rfl (hb hby o_d20_19) rfl (l' := #[o_A s_d, o_A r1, o_I 0, o_I 64, o_A r4, o_A s_t, o_I 0, o_u, o_u, o_u, o_u]) rfl) ?_
 refine o_gi (XS.iconst X298.here hx rfl (hb hby o_d20_21)) ?_
 refine o_gi (XS.istore X298.here hx rfl (hb hby o_d20_22) rfl (l' := #[o_A s_d, o_A r1, o_I 0, o_I 64, o_A r4, o_A s_t, o_I 0, o_I 0, o_u, o_u, o_u]) rfl) ?_
 refine o_gi (XS.bipush X298.here hx rfl (hb hby o_d20_24)) ?_
 refine o_gi (XS.istore X298.here hx rfl (hb hby o_d20_26) rfl (l' := #[o_A s_d, o_A r1, o_I 0, o_I 64, o_A r4, o_A s_t, o_I 0, o_I 0, o_I 18, o_u, o_u]) rfl) ?_
 refine o_gi (XS.iloadN X298.here hx rfl (hb hby o_d20_28) rfl) ?_
 refine o_gi (XS.iloadN X298.here hx rfl (hb hby o_d20_29) rfl) ?_
 show o_Gs p e below _ T298 m 30 #[o_A s_d, o_A r1, o_I 0, o_I 64, o_A r4, o_A s_t, o_I 0, o_I 0, o_I 18, o_u, o_u] [(.int 64), (.int 0)]
 have hd299 : (0 : Int32) < (64 : Int32) := (by decide)
 refine o_gi (XS.icmpNo X298.here hx rfl (hb hby o_d20_30) rfl (tlt hd299).2.1) ?_
 refine o_gi (XS.iload X298.here hx rfl (hb hby o_d20_33) rfl) ?_
 refine o_gi (XS.bipush X298.here hx rfl (hb hby o_d20_35)) ?_
 show o_Gs p e below _ T298 m 37 #[o_A s_d, o_A r1, o_I 0, o_I 64, o_A r4, o_A s_t, o_I 0, o_I 0, o_I 18, o_u, o_u] [(.int 18), (.int 18)]
 have hd300 : (18 : Int32) = (18 : Int32) := (by decide)
 refine o_gi (XS.icmpNo X298.here hx rfl (hb hby o_d20_37) rfl (teq hd300).2) ?_
 refine o_gi (XS.iloadN X298.here hx rfl (hb hby o_d20_40) rfl) ?_
 refine o_gi (XS.iloadN X298.here hx rfl (hb hby o_d20_41) rfl) ?_
 refine o_gi (XS.iconst X298.here hx rfl (hb hby o_d20_42)) ?_
 show o_Gs p e below _ T298 m 43 #[o_A s_d, o_A r1, o_I 0, o_I 64, o_A r4, o_A s_t, o_I 0, o_I 0, o_I 18, o_u, o_u] [(.int 4), (.int 64), (.int 0)]
 refine o_gi (XS.isub X298.here hx rfl (hb hby o_d20_43) rfl) ?_
 show o_Gs p e below _ T298 m 44 #[o_A s_d, o_A r1, o_I 0, o_I 64, o_A r4, o_A s_t, o_I 0, o_I 0, o_I 18, o_u, o_u] [(.int ((64 : Int32) - (4 : Int32))), (.int 0)]
 rw [show ((64 : Int32) - (4 : Int32)) = (60 : Int32) from by decide]
 show o_Gs p e below _ T298 m 44 #[o_A s_d, o_A r1, o_I 0, o_I 64, o_A r4, o_A s_t, o_I 0, o_I 0, o_I 18, o_u, o_u] [(.int 60), (.int 0)]
 have hd301 : (0 : Int32) < (60 : Int32) := (by decide)
 refine o_gi (XS.icmpNo X298.here hx rfl (hb hby o_d20_44) rfl (tlt hd301).2.1) ?_
 refine o_gi (XS.aloadN X298.here hx rfl (hb hby o_d20_47) rfl rfl) ?_
 refine o_gi (XS.aloadN X298.here hx rfl (hb hby o_d20_48) rfl rfl) ?_
 refine o_gi (XS.iloadN X298.here hx rfl (hb hby o_d20_49) rfl) ?_
 refine o_gi (XS.iloadN X298.here hx rfl (hb hby o_d20_50) rfl) ?_
 refine o_gi (XS.aload X298.here hx rfl (hb hby o_d20_51) rfl rfl) ?_
 refine o_gi (XS.iload X298.here hx rfl (hb hby o_d20_53) rfl) ?_
 refine o_gi (XS.aloadN X298.here hx rfl (hb hby o_d20_55) rfl rfl) ?_
 show o_Gs p e below _ T298 m 56 #[o_A s_d, o_A r1, o_I 0, o_I 64, o_A r4, o_A s_t, o_I 0, o_I 0, o_I 18, o_u, o_u] [(.ref s_d), (.int 0), (.ref r4), (.int 64), (.int 0), (.ref r1), (.ref s_d)]
 obtain ⟨T302, X302, e302, st302⟩ := getF X298 hx hZ hown (host := "") (Or.inl (hw _ o_t99)) Via.refl e298 (F_u.ext O0.2) (g := (mkF m 56 #[o_A s_d, o_A r1, o_I 0, o_I 64, o_A r4, o_A s_t, o_I 0, o_I 0, o_I 18, o_u, o_u] [(.ref s_d), (.int 0), (.ref r4), (.int 64), (.int 0), (.ref r1), (.ref s_d)])) rfl rfl (hb hby o_d20_56)
 refine o_go st302 ?_
 refine o_gi (XS.aloadN X302.here hx rfl (hb hby o_d20_59) rfl rfl) ?_
 show o_Gs p e below _ T302 m 60 #[o_A s_d, o_A r1, o_I 0, o_I 64, o_A r4, o_A s_t, o_I 0, o_I 0, o_I 18, o_u, o_u] [(.ref s_d), (.int 0), (.int 0), (.ref r4), (.int 64), (.int 0), (.ref r1), (.ref s_d)]
 obtain ⟨T303, X303, e303, st303⟩ := getF X302 hx hZ hown (host := "") (Or.inl (hw _ o_t102)) Via.refl e302 (F_m.ext O0.2) (g := (mkF m 60 #[o_A s_d, o_A r1, o_I 0, o_I 64, o_A r4, o_A s_t, o_I 0, o_I 0, o_I 18, o_u, o_u] [(.ref s_d), (.int 0), (.int 0), (.ref r4), (.int 64), (.int 0), (.ref r1), (.ref s_d)])) rfl rfl (hb hby o_d20_60)
 refine o_go st303 ?_
 show o_Gs p e below _ T303 m 63 #[o_A s_d, o_A r1, o_I 0, o_I 64, o_A r4, o_A s_t, o_I 0, o_I 0, o_I 18, o_u, o_u] [(.int 0), (.int 0), (.int 0), (.ref r4), (.int 64), (.int 0), (.ref r1), (.ref s_d)]
 obtain ⟨_, T304, L304, X304, ⟨rfl, N304q, K304, G304_0⟩, st304⟩ := o_callPS X303 hx hZ hown (hw _ o_t111) (hw _ o_t113) (hw _ o_t114) (hw _ o_t112) (hw _ o_t50) (hw _ o_t115) (by decide) (b := s_d) (as := [(.ref r1), (.int 0), (.int 64), (.ref r4), (.int 0), (.int 0), (.int 0)]) (rm21 l Z a0 hw [] r1 r4 s_d (64 : Int32) (48 : Int32) (48 : Int32) 16 q_B q_S s_t h0 n0 Z0 g_r4 O0 T_t T_s T_d ne_r1_r4 (by decide) (o_blk2 hq) S_s_t) e303 (E_d.ext O0.2) o_pd9 rfl (pc := 63) (Ls := #[o_A s_d, o_A r1, o_I 0, o_I 64, o_A r4, o_A s_t, o_I 0, o_I 0, o_I 18, o_u, o_u]) (rest := []) (W := 0) (by rw [hml]; rfl) (Nat.le_of_eq rfl) (by decide) (by decide) (hb hby o_d20_63) (by decide) (by decide)
 have N304 := Fr.app N0 N304q
 refine o_go st304 ?_
 refine o_gi (XS.istore X304.here hx rfl (hb hby o_d20_66) rfl (l' := #[o_A s_d, o_A r1, o_I 0, o_I 64, o_A r4, o_A s_t, o_I 0, o_I 0, o_I 18, o_I 48, o_u]) rfl) ?_
 refine o_gi (XS.iload X304.here hx rfl (hb hby o_d20_68) rfl) ?_
 refine o_gi (XS.iconst X304.here hx rfl (hb hby o_d20_70)) ?_
 show o_Gs p e below _ T304 m 71 #[o_A s_d, o_A r1, o_I 0, o_I 64, o_A r4, o_A s_t, o_I 0, o_I 0, o_I 18, o_I 48, o_u] [(.int 2), (.int 48)]
 refine o_gi (XS.iadd X304.here hx rfl (hb hby o_d20_71) rfl) ?_
 show o_Gs p e below _ T304 m 72 #[o_A s_d, o_A r1, o_I 0, o_I 64, o_A r4, o_A s_t, o_I 0, o_I 0, o_I 18, o_I 48, o_u] [(.int ((48 : Int32) + (2 : Int32)))]
 rw [show ((48 : Int32) + (2 : Int32)) = (50 : Int32) from by decide]
 refine o_gi (XS.iconst X304.here hx rfl (hb hby o_d20_72)) ?_
 show o_Gs p e below _ T304 m 73 #[o_A s_d, o_A r1, o_I 0, o_I 64, o_A r4, o_A s_t, o_I 0, o_I 0, o_I 18, o_I 48, o_u] [(.int 3), (.int 50)]
 refine o_gi (XS.idiv X304.here hx rfl (hb hby o_d20_73) rfl (by decide)) ?_
 show o_Gs p e below _ T304 m 74 #[o_A s_d, o_A r1, o_I 0, o_I 64, o_A r4, o_A s_t, o_I 0, o_I 0, o_I 18, o_I 48, o_u] [(.int ((50 : Int32) / (3 : Int32)))]
 rw [show ((50 : Int32) / (3 : Int32)) = (16 : Int32) from by decide]
 refine o_gi (XS.iconst X304.here hx rfl (hb hby o_d20_74)) ?_
 show o_Gs p e below _ T304 m 75 #[o_A s_d, o_A r1, o_I 0, o_I 64, o_A r4, o_A s_t, o_I 0, o_I 0, o_I 18, o_I 48, o_u] [(.int 4), (.int 16)]
 refine o_gi (XS.imul X304.here hx rfl (hb hby o_d20_75) rfl) ?_
 show o_Gs p e below _ T304 m 76 #[o_A s_d, o_A r1, o_I 0, o_I 64, o_A r4, o_A s_t, o_I 0, o_I 0, o_I 18, o_I 48, o_u] [(.int ((16 : Int32) * (4 : Int32)))]
 rw [show ((16 : Int32) * (4 : Int32)) = (64 : Int32) from by decide]
 refine o_gi (XS.istore X304.here hx rfl (hb hby o_d20_76) rfl (l' := #[o_A s_d, o_A r1, o_I 0, o_I 64, o_A r4, o_A s_t, o_I 0, o_I 0, o_I 18, o_I 48, o_I 64]) rfl) ?_
 refine o_gi (XS.iloadN X304.here hx rfl (hb hby o_d20_78) rfl) ?_
 refine o_gi (XS.iload X304.here hx rfl (hb hby o_d20_79) rfl) ?_
 show o_Gs p e below _ T304 m 81 #[o_A s_d, o_A r1, o_I 0, o_I 64, o_A r4, o_A s_t, o_I 0, o_I 0, o_I 18, o_I 48, o_I 64] [(.int 64), (.int 0)]
 refine o_gi (XS.iadd X304.here hx rfl (hb hby o_d20_81) rfl) ?_
 show o_Gs p e below _ T304 m 82 #[o_A s_d, o_A r1, o_I 0, o_I 64, o_A r4, o_A s_t, o_I 0, o_I 0, o_I 18, o_I 48, o_I 64] [(.int ((0 : Int32) + (64 : Int32)))]
 rw [show ((0 : Int32) + (64 : Int32)) = (64 : Int32) from by decide]
 refine o_gi (XS.istoreN X304.here hx rfl (hb hby o_d20_82) rfl (l' := #[o_A s_d, o_A r1, o_I 64, o_I 64, o_A r4, o_A s_t, o_I 0, o_I 0, o_I 18, o_I 48, o_I 64]) rfl) ?_
 refine o_gi (XS.iload X304.here hx rfl (hb hby o_d20_83) rfl) ?_
 refine o_gi (XS.iload X304.here hx rfl (hb hby o_d20_85) rfl) ?_
 show o_Gs p e below _ T304 m 87 #[o_A s_d, o_A r1, o_I 64, o_I 64, o_A r4, o_A s_t, o_I 0, o_I 0, o_I 18, o_I 48, o_I 64] [(.int 48), (.int 0)]
 refine o_gi (XS.iadd X304.here hx rfl (hb hby o_d20_87) rfl) ?_
 show o_Gs p e below _ T304 m 88 #[o_A s_d, o_A r1, o_I 64, o_I 64, o_A r4, o_A s_t, o_I 0, o_I 0, o_I 18, o_I 48, o_I 64] [(.int ((0 : Int32) + (48 : Int32)))]
 rw [show ((0 : Int32) + (48 : Int32)) = (48 : Int32) from by decide]
 refine o_gi (XS.istore X304.here hx rfl (hb hby o_d20_88) rfl (l' := #[o_A s_d, o_A r1, o_I 64, o_I 64, o_A r4, o_A s_t, o_I 48, o_I 0, o_I 18, o_I 48, o_I 64]) rfl) ?_
 refine o_gi (XS.iloadN X304.here hx rfl (hb hby o_d20_90) rfl) ?_
 refine o_gi (XS.iloadN X304.here hx rfl (hb hby o_d20_91) rfl) ?_
 show o_Gs p e below _ T304 m 92 #[o_A s_d, o_A r1, o_I 64, o_I 64, o_A r4, o_A s_t, o_I 48, o_I 0, o_I 18, o_I 48, o_I 64] [(.int 64), (.int 64)]
 have hd305 : ¬ ((64 : Int32) < (64 : Int32)) := (by decide)
 refine o_gi (XS.icmpNo X304.here hx rfl (hb hby o_d20_92) rfl (flt hd305).1) ?_
 refine o_gi (XS.goto X304.here hx rfl (pc0 := 95) (pc' := 281) rfl (hb hby o_d20_95) (by decide) (by decide)) ?_
 refine o_gi (XS.iload X304.here hx rfl (hb hby o_d20_281) rfl) ?_
 refine o_gi (XS.bipush X304.here hx rfl (hb hby o_d20_283)) ?_
 show o_Gs p e below _ T304 m 285 #[o_A s_d, o_A r1, o_I 64, o_I 64, o_A r4, o_A s_t, o_I 48, o_I 0, o_I 18, o_I 48, o_I 64] [(.int 6), (.int 18)]
 have hd306 : ¬ ((18 : Int32) = (6 : Int32)) := (by decide)
 refine o_gi (XS.icmpYes X304.here hx rfl (pc0 := 285) (pc' := 305) rfl (hb hby o_d20_285) rfl (feq hd306).2 (by decide) (by decide)) ?_
 refine o_gi (XS.iload X304.here hx rfl (hb hby o_d20_305) rfl) ?_
 show o_Gs p e below _ T304 m 307 #[o_A s_d, o_A r1, o_I 64, o_I 64, o_A r4, o_A s_t, o_I 48, o_I 0, o_I 18, o_I 48, o_I 64] [(.int 18)]
 have hd307 : ¬ ((18 : Int32) = (0 : Int32)) := (by decide)
 refine o_gi (XS.ifYes X304.here hx rfl (pc0 := 307) (pc' := 341) rfl (hb hby o_d20_307) rfl ((if0 _ _).trans (feq hd307).2) (by decide) (by decide)) ?_
 refine o_gi (XS.iload X304.here hx rfl (hb hby o_d20_341) rfl) ?_
 refine o_gi (XS.bipush X304.here hx rfl (hb hby o_d20_343)) ?_
 show o_Gs p e below _ T304 m 345 #[o_A s_d, o_A r1, o_I 64, o_I 64, o_A r4, o_A s_t, o_I 48, o_I 0, o_I 18, o_I 48, o_I 64] [(.int 12), (.int 18)]
 have hd308 : ¬ ((18 : Int32) = (12 : Int32)) := (by decide)
 refine o_gi (XS.icmpYes X304.here hx rfl (pc0 := 345) (pc' := 358) rfl (hb hby o_d20_345) rfl (feq hd308).2 (by decide) (by decide)) ?_
 refine o_gi (XS.iloadN X304.here hx rfl (hb hby o_d20_358) rfl) ?_
 refine o_gi (XS.iloadN X304.here hx rfl (hb hby o_d20_359) rfl) ?_
 show o_Gs p e below _ T304 m 360 #[o_A s_d, o_A r1, o_I 64, o_I 64, o_A r4, o_A s_t, o_I 48, o_I 0, o_I 18, o_I 48, o_I 64] [(.int 64), (.int 64)]
 have hd309 : ¬ ((64 : Int32) < (64 : Int32)) := (by decide)
 refine o_gi (XS.icmpYes X304.here hx rfl (pc0 := 360) (pc' := 416) rfl (hb hby o_d20_360) rfl (flt hd309).2.1 (by decide) (by decide)) ?_
 refine o_gi (XS.iload X304.here hx rfl (hb hby o_d20_416) rfl) ?_
 show o_Gs p e below _ T304 m 418 #[o_A s_d, o_A r1, o_I 64, o_I 64, o_A r4, o_A s_t, o_I 48, o_I 0, o_I 18, o_I 48, o_I 64] [(.int 48)]
 exact o_retI X304 hx hlk hret (hb hby o_d20_418) (by decide) (by decide) (⟨rfl, N304, ((Keep.refl h0 ([r4] : List Addr)).trans K304 (fun x hx => by cases List.mem_singleton.mp hx; exact Or.inl (List.mem_of_getElem? (i := 0) rfl))), (o_Tb.congr G304_0 (fun j h1 h2 => by exact o_tl2 j h1 h2))⟩)
def o_Q18_2 (Z : State) (r1 : Addr) (s_d : Addr) (q_B : Int32 → Int32) (q_S : Int32 → Int32) (s_t : Addr) (h0 : Heap) (n0 : Nat) (v : Option Value) (h : Heap) (L : List Loc) : Prop := ∃ b : Addr, v = some (.ref b) ∧ Fr n0 L ∧ Keep h0 h [] ∧ h0.size ≤ b ∧ o_Tb Z h b .byte (48 : Int32) q_B
abbrev o_R18_2 : Room := { frames := 2, cells := 1, slots := 48, locals := 49 }
theorem o_ef18_2 (m : MethodId) (z0 : Addr) (z1 : Addr) : entryFrame m #[(.ref z0), (.ref z1)] 4 = mkF m 0 #[o_A z0, o_A z1, o_u, o_u] [] := by first | (simp [entryFrame, mkF, argsToLocals, Value.category]; done) | rfl
set_option maxRecDepth 65536 in
set_option maxHeartbeats 40000000 in
theorem rm18_2 (l : Launch) (Z : State) (a0 : Array Value) (hw : ∀ d ∈ tables_1, d.before a0 Z = true) (ws : List Jvm.Cond) (r1 : Addr) (s_d : Addr) (q_B : Int32 → Int32) (q_S : Int32 → Int32) (s_t : Addr) (h0 : Heap) (n0 : Nat) (Z0 : n0 ≤ h0.size) (O0 : Old Z n0 h0) (E_d : Exa Z Z.heap s_d "java/util/Base64$Decoder") (F_u : Fld Z Z.heap s_d "java/util/Base64$Decoder" "isURL" "Z" (.int 0)) (F_m : Fld Z Z.heap s_d "java/util/Base64$Decoder" "isMIME" "Z" (.int 0)) (T_t : o_Tb Z Z.heap s_t .int 256 o_b64) (T_s : o_Tb Z h0 r1 .byte (64 : Int32) q_S) (hq : o_Md2 q_B q_S) (S_s_t : Sta Z Z.heap "java/util/Base64$Decoder" "fromBase64" "[I" (.ref s_t)) : o_Met l Z (⟨"java/util/Base64$Decoder", "decode", "([B)[B"⟩ : MethodName) jdk_2450_method_2_code 4 (some (.array .byte)) ws o_R18_2 #[(.ref s_d), (.ref r1)] h0 (o_Q18_2 Z r1 s_d q_B q_S s_t h0 n0) := by
 refine o_met (plainFor_of_name o_pn4) ?_
 intro p e s m below meth c s₁ hx hby hml hown hnm hret hlk hZ e0 X0
 have N0 := Fr.nil n0
 have hml : c.maxLocals = 4 := hml
 have hown : s.vm.findClass "java/util/Base64$Decoder" = some m.cls := hown
 have hret : meth.sig.returnType = (some (.array .byte)) := hret
 have hby : c.code = jdk_2450_method_2_code := hby
 have hnm : meth.name = "decode" := hnm
 rw [o_ef18_2]
 refine o_gi (XS.aloadN X0.here hx rfl (hb hby o_d18_0) rfl rfl) ?_
 refine o_gi (XS.aloadN X0.here hx rfl (hb hby o_d18_1) rfl rfl) ?_
 refine o_gi (XS.iconst X0.here hx rfl (hb hby o_d18_2)) ?_
 refine o_gi (XS.aloadN X0.here hx rfl (hb hby o_d18_3) rfl rfl) ?_
 show o_Gs p e below _ s₁ m 4 #[o_A s_d, o_A r1, o_u, o_u] [(.ref r1), (.int 0), (.ref r1), (.ref s_d)]
 obtain ⟨cl310, Ar310, sa310, na310, ha310⟩ := id T_s
 refine o_go (X0.arraylength hx (by rw [e0]; exact Ar310.1) (State.isArrayOf_alike hZ.alike Ar310.2.1) (g := (mkF m 4 #[o_A s_d, o_A r1, o_u, o_u] [(.ref r1), (.int 0), (.ref r1), (.ref s_d)])) rfl rfl (hb hby o_d18_4)) ?_
 rw [len_of sa310 na310]
 show o_Gs p e below _ s₁ m 5 #[o_A s_d, o_A r1, o_u, o_u] [(.int 64), (.int 0), (.ref r1), (.ref s_d)]
 obtain ⟨_, T311, L311, X311, ⟨rfl, N311q, e311⟩, st311⟩ := o_callPS X0 hx hZ hown (hw _ o_t94) (hw _ o_t96) (hw _ o_t97) (hw _ o_t95) (hw _ o_t50) (hw _ o_t98) (by decide) (b := s_d) (as := [(.ref r1), (.int 0), (.int 64)]) (rm19_2 l Z a0 hw [] r1 s_d q_B q_S s_t h0 n0 Z0 O0 E_d F_u F_m T_t T_s hq S_s_t) e0 (E_d.ext O0.2) o_pd10 rfl (pc := 5) (Ls := #[o_A s_d, o_A r1, o_u, o_u]) (rest := []) (W := 0) (by rw [hml]; rfl) (Nat.le_of_eq rfl) (by decide) (by decide) (hb hby o_d18_5) (by decide) (by decide)
 have N311 := Fr.app N0 N311q
 refine o_go st311 ?_
 show o_Gs p e below _ T311 m 8 #[o_A s_d, o_A r1, o_u, o_u] [(.int 48)]
 obtain ⟨T312, h312, k312, X312, e312, E312, A312, st312⟩ := newP X311 hx hZ (aty := .byte) (hw _ o_t1) e311 (g := (mkF m 8 #[o_A s_d, o_A r1, o_u, o_u] [(.int 48)])) rfl (hb hby o_d18_8) rfl (by decide) (cap := 48) (by decide) (by decide) (by decide) (by decide)
 obtain ⟨b312, q312⟩ : ∃ z, z = h0.size := ⟨_, rfl⟩
 rw [← q312] at A312 st312
 have lt_b312 : h0.size ≤ b312 := Nat.le_of_eq q312.symm
 have ne_r1_b312 : r1 ≠ b312 := Nat.ne_of_lt (Nat.lt_of_lt_of_le T_s.lt lt_b312)
 have g_b312 : n0 ≤ b312 := Nat.le_trans Z0 lt_b312
 have sz_b312 : h0.size ≤ b312 := Nat.le_trans (Keep.refl h0 ([] : List Addr)).1 lt_b312
 have V312 : o_Tb Z h312 b312 .byte (48 : Int32) (fun _ => 0) := o_Tb.new A312 (by decide) rfl
 refine o_go st312 ?_
 refine o_gi (XS.astoreN X312.here hx rfl (hb hby o_d18_10) rfl rfl (l' := #[o_A s_d, o_A r1, o_A b312, o_u]) rfl) ?_
 refine o_gi (XS.aloadN X312.here hx rfl (hb hby o_d18_11) rfl rfl) ?_
 refine o_gi (XS.aloadN X312.here hx rfl (hb hby o_d18_12) rfl rfl) ?_
 refine o_gi (XS.iconst X312.here hx rfl (hb hby o_d18_13)) ?_
 refine o_gi (XS.aloadN X312.here hx rfl (hb hby o_d18_14) rfl rfl) ?_
 show o_Gs p e below _ T312 m 15 #[o_A s_d, o_A r1, o_A b312, o_u] [(.ref r1), (.int 0), (.ref r1), (.ref s_d)]
 obtain ⟨cl313, Ar313, sa313, na313, ha313⟩ := id (T_s.ext E312)
 refine o_go (X312.arraylength hx (by rw [e312]; exact Ar313.1) (State.isArrayOf_alike hZ.alike Ar313.2.1) (g := (mkF m 15 #[o_A s_d, o_A r1, o_A b312, o_u] [(.ref r1), (.int 0), (.ref r1), (.ref s_d)])) rfl rfl (hb hby o_d18_15)) ?_
 rw [len_of sa313 na313]
 refine o_gi (XS.aloadN X312.here hx rfl (hb hby o_d18_16) rfl rfl) ?_
 show o_Gs p e below _ T312 m 17 #[o_A s_d, o_A r1, o_A b312, o_u] [(.ref b312), (.int 64), (.int 0), (.ref r1), (.ref s_d)]
 have oo315 : Old Z n0 h312 := (O0.ext E312)
 obtain ⟨_, T314, L314, X314, ⟨rfl, N314q, K314, G314_0⟩, st314⟩ := o_callPS X312 hx hZ hown (hw _ o_t106) (hw _ o_t108) (hw _ o_t109) (hw _ o_t107) (hw _ o_t50) (hw _ o_t110) (by decide) (b := s_d) (as := [(.ref r1), (.int 0), (.int 64), (.ref b312)]) (rm20_2 l Z a0 hw [] r1 b312 s_d q_B q_S s_t h312 n0 (Nat.le_trans Z0 E312.1) g_b312 (O0.ext E312) E_d F_u F_m T_t (T_s.ext E312) V312 hq ne_r1_b312 S_s_t) e312 (E_d.ext oo315.2) o_pd11 rfl (pc := 17) (Ls := #[o_A s_d, o_A r1, o_A b312, o_u]) (rest := []) (W := 0) (by rw [hml]; rfl) (Nat.le_of_eq rfl) (by decide) (by decide) (hb hby o_d18_17) (by decide) (by decide)
 have N314 := Fr.app N311 N314q
 refine o_go st314 ?_
 refine o_gi (XS.istoreN X314.here hx rfl (hb hby o_d18_20) rfl (l' := #[o_A s_d, o_A r1, o_A b312, o_I 48]) rfl) ?_
 refine o_gi (XS.iloadN X314.here hx rfl (hb hby o_d18_21) rfl) ?_
 refine o_gi (XS.aloadN X314.here hx rfl (hb hby o_d18_22) rfl rfl) ?_
 show o_Gs p e below _ T314 m 23 #[o_A s_d, o_A r1, o_A b312, o_I 48] [(.ref b312), (.int 48)]
 obtain ⟨cl316, Ar316, sa316, na316, ha316⟩ := id G314_0
 refine o_go (X314.arraylength hx Ar316.1 (State.isArrayOf_alike hZ.alike Ar316.2.1) (g := (mkF m 23 #[o_A s_d, o_A r1, o_A b312, o_I 48] [(.ref b312), (.int 48)])) rfl rfl (hb hby o_d18_23)) ?_
 rw [len_of sa316 na316]
 show o_Gs p e below _ T314 m 24 #[o_A s_d, o_A r1, o_A b312, o_I 48] [(.int 48), (.int 48)]
 have hd317 : (48 : Int32) = (48 : Int32) := (by decide)
 refine o_gi (XS.icmpYes X314.here hx rfl (pc0 := 24) (pc' := 33) rfl (hb hby o_d18_24) rfl (teq hd317).1 (by decide) (by decide)) ?_
 refine o_gi (XS.aloadN X314.here hx rfl (hb hby o_d18_33) rfl rfl) ?_
 show o_Gs p e below _ T314 m 34 #[o_A s_d, o_A r1, o_A b312, o_I 48] [(.ref b312)]
 exact o_retR X314 hx hlk hret rfl rfl (hb hby o_d18_34) (by decide) (by decide) (⟨_, rfl, N314, (((Keep.refl h0 ([] : List Addr)).ext E312).trans K314 (fun x hx => by cases List.mem_singleton.mp hx; exact Or.inr sz_b312)), sz_b312, G314_0⟩)
def o_Q12_2 (Z : State) (r1 : Addr) (s_d : Addr) (t : Addr) (q_B : Int32 → Int32) (q_S : Int32 → Int32) (z_cs : Int32) (s_i : Addr) (s_u : Addr) (s_t : Addr) (h0 : Heap) (n0 : Nat) (v : Option Value) (h : Heap) (L : List Loc) : Prop := ∃ b : Addr, v = some (.ref b) ∧ Fr n0 L ∧ Keep h0 h [] ∧ h0.size ≤ b ∧ o_Tb Z h b .byte (48 : Int32) q_B
abbrev o_R12_2 : Room := { frames := 5, cells := 2, slots := 112, locals := 76 }
theorem o_ef12_2 (m : MethodId) (z0 : Addr) (z1 : Addr) : entryFrame m #[(.ref z0), (.ref z1)] 2 = mkF m 0 #[o_A z0, o_A z1] [] := by first | (simp [entryFrame, mkF, argsToLocals, Value.category]; done) | rfl
set_option maxRecDepth 65536 in
set_option maxHeartbeats 40000000 in
theorem rm12_2 (l : Launch) (Z : State) (a0 : Array Value) (hw : ∀ d ∈ tables_1, d.before a0 Z = true) (ws : List Jvm.Cond) (r1 : Addr) (s_d : Addr) (t : Addr) (q_B : Int32 → Int32) (q_S : Int32 → Int32) (z_cs : Int32) (s_i : Addr) (s_u : Addr) (s_t : Addr) (h0 : Heap) (n0 : Nat) (Z0 : n0 ≤ h0.size) (O0 : Old Z n0 h0) (z_CS : ¬ z_cs = 0) (E_d : Exa Z Z.heap s_d "java/util/Base64$Decoder") (F_u : Fld Z Z.heap s_d "java/util/Base64$Decoder" "isURL" "Z" (.int 0)) (F_m : Fld Z Z.heap s_d "java/util/Base64$Decoder" "isMIME" "Z" (.int 0)) (T_t : o_Tb Z Z.heap s_t .int 256 o_b64) (E_s : Exa Z h0 r1 "java/lang/String") (F_v : Fld Z h0 r1 "java/lang/String" "value" "[B" (.ref t)) (F_c : Fld Z h0 r1 "java/lang/String" "coder" "B" (.int 0)) (E_t : Exa Z h0 t "[B") (T_s : o_Tb Z h0 t .byte (64 : Int32) q_S) (hS : o_By q_S) (hq : o_Md2 q_B q_S) (ne_iu : s_i ≠ s_u) (ne_r1_t : r1 ≠ t) (S_z_cs : Sta Z Z.heap "java/lang/String" "COMPACT_STRINGS" "Z" (.int z_cs)) (S_s_i : Sta Z Z.heap "sun/nio/cs/ISO_8859_1" "INSTANCE" "Lsun/nio/cs/ISO_8859_1;" (.ref s_i)) (S_s_u : Sta Z Z.heap "sun/nio/cs/UTF_8" "INSTANCE" "Lsun/nio/cs/UTF_8;" (.ref s_u)) (S_s_t : Sta Z Z.heap "java/util/Base64$Decoder" "fromBase64" "[I" (.ref s_t)) : o_Met l Z (⟨"java/util/Base64$Decoder", "decode", "(Ljava/lang/String;)[B"⟩ : MethodName) jdk_2450_method_3_code 2 (some (.array .byte)) ws o_R12_2 #[(.ref s_d), (.ref r1)] h0 (o_Q12_2 Z r1 s_d t q_B q_S z_cs s_i s_u s_t h0 n0) := by
 refine o_met (plainFor_of_name o_pn4) ?_
 intro p e s m below meth c s₁ hx hby hml hown hnm hret hlk hZ e0 X0
 have N0 := Fr.nil n0
 have hml : c.maxLocals = 2 := hml
 have hown : s.vm.findClass "java/util/Base64$Decoder" = some m.cls := hown
 have hret : meth.sig.returnType = (some (.array .byte)) := hret
 have hby : c.code = jdk_2450_method_3_code := hby
 have hnm : meth.name = "decode" := hnm
 rw [o_ef12_2]
 refine o_gi (XS.aloadN X0.here hx rfl (hb hby o_d12_0) rfl rfl) ?_
 refine o_gi (XS.aloadN X0.here hx rfl (hb hby o_d12_1) rfl rfl) ?_
 show o_Gs p e below _ s₁ m 2 #[o_A s_d, o_A r1] [(.ref r1), (.ref s_d)]
 obtain ⟨T318, X318, e318, st318⟩ := getS2 X0 hx hZ hown (host := "") (Or.inl (hw _ o_t56)) Via.refl e0 (S_s_i.ext O0.2) (g := (mkF m 2 #[o_A s_d, o_A r1] [(.ref r1), (.ref s_d)])) rfl (hb hby o_d12_2)
 refine o_go st318 ?_
 show o_Gs p e below _ T318 m 5 #[o_A s_d, o_A r1] [(.ref s_i), (.ref r1), (.ref s_d)]
 obtain ⟨_, T319, L319, X319, ⟨b319, rfl, N319q, K319, lt_b319, G319_0, G319_1⟩, st319⟩ := o_callV X318 hx hZ hown (hw _ o_t58) (hw _ o_t59) (hw _ o_t61) (hw _ o_t60) (hw _ o_t15) (hw _ o_t62) (by decide) (b := r1) (as := [(.ref s_i)]) (rm13 l Z a0 hw [] r1 t (64 : Int32) q_S z_cs s_u s_i h0 n0 Z0 O0 z_CS E_s F_v F_c E_t T_s hS (by decide) ne_iu ne_r1_t S_z_cs S_s_u S_s_i) e318 E_s o_pd12 rfl (pc := 5) (Ls := #[o_A s_d, o_A r1]) (rest := [(.ref s_d)]) (W := 1) (by rw [hml]; rfl) (Nat.le_of_eq rfl) (by decide) (by decide) (hb hby o_d12_5) (by decide) (by decide)
 have N319 := Fr.app N0 N319q
 have ne_r1_b319 : r1 ≠ b319 := Nat.ne_of_lt (Nat.lt_of_lt_of_le E_s.lt lt_b319)
 have ne_t_b319 : t ≠ b319 := Nat.ne_of_lt (Nat.lt_of_lt_of_le E_t.lt lt_b319)
 have g_b319 : n0 ≤ b319 := Nat.le_trans Z0 lt_b319
 have sz_b319 : h0.size ≤ b319 := Nat.le_trans (Keep.refl h0 ([] : List Addr)).1 lt_b319
 refine o_go st319 ?_
 show o_Gs p e below _ T319 m 8 #[o_A s_d, o_A r1] [(.ref b319), (.ref s_d)]
 have oo321 : Old Z n0 T319.heap := (O0.keep K319 all0)
 obtain ⟨_, T320, L320, X320, ⟨b320, rfl, N320q, K320, lt_b320, G320_0⟩, st320⟩ := o_callV X319 hx hZ hown (hw _ o_t89) (hw _ o_t90) (hw _ o_t92) (hw _ o_t91) (hw _ o_t50) (hw _ o_t93) (by decide) (b := s_d) (as := [(.ref b319)]) (rm18_2 l Z a0 hw [] b319 s_d q_B q_S s_t T319.heap n0 (Nat.le_trans Z0 K319.1) (O0.keep K319 all0) E_d F_u F_m T_t G319_1 hq S_s_t) rfl (E_d.ext oo321.2) o_pd13 rfl (pc := 8) (Ls := #[o_A s_d, o_A r1]) (rest := []) (W := 0) (by rw [hml]; rfl) (Nat.le_of_eq rfl) (by decide) (by decide) (hb hby o_d12_8) (by decide) (by decide)
 have N320 := Fr.app N319 N320q
 have ne_r1_b320 : r1 ≠ b320 := Nat.ne_of_lt (Nat.lt_of_lt_of_le (E_s.keep K319).lt lt_b320)
 have ne_t_b320 : t ≠ b320 := Nat.ne_of_lt (Nat.lt_of_lt_of_le (E_t.keep K319).lt lt_b320)
 have ne_b319_b320 : b319 ≠ b320 := Nat.ne_of_lt (Nat.lt_of_lt_of_le G319_0.lt lt_b320)
 have g_b320 : n0 ≤ b320 := Nat.le_trans (Nat.le_trans Z0 K319.1) lt_b320
 have sz_b320 : h0.size ≤ b320 := Nat.le_trans ((Keep.refl h0 ([] : List Addr)).trans K319 (fun x hx => nomatch hx)).1 lt_b320
 refine o_go st320 ?_
 show o_Gs p e below _ T320 m 11 #[o_A s_d, o_A r1] [(.ref b320)]
 exact o_retR X320 hx hlk hret rfl rfl (hb hby o_d12_11) (by decide) (by decide) (⟨_, rfl, N320, (((Keep.refl h0 ([] : List Addr)).trans K319 (fun x hx => nomatch hx)).trans K320 (fun x hx => nomatch hx)), sz_b320, G320_0⟩)
def o_Q10_2 (Z : State) (r0 : Addr) (t : Addr) (q_B : Int32 → Int32) (q_S : Int32 → Int32) (z_cs : Int32) (s_d : Addr) (s_i : Addr) (s_u : Addr) (s_t : Addr) (h0 : Heap) (n0 : Nat) (v : Option Value) (h : Heap) (L : List Loc) : Prop := ∃ b : Addr, v = some (.ref b) ∧ Fr n0 L ∧ Keep h0 h [] ∧ h0.size ≤ b ∧ o_Tb Z h b .byte (48 : Int32) q_B
abbrev o_R10_2 : Room := { frames := 6, cells := 2, slots := 112, locals := 89 }
theorem o_ef10_2 (m : MethodId) (z0 : Addr) : entryFrame m #[(.ref z0)] 3 = mkF m 0 #[o_A z0, o_u, o_u] [] := by first | (simp [entryFrame, mkF, argsToLocals, Value.category]; done) | rfl
set_option maxRecDepth 65536 in
set_option maxHeartbeats 40000000 in
theorem rm10_2 (l : Launch) (Z : State) (a0 : Array Value) (hw : ∀ d ∈ tables_1, d.before a0 Z = true) (ws : List Jvm.Cond) (r0 : Addr) (t : Addr) (q_B : Int32 → Int32) (q_S : Int32 → Int32) (z_cs : Int32) (s_d : Addr) (s_i : Addr) (s_u : Addr) (s_t : Addr) (h0 : Heap) (n0 : Nat) (Z0 : n0 ≤ h0.size) (O0 : Old Z n0 h0) (z_CS : ¬ z_cs = 0) (E_d : Exa Z Z.heap s_d "java/util/Base64$Decoder") (F_u : Fld Z Z.heap s_d "java/util/Base64$Decoder" "isURL" "Z" (.int 0)) (F_m : Fld Z Z.heap s_d "java/util/Base64$Decoder" "isMIME" "Z" (.int 0)) (T_t : o_Tb Z Z.heap s_t .int 256 o_b64) (E_s : Exa Z h0 r0 "java/lang/String") (F_v : Fld Z h0 r0 "java/lang/String" "value" "[B" (.ref t)) (F_c : Fld Z h0 r0 "java/lang/String" "coder" "B" (.int 0)) (E_t : Exa Z h0 t "[B") (T_s : o_Tb Z h0 t .byte (64 : Int32) q_S) (hS : o_By q_S) (hq : o_Md2 q_B q_S) (ne_iu : s_i ≠ s_u) (ne_r0_t : r0 ≠ t) (S_z_cs : Sta Z Z.heap "java/lang/String" "COMPACT_STRINGS" "Z" (.int z_cs)) (S_s_d : Sta Z Z.heap "java/util/Base64$Decoder" "RFC4648" "Ljava/util/Base64$Decoder;" (.ref s_d)) (S_s_i : Sta Z Z.heap "sun/nio/cs/ISO_8859_1" "INSTANCE" "Lsun/nio/cs/ISO_8859_1;" (.ref s_i)) (S_s_u : Sta Z Z.heap "sun/nio/cs/UTF_8" "INSTANCE" "Lsun/nio/cs/UTF_8;" (.ref s_u)) (S_s_t : Sta Z Z.heap "java/util/Base64$Decoder" "fromBase64" "[I" (.ref s_t)) : o_MetX l Z [(0, 8, 11, 41)] (⟨"com/example/quittance/quittance/dialect/AesCbc", "blocks", "(Ljava/lang/String;)[B"⟩ : MethodName) prog_9_method_3_code 3 (some (.array .byte)) ws o_R10_2 #[(.ref r0)] h0 (o_Q10_2 Z r0 t q_B q_S z_cs s_d s_i s_u s_t h0 n0) := by
 refine o_metX (plainFor_of_name o_pn5) ?_
 intro p e s m below meth c s₁ hx hby hml hown hnm hret hlk hZ e0 X0
 have N0 := Fr.nil n0
 have hml : c.maxLocals = 3 := hml
 have hown : s.vm.findClass "com/example/quittance/quittance/dialect/AesCbc" = some m.cls := hown
 have hret : meth.sig.returnType = (some (.array .byte)) := hret
 have hby : c.code = prog_9_method_3_code := hby
 have hnm : meth.name = "blocks" := hnm
 rw [o_ef10_2]
 show o_Gs p e below _ s₁ m 0 #[o_A r0, o_u, o_u] []
 obtain ⟨_, T322, L322, X322, ⟨rfl, N322q, e322⟩, st322⟩ := o_callS X0 hx hZ hown (hw _ o_t45) (hw _ o_t46) (hw _ o_t47) (hw _ o_t48) (by decide) (as := []) (rm11 l Z a0 hw [] s_d h0 n0 O0 S_s_d) e0 o_pd14 rfl (pc := 0) (Ls := #[o_A r0, o_u, o_u]) (rest := []) (W := 0) (by rw [hml]; rfl) (Nat.le_of_eq rfl) (by decide) (by decide) (hb hby o_d10_0) (by decide) (by decide)
 have N322 := Fr.app N0 N322q
 refine o_go st322 ?_
 refine o_gi (XS.aloadN X322.here hx rfl (hb hby o_d10_3) rfl rfl) ?_
 show o_Gs p e below _ T322 m 4 #[o_A r0, o_u, o_u] [(.ref r0), (.ref s_d)]
 obtain ⟨_, T323, L323, X323, ⟨b323, rfl, N323q, K323, lt_b323, G323_0⟩, st323⟩ := o_callV X322 hx hZ hown (hw _ o_t51) (hw _ o_t52) (hw _ o_t54) (hw _ o_t53) (hw _ o_t50) (hw _ o_t55) (by decide) (b := s_d) (as := [(.ref r0)]) (rm12_2 l Z a0 hw [] r0 s_d t q_B q_S z_cs s_i s_u s_t h0 n0 Z0 O0 z_CS E_d F_u F_m T_t E_s F_v F_c E_t T_s hS hq ne_iu ne_r0_t S_z_cs S_s_i S_s_u S_s_t) e322 (E_d.ext O0.2) o_pd15 rfl (pc := 4) (Ls := #[o_A r0, o_u, o_u]) (rest := []) (W := 0) (by rw [hml]; rfl) (Nat.le_of_eq rfl) (by decide) (by decide) (hb hby o_d10_4) (by decide) (by decide)
 have N323 := Fr.app N322 N323q
 have ne_r0_b323 : r0 ≠ b323 := Nat.ne_of_lt (Nat.lt_of_lt_of_le E_s.lt lt_b323)
 have ne_t_b323 : t ≠ b323 := Nat.ne_of_lt (Nat.lt_of_lt_of_le E_t.lt lt_b323)
 have g_b323 : n0 ≤ b323 := Nat.le_trans Z0 lt_b323
 have sz_b323 : h0.size ≤ b323 := Nat.le_trans (Keep.refl h0 ([] : List Addr)).1 lt_b323
 refine o_go st323 ?_
 refine o_gi (XS.astoreN X323.here hx rfl (hb hby o_d10_7) rfl rfl (l' := #[o_A r0, o_A b323, o_u]) rfl) ?_
 refine o_gi (XS.goto X323.here hx rfl (pc0 := 8) (pc' := 22) rfl (hb hby o_d10_8) (by decide) (by decide)) ?_
 refine o_gi (XS.aloadN X323.here hx rfl (hb hby o_d10_22) rfl rfl) ?_
 show o_Gs p e below _ T323 m 23 #[o_A r0, o_A b323, o_u] [(.ref b323)]
 obtain ⟨cl324, Ar324, sa324, na324, ha324⟩ := id G323_0
 refine o_go (X323.arraylength hx Ar324.1 (State.isArrayOf_alike hZ.alike Ar324.2.1) (g := (mkF m 23 #[o_A r0, o_A b323, o_u] [(.ref b323)])) rfl rfl (hb hby o_d10_23)) ?_
 rw [len_of sa324 na324]
 show o_Gs p e below _ T323 m 24 #[o_A r0, o_A b323, o_u] [(.int 48)]
 have hd325 : ¬ ((48 : Int32) = (0 : Int32)) := (by decide)
 refine o_gi (XS.ifNo X323.here hx rfl (hb hby o_d10_24) rfl ((if0 _ _).trans (feq hd325).1)) ?_
 refine o_gi (XS.aloadN X323.here hx rfl (hb hby o_d10_27) rfl rfl) ?_
 show o_Gs p e below _ T323 m 28 #[o_A r0, o_A b323, o_u] [(.ref b323)]
 obtain ⟨cl326, Ar326, sa326, na326, ha326⟩ := id G323_0
 refine o_go (X323.arraylength hx Ar326.1 (State.isArrayOf_alike hZ.alike Ar326.2.1) (g := (mkF m 28 #[o_A r0, o_A b323, o_u] [(.ref b323)])) rfl rfl (hb hby o_d10_28)) ?_
 rw [len_of sa326 na326]
 refine o_gi (XS.bipush X323.here hx rfl (hb hby o_d10_29)) ?_
 show o_Gs p e below _ T323 m 31 #[o_A r0, o_A b323, o_u] [(.int 16), (.int 48)]
 refine o_gi (iremM X323 hx rfl (hb hby o_d10_31) rfl (by decide)) ?_
 show o_Gs p e below _ T323 m 32 #[o_A r0, o_A b323, o_u] [(.int ((48 : Int32) % (16 : Int32)))]
 rw [show ((48 : Int32) % (16 : Int32)) = (0 : Int32) from by decide]
 show o_Gs p e below _ T323 m 32 #[o_A r0, o_A b323, o_u] [(.int 0)]
 have hd327 : (0 : Int32) = (0 : Int32) := (by decide)
 refine o_gi (XS.ifYes X323.here hx rfl (pc0 := 32) (pc' := 45) rfl (hb hby o_d10_32) rfl ((if0 _ _).trans (teq hd327).1) (by decide) (by decide)) ?_
 refine o_gi (XS.aloadN X323.here hx rfl (hb hby o_d10_45) rfl rfl) ?_
 show o_Gs p e below _ T323 m 46 #[o_A r0, o_A b323, o_u] [(.ref b323)]
 exact o_retR X323 hx hlk hret rfl rfl (hb hby o_d10_46) (by decide) (by decide) (⟨_, rfl, N323, ((Keep.refl h0 ([] : List Addr)).trans K323 (fun x hx => nomatch hx)), sz_b323, G323_0⟩)
theorem o_t0 : (Jvm.Cond.constant "com/example/quittance/quittance/dialect/AesCbcBlocksPinLaw" (7 : Nat) (2147483647 : Int32)) ∈ tables_1 := List.mem_of_getElem? (i := 0) rfl
theorem o_t2 : (Jvm.Cond.methodLink "com/example/quittance/quittance/dialect/AesCbcBlocksPinLaw" (8 : Nat) ({ cls := "com/example/quittance/quittance/dialect/AesCbcBlocksPinLaw", name := "put", desc := "([BIJ)V" } : Jvm.MethodName)) ∈ tables_1 := List.mem_of_getElem? (i := 2) rfl
theorem o_pd16 : parseMethodDescriptor "([BIJ)V" = some ⟨[(.array .byte), .int, .long], none⟩ := by decide +kernel
theorem o_t3 : (Jvm.Cond.static ({ cls := "com/example/quittance/quittance/dialect/AesCbcBlocksPinLaw", name := "put", desc := "([BIJ)V" } : Jvm.MethodName)) ∈ tables_1 := List.mem_of_getElem? (i := 3) rfl
theorem o_t5 : (Jvm.Cond.code ({ cls := "com/example/quittance/quittance/dialect/AesCbcBlocksPinLaw", name := "put", desc := "([BIJ)V" } : Jvm.MethodName) method_5_code (4 : Nat) (Option.none : Option Jvm.ClassFile.FieldType)) ∈ tables_1 := List.mem_of_getElem? (i := 5) rfl
theorem o_t6 : (Jvm.Cond.arrayClass Jvm.ClassFile.FieldType.char) ∈ tables_1 := List.mem_of_getElem? (i := 6) rfl
theorem o_t7 : (Jvm.Cond.methodLink "com/example/quittance/quittance/dialect/AesCbcBlocksPinLaw" (14 : Nat) ({ cls := "com/example/quittance/quittance/dialect/AesCbcBlocksPinLaw", name := "enc3", desc := "([B[CI)V" } : Jvm.MethodName)) ∈ tables_1 := List.mem_of_getElem? (i := 7) rfl
theorem o_pd17 : parseMethodDescriptor "([B[CI)V" = some ⟨[(.array .byte), (.array .char), .int], none⟩ := by decide +kernel
theorem o_t8 : (Jvm.Cond.static ({ cls := "com/example/quittance/quittance/dialect/AesCbcBlocksPinLaw", name := "enc3", desc := "([B[CI)V" } : Jvm.MethodName)) ∈ tables_1 := List.mem_of_getElem? (i := 8) rfl
theorem o_t9 : (Jvm.Cond.code ({ cls := "com/example/quittance/quittance/dialect/AesCbcBlocksPinLaw", name := "enc3", desc := "([B[CI)V" } : Jvm.MethodName) method_4_code (6 : Nat) (Option.none : Option Jvm.ClassFile.FieldType)) ∈ tables_1 := List.mem_of_getElem? (i := 9) rfl
theorem o_t13 : (Jvm.Cond.classLink "com/example/quittance/quittance/dialect/AesCbcBlocksPinLaw" (22 : Nat) "java/lang/String") ∈ tables_1 := List.mem_of_getElem? (i := 13) rfl
theorem o_t16 : (Jvm.Cond.methodLink "com/example/quittance/quittance/dialect/AesCbcBlocksPinLaw" (24 : Nat) ({ cls := "java/lang/String", name := "<init>", desc := "([C)V" } : Jvm.MethodName)) ∈ tables_1 := List.mem_of_getElem? (i := 16) rfl
theorem o_pd18 : parseMethodDescriptor "([C)V" = some ⟨[(.array .char)], none⟩ := by decide +kernel
theorem o_t17 : (Jvm.Cond.instanceMethod ({ cls := "java/lang/String", name := "<init>", desc := "([C)V" } : Jvm.MethodName)) ∈ tables_1 := List.mem_of_getElem? (i := 17) rfl
theorem o_t18 : (Jvm.Cond.code ({ cls := "java/lang/String", name := "<init>", desc := "([C)V" } : Jvm.MethodName) jdk_42_method_3_code (2 : Nat) (Option.none : Option Jvm.ClassFile.FieldType)) ∈ tables_1 := List.mem_of_getElem? (i := 18) rfl
theorem o_t41 : (Jvm.Cond.methodLink "com/example/quittance/quittance/dialect/AesCbcBlocksPinLaw" (27 : Nat) ({ cls := "com/example/quittance/quittance/dialect/AesCbc", name := "blocks", desc := "(Ljava/lang/String;)[B" } : Jvm.MethodName)) ∈ tables_1 := List.mem_of_getElem? (i := 41) rfl
theorem o_t42 : (Jvm.Cond.static ({ cls := "com/example/quittance/quittance/dialect/AesCbc", name := "blocks", desc := "(Ljava/lang/String;)[B" } : Jvm.MethodName)) ∈ tables_1 := List.mem_of_getElem? (i := 42) rfl
theorem o_t43 : (Jvm.Cond.initialized "com/example/quittance/quittance/dialect/AesCbc") ∈ tables_1 := List.mem_of_getElem? (i := 43) rfl
theorem o_t44 : (Jvm.Cond.codeWith ({ cls := "com/example/quittance/quittance/dialect/AesCbc", name := "blocks", desc := "(Ljava/lang/String;)[B" } : Jvm.MethodName) prog_9_method_3_code (3 : Nat) (Option.some (Jvm.ClassFile.FieldType.array Jvm.ClassFile.FieldType.byte)) [((0 : Nat), (8 : Nat), (11 : Nat), (41 : Nat))]) ∈ tables_1 := List.mem_of_getElem? (i := 44) rfl
theorem o_t116 : (Jvm.Cond.methodLink "com/example/quittance/quittance/dialect/AesCbcBlocksPinLaw" (33 : Nat) ({ cls := "com/example/quittance/quittance/dialect/AesCbcBlocksPinLaw", name := "get", desc := "([BI)J" } : Jvm.MethodName)) ∈ tables_1 := List.mem_of_getElem? (i := 116) rfl
theorem o_pd19 : parseMethodDescriptor "([BI)J" = some ⟨[(.array .byte), .int], some .long⟩ := by decide +kernel
theorem o_t117 : (Jvm.Cond.static ({ cls := "com/example/quittance/quittance/dialect/AesCbcBlocksPinLaw", name := "get", desc := "([BI)J" } : Jvm.MethodName)) ∈ tables_1 := List.mem_of_getElem? (i := 117) rfl
theorem o_t118 : (Jvm.Cond.code ({ cls := "com/example/quittance/quittance/dialect/AesCbcBlocksPinLaw", name := "get", desc := "([BI)J" } : Jvm.MethodName) method_6_code (2 : Nat) (Option.some Jvm.ClassFile.FieldType.long)) ∈ tables_1 := List.mem_of_getElem? (i := 118) rfl
def o_f0_0  : Int32 := (1 : Int32)
def o_Q0_0 (y0 : Int64) (y1 : Int64) (y2 : Int64) (y3 : Int64) (y4 : Int64) (x5 : Int32) (z_cs : Int32) (s_d : Addr) (s_i : Addr) (s_u : Addr) (s_t : Addr) (h0 : Heap) (n0 : Nat) (v : Option Value) (h : Heap) (L : List Loc) : Prop := v = some (.int o_f0_0) ∧ Fr n0 L ∧ True
theorem o_ef0_0 (m : MethodId) (z0 : Int64) (z1 : Int64) (z2 : Int64) (z3 : Int64) (z4 : Int64) (z5 : Int32) : entryFrame m #[(.long z0), (.long z1), (.long z2), (.long z3), (.long z4), (.int z5)] maxLocals = mkF m 0 #[o_J z0, o_s, o_J z1, o_s, o_J z2, o_s, o_J z3, o_s, o_J z4, o_s, o_I z5, o_u, o_u, o_u, o_u, o_u, o_u, o_u, o_u, o_u, o_u, o_u, o_u] [] := by first | (simp [entryFrame, mkF, argsToLocals, Value.category, maxLocals]; done) | rfl
set_option maxRecDepth 65536 in
set_option maxHeartbeats 40000000 in
theorem rm0_0 (l : Launch) (Z : State) (a0 : Array Value) (hw : ∀ d ∈ tables_1, d.before a0 Z = true) (ws : List Jvm.Cond) (y0 : Int64) (y1 : Int64) (y2 : Int64) (y3 : Int64) (y4 : Int64) (x5 : Int32) (z_cs : Int32) (s_d : Addr) (s_i : Addr) (s_u : Addr) (s_t : Addr) (h0 : Heap) (n0 : Nat) (Z0 : n0 ≤ h0.size) (O0 : Old Z n0 h0) (z_CS : ¬ z_cs = 0) (E_d : Exa Z Z.heap s_d "java/util/Base64$Decoder") (F_u : Fld Z Z.heap s_d "java/util/Base64$Decoder" "isURL" "Z" (.int 0)) (F_m : Fld Z Z.heap s_d "java/util/Base64$Decoder" "isMIME" "Z" (.int 0)) (T_t : o_Tb Z Z.heap s_t .int 256 o_b64) (ne_iu : s_i ≠ s_u) (hmd : ((x5 &&& (2147483647 : Int32)) % (3 : Int32)) = (0 : Int32)) (S_z_cs : Sta Z Z.heap "java/lang/String" "COMPACT_STRINGS" "Z" (.int z_cs)) (S_s_d : Sta Z Z.heap "java/util/Base64$Decoder" "RFC4648" "Ljava/util/Base64$Decoder;" (.ref s_d)) (S_s_i : Sta Z Z.heap "sun/nio/cs/ISO_8859_1" "INSTANCE" "Lsun/nio/cs/ISO_8859_1;" (.ref s_i)) (S_s_u : Sta Z Z.heap "sun/nio/cs/UTF_8" "INSTANCE" "Lsun/nio/cs/UTF_8;" (.ref s_u)) (S_s_t : Sta Z Z.heap "java/util/Base64$Decoder" "fromBase64" "[I" (.ref s_t)) : o_Met l Z x code maxLocals ret ws room_1 #[(.long y0), (.long y1), (.long y2), (.long y3), (.long y4), (.int x5)] h0 (o_Q0_0 y0 y1 y2 y3 y4 x5 z_cs s_d s_i s_u s_t h0 n0) := by
 refine o_met (plainFor_of_name o_pn0) ?_
 intro p e s m below meth c s₁ hx hby hml hown hnm hret hlk hZ e0 X0
 have N0 := Fr.nil n0
 have hml : c.maxLocals = 23 := hml
 have hown : s.vm.findClass "com/example/quittance/quittance/dialect/AesCbcBlocksPinLaw" = some m.cls := hown
 have hret : meth.sig.returnType = (some .boolean) := hret
 have hby : c.code = code := hby
 have hnm : meth.name = "law" := hnm
 rw [o_ef0_0]
 refine o_gi (XS.iload X0.here hx rfl (hb hby at_0) rfl) ?_
 show o_Gs p e below _ s₁ m 2 #[o_J y0, o_s, o_J y1, o_s, o_J y2, o_s, o_J y3, o_s, o_J y4, o_s, o_I x5, o_u, o_u, o_u, o_u, o_u, o_u, o_u, o_u, o_u, o_u, o_u, o_u] [(.int x5)]
 refine o_go (X0.ldcInt hx hown (mvT hZ (hw _ o_t0)) (g := (mkF m 2 #[o_J y0, o_s, o_J y1, o_s, o_J y2, o_s, o_J y3, o_s, o_J y4, o_s, o_I x5, o_u, o_u, o_u, o_u, o_u, o_u, o_u, o_u, o_u, o_u, o_u, o_u] [(.int x5)])) rfl (hb hby at_2)) ?_
 show o_Gs p e below _ s₁ m 4 #[o_J y0, o_s, o_J y1, o_s, o_J y2, o_s, o_J y3, o_s, o_J y4, o_s, o_I x5, o_u, o_u, o_u, o_u, o_u, o_u, o_u, o_u, o_u, o_u, o_u, o_u] [(.int 2147483647), (.int x5)]
 refine o_gi (XS.iand X0.here hx rfl (hb hby at_4) rfl) ?_
 refine o_gi (XS.iconst X0.here hx rfl (hb hby at_5)) ?_
 show o_Gs p e below _ s₁ m 6 #[o_J y0, o_s, o_J y1, o_s, o_J y2, o_s, o_J y3, o_s, o_J y4, o_s, o_I x5, o_u, o_u, o_u, o_u, o_u, o_u, o_u, o_u, o_u, o_u, o_u, o_u] [(.int 3), (.int (x5 &&& (2147483647 : Int32)))]
 refine o_gi (iremM X0 hx rfl (hb hby at_6) rfl (by decide)) ?_
 show o_Gs p e below _ s₁ m 7 #[o_J y0, o_s, o_J y1, o_s, o_J y2, o_s, o_J y3, o_s, o_J y4, o_s, o_I x5, o_u, o_u, o_u, o_u, o_u, o_u, o_u, o_u, o_u, o_u, o_u, o_u] [(.int ((x5 &&& (2147483647 : Int32)) % (3 : Int32)))]
 rw [show ((x5 &&& (2147483647 : Int32)) % (3 : Int32)) = (0 : Int32) from hmd]
 refine o_gi (XS.istore X0.here hx rfl (hb hby at_7) rfl (l' := #[o_J y0, o_s, o_J y1, o_s, o_J y2, o_s, o_J y3, o_s, o_J y4, o_s, o_I x5, o_I 0, o_u, o_u, o_u, o_u, o_u, o_u, o_u, o_u, o_u, o_u, o_u]) rfl) ?_
 refine o_gi (XS.bipush X0.here hx rfl (hb hby at_9)) ?_
 refine o_gi (XS.iload X0.here hx rfl (hb hby at_11) rfl) ?_
 refine o_gi (XS.iconst X0.here hx rfl (hb hby at_13)) ?_
 show o_Gs p e below _ s₁ m 14 #[o_J y0, o_s, o_J y1, o_s, o_J y2, o_s, o_J y3, o_s, o_J y4, o_s, o_I x5, o_I 0, o_u, o_u, o_u, o_u, o_u, o_u, o_u, o_u, o_u, o_u, o_u] [(.int 1), (.int 0), (.int 16)]
 refine o_gi (XS.iadd X0.here hx rfl (hb hby at_14) rfl) ?_
 show o_Gs p e below _ s₁ m 15 #[o_J y0, o_s, o_J y1, o_s, o_J y2, o_s, o_J y3, o_s, o_J y4, o_s, o_I x5, o_I 0, o_u, o_u, o_u, o_u, o_u, o_u, o_u, o_u, o_u, o_u, o_u] [(.int ((0 : Int32) + (1 : Int32))), (.int 16)]
 rw [show ((0 : Int32) + (1 : Int32)) = (1 : Int32) from by decide]
 show o_Gs p e below _ s₁ m 15 #[o_J y0, o_s, o_J y1, o_s, o_J y2, o_s, o_J y3, o_s, o_J y4, o_s, o_I x5, o_I 0, o_u, o_u, o_u, o_u, o_u, o_u, o_u, o_u, o_u, o_u, o_u] [(.int 1), (.int 16)]
 refine o_gi (XS.imul X0.here hx rfl (hb hby at_15) rfl) ?_
 show o_Gs p e below _ s₁ m 16 #[o_J y0, o_s, o_J y1, o_s, o_J y2, o_s, o_J y3, o_s, o_J y4, o_s, o_I x5, o_I 0, o_u, o_u, o_u, o_u, o_u, o_u, o_u, o_u, o_u, o_u, o_u] [(.int ((16 : Int32) * (1 : Int32)))]
 rw [show ((16 : Int32) * (1 : Int32)) = (16 : Int32) from by decide]
 refine o_gi (XS.istore X0.here hx rfl (hb hby at_16) rfl (l' := #[o_J y0, o_s, o_J y1, o_s, o_J y2, o_s, o_J y3, o_s, o_J y4, o_s, o_I x5, o_I 0, o_I 16, o_u, o_u, o_u, o_u, o_u, o_u, o_u, o_u, o_u, o_u]) rfl) ?_
 refine o_gi (XS.lload X0.here hx rfl (hb hby at_18) rfl) ?_
 refine o_gi (XS.lload X0.here hx rfl (hb hby at_20) rfl) ?_
 show o_Gs p e below _ s₁ m 22 #[o_J y0, o_s, o_J y1, o_s, o_J y2, o_s, o_J y3, o_s, o_J y4, o_s, o_I x5, o_I 0, o_I 16, o_u, o_u, o_u, o_u, o_u, o_u, o_u, o_u, o_u, o_u] [(.long y4), (.long y2)]
 refine o_gi (XS.ladd X0.here hx rfl (hb hby at_22) rfl) ?_
 refine o_gi (XS.lstore X0.here hx rfl (hb hby at_23) rfl (l' := #[o_J y0, o_s, o_J y1, o_s, o_J y2, o_s, o_J y3, o_s, o_J y4, o_s, o_I x5, o_I 0, o_I 16, .val (.long (y2 + y4)), o_s, o_u, o_u, o_u, o_u, o_u, o_u, o_u, o_u]) rfl) ?_
 refine o_gi (XS.bipush X0.here hx rfl (hb hby at_25)) ?_
 show o_Gs p e below _ s₁ m 27 #[o_J y0, o_s, o_J y1, o_s, o_J y2, o_s, o_J y3, o_s, o_J y4, o_s, o_I x5, o_I 0, o_I 16, .val (.long (y2 + y4)), o_s, o_u, o_u, o_u, o_u, o_u, o_u, o_u, o_u] [(.int 48)]
 obtain ⟨T328, h328, k328, X328, e328, E328, A328, st328⟩ := newP X0 hx hZ (aty := .byte) (hw _ o_t1) e0 (g := (mkF m 27 #[o_J y0, o_s, o_J y1, o_s, o_J y2, o_s, o_J y3, o_s, o_J y4, o_s, o_I x5, o_I 0, o_I 16, .val (.long (y2 + y4)), o_s, o_u, o_u, o_u, o_u, o_u, o_u, o_u, o_u] [(.int 48)])) rfl (hb hby at_27) rfl (by decide) (cap := 48) (by decide) (by decide) (by decide) (by decide)
 obtain ⟨b328, q328⟩ : ∃ z, z = h0.size := ⟨_, rfl⟩
 rw [← q328] at A328 st328
 have lt_b328 : h0.size ≤ b328 := Nat.le_of_eq q328.symm
 have g_b328 : n0 ≤ b328 := Nat.le_trans Z0 lt_b328
 have V328 : o_Tb Z h328 b328 .byte (48 : Int32) (fun _ => 0) := o_Tb.new A328 (by decide) rfl
 refine o_go st328 ?_
 refine o_gi (XS.astore X328.here hx rfl (hb hby at_29) rfl rfl (l' := #[o_J y0, o_s, o_J y1, o_s, o_J y2, o_s, o_J y3, o_s, o_J y4, o_s, o_I x5, o_I 0, o_I 16, .val (.long (y2 + y4)), o_s, o_A b328, o_u, o_u, o_u, o_u, o_u, o_u, o_u]) rfl) ?_
 refine o_gi (XS.aload X328.here hx rfl (hb hby at_31) rfl rfl) ?_
 refine o_gi (XS.iconst X328.here hx rfl (hb hby at_33)) ?_
 refine o_gi (XS.lloadN X328.here hx rfl (hb hby at_34) rfl) ?_
 show o_Gs p e below _ T328 m 35 #[o_J y0, o_s, o_J y1, o_s, o_J y2, o_s, o_J y3, o_s, o_J y4, o_s, o_I x5, o_I 0, o_I 16, .val (.long (y2 + y4)), o_s, o_A b328, o_u, o_u, o_u, o_u, o_u, o_u, o_u] [(.long y0), (.int 0), (.ref b328)]
 obtain ⟨_, T329, L329, X329, ⟨rfl, N329q, K329, G329_0⟩, st329⟩ := o_callS X328 hx hZ hown (hw _ o_t2) (hw _ o_t3) (hw _ o_t4) (hw _ o_t5) (by decide) (as := [(.ref b328), (.int 0), (.long y0)]) (rm1 l Z a0 hw [] b328 (0 : Int32) y0 (48 : Int32) (fun _ => 0) h328 n0 (Nat.le_trans Z0 E328.1) g_b328 V328 (by decide)) e328 o_pd16 rfl (pc := 35) (Ls := #[o_J y0, o_s, o_J y1, o_s, o_J y2, o_s, o_J y3, o_s, o_J y4, o_s, o_I x5, o_I 0, o_I 16, .val (.long (y2 + y4)), o_s, o_A b328, o_u, o_u, o_u, o_u, o_u, o_u, o_u]) (rest := []) (W := 0) (by rw [hml]; rfl) (Nat.le_of_eq rfl) (by decide) (by decide) (hb hby at_35) (by decide) (by decide)
 have N329 := Fr.app N0 N329q
 refine o_go st329 ?_
 refine o_gi (XS.aload X329.here hx rfl (hb hby at_38) rfl rfl) ?_
 refine o_gi (XS.bipush X329.here hx rfl (hb hby at_40)) ?_
 refine o_gi (XS.lloadN X329.here hx rfl (hb hby at_42) rfl) ?_
 show o_Gs p e below _ T329 m 43 #[o_J y0, o_s, o_J y1, o_s, o_J y2, o_s, o_J y3, o_s, o_J y4, o_s, o_I x5, o_I 0, o_I 16, .val (.long (y2 + y4)), o_s, o_A b328, o_u, o_u, o_u, o_u, o_u, o_u, o_u] [(.long y1), (.int 8), (.ref b328)]
 obtain ⟨_, T330, L330, X330, ⟨rfl, N330q, K330, G330_0⟩, st330⟩ := o_callS X329 hx hZ hown (hw _ o_t2) (hw _ o_t3) (hw _ o_t4) (hw _ o_t5) (by decide) (as := [(.ref b328), (.int 8), (.long y1)]) (rm1 l Z a0 hw [] b328 (8 : Int32) y1 (48 : Int32) (o_G1_8 (0 : Int32) y0 (fun _ => 0)) T329.heap n0 (Nat.le_trans (Nat.le_trans Z0 E328.1) K329.1) g_b328 G329_0 (by decide)) rfl o_pd16 rfl (pc := 43) (Ls := #[o_J y0, o_s, o_J y1, o_s, o_J y2, o_s, o_J y3, o_s, o_J y4, o_s, o_I x5, o_I 0, o_I 16, .val (.long (y2 + y4)), o_s, o_A b328, o_u, o_u, o_u, o_u, o_u, o_u, o_u]) (rest := []) (W := 0) (by rw [hml]; rfl) (Nat.le_of_eq rfl) (by decide) (by decide) (hb hby at_43) (by decide) (by decide)
 have N330 := Fr.app N329 N330q
 refine o_go st330 ?_
 refine o_gi (XS.aload X330.here hx rfl (hb hby at_46) rfl rfl) ?_
 refine o_gi (XS.bipush X330.here hx rfl (hb hby at_48)) ?_
 refine o_gi (XS.lload X330.here hx rfl (hb hby at_50) rfl) ?_
 show o_Gs p e below _ T330 m 52 #[o_J y0, o_s, o_J y1, o_s, o_J y2, o_s, o_J y3, o_s, o_J y4, o_s, o_I x5, o_I 0, o_I 16, .val (.long (y2 + y4)), o_s, o_A b328, o_u, o_u, o_u, o_u, o_u, o_u, o_u] [(.long y2), (.int 16), (.ref b328)]
 obtain ⟨_, T331, L331, X331, ⟨rfl, N331q, K331, G331_0⟩, st331⟩ := o_callS X330 hx hZ hown (hw _ o_t2) (hw _ o_t3) (hw _ o_t4) (hw _ o_t5) (by decide) (as := [(.ref b328), (.int 16), (.long y2)]) (rm1 l Z a0 hw [] b328 (16 : Int32) y2 (48 : Int32) (o_G1_8 (8 : Int32) y1 (o_G1_8 (0 : Int32) y0 (fun _ => 0))) T330.heap n0 (Nat.le_trans (Nat.le_trans (Nat.le_trans Z0 E328.1) K329.1) K330.1) g_b328 G330_0 (by decide)) rfl o_pd16 rfl (pc := 52) (Ls := #[o_J y0, o_s, o_J y1, o_s, o_J y2, o_s, o_J y3, o_s, o_J y4, o_s, o_I x5, o_I 0, o_I 16, .val (.long (y2 + y4)), o_s, o_A b328, o_u, o_u, o_u, o_u, o_u, o_u, o_u]) (rest := []) (W := 0) (by rw [hml]; rfl) (Nat.le_of_eq rfl) (by decide) (by decide) (hb hby at_52) (by decide) (by decide)
 have N331 := Fr.app N330 N331q
 refine o_go st331 ?_
 refine o_gi (XS.aload X331.here hx rfl (hb hby at_55) rfl rfl) ?_
 refine o_gi (XS.bipush X331.here hx rfl (hb hby at_57)) ?_
 refine o_gi (XS.lload X331.here hx rfl (hb hby at_59) rfl) ?_
 show o_Gs p e below _ T331 m 61 #[o_J y0, o_s, o_J y1, o_s, o_J y2, o_s, o_J y3, o_s, o_J y4, o_s, o_I x5, o_I 0, o_I 16, .val (.long (y2 + y4)), o_s, o_A b328, o_u, o_u, o_u, o_u, o_u, o_u, o_u] [(.long y3), (.int 24), (.ref b328)]
 obtain ⟨_, T332, L332, X332, ⟨rfl, N332q, K332, G332_0⟩, st332⟩ := o_callS X331 hx hZ hown (hw _ o_t2) (hw _ o_t3) (hw _ o_t4) (hw _ o_t5) (by decide) (as := [(.ref b328), (.int 24), (.long y3)]) (rm1 l Z a0 hw [] b328 (24 : Int32) y3 (48 : Int32) (o_G1_8 (16 : Int32) y2 (o_G1_8 (8 : Int32) y1 (o_G1_8 (0 : Int32) y0 (fun _ => 0)))) T331.heap n0 (Nat.le_trans (Nat.le_trans (Nat.le_trans (Nat.le_trans Z0 E328.1) K329.1) K330.1) K331.1) g_b328 G331_0 (by decide)) rfl o_pd16 rfl (pc := 61) (Ls := #[o_J y0, o_s, o_J y1, o_s, o_J y2, o_s, o_J y3, o_s, o_J y4, o_s, o_I x5, o_I 0, o_I 16, .val (.long (y2 + y4)), o_s, o_A b328, o_u, o_u, o_u, o_u, o_u, o_u, o_u]) (rest := []) (W := 0) (by rw [hml]; rfl) (Nat.le_of_eq rfl) (by decide) (by decide) (hb hby at_61) (by decide) (by decide)
 have N332 := Fr.app N331 N332q
 refine o_go st332 ?_
 refine o_gi (XS.aload X332.here hx rfl (hb hby at_64) rfl rfl) ?_
 refine o_gi (XS.bipush X332.here hx rfl (hb hby at_66)) ?_
 refine o_gi (XS.lload X332.here hx rfl (hb hby at_68) rfl) ?_
 show o_Gs p e below _ T332 m 70 #[o_J y0, o_s, o_J y1, o_s, o_J y2, o_s, o_J y3, o_s, o_J y4, o_s, o_I x5, o_I 0, o_I 16, .val (.long (y2 + y4)), o_s, o_A b328, o_u, o_u, o_u, o_u, o_u, o_u, o_u] [(.long y4), (.int 32), (.ref b328)]
 obtain ⟨_, T333, L333, X333, ⟨rfl, N333q, K333, G333_0⟩, st333⟩ := o_callS X332 hx hZ hown (hw _ o_t2) (hw _ o_t3) (hw _ o_t4) (hw _ o_t5) (by decide) (as := [(.ref b328), (.int 32), (.long y4)]) (rm1 l Z a0 hw [] b328 (32 : Int32) y4 (48 : Int32) (o_G1_8 (24 : Int32) y3 (o_G1_8 (16 : Int32) y2 (o_G1_8 (8 : Int32) y1 (o_G1_8 (0 : Int32) y0 (fun _ => 0))))) T332.heap n0 (Nat.le_trans (Nat.le_trans (Nat.le_trans (Nat.le_trans (Nat.le_trans Z0 E328.1) K329.1) K330.1) K331.1) K332.1) g_b328 G332_0 (by decide)) rfl o_pd16 rfl (pc := 70) (Ls := #[o_J y0, o_s, o_J y1, o_s, o_J y2, o_s, o_J y3, o_s, o_J y4, o_s, o_I x5, o_I 0, o_I 16, .val (.long (y2 + y4)), o_s, o_A b328, o_u, o_u, o_u, o_u, o_u, o_u, o_u]) (rest := []) (W := 0) (by rw [hml]; rfl) (Nat.le_of_eq rfl) (by decide) (by decide) (hb hby at_70) (by decide) (by decide)
 have N333 := Fr.app N332 N333q
 refine o_go st333 ?_
 refine o_gi (XS.aload X333.here hx rfl (hb hby at_73) rfl rfl) ?_
 refine o_gi (XS.bipush X333.here hx rfl (hb hby at_75)) ?_
 refine o_gi (XS.lload X333.here hx rfl (hb hby at_77) rfl) ?_
 show o_Gs p e below _ T333 m 79 #[o_J y0, o_s, o_J y1, o_s, o_J y2, o_s, o_J y3, o_s, o_J y4, o_s, o_I x5, o_I 0, o_I 16, .val (.long (y2 + y4)), o_s, o_A b328, o_u, o_u, o_u, o_u, o_u, o_u, o_u] [(.long (y2 + y4)), (.int 40), (.ref b328)]
 obtain ⟨_, T334, L334, X334, ⟨rfl, N334q, K334, G334_0⟩, st334⟩ := o_callS X333 hx hZ hown (hw _ o_t2) (hw _ o_t3) (hw _ o_t4) (hw _ o_t5) (by decide) (as := [(.ref b328), (.int 40), (.long (y2 + y4))]) (rm1 l Z a0 hw [] b328 (40 : Int32) (y2 + y4) (48 : Int32) (o_G1_8 (32 : Int32) y4 (o_G1_8 (24 : Int32) y3 (o_G1_8 (16 : Int32) y2 (o_G1_8 (8 : Int32) y1 (o_G1_8 (0 : Int32) y0 (fun _ => 0)))))) T333.heap n0 (Nat.le_trans (Nat.le_trans (Nat.le_trans (Nat.le_trans (Nat.le_trans (Nat.le_trans Z0 E328.1) K329.1) K330.1) K331.1) K332.1) K333.1) g_b328 G333_0 (by decide)) rfl o_pd16 rfl (pc := 79) (Ls := #[o_J y0, o_s, o_J y1, o_s, o_J y2, o_s, o_J y3, o_s, o_J y4, o_s, o_I x5, o_I 0, o_I 16, .val (.long (y2 + y4)), o_s, o_A b328, o_u, o_u, o_u, o_u, o_u, o_u, o_u]) (rest := []) (W := 0) (by rw [hml]; rfl) (Nat.le_of_eq rfl) (by decide) (by decide) (hb hby at_79) (by decide) (by decide)
 have N334 := Fr.app N333 N334q
 refine o_go st334 ?_
 refine o_gi (XS.bipush X334.here hx rfl (hb hby at_82)) ?_
 show o_Gs p e below _ T334 m 84 #[o_J y0, o_s, o_J y1, o_s, o_J y2, o_s, o_J y3, o_s, o_J y4, o_s, o_I x5, o_I 0, o_I 16, .val (.long (y2 + y4)), o_s, o_A b328, o_u, o_u, o_u, o_u, o_u, o_u, o_u] [(.int 24)]
 obtain ⟨T335, h335, k335, X335, e335, E335, A335, st335⟩ := newP X334 hx hZ (aty := .char) (hw _ o_t6) rfl (g := (mkF m 84 #[o_J y0, o_s, o_J y1, o_s, o_J y2, o_s, o_J y3, o_s, o_J y4, o_s, o_I x5, o_I 0, o_I 16, .val (.long (y2 + y4)), o_s, o_A b328, o_u, o_u, o_u, o_u, o_u, o_u, o_u] [(.int 24)])) rfl (hb hby at_84) rfl (by decide) (cap := 24) (by decide) (by decide) (by decide) (by decide)
 obtain ⟨b335, q335⟩ : ∃ z, z = T334.heap.size := ⟨_, rfl⟩
 rw [← q335] at A335 st335
 have lt_b335 : T334.heap.size ≤ b335 := Nat.le_of_eq q335.symm
 have ne_b328_b335 : b328 ≠ b335 := Nat.ne_of_lt (Nat.lt_of_lt_of_le G334_0.lt lt_b335)
 have g_b335 : n0 ≤ b335 := Nat.le_trans (Nat.le_trans (Nat.le_trans (Nat.le_trans (Nat.le_trans (Nat.le_trans (Nat.le_trans (Nat.le_trans Z0 E328.1) K329.1) K330.1) K331.1) K332.1) K333.1) K334.1) lt_b335
 have V335 : o_Tb Z h335 b335 .char (24 : Int32) (fun _ => 0) := o_Tb.new A335 (by decide) rfl
 refine o_go st335 ?_
 refine o_gi (XS.astore X335.here hx rfl (hb hby at_86) rfl rfl (l' := #[o_J y0, o_s, o_J y1, o_s, o_J y2, o_s, o_J y3, o_s, o_J y4, o_s, o_I x5, o_I 0, o_I 16, .val (.long (y2 + y4)), o_s, o_A b328, o_A b335, o_u, o_u, o_u, o_u, o_u, o_u]) rfl) ?_
 refine o_gi (XS.bipush X335.here hx rfl (hb hby at_88)) ?_
 show o_Gs p e below _ T335 m 90 #[o_J y0, o_s, o_J y1, o_s, o_J y2, o_s, o_J y3, o_s, o_J y4, o_s, o_I x5, o_I 0, o_I 16, .val (.long (y2 + y4)), o_s, o_A b328, o_A b335, o_u, o_u, o_u, o_u, o_u, o_u] [(.int 44)]
 obtain ⟨T336, h336, k336, X336, e336, E336, A336, st336⟩ := newP X335 hx hZ (aty := .char) (hw _ o_t6) e335 (g := (mkF m 90 #[o_J y0, o_s, o_J y1, o_s, o_J y2, o_s, o_J y3, o_s, o_J y4, o_s, o_I x5, o_I 0, o_I 16, .val (.long (y2 + y4)), o_s, o_A b328, o_A b335, o_u, o_u, o_u, o_u, o_u, o_u] [(.int 44)])) rfl (hb hby at_90) rfl (by decide) (cap := 44) (by decide) (by decide) (by decide) (by decide)
 obtain ⟨b336, q336⟩ : ∃ z, z = h335.size := ⟨_, rfl⟩
 rw [← q336] at A336 st336
 have lt_b336 : h335.size ≤ b336 := Nat.le_of_eq q336.symm
 have ne_b328_b336 : b328 ≠ b336 := Nat.ne_of_lt (Nat.lt_of_lt_of_le (G334_0.ext E335).lt lt_b336)
 have ne_b335_b336 : b335 ≠ b336 := Nat.ne_of_lt (Nat.lt_of_lt_of_le V335.lt lt_b336)
 have g_b336 : n0 ≤ b336 := Nat.le_trans (Nat.le_trans (Nat.le_trans (Nat.le_trans (Nat.le_trans (Nat.le_trans (Nat.le_trans (Nat.le_trans (Nat.le_trans Z0 E328.1) K329.1) K330.1) K331.1) K332.1) K333.1) K334.1) E335.1) lt_b336
 have V336 : o_Tb Z h336 b336 .char (44 : Int32) (fun _ => 0) := o_Tb.new A336 (by decide) rfl
 refine o_go st336 ?_
 refine o_gi (XS.astore X336.here hx rfl (hb hby at_92) rfl rfl (l' := #[o_J y0, o_s, o_J y1, o_s, o_J y2, o_s, o_J y3, o_s, o_J y4, o_s, o_I x5, o_I 0, o_I 16, .val (.long (y2 + y4)), o_s, o_A b328, o_A b335, o_A b336, o_u, o_u, o_u, o_u, o_u]) rfl) ?_
 refine o_gi (XS.bipush X336.here hx rfl (hb hby at_94)) ?_
 show o_Gs p e below _ T336 m 96 #[o_J y0, o_s, o_J y1, o_s, o_J y2, o_s, o_J y3, o_s, o_J y4, o_s, o_I x5, o_I 0, o_I 16, .val (.long (y2 + y4)), o_s, o_A b328, o_A b335, o_A b336, o_u, o_u, o_u, o_u, o_u] [(.int 64)]
 obtain ⟨T337, h337, k337, X337, e337, E337, A337, st337⟩ := newP X336 hx hZ (aty := .char) (hw _ o_t6) e336 (g := (mkF m 96 #[o_J y0, o_s, o_J y1, o_s, o_J y2, o_s, o_J y3, o_s, o_J y4, o_s, o_I x5, o_I 0, o_I 16, .val (.long (y2 + y4)), o_s, o_A b328, o_A b335, o_A b336, o_u, o_u, o_u, o_u, o_u] [(.int 64)])) rfl (hb hby at_96) rfl (by decide) (cap := 64) (by decide) (by decide) (by decide) (by decide)
 obtain ⟨b337, q337⟩ : ∃ z, z = h336.size := ⟨_, rfl⟩
 rw [← q337] at A337 st337
 have lt_b337 : h336.size ≤ b337 := Nat.le_of_eq q337.symm
 have ne_b328_b337 : b328 ≠ b337 := Nat.ne_of_lt (Nat.lt_of_lt_of_le ((G334_0.ext E335).ext E336).lt lt_b337)
 have ne_b335_b337 : b335 ≠ b337 := Nat.ne_of_lt (Nat.lt_of_lt_of_le (V335.ext E336).lt lt_b337)
 have ne_b336_b337 : b336 ≠ b337 := Nat.ne_of_lt (Nat.lt_of_lt_of_le V336.lt lt_b337)
 have g_b337 : n0 ≤ b337 := Nat.le_trans (Nat.le_trans (Nat.le_trans (Nat.le_trans (Nat.le_trans (Nat.le_trans (Nat.le_trans (Nat.le_trans (Nat.le_trans (Nat.le_trans Z0 E328.1) K329.1) K330.1) K331.1) K332.1) K333.1) K334.1) E335.1) E336.1) lt_b337
 have V337 : o_Tb Z h337 b337 .char (64 : Int32) (fun _ => 0) := o_Tb.new A337 (by decide) rfl
 refine o_go st337 ?_
 refine o_gi (XS.astore X337.here hx rfl (hb hby at_98) rfl rfl (l' := #[o_J y0, o_s, o_J y1, o_s, o_J y2, o_s, o_J y3, o_s, o_J y4, o_s, o_I x5, o_I 0, o_I 16, .val (.long (y2 + y4)), o_s, o_A b328, o_A b335, o_A b336, o_A b337, o_u, o_u, o_u, o_u]) rfl) ?_
 refine o_gi (XS.iload X337.here hx rfl (hb hby at_100) rfl) ?_
 show o_Gs p e below _ T337 m 102 #[o_J y0, o_s, o_J y1, o_s, o_J y2, o_s, o_J y3, o_s, o_J y4, o_s, o_I x5, o_I 0, o_I 16, .val (.long (y2 + y4)), o_s, o_A b328, o_A b335, o_A b336, o_A b337, o_u, o_u, o_u, o_u] [(.int 0)]
 have hd338 : (0 : Int32) = (0 : Int32) := (by decide)
 refine o_gi (XS.ifNo X337.here hx rfl (hb hby at_102) rfl ((if0 _ _).trans (teq hd338).2)) ?_
 refine o_gi (XS.aload X337.here hx rfl (hb hby at_105) rfl rfl) ?_
 refine o_gi (XS.goto X337.here hx rfl (pc0 := 107) (pc' := 123) rfl (hb hby at_107) (by decide) (by decide)) ?_
 refine o_gi (XS.astore X337.here hx rfl (hb hby at_123) rfl rfl (l' := #[o_J y0, o_s, o_J y1, o_s, o_J y2, o_s, o_J y3, o_s, o_J y4, o_s, o_I x5, o_I 0, o_I 16, .val (.long (y2 + y4)), o_s, o_A b328, o_A b335, o_A b336, o_A b337, o_A b335, o_u, o_u, o_u]) rfl) ?_
 refine o_gi (XS.aload X337.here hx rfl (hb hby at_125) rfl rfl) ?_
 refine o_gi (XS.aload X337.here hx rfl (hb hby at_127) rfl rfl) ?_
 refine o_gi (XS.iconst X337.here hx rfl (hb hby at_129)) ?_
 show o_Gs p e below _ T337 m 130 #[o_J y0, o_s, o_J y1, o_s, o_J y2, o_s, o_J y3, o_s, o_J y4, o_s, o_I x5, o_I 0, o_I 16, .val (.long (y2 + y4)), o_s, o_A b328, o_A b335, o_A b336, o_A b337, o_A b335, o_u, o_u, o_u] [(.int 0), (.ref b335), (.ref b328)]
 have ff340 : o_Tb Z h337 b328 .byte (48 : Int32) (o_G1_8 (40 : Int32) (y2 + y4) (o_G1_8 (32 : Int32) y4 (o_G1_8 (24 : Int32) y3 (o_G1_8 (16 : Int32) y2 (o_G1_8 (8 : Int32) y1 (o_G1_8 (0 : Int32) y0 (fun _ => 0))))))) := (((G334_0.ext E335).ext E336).ext E337)
 obtain ⟨B, q_B⟩ : ∃ F : Int32 → Int32, F = (o_G1_8 (40 : Int32) (y2 + y4) (o_G1_8 (32 : Int32) y4 (o_G1_8 (24 : Int32) y3 (o_G1_8 (16 : Int32) y2 (o_G1_8 (8 : Int32) y1 (o_G1_8 (0 : Int32) y0 (fun _ => 0))))))) := ⟨_, rfl⟩
 have V_B : o_Tb Z h337 b328 .byte (48 : Int32) B := by rw [q_B]; exact ff340
 have hBy : o_By B := by rw [q_B]; exact o_byP (o_byP (o_byP (o_byP (o_byP (o_byP (o_by0))))))
 obtain ⟨G0, q_G0⟩ : ∃ F : Int32 → Int32, F = (fun _ => 0) := ⟨_, rfl⟩
 have V_G0 : o_Tb Z h337 b335 .char (24 : Int32) G0 := by rw [q_G0]; exact ((V335.ext E336).ext E337)
 have s_G0 : o_Enc B 0 G0 := o_enc0 _ _
 have c_G0 : o_C255 G0 := by rw [q_G0]; exact o_c0
 obtain ⟨_, T339, L339, X339, ⟨rfl, N339q, K339, G339_0⟩, st339⟩ := o_callS X337 hx hZ hown (hw _ o_t7) (hw _ o_t8) (hw _ o_t4) (hw _ o_t9) (by decide) (as := [(.ref b328), (.ref b335), (.int 0)]) (rm2 l Z a0 hw [] b328 b335 (0 : Int32) (24 : Int32) B G0 h337 n0 (Nat.le_trans (Nat.le_trans (Nat.le_trans (Nat.le_trans (Nat.le_trans (Nat.le_trans (Nat.le_trans (Nat.le_trans (Nat.le_trans (Nat.le_trans Z0 E328.1) K329.1) K330.1) K331.1) K332.1) K333.1) K334.1) E335.1) E336.1) E337.1) g_b335 V_B V_G0 ne_b328_b335 (by decide)) e337 o_pd17 rfl (pc := 130) (Ls := #[o_J y0, o_s, o_J y1, o_s, o_J y2, o_s, o_J y3, o_s, o_J y4, o_s, o_I x5, o_I 0, o_I 16, .val (.long (y2 + y4)), o_s, o_A b328, o_A b335, o_A b336, o_A b337, o_A b335, o_u, o_u, o_u]) (rest := []) (W := 0) (by rw [hml]; rfl) (Nat.le_of_eq rfl) (by decide) (by decide) (hb hby at_130) (by decide) (by decide)
 have N339 := Fr.app N334 N339q
 refine o_go st339 ?_
 refine o_gi (XS.aload X339.here hx rfl (hb hby at_133) rfl rfl) ?_
 refine o_gi (XS.aload X339.here hx rfl (hb hby at_135) rfl rfl) ?_
 refine o_gi (XS.iconst X339.here hx rfl (hb hby at_137)) ?_
 show o_Gs p e below _ T339 m 138 #[o_J y0, o_s, o_J y1, o_s, o_J y2, o_s, o_J y3, o_s, o_J y4, o_s, o_I x5, o_I 0, o_I 16, .val (.long (y2 + y4)), o_s, o_A b328, o_A b335, o_A b336, o_A b337, o_A b335, o_u, o_u, o_u] [(.int 1), (.ref b335), (.ref b328)]
 obtain ⟨G1, q_G1⟩ : ∃ F : Int32 → Int32, F = (o_G2_4 (0 : Int32) B G0) := ⟨_, rfl⟩
 have V_G1 : o_Tb Z T339.heap b335 .char (24 : Int32) G1 := by rw [q_G1]; exact G339_0
 have s_G1 : o_Enc B 1 G1 := by rw [q_G1]; exact o_encS rfl (by decide) s_G0
 have c_G1 : o_C255 G1 := by rw [q_G1]; exact o_c255S c_G0
 have ff342 : o_Tb Z T339.heap b328 .byte (48 : Int32) B := (V_B.keep K339 (fun z => ne_b328_b335 (List.mem_singleton.mp z)))
 obtain ⟨_, T341, L341, X341, ⟨rfl, N341q, K341, G341_0⟩, st341⟩ := o_callS X339 hx hZ hown (hw _ o_t7) (hw _ o_t8) (hw _ o_t4) (hw _ o_t9) (by decide) (as := [(.ref b328), (.ref b335), (.int 1)]) (rm2 l Z a0 hw [] b328 b335 (1 : Int32) (24 : Int32) B G1 T339.heap n0 (Nat.le_trans (Nat.le_trans (Nat.le_trans (Nat.le_trans (Nat.le_trans (Nat.le_trans (Nat.le_trans (Nat.le_trans (Nat.le_trans (Nat.le_trans (Nat.le_trans Z0 E328.1) K329.1) K330.1) K331.1) K332.1) K333.1) K334.1) E335.1) E336.1) E337.1) K339.1) g_b335 ff342 V_G1 ne_b328_b335 (by decide)) rfl o_pd17 rfl (pc := 138) (Ls := #[o_J y0, o_s, o_J y1, o_s, o_J y2, o_s, o_J y3, o_s, o_J y4, o_s, o_I x5, o_I 0, o_I 16, .val (.long (y2 + y4)), o_s, o_A b328, o_A b335, o_A b336, o_A b337, o_A b335, o_u, o_u, o_u]) (rest := []) (W := 0) (by rw [hml]; rfl) (Nat.le_of_eq rfl) (by decide) (by decide) (hb hby at_138) (by decide) (by decide)
 have N341 := Fr.app N339 N341q
 refine o_go st341 ?_
 refine o_gi (XS.aload X341.here hx rfl (hb hby at_141) rfl rfl) ?_
 refine o_gi (XS.aload X341.here hx rfl (hb hby at_143) rfl rfl) ?_
 refine o_gi (XS.iconst X341.here hx rfl (hb hby at_145)) ?_
 show o_Gs p e below _ T341 m 146 #[o_J y0, o_s, o_J y1, o_s, o_J y2, o_s, o_J y3, o_s, o_J y4, o_s, o_I x5, o_I 0, o_I 16, .val (.long (y2 + y4)), o_s, o_A b328, o_A b335, o_A b336, o_A b337, o_A b335, o_u, o_u, o_u] [(.int 2), (.ref b335), (.ref b328)]
 obtain ⟨G2, q_G2⟩ : ∃ F : Int32 → Int32, F = (o_G2_4 (1 : Int32) B G1) := ⟨_, rfl⟩
 have V_G2 : o_Tb Z T341.heap b335 .char (24 : Int32) G2 := by rw [q_G2]; exact G341_0
 have s_G2 : o_Enc B 2 G2 := by rw [q_G2]; exact o_encS rfl (by decide) s_G1
 have c_G2 : o_C255 G2 := by rw [q_G2]; exact o_c255S c_G1
 have ff344 : o_Tb Z T341.heap b328 .byte (48 : Int32) B := (ff342.keep K341 (fun z => ne_b328_b335 (List.mem_singleton.mp z)))
 obtain ⟨_, T343, L343, X343, ⟨rfl, N343q, K343, G343_0⟩, st343⟩ := o_callS X341 hx hZ hown (hw _ o_t7) (hw _ o_t8) (hw _ o_t4) (hw _ o_t9) (by decide) (as := [(.ref b328), (.ref b335), (.int 2)]) (rm2 l Z a0 hw [] b328 b335 (2 : Int32) (24 : Int32) B G2 T341.heap n0 (Nat.le_trans (Nat.le_trans (Nat.le_trans (Nat.le_trans (Nat.le_trans (Nat.le_trans (Nat.le_trans (Nat.le_trans (Nat.le_trans (Nat.le_trans (Nat.le_trans (Nat.le_trans Z0 E328.1) K329.1) K330.1) K331.1) K332.1) K333.1) K334.1) E335.1) E336.1) E337.1) K339.1) K341.1) g_b335 ff344 V_G2 ne_b328_b335 (by decide)) rfl o_pd17 rfl (pc := 146) (Ls := #[o_J y0, o_s, o_J y1, o_s, o_J y2, o_s, o_J y3, o_s, o_J y4, o_s, o_I x5, o_I 0, o_I 16, .val (.long (y2 + y4)), o_s, o_A b328, o_A b335, o_A b336, o_A b337, o_A b335, o_u, o_u, o_u]) (rest := []) (W := 0) (by rw [hml]; rfl) (Nat.le_of_eq rfl) (by decide) (by decide) (hb hby at_146) (by decide) (by decide)
 have N343 := Fr.app N341 N343q
 refine o_go st343 ?_
 refine o_gi (XS.aload X343.here hx rfl (hb hby at_149) rfl rfl) ?_
 refine o_gi (XS.aload X343.here hx rfl (hb hby at_151) rfl rfl) ?_
 refine o_gi (XS.iconst X343.here hx rfl (hb hby at_153)) ?_
 show o_Gs p e below _ T343 m 154 #[o_J y0, o_s, o_J y1, o_s, o_J y2, o_s, o_J y3, o_s, o_J y4, o_s, o_I x5, o_I 0, o_I 16, .val (.long (y2 + y4)), o_s, o_A b328, o_A b335, o_A b336, o_A b337, o_A b335, o_u, o_u, o_u] [(.int 3), (.ref b335), (.ref b328)]
 obtain ⟨G3, q_G3⟩ : ∃ F : Int32 → Int32, F = (o_G2_4 (2 : Int32) B G2) := ⟨_, rfl⟩
 have V_G3 : o_Tb Z T343.heap b335 .char (24 : Int32) G3 := by rw [q_G3]; exact G343_0
 have s_G3 : o_Enc B 3 G3 := by rw [q_G3]; exact o_encS rfl (by decide) s_G2
 have c_G3 : o_C255 G3 := by rw [q_G3]; exact o_c255S c_G2
 have ff346 : o_Tb Z T343.heap b328 .byte (48 : Int32) B := (ff344.keep K343 (fun z => ne_b328_b335 (List.mem_singleton.mp z)))
 obtain ⟨_, T345, L345, X345, ⟨rfl, N345q, K345, G345_0⟩, st345⟩ := o_callS X343 hx hZ hown (hw _ o_t7) (hw _ o_t8) (hw _ o_t4) (hw _ o_t9) (by decide) (as := [(.ref b328), (.ref b335), (.int 3)]) (rm2 l Z a0 hw [] b328 b335 (3 : Int32) (24 : Int32) B G3 T343.heap n0 (Nat.le_trans (Nat.le_trans (Nat.le_trans (Nat.le_trans (Nat.le_trans (Nat.le_trans (Nat.le_trans (Nat.le_trans (Nat.le_trans (Nat.le_trans (Nat.le_trans (Nat.le_trans (Nat.le_trans Z0 E328.1) K329.1) K330.1) K331.1) K332.1) K333.1) K334.1) E335.1) E336.1) E337.1) K339.1) K341.1) K343.1) g_b335 ff346 V_G3 ne_b328_b335 (by decide)) rfl o_pd17 rfl (pc := 154) (Ls := #[o_J y0, o_s, o_J y1, o_s, o_J y2, o_s, o_J y3, o_s, o_J y4, o_s, o_I x5, o_I 0, o_I 16, .val (.long (y2 + y4)), o_s, o_A b328, o_A b335, o_A b336, o_A b337, o_A b335, o_u, o_u, o_u]) (rest := []) (W := 0) (by rw [hml]; rfl) (Nat.le_of_eq rfl) (by decide) (by decide) (hb hby at_154) (by decide) (by decide)
 have N345 := Fr.app N343 N345q
 refine o_go st345 ?_
 refine o_gi (XS.aload X345.here hx rfl (hb hby at_157) rfl rfl) ?_
 refine o_gi (XS.aload X345.here hx rfl (hb hby at_159) rfl rfl) ?_
 refine o_gi (XS.iconst X345.here hx rfl (hb hby at_161)) ?_
 show o_Gs p e below _ T345 m 162 #[o_J y0, o_s, o_J y1, o_s, o_J y2, o_s, o_J y3, o_s, o_J y4, o_s, o_I x5, o_I 0, o_I 16, .val (.long (y2 + y4)), o_s, o_A b328, o_A b335, o_A b336, o_A b337, o_A b335, o_u, o_u, o_u] [(.int 4), (.ref b335), (.ref b328)]
 obtain ⟨G4, q_G4⟩ : ∃ F : Int32 → Int32, F = (o_G2_4 (3 : Int32) B G3) := ⟨_, rfl⟩
 have V_G4 : o_Tb Z T345.heap b335 .char (24 : Int32) G4 := by rw [q_G4]; exact G345_0
 have s_G4 : o_Enc B 4 G4 := by rw [q_G4]; exact o_encS rfl (by decide) s_G3
 have c_G4 : o_C255 G4 := by rw [q_G4]; exact o_c255S c_G3
 have ff348 : o_Tb Z T345.heap b328 .byte (48 : Int32) B := (ff346.keep K345 (fun z => ne_b328_b335 (List.mem_singleton.mp z)))
 obtain ⟨_, T347, L347, X347, ⟨rfl, N347q, K347, G347_0⟩, st347⟩ := o_callS X345 hx hZ hown (hw _ o_t7) (hw _ o_t8) (hw _ o_t4) (hw _ o_t9) (by decide) (as := [(.ref b328), (.ref b335), (.int 4)]) (rm2 l Z a0 hw [] b328 b335 (4 : Int32) (24 : Int32) B G4 T345.heap n0 (Nat.le_trans (Nat.le_trans (Nat.le_trans (Nat.le_trans (Nat.le_trans (Nat.le_trans (Nat.le_trans (Nat.le_trans (Nat.le_trans (Nat.le_trans (Nat.le_trans (Nat.le_trans (Nat.le_trans (Nat.le_trans Z0 E328.1) K329.1) K330.1) K331.1) K332.1) K333.1) K334.1) E335.1) E336.1) E337.1) K339.1) K341.1) K343.1) K345.1) g_b335 ff348 V_G4 ne_b328_b335 (by decide)) rfl o_pd17 rfl (pc := 162) (Ls := #[o_J y0, o_s, o_J y1, o_s, o_J y2, o_s, o_J y3, o_s, o_J y4, o_s, o_I x5, o_I 0, o_I 16, .val (.long (y2 + y4)), o_s, o_A b328, o_A b335, o_A b336, o_A b337, o_A b335, o_u, o_u, o_u]) (rest := []) (W := 0) (by rw [hml]; rfl) (Nat.le_of_eq rfl) (by decide) (by decide) (hb hby at_162) (by decide) (by decide)
 have N347 := Fr.app N345 N347q
 refine o_go st347 ?_
 refine o_gi (XS.iload X347.here hx rfl (hb hby at_165) rfl) ?_
 refine o_gi (XS.iconst X347.here hx rfl (hb hby at_167)) ?_
 show o_Gs p e below _ T347 m 168 #[o_J y0, o_s, o_J y1, o_s, o_J y2, o_s, o_J y3, o_s, o_J y4, o_s, o_I x5, o_I 0, o_I 16, .val (.long (y2 + y4)), o_s, o_A b328, o_A b335, o_A b336, o_A b337, o_A b335, o_u, o_u, o_u] [(.int 1), (.int 0)]
 have hd349 : (0 : Int32) < (1 : Int32) := (by decide)
 refine o_gi (XS.icmpYes X347.here hx rfl (pc0 := 168) (pc' := 215) rfl (hb hby at_168) rfl (tlt hd349).1 (by decide) (by decide)) ?_
 refine o_gi (XS.iload X347.here hx rfl (hb hby at_215) rfl) ?_
 refine o_gi (XS.iconst X347.here hx rfl (hb hby at_217)) ?_
 show o_Gs p e below _ T347 m 218 #[o_J y0, o_s, o_J y1, o_s, o_J y2, o_s, o_J y3, o_s, o_J y4, o_s, o_I x5, o_I 0, o_I 16, .val (.long (y2 + y4)), o_s, o_A b328, o_A b335, o_A b336, o_A b337, o_A b335, o_u, o_u, o_u] [(.int 2), (.int 0)]
 have hd350 : ¬ ((0 : Int32) = (2 : Int32)) := (by decide)
 refine o_gi (XS.icmpYes X347.here hx rfl (pc0 := 218) (pc' := 275) rfl (hb hby at_218) rfl (feq hd350).2 (by decide) (by decide)) ?_
 refine o_gi (XS.iload X347.here hx rfl (hb hby at_275) rfl) ?_
 show o_Gs p e below _ T347 m 277 #[o_J y0, o_s, o_J y1, o_s, o_J y2, o_s, o_J y3, o_s, o_J y4, o_s, o_I x5, o_I 0, o_I 16, .val (.long (y2 + y4)), o_s, o_A b328, o_A b335, o_A b336, o_A b337, o_A b335, o_u, o_u, o_u] [(.int 0)]
 have hd351 : (0 : Int32) = (0 : Int32) := (by decide)
 refine o_gi (XS.ifNo X347.here hx rfl (hb hby at_277) rfl ((if0 _ _).trans (teq hd351).2)) ?_
 refine o_gi (XS.aload X347.here hx rfl (hb hby at_280) rfl rfl) ?_
 refine o_gi (XS.bipush X347.here hx rfl (hb hby at_282)) ?_
 show o_Gs p e below _ T347 m 284 #[o_J y0, o_s, o_J y1, o_s, o_J y2, o_s, o_J y3, o_s, o_J y4, o_s, o_I x5, o_I 0, o_I 16, .val (.long (y2 + y4)), o_s, o_A b328, o_A b335, o_A b336, o_A b337, o_A b335, o_u, o_u, o_u] [(.int 15), (.ref b328)]
 have ff352 : o_Tb Z T347.heap b328 .byte (48 : Int32) B := (ff348.keep K347 (fun z => ne_b328_b335 (List.mem_singleton.mp z)))
 obtain ⟨cl353, Ar353, sa353, na353, ha353⟩ := id ff352
 have ix353 : ¬ (15 : Int32) < 0 ∧ (15 : Int32) < (48 : Int32) := ⟨by decide, by decide⟩
 refine o_go (X347.baloadBytes hx (j := (15 : Int32)) (v := (.int (B (15 : Int32)))) Ar353.1 (State.isArrayOf_alike hZ.alike Ar353.2.1) Ar353.2.2 (inb_of sa353 ix353) (ha353 _ ix353.1 ix353.2) (g := (mkF m 284 #[o_J y0, o_s, o_J y1, o_s, o_J y2, o_s, o_J y3, o_s, o_J y4, o_s, o_I x5, o_I 0, o_I 16, .val (.long (y2 + y4)), o_s, o_A b328, o_A b335, o_A b336, o_A b337, o_A b335, o_u, o_u, o_u] [(.int 15), (.ref b328)])) rfl rfl (hb hby at_284)) ?_
 refine o_gi (XS.sipush X347.here hx rfl (hb hby at_285)) ?_
 show o_Gs p e below _ T347 m 288 #[o_J y0, o_s, o_J y1, o_s, o_J y2, o_s, o_J y3, o_s, o_J y4, o_s, o_I x5, o_I 0, o_I 16, .val (.long (y2 + y4)), o_s, o_A b328, o_A b335, o_A b336, o_A b337, o_A b335, o_u, o_u, o_u] [(.int 255), (.int (B (15 : Int32)))]
 refine o_gi (XS.iand X347.here hx rfl (hb hby at_288) rfl) ?_
 refine o_gi (XS.bipush X347.here hx rfl (hb hby at_289)) ?_
 show o_Gs p e below _ T347 m 291 #[o_J y0, o_s, o_J y1, o_s, o_J y2, o_s, o_J y3, o_s, o_J y4, o_s, o_I x5, o_I 0, o_I 16, .val (.long (y2 + y4)), o_s, o_A b328, o_A b335, o_A b336, o_A b337, o_A b335, o_u, o_u, o_u] [(.int 16), (.int ((B (15 : Int32)) &&& (255 : Int32)))]
 refine o_gi (XS.ishl X347.here hx rfl (hb hby at_291) rfl) ?_
 refine o_gi (XS.istore X347.here hx rfl (hb hby at_292) rfl (l' := #[o_J y0, o_s, o_J y1, o_s, o_J y2, o_s, o_J y3, o_s, o_J y4, o_s, o_I x5, o_I 0, o_I 16, .val (.long (y2 + y4)), o_s, o_A b328, o_A b335, o_A b336, o_A b337, o_A b335, .val (.int (((B (15 : Int32)) &&& (255 : Int32)) <<< ((16 : Int32) &&& 31))), o_u, o_u]) rfl) ?_
 refine o_gi (XS.aload X347.here hx rfl (hb hby at_294) rfl rfl) ?_
 refine o_gi (XS.bipush X347.here hx rfl (hb hby at_296)) ?_
 refine o_gi (XS.iload X347.here hx rfl (hb hby at_298) rfl) ?_
 refine o_gi (XS.bipush X347.here hx rfl (hb hby at_300)) ?_
 show o_Gs p e below _ T347 m 302 #[o_J y0, o_s, o_J y1, o_s, o_J y2, o_s, o_J y3, o_s, o_J y4, o_s, o_I x5, o_I 0, o_I 16, .val (.long (y2 + y4)), o_s, o_A b328, o_A b335, o_A b336, o_A b337, o_A b335, .val (.int (((B (15 : Int32)) &&& (255 : Int32)) <<< ((16 : Int32) &&& 31))), o_u, o_u] [(.int 18), (.int (((B (15 : Int32)) &&& (255 : Int32)) <<< ((16 : Int32) &&& 31))), (.int 20), (.ref b335)]
 refine o_gi (XS.iushr X347.here hx rfl (hb hby at_302) rfl) ?_
 show o_Gs p e below _ T347 m 303 #[o_J y0, o_s, o_J y1, o_s, o_J y2, o_s, o_J y3, o_s, o_J y4, o_s, o_I x5, o_I 0, o_I 16, .val (.long (y2 + y4)), o_s, o_A b328, o_A b335, o_A b336, o_A b337, o_A b335, .val (.int (((B (15 : Int32)) &&& (255 : Int32)) <<< ((16 : Int32) &&& 31))), o_u, o_u] [(.int (((((B (15 : Int32)) &&& (255 : Int32)) <<< ((16 : Int32) &&& 31)).toUInt32 >>> ((18 : Int32) &&& 31).toUInt32).toInt32)), (.int 20), (.ref b335)]
 obtain ⟨_, T354, L354, X354, ⟨rfl, N354q, e354⟩, st354⟩ := o_callS X347 hx hZ hown (hw _ o_t10) (hw _ o_t11) (hw _ o_t4) (hw _ o_t12) (by decide) (as := [(.int (((((B (15 : Int32)) &&& (255 : Int32)) <<< ((16 : Int32) &&& 31)).toUInt32 >>> ((18 : Int32) &&& 31).toUInt32).toInt32))]) (rm3 l Z a0 hw [] (((((B (15 : Int32)) &&& (255 : Int32)) <<< ((16 : Int32) &&& 31)).toUInt32 >>> ((18 : Int32) &&& 31).toUInt32).toInt32) T347.heap n0) rfl o_pd0 rfl (pc := 303) (Ls := #[o_J y0, o_s, o_J y1, o_s, o_J y2, o_s, o_J y3, o_s, o_J y4, o_s, o_I x5, o_I 0, o_I 16, .val (.long (y2 + y4)), o_s, o_A b328, o_A b335, o_A b336, o_A b337, o_A b335, .val (.int (((B (15 : Int32)) &&& (255 : Int32)) <<< ((16 : Int32) &&& 31))), o_u, o_u]) (rest := [(.int 20), (.ref b335)]) (W := 2) (by rw [hml]; rfl) (Nat.le_of_eq rfl) (by decide) (by decide) (hb hby at_303) (by decide) (by decide)
 have N354 := Fr.app N347 N354q
 refine o_go st354 ?_
 show o_Gs p e below _ T354 m 306 #[o_J y0, o_s, o_J y1, o_s, o_J y2, o_s, o_J y3, o_s, o_J y4, o_s, o_I x5, o_I 0, o_I 16, .val (.long (y2 + y4)), o_s, o_A b328, o_A b335, o_A b336, o_A b337, o_A b335, .val (.int (((B (15 : Int32)) &&& (255 : Int32)) <<< ((16 : Int32) &&& 31))), o_u, o_u] [(.int (o_f3 (((((B (15 : Int32)) &&& (255 : Int32)) <<< ((16 : Int32) &&& 31)).toUInt32 >>> ((18 : Int32) &&& 31).toUInt32).toInt32))), (.int 20), (.ref b335)]
 obtain ⟨cl355, Ar355, sa355, na355, ha355⟩ := id G347_0
 obtain ⟨T355, h355, X355, e355, W355, st355⟩ := stC X354 hx hZ e354 Ar355 (j := (20 : Int32)) (inb_of sa355 ⟨by decide, by decide⟩) (g := (mkF m 306 #[o_J y0, o_s, o_J y1, o_s, o_J y2, o_s, o_J y3, o_s, o_J y4, o_s, o_I x5, o_I 0, o_I 16, .val (.long (y2 + y4)), o_s, o_A b328, o_A b335, o_A b336, o_A b337, o_A b335, .val (.int (((B (15 : Int32)) &&& (255 : Int32)) <<< ((16 : Int32) &&& 31))), o_u, o_u] [(.int (o_f3 (((((B (15 : Int32)) &&& (255 : Int32)) <<< ((16 : Int32) &&& 31)).toUInt32 >>> ((18 : Int32) &&& 31).toUInt32).toInt32))), (.int 20), (.ref b335)])) rfl rfl (hb hby at_306)
 have V355 : o_Tb Z h355 b335 .char (24 : Int32) (fun k => if k = (20 : Int32) then (nar .char (o_f3 (((((B (15 : Int32)) &&& (255 : Int32)) <<< ((16 : Int32) &&& 31)).toUInt32 >>> ((18 : Int32) &&& 31).toUInt32).toInt32))) else (o_G2_4 (4 : Int32) B G4) k) := o_Tb.set Ar355 sa355 na355 ha355 W355 ⟨by decide, by decide⟩
 have N355 := Fr.snoc X355 N354 g_b335
 refine o_go st355 ?_
 refine o_gi (XS.aload X355.here hx rfl (hb hby at_307) rfl rfl) ?_
 refine o_gi (XS.bipush X355.here hx rfl (hb hby at_309)) ?_
 refine o_gi (XS.iload X355.here hx rfl (hb hby at_311) rfl) ?_
 refine o_gi (XS.bipush X355.here hx rfl (hb hby at_313)) ?_
 show o_Gs p e below _ T355 m 315 #[o_J y0, o_s, o_J y1, o_s, o_J y2, o_s, o_J y3, o_s, o_J y4, o_s, o_I x5, o_I 0, o_I 16, .val (.long (y2 + y4)), o_s, o_A b328, o_A b335, o_A b336, o_A b337, o_A b335, .val (.int (((B (15 : Int32)) &&& (255 : Int32)) <<< ((16 : Int32) &&& 31))), o_u, o_u] [(.int 12), (.int (((B (15 : Int32)) &&& (255 : Int32)) <<< ((16 : Int32) &&& 31))), (.int 21), (.ref b335)]
 refine o_gi (XS.iushr X355.here hx rfl (hb hby at_315) rfl) ?_
 refine o_gi (XS.bipush X355.here hx rfl (hb hby at_316)) ?_
 show o_Gs p e below _ T355 m 318 #[o_J y0, o_s, o_J y1, o_s, o_J y2, o_s, o_J y3, o_s, o_J y4, o_s, o_I x5, o_I 0, o_I 16, .val (.long (y2 + y4)), o_s, o_A b328, o_A b335, o_A b336, o_A b337, o_A b335, .val (.int (((B (15 : Int32)) &&& (255 : Int32)) <<< ((16 : Int32) &&& 31))), o_u, o_u] [(.int 63), (.int (((((B (15 : Int32)) &&& (255 : Int32)) <<< ((16 : Int32) &&& 31)).toUInt32 >>> ((12 : Int32) &&& 31).toUInt32).toInt32)), (.int 21), (.ref b335)]
 refine o_gi (XS.iand X355.here hx rfl (hb hby at_318) rfl) ?_
 show o_Gs p e below _ T355 m 319 #[o_J y0, o_s, o_J y1, o_s, o_J y2, o_s, o_J y3, o_s, o_J y4, o_s, o_I x5, o_I 0, o_I 16, .val (.long (y2 + y4)), o_s, o_A b328, o_A b335, o_A b336, o_A b337, o_A b335, .val (.int (((B (15 : Int32)) &&& (255 : Int32)) <<< ((16 : Int32) &&& 31))), o_u, o_u] [(.int ((((((B (15 : Int32)) &&& (255 : Int32)) <<< ((16 : Int32) &&& 31)).toUInt32 >>> ((12 : Int32) &&& 31).toUInt32).toInt32) &&& (63 : Int32))), (.int 21), (.ref b335)]
 obtain ⟨_, T356, L356, X356, ⟨rfl, N356q, e356⟩, st356⟩ := o_callS X355 hx hZ hown (hw _ o_t10) (hw _ o_t11) (hw _ o_t4) (hw _ o_t12) (by decide) (as := [(.int ((((((B (15 : Int32)) &&& (255 : Int32)) <<< ((16 : Int32) &&& 31)).toUInt32 >>> ((12 : Int32) &&& 31).toUInt32).toInt32) &&& (63 : Int32)))]) (rm3 l Z a0 hw [] ((((((B (15 : Int32)) &&& (255 : Int32)) <<< ((16 : Int32) &&& 31)).toUInt32 >>> ((12 : Int32) &&& 31).toUInt32).toInt32) &&& (63 : Int32)) h355 n0) e355 o_pd0 rfl (pc := 319) (Ls := #[o_J y0, o_s, o_J y1, o_s, o_J y2, o_s, o_J y3, o_s, o_J y4, o_s, o_I x5, o_I 0, o_I 16, .val (.long (y2 + y4)), o_s, o_A b328, o_A b335, o_A b336, o_A b337, o_A b335, .val (.int (((B (15 : Int32)) &&& (255 : Int32)) <<< ((16 : Int32) &&& 31))), o_u, o_u]) (rest := [(.int 21), (.ref b335)]) (W := 2) (by rw [hml]; rfl) (Nat.le_of_eq rfl) (by decide) (by decide) (hb hby at_319) (by decide) (by decide)
 have N356 := Fr.app N355 N356q
 refine o_go st356 ?_
 show o_Gs p e below _ T356 m 322 #[o_J y0, o_s, o_J y1, o_s, o_J y2, o_s, o_J y3, o_s, o_J y4, o_s, o_I x5, o_I 0, o_I 16, .val (.long (y2 + y4)), o_s, o_A b328, o_A b335, o_A b336, o_A b337, o_A b335, .val (.int (((B (15 : Int32)) &&& (255 : Int32)) <<< ((16 : Int32) &&& 31))), o_u, o_u] [(.int (o_f3 ((((((B (15 : Int32)) &&& (255 : Int32)) <<< ((16 : Int32) &&& 31)).toUInt32 >>> ((12 : Int32) &&& 31).toUInt32).toInt32) &&& (63 : Int32)))), (.int 21), (.ref b335)]
 obtain ⟨cl357, Ar357, sa357, na357, ha357⟩ := id V355
 obtain ⟨T357, h357, X357, e357, W357, st357⟩ := stC X356 hx hZ e356 Ar357 (j := (21 : Int32)) (inb_of sa357 ⟨by decide, by decide⟩) (g := (mkF m 322 #[o_J y0, o_s, o_J y1, o_s, o_J y2, o_s, o_J y3, o_s, o_J y4, o_s, o_I x5, o_I 0, o_I 16, .val (.long (y2 + y4)), o_s, o_A b328, o_A b335, o_A b336, o_A b337, o_A b335, .val (.int (((B (15 : Int32)) &&& (255 : Int32)) <<< ((16 : Int32) &&& 31))), o_u, o_u] [(.int (o_f3 ((((((B (15 : Int32)) &&& (255 : Int32)) <<< ((16 : Int32) &&& 31)).toUInt32 >>> ((12 : Int32) &&& 31).toUInt32).toInt32) &&& (63 : Int32)))), (.int 21), (.ref b335)])) rfl rfl (hb hby at_322)
 have V357 : o_Tb Z h357 b335 .char (24 : Int32) (fun k => if k = (21 : Int32) then (nar .char (o_f3 ((((((B (15 : Int32)) &&& (255 : Int32)) <<< ((16 : Int32) &&& 31)).toUInt32 >>> ((12 : Int32) &&& 31).toUInt32).toInt32) &&& (63 : Int32)))) else (fun k => if k = (20 : Int32) then (nar .char (o_f3 (((((B (15 : Int32)) &&& (255 : Int32)) <<< ((16 : Int32) &&& 31)).toUInt32 >>> ((18 : Int32) &&& 31).toUInt32).toInt32))) else (o_G2_4 (4 : Int32) B G4) k) k) := o_Tb.set Ar357 sa357 na357 ha357 W357 ⟨by decide, by decide⟩
 have N357 := Fr.snoc X357 N356 g_b335
 refine o_go st357 ?_
 refine o_gi (XS.aload X357.here hx rfl (hb hby at_323) rfl rfl) ?_
 refine o_gi (XS.bipush X357.here hx rfl (hb hby at_325)) ?_
 refine o_gi (XS.bipush X357.here hx rfl (hb hby at_327)) ?_
 show o_Gs p e below _ T357 m 329 #[o_J y0, o_s, o_J y1, o_s, o_J y2, o_s, o_J y3, o_s, o_J y4, o_s, o_I x5, o_I 0, o_I 16, .val (.long (y2 + y4)), o_s, o_A b328, o_A b335, o_A b336, o_A b337, o_A b335, .val (.int (((B (15 : Int32)) &&& (255 : Int32)) <<< ((16 : Int32) &&& 31))), o_u, o_u] [(.int 61), (.int 22), (.ref b335)]
 obtain ⟨cl358, Ar358, sa358, na358, ha358⟩ := id V357
 obtain ⟨T358, h358, X358, e358, W358, st358⟩ := stC X357 hx hZ e357 Ar358 (j := (22 : Int32)) (inb_of sa358 ⟨by decide, by decide⟩) (g := (mkF m 329 #[o_J y0, o_s, o_J y1, o_s, o_J y2, o_s, o_J y3, o_s, o_J y4, o_s, o_I x5, o_I 0, o_I 16, .val (.long (y2 + y4)), o_s, o_A b328, o_A b335, o_A b336, o_A b337, o_A b335, .val (.int (((B (15 : Int32)) &&& (255 : Int32)) <<< ((16 : Int32) &&& 31))), o_u, o_u] [(.int 61), (.int 22), (.ref b335)])) rfl rfl (hb hby at_329)
 have V358 : o_Tb Z h358 b335 .char (24 : Int32) (fun k => if k = (22 : Int32) then (nar .char (61 : Int32)) else (fun k => if k = (21 : Int32) then (nar .char (o_f3 ((((((B (15 : Int32)) &&& (255 : Int32)) <<< ((16 : Int32) &&& 31)).toUInt32 >>> ((12 : Int32) &&& 31).toUInt32).toInt32) &&& (63 : Int32)))) else (fun k => if k = (20 : Int32) then (nar .char (o_f3 (((((B (15 : Int32)) &&& (255 : Int32)) <<< ((16 : Int32) &&& 31)).toUInt32 >>> ((18 : Int32) &&& 31).toUInt32).toInt32))) else (o_G2_4 (4 : Int32) B G4) k) k) k) := o_Tb.set Ar358 sa358 na358 ha358 W358 ⟨by decide, by decide⟩
 have N358 := Fr.snoc X358 N357 g_b335
 refine o_go st358 ?_
 refine o_gi (XS.aload X358.here hx rfl (hb hby at_330) rfl rfl) ?_
 refine o_gi (XS.bipush X358.here hx rfl (hb hby at_332)) ?_
 refine o_gi (XS.bipush X358.here hx rfl (hb hby at_334)) ?_
 show o_Gs p e below _ T358 m 336 #[o_J y0, o_s, o_J y1, o_s, o_J y2, o_s, o_J y3, o_s, o_J y4, o_s, o_I x5, o_I 0, o_I 16, .val (.long (y2 + y4)), o_s, o_A b328, o_A b335, o_A b336, o_A b337, o_A b335, .val (.int (((B (15 : Int32)) &&& (255 : Int32)) <<< ((16 : Int32) &&& 31))), o_u, o_u] [(.int 61), (.int 23), (.ref b335)]
 obtain ⟨cl359, Ar359, sa359, na359, ha359⟩ := id V358
 obtain ⟨T359, h359, X359, e359, W359, st359⟩ := stC X358 hx hZ e358 Ar359 (j := (23 : Int32)) (inb_of sa359 ⟨by decide, by decide⟩) (g := (mkF m 336 #[o_J y0, o_s, o_J y1, o_s, o_J y2, o_s, o_J y3, o_s, o_J y4, o_s, o_I x5, o_I 0, o_I 16, .val (.long (y2 + y4)), o_s, o_A b328, o_A b335, o_A b336, o_A b337, o_A b335, .val (.int (((B (15 : Int32)) &&& (255 : Int32)) <<< ((16 : Int32) &&& 31))), o_u, o_u] [(.int 61), (.int 23), (.ref b335)])) rfl rfl (hb hby at_336)
 have V359 : o_Tb Z h359 b335 .char (24 : Int32) (fun k => if k = (23 : Int32) then (nar .char (61 : Int32)) else (fun k => if k = (22 : Int32) then (nar .char (61 : Int32)) else (fun k => if k = (21 : Int32) then (nar .char (o_f3 ((((((B (15 : Int32)) &&& (255 : Int32)) <<< ((16 : Int32) &&& 31)).toUInt32 >>> ((12 : Int32) &&& 31).toUInt32).toInt32) &&& (63 : Int32)))) else (fun k => if k = (20 : Int32) then (nar .char (o_f3 (((((B (15 : Int32)) &&& (255 : Int32)) <<< ((16 : Int32) &&& 31)).toUInt32 >>> ((18 : Int32) &&& 31).toUInt32).toInt32))) else (o_G2_4 (4 : Int32) B G4) k) k) k) k) := o_Tb.set Ar359 sa359 na359 ha359 W359 ⟨by decide, by decide⟩
 have N359 := Fr.snoc X359 N358 g_b335
 refine o_go st359 ?_
 refine o_gi (XS.goto X359.here hx rfl (pc0 := 337) (pc' := 425) rfl (hb hby at_337) (by decide) (by decide)) ?_
 show o_Gs p e below _ T359 m 425 #[o_J y0, o_s, o_J y1, o_s, o_J y2, o_s, o_J y3, o_s, o_J y4, o_s, o_I x5, o_I 0, o_I 16, .val (.long (y2 + y4)), o_s, o_A b328, o_A b335, o_A b336, o_A b337, o_A b335, .val (.int (((B (15 : Int32)) &&& (255 : Int32)) <<< ((16 : Int32) &&& 31))), o_u, o_u] []
 obtain ⟨T360, h360, X360, e360, E360, A360, D360, -, st360⟩ := newO X359 hx hZ hown (hw _ o_t13) (hw _ o_t14) (hw _ o_t15) e359 (g := (mkF m 425 #[o_J y0, o_s, o_J y1, o_s, o_J y2, o_s, o_J y3, o_s, o_J y4, o_s, o_I x5, o_I 0, o_I 16, .val (.long (y2 + y4)), o_s, o_A b328, o_A b335, o_A b336, o_A b337, o_A b335, .val (.int (((B (15 : Int32)) &&& (255 : Int32)) <<< ((16 : Int32) &&& 31))), o_u, o_u] [])) rfl (hb hby at_425) (by decide) (by decide)
 obtain ⟨b360, q360⟩ : ∃ z, z = h359.size := ⟨_, rfl⟩
 rw [← q360] at A360 D360 st360
 have lt_b360 : h359.size ≤ b360 := Nat.le_of_eq q360.symm
 have ne_b328_b360 : b328 ≠ b360 := Nat.ne_of_lt (Nat.lt_of_lt_of_le ((((ff352.other W355 ne_b328_b335).other W357 ne_b328_b335).other W358 ne_b328_b335).other W359 ne_b328_b335).lt lt_b360)
 have ne_b335_b360 : b335 ≠ b360 := Nat.ne_of_lt (Nat.lt_of_lt_of_le V359.lt lt_b360)
 have ne_b336_b360 : b336 ≠ b360 := Nat.ne_of_lt (Nat.lt_of_lt_of_le ((((((((((V336.ext E337).keep K339 (fun z => (Ne.symm ne_b335_b336) (List.mem_singleton.mp z))).keep K341 (fun z => (Ne.symm ne_b335_b336) (List.mem_singleton.mp z))).keep K343 (fun z => (Ne.symm ne_b335_b336) (List.mem_singleton.mp z))).keep K345 (fun z => (Ne.symm ne_b335_b336) (List.mem_singleton.mp z))).keep K347 (fun z => (Ne.symm ne_b335_b336) (List.mem_singleton.mp z))).other W355 (Ne.symm ne_b335_b336)).other W357 (Ne.symm ne_b335_b336)).other W358 (Ne.symm ne_b335_b336)).other W359 (Ne.symm ne_b335_b336)).lt lt_b360)
 have ne_b337_b360 : b337 ≠ b360 := Nat.ne_of_lt (Nat.lt_of_lt_of_le (((((((((V337.keep K339 (fun z => (Ne.symm ne_b335_b337) (List.mem_singleton.mp z))).keep K341 (fun z => (Ne.symm ne_b335_b337) (List.mem_singleton.mp z))).keep K343 (fun z => (Ne.symm ne_b335_b337) (List.mem_singleton.mp z))).keep K345 (fun z => (Ne.symm ne_b335_b337) (List.mem_singleton.mp z))).keep K347 (fun z => (Ne.symm ne_b335_b337) (List.mem_singleton.mp z))).other W355 (Ne.symm ne_b335_b337)).other W357 (Ne.symm ne_b335_b337)).other W358 (Ne.symm ne_b335_b337)).other W359 (Ne.symm ne_b335_b337)).lt lt_b360)
 have g_b360 : n0 ≤ b360 := Nat.le_trans (Nat.le_trans (Nat.le_trans (Nat.le_trans (Nat.le_trans (Nat.le_trans (Nat.le_trans (Nat.le_trans (Nat.le_trans (Nat.le_trans (Nat.le_trans (Nat.le_trans (Nat.le_trans (Nat.le_trans (Nat.le_trans (Nat.le_trans (Nat.le_trans (Nat.le_trans (Nat.le_trans (Nat.le_trans Z0 E328.1) K329.1) K330.1) K331.1) K332.1) K333.1) K334.1) E335.1) E336.1) E337.1) K339.1) K341.1) K343.1) K345.1) K347.1) (Keep.of_wr W355).1) (Keep.of_wr W357).1) (Keep.of_wr W358).1) (Keep.of_wr W359).1) lt_b360
 have F360_coder : Fld Z h360 b360 "java/lang/String" "coder" "B" (.int 0) := D360 (Or.inr (hw _ o_t38)) (ty := .byte) (by decide)
 have F360_value : Fld Z h360 b360 "java/lang/String" "value" "[B" .null := D360 (Or.inr (hw _ o_t40)) (ty := (.array .byte)) (by decide)
 refine o_go st360 ?_
 refine o_gi (XS.dup X360.here hx rfl (hb hby at_428) rfl rfl) ?_
 refine o_gi (XS.aload X360.here hx rfl (hb hby at_429) rfl rfl) ?_
 show o_Gs p e below _ T360 m 431 #[o_J y0, o_s, o_J y1, o_s, o_J y2, o_s, o_J y3, o_s, o_J y4, o_s, o_I x5, o_I 0, o_I 16, .val (.long (y2 + y4)), o_s, o_A b328, o_A b335, o_A b336, o_A b337, o_A b335, .val (.int (((B (15 : Int32)) &&& (255 : Int32)) <<< ((16 : Int32) &&& 31))), o_u, o_u] [(.ref b335), (.ref b360), (.ref b360)]
 obtain ⟨GF, q_GF⟩ : ∃ F : Int32 → Int32, F = (fun k => if k = (23 : Int32) then (nar .char (61 : Int32)) else (fun k => if k = (22 : Int32) then (nar .char (61 : Int32)) else (fun k => if k = (21 : Int32) then (nar .char (o_f3 ((((((B (15 : Int32)) &&& (255 : Int32)) <<< ((16 : Int32) &&& 31)).toUInt32 >>> ((12 : Int32) &&& 31).toUInt32).toInt32) &&& (63 : Int32)))) else (fun k => if k = (20 : Int32) then (nar .char (o_f3 (((((B (15 : Int32)) &&& (255 : Int32)) <<< ((16 : Int32) &&& 31)).toUInt32 >>> ((18 : Int32) &&& 31).toUInt32).toInt32))) else (o_G2_4 (4 : Int32) B G4) k) k) k) k) := ⟨_, rfl⟩
 have V_GF : o_Tb Z h360 b335 .char (24 : Int32) GF := by rw [q_GF]; exact (V359.ext E360)
 have hGG : o_C255 GF := by rw [q_GF]; exact (o_md0 hBy (o_encS (x := (4 : Int32)) rfl (by decide) s_G4)).2 (o_c255S c_G4)
 have hMD : o_Md0 B (o_b8 GF) := by rw [q_GF]; exact (o_md0 hBy (o_encS (x := (4 : Int32)) rfl (by decide) s_G4)).1
 obtain ⟨_, T361, L361, X361, ⟨b361, rfl, N361q, K361, lt_b361, G361_0, G361_1, G361_2, G361_3, G361_4⟩, st361⟩ := o_callI X360 hx hZ rfl hown (hw _ o_t16) (hw _ o_t17) (hw _ o_t15) (hw _ o_t18) (by decide) (b := b360) (as := [(.ref b335)]) (rm4_24 l Z a0 hw [] b360 b335 GF z_cs h360 n0 (Nat.le_trans (Nat.le_trans (Nat.le_trans (Nat.le_trans (Nat.le_trans (Nat.le_trans (Nat.le_trans (Nat.le_trans (Nat.le_trans (Nat.le_trans (Nat.le_trans (Nat.le_trans (Nat.le_trans (Nat.le_trans (Nat.le_trans (Nat.le_trans (Nat.le_trans (Nat.le_trans (Nat.le_trans (Nat.le_trans Z0 E328.1) K329.1) K330.1) K331.1) K332.1) K333.1) K334.1) E335.1) E336.1) E337.1) K339.1) K341.1) K343.1) K345.1) K347.1) (Keep.of_wr W355).1) (Keep.of_wr W357).1) (Keep.of_wr W358).1) (Keep.of_wr W359).1) E360.1) g_b360 ((((((((((((((((((((O0.ext E328).keep K329 (allS g_b328 all0)).keep K330 (allS g_b328 all0)).keep K331 (allS g_b328 all0)).keep K332 (allS g_b328 all0)).keep K333 (allS g_b328 all0)).keep K334 (allS g_b328 all0)).ext E335).ext E336).ext E337).keep K339 (allS g_b335 all0)).keep K341 (allS g_b335 all0)).keep K343 (allS g_b335 all0)).keep K345 (allS g_b335 all0)).keep K347 (allS g_b335 all0)).wr W355 g_b335).wr W357 g_b335).wr W358 g_b335).wr W359 g_b335).ext E360) z_CS A360 F360_value F360_coder V_GF hGG (Ne.symm ne_b335_b360) S_z_cs) e360 o_pd18 rfl (pc := 431) (Ls := #[o_J y0, o_s, o_J y1, o_s, o_J y2, o_s, o_J y3, o_s, o_J y4, o_s, o_I x5, o_I 0, o_I 16, .val (.long (y2 + y4)), o_s, o_A b328, o_A b335, o_A b336, o_A b337, o_A b335, .val (.int (((B (15 : Int32)) &&& (255 : Int32)) <<< ((16 : Int32) &&& 31))), o_u, o_u]) (rest := [(.ref b360)]) (W := 1) (by rw [hml]; rfl) (Nat.le_of_eq rfl) (by decide) (by decide) (hb hby at_431) (by decide) (by decide)
 have N361 := Fr.app N359 N361q
 have ne_b328_b361 : b328 ≠ b361 := Nat.ne_of_lt (Nat.lt_of_lt_of_le (((((ff352.other W355 ne_b328_b335).other W357 ne_b328_b335).other W358 ne_b328_b335).other W359 ne_b328_b335).ext E360).lt lt_b361)
 have ne_b335_b361 : b335 ≠ b361 := Nat.ne_of_lt (Nat.lt_of_lt_of_le V_GF.lt lt_b361)
 have ne_b336_b361 : b336 ≠ b361 := Nat.ne_of_lt (Nat.lt_of_lt_of_le (((((((((((V336.ext E337).keep K339 (fun z => (Ne.symm ne_b335_b336) (List.mem_singleton.mp z))).keep K341 (fun z => (Ne.symm ne_b335_b336) (List.mem_singleton.mp z))).keep K343 (fun z => (Ne.symm ne_b335_b336) (List.mem_singleton.mp z))).keep K345 (fun z => (Ne.symm ne_b335_b336) (List.mem_singleton.mp z))).keep K347 (fun z => (Ne.symm ne_b335_b336) (List.mem_singleton.mp z))).other W355 (Ne.symm ne_b335_b336)).other W357 (Ne.symm ne_b335_b336)).other W358 (Ne.symm ne_b335_b336)).other W359 (Ne.symm ne_b335_b336)).ext E360).lt lt_b361)
 have ne_b337_b361 : b337 ≠ b361 := Nat.ne_of_lt (Nat.lt_of_lt_of_le ((((((((((V337.keep K339 (fun z => (Ne.symm ne_b335_b337) (List.mem_singleton.mp z))).keep K341 (fun z => (Ne.symm ne_b335_b337) (List.mem_singleton.mp z))).keep K343 (fun z => (Ne.symm ne_b335_b337) (List.mem_singleton.mp z))).keep K345 (fun z => (Ne.symm ne_b335_b337) (List.mem_singleton.mp z))).keep K347 (fun z => (Ne.symm ne_b335_b337) (List.mem_singleton.mp z))).other W355 (Ne.symm ne_b335_b337)).other W357 (Ne.symm ne_b335_b337)).other W358 (Ne.symm ne_b335_b337)).other W359 (Ne.symm ne_b335_b337)).ext E360).lt lt_b361)
 have ne_b360_b361 : b360 ≠ b361 := Nat.ne_of_lt (Nat.lt_of_lt_of_le A360.lt lt_b361)
 have g_b361 : n0 ≤ b361 := Nat.le_trans (Nat.le_trans (Nat.le_trans (Nat.le_trans (Nat.le_trans (Nat.le_trans (Nat.le_trans (Nat.le_trans (Nat.le_trans (Nat.le_trans (Nat.le_trans (Nat.le_trans (Nat.le_trans (Nat.le_trans (Nat.le_trans (Nat.le_trans (Nat.le_trans (Nat.le_trans (Nat.le_trans (Nat.le_trans (Nat.le_trans Z0 E328.1) K329.1) K330.1) K331.1) K332.1) K333.1) K334.1) E335.1) E336.1) E337.1) K339.1) K341.1) K343.1) K345.1) K347.1) (Keep.of_wr W355).1) (Keep.of_wr W357).1) (Keep.of_wr W358).1) (Keep.of_wr W359).1) E360.1) lt_b361
 refine o_go st361 ?_
 refine o_gi (XS.astore X361.here hx rfl (hb hby at_434) rfl rfl (l' := #[o_J y0, o_s, o_J y1, o_s, o_J y2, o_s, o_J y3, o_s, o_J y4, o_s, o_I x5, o_I 0, o_I 16, .val (.long (y2 + y4)), o_s, o_A b328, o_A b335, o_A b336, o_A b337, o_A b335, o_A b360, o_u, o_u]) rfl) ?_
 refine o_gi (XS.aload X361.here hx rfl (hb hby at_436) rfl rfl) ?_
 show o_Gs p e below _ T361 m 438 #[o_J y0, o_s, o_J y1, o_s, o_J y2, o_s, o_J y3, o_s, o_J y4, o_s, o_I x5, o_I 0, o_I 16, .val (.long (y2 + y4)), o_s, o_A b328, o_A b335, o_A b336, o_A b337, o_A b335, o_A b360, o_u, o_u] [(.ref b360)]
 obtain ⟨_, T362, L362, X362, ⟨b362, rfl, N362q, K362, lt_b362, G362_0⟩, st362⟩ := o_callSX X361 hx hZ hown (hw _ o_t41) (hw _ o_t42) (hw _ o_t43) (hw _ o_t44) (by decide) (as := [(.ref b360)]) (rm10_0 l Z a0 hw [] b360 b361 B (o_b8 GF) z_cs s_d s_i s_u s_t T361.heap n0 (Nat.le_trans (Nat.le_trans (Nat.le_trans (Nat.le_trans (Nat.le_trans (Nat.le_trans (Nat.le_trans (Nat.le_trans (Nat.le_trans (Nat.le_trans (Nat.le_trans (Nat.le_trans (Nat.le_trans (Nat.le_trans (Nat.le_trans (Nat.le_trans (Nat.le_trans (Nat.le_trans (Nat.le_trans (Nat.le_trans (Nat.le_trans Z0 E328.1) K329.1) K330.1) K331.1) K332.1) K333.1) K334.1) E335.1) E336.1) E337.1) K339.1) K341.1) K343.1) K345.1) K347.1) (Keep.of_wr W355).1) (Keep.of_wr W357).1) (Keep.of_wr W358).1) (Keep.of_wr W359).1) E360.1) K361.1) (((((((((((((((((((((O0.ext E328).keep K329 (allS g_b328 all0)).keep K330 (allS g_b328 all0)).keep K331 (allS g_b328 all0)).keep K332 (allS g_b328 all0)).keep K333 (allS g_b328 all0)).keep K334 (allS g_b328 all0)).ext E335).ext E336).ext E337).keep K339 (allS g_b335 all0)).keep K341 (allS g_b335 all0)).keep K343 (allS g_b335 all0)).keep K345 (allS g_b335 all0)).keep K347 (allS g_b335 all0)).wr W355 g_b335).wr W357 g_b335).wr W358 g_b335).wr W359 g_b335).ext E360).keep K361 (allS g_b360 all0)) z_CS E_d F_u F_m T_t G361_0 G361_2 G361_1 G361_3 G361_4 (o_by8 _) hMD ne_iu ne_b360_b361 S_z_cs S_s_d S_s_i S_s_u S_s_t) rfl o_pd15 rfl (pc := 438) (Ls := #[o_J y0, o_s, o_J y1, o_s, o_J y2, o_s, o_J y3, o_s, o_J y4, o_s, o_I x5, o_I 0, o_I 16, .val (.long (y2 + y4)), o_s, o_A b328, o_A b335, o_A b336, o_A b337, o_A b335, o_A b360, o_u, o_u]) (rest := []) (W := 0) (by rw [hml]; rfl) (Nat.le_of_eq rfl) (by decide) (by decide) (hb hby at_438) (by decide) (by decide)
 have N362 := Fr.app N361 N362q
 have ne_b328_b362 : b328 ≠ b362 := Nat.ne_of_lt (Nat.lt_of_lt_of_le ((((((ff352.other W355 ne_b328_b335).other W357 ne_b328_b335).other W358 ne_b328_b335).other W359 ne_b328_b335).ext E360).keep K361 (fun z => ne_b328_b360 (List.mem_singleton.mp z))).lt lt_b362)
 have ne_b335_b362 : b335 ≠ b362 := Nat.ne_of_lt (Nat.lt_of_lt_of_le (V_GF.keep K361 (fun z => ne_b335_b360 (List.mem_singleton.mp z))).lt lt_b362)
 have ne_b336_b362 : b336 ≠ b362 := Nat.ne_of_lt (Nat.lt_of_lt_of_le ((((((((((((V336.ext E337).keep K339 (fun z => (Ne.symm ne_b335_b336) (List.mem_singleton.mp z))).keep K341 (fun z => (Ne.symm ne_b335_b336) (List.mem_singleton.mp z))).keep K343 (fun z => (Ne.symm ne_b335_b336) (List.mem_singleton.mp z))).keep K345 (fun z => (Ne.symm ne_b335_b336) (List.mem_singleton.mp z))).keep K347 (fun z => (Ne.symm ne_b335_b336) (List.mem_singleton.mp z))).other W355 (Ne.symm ne_b335_b336)).other W357 (Ne.symm ne_b335_b336)).other W358 (Ne.symm ne_b335_b336)).other W359 (Ne.symm ne_b335_b336)).ext E360).keep K361 (fun z => ne_b336_b360 (List.mem_singleton.mp z))).lt lt_b362)
 have ne_b337_b362 : b337 ≠ b362 := Nat.ne_of_lt (Nat.lt_of_lt_of_le (((((((((((V337.keep K339 (fun z => (Ne.symm ne_b335_b337) (List.mem_singleton.mp z))).keep K341 (fun z => (Ne.symm ne_b335_b337) (List.mem_singleton.mp z))).keep K343 (fun z => (Ne.symm ne_b335_b337) (List.mem_singleton.mp z))).keep K345 (fun z => (Ne.symm ne_b335_b337) (List.mem_singleton.mp z))).keep K347 (fun z => (Ne.symm ne_b335_b337) (List.mem_singleton.mp z))).other W355 (Ne.symm ne_b335_b337)).other W357 (Ne.symm ne_b335_b337)).other W358 (Ne.symm ne_b335_b337)).other W359 (Ne.symm ne_b335_b337)).ext E360).keep K361 (fun z => ne_b337_b360 (List.mem_singleton.mp z))).lt lt_b362)
 have ne_b360_b362 : b360 ≠ b362 := Nat.ne_of_lt (Nat.lt_of_lt_of_le G361_0.lt lt_b362)
 have ne_b361_b362 : b361 ≠ b362 := Nat.ne_of_lt (Nat.lt_of_lt_of_le G361_3.lt lt_b362)
 have g_b362 : n0 ≤ b362 := Nat.le_trans (Nat.le_trans (Nat.le_trans (Nat.le_trans (Nat.le_trans (Nat.le_trans (Nat.le_trans (Nat.le_trans (Nat.le_trans (Nat.le_trans (Nat.le_trans (Nat.le_trans (Nat.le_trans (Nat.le_trans (Nat.le_trans (Nat.le_trans (Nat.le_trans (Nat.le_trans (Nat.le_trans (Nat.le_trans (Nat.le_trans (Nat.le_trans Z0 E328.1) K329.1) K330.1) K331.1) K332.1) K333.1) K334.1) E335.1) E336.1) E337.1) K339.1) K341.1) K343.1) K345.1) K347.1) (Keep.of_wr W355).1) (Keep.of_wr W357).1) (Keep.of_wr W358).1) (Keep.of_wr W359).1) E360.1) K361.1) lt_b362
 refine o_go st362 ?_
 refine o_gi (XS.astore X362.here hx rfl (hb hby at_441) rfl rfl (l' := #[o_J y0, o_s, o_J y1, o_s, o_J y2, o_s, o_J y3, o_s, o_J y4, o_s, o_I x5, o_I 0, o_I 16, .val (.long (y2 + y4)), o_s, o_A b328, o_A b335, o_A b336, o_A b337, o_A b335, o_A b360, o_A b362, o_u]) rfl) ?_
 refine o_gi (XS.aload X362.here hx rfl (hb hby at_443) rfl rfl) ?_
 show o_Gs p e below _ T362 m 445 #[o_J y0, o_s, o_J y1, o_s, o_J y2, o_s, o_J y3, o_s, o_J y4, o_s, o_I x5, o_I 0, o_I 16, .val (.long (y2 + y4)), o_s, o_A b328, o_A b335, o_A b336, o_A b337, o_A b335, o_A b360, o_A b362, o_u] [(.ref b362)]
 refine o_gi (XS.ifnullNo X362.here hx rfl (hb hby at_445) rfl) ?_
 refine o_gi (XS.aload X362.here hx rfl (hb hby at_448) rfl rfl) ?_
 show o_Gs p e below _ T362 m 450 #[o_J y0, o_s, o_J y1, o_s, o_J y2, o_s, o_J y3, o_s, o_J y4, o_s, o_I x5, o_I 0, o_I 16, .val (.long (y2 + y4)), o_s, o_A b328, o_A b335, o_A b336, o_A b337, o_A b335, o_A b360, o_A b362, o_u] [(.ref b362)]
 obtain ⟨cl363, Ar363, sa363, na363, ha363⟩ := id G362_0
 refine o_go (X362.arraylength hx Ar363.1 (State.isArrayOf_alike hZ.alike Ar363.2.1) (g := (mkF m 450 #[o_J y0, o_s, o_J y1, o_s, o_J y2, o_s, o_J y3, o_s, o_J y4, o_s, o_I x5, o_I 0, o_I 16, .val (.long (y2 + y4)), o_s, o_A b328, o_A b335, o_A b336, o_A b337, o_A b335, o_A b360, o_A b362, o_u] [(.ref b362)])) rfl rfl (hb hby at_450)) ?_
 rw [len_of sa363 na363]
 refine o_gi (XS.iload X362.here hx rfl (hb hby at_451) rfl) ?_
 show o_Gs p e below _ T362 m 453 #[o_J y0, o_s, o_J y1, o_s, o_J y2, o_s, o_J y3, o_s, o_J y4, o_s, o_I x5, o_I 0, o_I 16, .val (.long (y2 + y4)), o_s, o_A b328, o_A b335, o_A b336, o_A b337, o_A b335, o_A b360, o_A b362, o_u] [(.int 16), (.int 16)]
 have hd364 : (16 : Int32) = (16 : Int32) := (by decide)
 refine o_gi (XS.icmpYes X362.here hx rfl (pc0 := 453) (pc' := 458) rfl (hb hby at_453) rfl (teq hd364).1 (by decide) (by decide)) ?_
 refine o_gi (XS.aload X362.here hx rfl (hb hby at_458) rfl rfl) ?_
 refine o_gi (XS.iconst X362.here hx rfl (hb hby at_460)) ?_
 show o_Gs p e below _ T362 m 461 #[o_J y0, o_s, o_J y1, o_s, o_J y2, o_s, o_J y3, o_s, o_J y4, o_s, o_I x5, o_I 0, o_I 16, .val (.long (y2 + y4)), o_s, o_A b328, o_A b335, o_A b336, o_A b337, o_A b335, o_A b360, o_A b362, o_u] [(.int 0), (.ref b362)]
 obtain ⟨_, T365, L365, X365, ⟨rfl, N365q, e365⟩, st365⟩ := o_callS X362 hx hZ hown (hw _ o_t116) (hw _ o_t117) (hw _ o_t4) (hw _ o_t118) (by decide) (as := [(.ref b362), (.int 0)]) (rm22 l Z a0 hw [] b362 (0 : Int32) (16 : Int32) B T362.heap n0 G362_0 (by decide)) rfl o_pd19 rfl (pc := 461) (Ls := #[o_J y0, o_s, o_J y1, o_s, o_J y2, o_s, o_J y3, o_s, o_J y4, o_s, o_I x5, o_I 0, o_I 16, .val (.long (y2 + y4)), o_s, o_A b328, o_A b335, o_A b336, o_A b337, o_A b335, o_A b360, o_A b362, o_u]) (rest := []) (W := 0) (by rw [hml]; rfl) (Nat.le_of_eq rfl) (by decide) (by decide) (hb hby at_461) (by decide) (by decide)
 have N365 := Fr.app N362 N365q
 refine o_go st365 ?_
 refine o_gi (XS.lloadN X365.here hx rfl (hb hby at_464) rfl) ?_
 show o_Gs p e below _ T365 m 465 #[o_J y0, o_s, o_J y1, o_s, o_J y2, o_s, o_J y3, o_s, o_J y4, o_s, o_I x5, o_I 0, o_I 16, .val (.long (y2 + y4)), o_s, o_A b328, o_A b335, o_A b336, o_A b337, o_A b335, o_A b360, o_A b362, o_u] [(.long y0), (.long (o_f22 (0 : Int32) B))]
 refine o_gi (XS.lcmp X365.here hx rfl (hb hby at_465) rfl) ?_
 show o_Gs p e below _ T365 m 466 #[o_J y0, o_s, o_J y1, o_s, o_J y2, o_s, o_J y3, o_s, o_J y4, o_s, o_I x5, o_I 0, o_I 16, .val (.long (y2 + y4)), o_s, o_A b328, o_A b335, o_A b336, o_A b337, o_A b335, o_A b360, o_A b362, o_u] [(.int (lcmpW (o_f22 (0 : Int32) B) y0))]
 have hd366 : (o_f22 (0 : Int32) B) = y0 := (by rw [q_B]; exact ((o_gq (by decide) (by decide)).trans ((o_gq (by decide) (by decide)).trans ((o_gq (by decide) (by decide)).trans ((o_gq (by decide) (by decide)).trans ((o_gq (by decide) (by decide)).trans (o_gp (by decide))))))))
 refine o_gi (XS.ifNo X365.here hx rfl (hb hby at_466) rfl ((if0 _ _).trans (teq ((lw_eq _ _).mpr hd366)).2)) ?_
 refine o_gi (XS.aload X365.here hx rfl (hb hby at_469) rfl rfl) ?_
 refine o_gi (XS.bipush X365.here hx rfl (hb hby at_471)) ?_
 show o_Gs p e below _ T365 m 473 #[o_J y0, o_s, o_J y1, o_s, o_J y2, o_s, o_J y3, o_s, o_J y4, o_s, o_I x5, o_I 0, o_I 16, .val (.long (y2 + y4)), o_s, o_A b328, o_A b335, o_A b336, o_A b337, o_A b335, o_A b360, o_A b362, o_u] [(.int 8), (.ref b362)]
 obtain ⟨_, T367, L367, X367, ⟨rfl, N367q, e367⟩, st367⟩ := o_callS X365 hx hZ hown (hw _ o_t116) (hw _ o_t117) (hw _ o_t4) (hw _ o_t118) (by decide) (as := [(.ref b362), (.int 8)]) (rm22 l Z a0 hw [] b362 (8 : Int32) (16 : Int32) B T362.heap n0 G362_0 (by decide)) e365 o_pd19 rfl (pc := 473) (Ls := #[o_J y0, o_s, o_J y1, o_s, o_J y2, o_s, o_J y3, o_s, o_J y4, o_s, o_I x5, o_I 0, o_I 16, .val (.long (y2 + y4)), o_s, o_A b328, o_A b335, o_A b336, o_A b337, o_A b335, o_A b360, o_A b362, o_u]) (rest := []) (W := 0) (by rw [hml]; rfl) (Nat.le_of_eq rfl) (by decide) (by decide) (hb hby at_473) (by decide) (by decide)
 have N367 := Fr.app N365 N367q
 refine o_go st367 ?_
 refine o_gi (XS.lloadN X367.here hx rfl (hb hby at_476) rfl) ?_
 show o_Gs p e below _ T367 m 477 #[o_J y0, o_s, o_J y1, o_s, o_J y2, o_s, o_J y3, o_s, o_J y4, o_s, o_I x5, o_I 0, o_I 16, .val (.long (y2 + y4)), o_s, o_A b328, o_A b335, o_A b336, o_A b337, o_A b335, o_A b360, o_A b362, o_u] [(.long y1), (.long (o_f22 (8 : Int32) B))]
 refine o_gi (XS.lcmp X367.here hx rfl (hb hby at_477) rfl) ?_
 show o_Gs p e below _ T367 m 478 #[o_J y0, o_s, o_J y1, o_s, o_J y2, o_s, o_J y3, o_s, o_J y4, o_s, o_I x5, o_I 0, o_I 16, .val (.long (y2 + y4)), o_s, o_A b328, o_A b335, o_A b336, o_A b337, o_A b335, o_A b360, o_A b362, o_u] [(.int (lcmpW (o_f22 (8 : Int32) B) y1))]
 have hd368 : (o_f22 (8 : Int32) B) = y1 := (by rw [q_B]; exact ((o_gq (by decide) (by decide)).trans ((o_gq (by decide) (by decide)).trans ((o_gq (by decide) (by decide)).trans ((o_gq (by decide) (by decide)).trans (o_gp (by decide)))))))
 refine o_gi (XS.ifNo X367.here hx rfl (hb hby at_478) rfl ((if0 _ _).trans (teq ((lw_eq _ _).mpr hd368)).2)) ?_
 refine o_gi (XS.iconst X367.here hx rfl (hb hby at_481)) ?_
 refine o_gi (XS.goto X367.here hx rfl (pc0 := 482) (pc' := 486) rfl (hb hby at_482) (by decide) (by decide)) ?_
 refine o_gi (XS.istore X367.here hx rfl (hb hby at_486) rfl (l' := #[o_J y0, o_s, o_J y1, o_s, o_J y2, o_s, o_J y3, o_s, o_J y4, o_s, o_I x5, o_I 0, o_I 16, .val (.long (y2 + y4)), o_s, o_A b328, o_A b335, o_A b336, o_A b337, o_A b335, o_A b360, o_A b362, o_I 1]) rfl) ?_
 refine o_gi (XS.iload X367.here hx rfl (hb hby at_488) rfl) ?_
 refine o_gi (XS.iconst X367.here hx rfl (hb hby at_490)) ?_
 show o_Gs p e below _ T367 m 491 #[o_J y0, o_s, o_J y1, o_s, o_J y2, o_s, o_J y3, o_s, o_J y4, o_s, o_I x5, o_I 0, o_I 16, .val (.long (y2 + y4)), o_s, o_A b328, o_A b335, o_A b336, o_A b337, o_A b335, o_A b360, o_A b362, o_I 1] [(.int 1), (.int 0)]
 have hd369 : (0 : Int32) < (1 : Int32) := (by decide)
 refine o_gi (XS.icmpYes X367.here hx rfl (pc0 := 491) (pc' := 532) rfl (hb hby at_491) rfl (tlt hd369).1 (by decide) (by decide)) ?_
 refine o_gi (XS.iload X367.here hx rfl (hb hby at_532) rfl) ?_
 refine o_gi (XS.iconst X367.here hx rfl (hb hby at_534)) ?_
 show o_Gs p e below _ T367 m 535 #[o_J y0, o_s, o_J y1, o_s, o_J y2, o_s, o_J y3, o_s, o_J y4, o_s, o_I x5, o_I 0, o_I 16, .val (.long (y2 + y4)), o_s, o_A b328, o_A b335, o_A b336, o_A b337, o_A b335, o_A b360, o_A b362, o_I 1] [(.int 2), (.int 0)]
 have hd370 : ¬ ((0 : Int32) = (2 : Int32)) := (by decide)
 refine o_gi (XS.icmpYes X367.here hx rfl (pc0 := 535) (pc' := 576) rfl (hb hby at_535) rfl (feq hd370).2 (by decide) (by decide)) ?_
 refine o_gi (XS.iload X367.here hx rfl (hb hby at_576) rfl) ?_
 show o_Gs p e below _ T367 m 578 #[o_J y0, o_s, o_J y1, o_s, o_J y2, o_s, o_J y3, o_s, o_J y4, o_s, o_I x5, o_I 0, o_I 16, .val (.long (y2 + y4)), o_s, o_A b328, o_A b335, o_A b336, o_A b337, o_A b335, o_A b360, o_A b362, o_I 1] [(.int 1)]
 exact o_retN X367 hx hlk hret (by simp) (z' := (1 : Int32)) rfl (hb hby at_578) (by decide) (by decide) ⟨by rw [o_f0_0], N367, trivial⟩
def o_f0_1  : Int32 := (1 : Int32)
def o_Q0_1 (y0 : Int64) (y1 : Int64) (y2 : Int64) (y3 : Int64) (y4 : Int64) (x5 : Int32) (z_cs : Int32) (s_d : Addr) (s_i : Addr) (s_u : Addr) (s_t : Addr) (h0 : Heap) (n0 : Nat) (v : Option Value) (h : Heap) (L : List Loc) : Prop := v = some (.int o_f0_1) ∧ Fr n0 L ∧ True
theorem o_ef0_1 (m : MethodId) (z0 : Int64) (z1 : Int64) (z2 : Int64) (z3 : Int64) (z4 : Int64) (z5 : Int32) : entryFrame m #[(.long z0), (.long z1), (.long z2), (.long z3), (.long z4), (.int z5)] maxLocals = mkF m 0 #[o_J z0, o_s, o_J z1, o_s, o_J z2, o_s, o_J z3, o_s, o_J z4, o_s, o_I z5, o_u, o_u, o_u, o_u, o_u, o_u, o_u, o_u, o_u, o_u, o_u, o_u] [] := by first | (simp [entryFrame, mkF, argsToLocals, Value.category, maxLocals]; done) | rfl
set_option maxRecDepth 65536 in
set_option maxHeartbeats 40000000 in
theorem rm0_1 (l : Launch) (Z : State) (a0 : Array Value) (hw : ∀ d ∈ tables_1, d.before a0 Z = true) (ws : List Jvm.Cond) (y0 : Int64) (y1 : Int64) (y2 : Int64) (y3 : Int64) (y4 : Int64) (x5 : Int32) (z_cs : Int32) (s_d : Addr) (s_i : Addr) (s_u : Addr) (s_t : Addr) (h0 : Heap) (n0 : Nat) (Z0 : n0 ≤ h0.size) (O0 : Old Z n0 h0) (z_CS : ¬ z_cs = 0) (E_d : Exa Z Z.heap s_d "java/util/Base64$Decoder") (F_u : Fld Z Z.heap s_d "java/util/Base64$Decoder" "isURL" "Z" (.int 0)) (F_m : Fld Z Z.heap s_d "java/util/Base64$Decoder" "isMIME" "Z" (.int 0)) (T_t : o_Tb Z Z.heap s_t .int 256 o_b64) (ne_iu : s_i ≠ s_u) (hmd : ((x5 &&& (2147483647 : Int32)) % (3 : Int32)) = (1 : Int32)) (S_z_cs : Sta Z Z.heap "java/lang/String" "COMPACT_STRINGS" "Z" (.int z_cs)) (S_s_d : Sta Z Z.heap "java/util/Base64$Decoder" "RFC4648" "Ljava/util/Base64$Decoder;" (.ref s_d)) (S_s_i : Sta Z Z.heap "sun/nio/cs/ISO_8859_1" "INSTANCE" "Lsun/nio/cs/ISO_8859_1;" (.ref s_i)) (S_s_u : Sta Z Z.heap "sun/nio/cs/UTF_8" "INSTANCE" "Lsun/nio/cs/UTF_8;" (.ref s_u)) (S_s_t : Sta Z Z.heap "java/util/Base64$Decoder" "fromBase64" "[I" (.ref s_t)) : o_Met l Z x code maxLocals ret ws room_1 #[(.long y0), (.long y1), (.long y2), (.long y3), (.long y4), (.int x5)] h0 (o_Q0_1 y0 y1 y2 y3 y4 x5 z_cs s_d s_i s_u s_t h0 n0) := by
 refine o_met (plainFor_of_name o_pn0) ?_
 intro p e s m below meth c s₁ hx hby hml hown hnm hret hlk hZ e0 X0
 have N0 := Fr.nil n0
 have hml : c.maxLocals = 23 := hml
 have hown : s.vm.findClass "com/example/quittance/quittance/dialect/AesCbcBlocksPinLaw" = some m.cls := hown
 have hret : meth.sig.returnType = (some .boolean) := hret
 have hby : c.code = code := hby
 have hnm : meth.name = "law" := hnm
 rw [o_ef0_1]
 refine o_gi (XS.iload X0.here hx rfl (hb hby at_0) rfl) ?_
 show o_Gs p e below _ s₁ m 2 #[o_J y0, o_s, o_J y1, o_s, o_J y2, o_s, o_J y3, o_s, o_J y4, o_s, o_I x5, o_u, o_u, o_u, o_u, o_u, o_u, o_u, o_u, o_u, o_u, o_u, o_u] [(.int x5)]
 refine o_go (X0.ldcInt hx hown (mvT hZ (hw _ o_t0)) (g := (mkF m 2 #[o_J y0, o_s, o_J y1, o_s, o_J y2, o_s, o_J y3, o_s, o_J y4, o_s, o_I x5, o_u, o_u, o_u, o_u, o_u, o_u, o_u, o_u, o_u, o_u, o_u, o_u] [(.int x5)])) rfl (hb hby at_2)) ?_
 show o_Gs p e below _ s₁ m 4 #[o_J y0, o_s, o_J y1, o_s, o_J y2, o_s, o_J y3, o_s, o_J y4, o_s, o_I x5, o_u, o_u, o_u, o_u, o_u, o_u, o_u, o_u, o_u, o_u, o_u, o_u] [(.int 2147483647), (.int x5)]
 refine o_gi (XS.iand X0.here hx rfl (hb hby at_4) rfl) ?_
 refine o_gi (XS.iconst X0.here hx rfl (hb hby at_5)) ?_
 show o_Gs p e below _ s₁ m 6 #[o_J y0, o_s, o_J y1, o_s, o_J y2, o_s, o_J y3, o_s, o_J y4, o_s, o_I x5, o_u, o_u, o_u, o_u, o_u, o_u, o_u, o_u, o_u, o_u, o_u, o_u] [(.int 3), (.int (x5 &&& (2147483647 : Int32)))]
 refine o_gi (iremM X0 hx rfl (hb hby at_6) rfl (by decide)) ?_
 show o_Gs p e below _ s₁ m 7 #[o_J y0, o_s, o_J y1, o_s, o_J y2, o_s, o_J y3, o_s, o_J y4, o_s, o_I x5, o_u, o_u, o_u, o_u, o_u, o_u, o_u, o_u, o_u, o_u, o_u, o_u] [(.int ((x5 &&& (2147483647 : Int32)) % (3 : Int32)))]
 rw [show ((x5 &&& (2147483647 : Int32)) % (3 : Int32)) = (1 : Int32) from hmd]
 refine o_gi (XS.istore X0.here hx rfl (hb hby at_7) rfl (l' := #[o_J y0, o_s, o_J y1, o_s, o_J y2, o_s, o_J y3, o_s, o_J y4, o_s, o_I x5, o_I 1, o_u, o_u, o_u, o_u, o_u, o_u, o_u, o_u, o_u, o_u, o_u]) rfl) ?_
 refine o_gi (XS.bipush X0.here hx rfl (hb hby at_9)) ?_
 refine o_gi (XS.iload X0.here hx rfl (hb hby at_11) rfl) ?_
 refine o_gi (XS.iconst X0.here hx rfl (hb hby at_13)) ?_
 show o_Gs p e below _ s₁ m 14 #[o_J y0, o_s, o_J y1, o_s, o_J y2, o_s, o_J y3, o_s, o_J y4, o_s, o_I x5, o_I 1, o_u, o_u, o_u, o_u, o_u, o_u, o_u, o_u, o_u, o_u, o_u] [(.int 1), (.int 1), (.int 16)]
 refine o_gi (XS.iadd X0.here hx rfl (hb hby at_14) rfl) ?_
 show o_Gs p e below _ s₁ m 15 #[o_J y0, o_s, o_J y1, o_s, o_J y2, o_s, o_J y3, o_s, o_J y4, o_s, o_I x5, o_I 1, o_u, o_u, o_u, o_u, o_u, o_u, o_u, o_u, o_u, o_u, o_u] [(.int ((1 : Int32) + (1 : Int32))), (.int 16)]
 rw [show ((1 : Int32) + (1 : Int32)) = (2 : Int32) from by decide]
 show o_Gs p e below _ s₁ m 15 #[o_J y0, o_s, o_J y1, o_s, o_J y2, o_s, o_J y3, o_s, o_J y4, o_s, o_I x5, o_I 1, o_u, o_u, o_u, o_u, o_u, o_u, o_u, o_u, o_u, o_u, o_u] [(.int 2), (.int 16)]
 refine o_gi (XS.imul X0.here hx rfl (hb hby at_15) rfl) ?_
 show o_Gs p e below _ s₁ m 16 #[o_J y0, o_s, o_J y1, o_s, o_J y2, o_s, o_J y3, o_s, o_J y4, o_s, o_I x5, o_I 1, o_u, o_u, o_u, o_u, o_u, o_u, o_u, o_u, o_u, o_u, o_u] [(.int ((16 : Int32) * (2 : Int32)))]
 rw [show ((16 : Int32) * (2 : Int32)) = (32 : Int32) from by decide]
 refine o_gi (XS.istore X0.here hx rfl (hb hby at_16) rfl (l' := #[o_J y0, o_s, o_J y1, o_s, o_J y2, o_s, o_J y3, o_s, o_J y4, o_s, o_I x5, o_I 1, o_I 32, o_u, o_u, o_u, o_u, o_u, o_u, o_u, o_u, o_u, o_u]) rfl) ?_
 refine o_gi (XS.lload X0.here hx rfl (hb hby at_18) rfl) ?_
 refine o_gi (XS.lload X0.here hx rfl (hb hby at_20) rfl) ?_
 show o_Gs p e below _ s₁ m 22 #[o_J y0, o_s, o_J y1, o_s, o_J y2, o_s, o_J y3, o_s, o_J y4, o_s, o_I x5, o_I 1, o_I 32, o_u, o_u, o_u, o_u, o_u, o_u, o_u, o_u, o_u, o_u] [(.long y4), (.long y2)]
 refine o_gi (XS.ladd X0.here hx rfl (hb hby at_22) rfl) ?_
 refine o_gi (XS.lstore X0.here hx rfl (hb hby at_23) rfl (l' := #[o_J y0, o_s, o_J y1, o_s, o_J y2, o_s, o_J y3, o_s, o_J y4, o_s, o_I x5, o_I 1, o_I 32, .val (.long (y2 + y4)), o_s, o_u, o_u, o_u, o_u, o_u, o_u, o_u, o_u]) rfl) ?_
 refine o_gi (XS.bipush X0.here hx rfl (hb hby at_25)) ?_
 show o_Gs p e below _ s₁ m 27 #[o_J y0, o_s, o_J y1, o_s, o_J y2, o_s, o_J y3, o_s, o_J y4, o_s, o_I x5, o_I 1, o_I 32, .val (.long (y2 + y4)), o_s, o_u, o_u, o_u, o_u, o_u, o_u, o_u, o_u] [(.int 48)]
 obtain ⟨T371, h371, k371, X371, e371, E371, A371, st371⟩ := newP X0 hx hZ (aty := .byte) (hw _ o_t1) e0 (g := (mkF m 27 #[o_J y0, o_s, o_J y1, o_s, o_J y2, o_s, o_J y3, o_s, o_J y4, o_s, o_I x5, o_I 1, o_I 32, .val (.long (y2 + y4)), o_s, o_u, o_u, o_u, o_u, o_u, o_u, o_u, o_u] [(.int 48)])) rfl (hb hby at_27) rfl (by decide) (cap := 48) (by decide) (by decide) (by decide) (by decide)
 obtain ⟨b371, q371⟩ : ∃ z, z = h0.size := ⟨_, rfl⟩
 rw [← q371] at A371 st371
 have lt_b371 : h0.size ≤ b371 := Nat.le_of_eq q371.symm
 have g_b371 : n0 ≤ b371 := Nat.le_trans Z0 lt_b371
 have V371 : o_Tb Z h371 b371 .byte (48 : Int32) (fun _ => 0) := o_Tb.new A371 (by decide) rfl
 refine o_go st371 ?_
 refine o_gi (XS.astore X371.here hx rfl (hb hby at_29) rfl rfl (l' := #[o_J y0, o_s, o_J y1, o_s, o_J y2, o_s, o_J y3, o_s, o_J y4, o_s, o_I x5, o_I 1, o_I 32, .val (.long (y2 + y4)), o_s, o_A b371, o_u, o_u, o_u, o_u, o_u, o_u, o_u]) rfl) ?_
 refine o_gi (XS.aload X371.here hx rfl (hb hby at_31) rfl rfl) ?_
 refine o_gi (XS.iconst X371.here hx rfl (hb hby at_33)) ?_
 refine o_gi (XS.lloadN X371.here hx rfl (hb hby at_34) rfl) ?_
 show o_Gs p e below _ T371 m 35 #[o_J y0, o_s, o_J y1, o_s, o_J y2, o_s, o_J y3, o_s, o_J y4, o_s, o_I x5, o_I 1, o_I 32, .val (.long (y2 + y4)), o_s, o_A b371, o_u, o_u, o_u, o_u, o_u, o_u, o_u] [(.long y0), (.int 0), (.ref b371)]
 obtain ⟨_, T372, L372, X372, ⟨rfl, N372q, K372, G372_0⟩, st372⟩ := o_callS X371 hx hZ hown (hw _ o_t2) (hw _ o_t3) (hw _ o_t4) (hw _ o_t5) (by decide) (as := [(.ref b371), (.int 0), (.long y0)]) (rm1 l Z a0 hw [] b371 (0 : Int32) y0 (48 : Int32) (fun _ => 0) h371 n0 (Nat.le_trans Z0 E371.1) g_b371 V371 (by decide)) e371 o_pd16 rfl (pc := 35) (Ls := #[o_J y0, o_s, o_J y1, o_s, o_J y2, o_s, o_J y3, o_s, o_J y4, o_s, o_I x5, o_I 1, o_I 32, .val (.long (y2 + y4)), o_s, o_A b371, o_u, o_u, o_u, o_u, o_u, o_u, o_u]) (rest := []) (W := 0) (by rw [hml]; rfl) (Nat.le_of_eq rfl) (by decide) (by decide) (hb hby at_35) (by decide) (by decide)
 have N372 := Fr.app N0 N372q
 refine o_go st372 ?_
 refine o_gi (XS.aload X372.here hx rfl (hb hby at_38) rfl rfl) ?_
 refine o_gi (XS.bipush X372.here hx rfl (hb hby at_40)) ?_
 refine o_gi (XS.lloadN X372.here hx rfl (hb hby at_42) rfl) ?_
 show o_Gs p e below _ T372 m 43 #[o_J y0, o_s, o_J y1, o_s, o_J y2, o_s, o_J y3, o_s, o_J y4, o_s, o_I x5, o_I 1, o_I 32, .val (.long (y2 + y4)), o_s, o_A b371, o_u, o_u, o_u, o_u, o_u, o_u, o_u] [(.long y1), (.int 8), (.ref b371)]
 obtain ⟨_, T373, L373, X373, ⟨rfl, N373q, K373, G373_0⟩, st373⟩ := o_callS X372 hx hZ hown (hw _ o_t2) (hw _ o_t3) (hw _ o_t4) (hw _ o_t5) (by decide) (as := [(.ref b371), (.int 8), (.long y1)]) (rm1 l Z a0 hw [] b371 (8 : Int32) y1 (48 : Int32) (o_G1_8 (0 : Int32) y0 (fun _ => 0)) T372.heap n0 (Nat.le_trans (Nat.le_trans Z0 E371.1) K372.1) g_b371 G372_0 (by decide)) rfl o_pd16 rfl (pc := 43) (Ls := #[o_J y0, o_s, o_J y1, o_s, o_J y2, o_s, o_J y3, o_s, o_J y4, o_s, o_I x5, o_I 1, o_I 32, .val (.long (y2 + y4)), o_s, o_A b371, o_u, o_u, o_u, o_u, o_u, o_u, o_u]) (rest := []) (W := 0) (by rw [hml]; rfl) (Nat.le_of_eq rfl) (by decide) (by decide) (hb hby at_43) (by decide) (by decide)
 have N373 := Fr.app N372 N373q
 refine o_go st373 ?_
 refine o_gi (XS.aload X373.here hx rfl (hb hby at_46) rfl rfl) ?_
 refine o_gi (XS.bipush X373.here hx rfl (hb hby at_48)) ?_
 refine o_gi (XS.lload X373.here hx rfl (hb hby at_50) rfl) ?_
 show o_Gs p e below _ T373 m 52 #[o_J y0, o_s, o_J y1, o_s, o_J y2, o_s, o_J y3, o_s, o_J y4, o_s, o_I x5, o_I 1, o_I 32, .val (.long (y2 + y4)), o_s, o_A b371, o_u, o_u, o_u, o_u, o_u, o_u, o_u] [(.long y2), (.int 16), (.ref b371)]
 obtain ⟨_, T374, L374, X374, ⟨rfl, N374q, K374, G374_0⟩, st374⟩ := o_callS X373 hx hZ hown (hw _ o_t2) (hw _ o_t3) (hw _ o_t4) (hw _ o_t5) (by decide) (as := [(.ref b371), (.int 16), (.long y2)]) (rm1 l Z a0 hw [] b371 (16 : Int32) y2 (48 : Int32) (o_G1_8 (8 : Int32) y1 (o_G1_8 (0 : Int32) y0 (fun _ => 0))) T373.heap n0 (Nat.le_trans (Nat.le_trans (Nat.le_trans Z0 E371.1) K372.1) K373.1) g_b371 G373_0 (by decide)) rfl o_pd16 rfl (pc := 52) (Ls := #[o_J y0, o_s, o_J y1, o_s, o_J y2, o_s, o_J y3, o_s, o_J y4, o_s, o_I x5, o_I 1, o_I 32, .val (.long (y2 + y4)), o_s, o_A b371, o_u, o_u, o_u, o_u, o_u, o_u, o_u]) (rest := []) (W := 0) (by rw [hml]; rfl) (Nat.le_of_eq rfl) (by decide) (by decide) (hb hby at_52) (by decide) (by decide)
 have N374 := Fr.app N373 N374q
 refine o_go st374 ?_
 refine o_gi (XS.aload X374.here hx rfl (hb hby at_55) rfl rfl) ?_
 refine o_gi (XS.bipush X374.here hx rfl (hb hby at_57)) ?_
 refine o_gi (XS.lload X374.here hx rfl (hb hby at_59) rfl) ?_
 show o_Gs p e below _ T374 m 61 #[o_J y0, o_s, o_J y1, o_s, o_J y2, o_s, o_J y3, o_s, o_J y4, o_s, o_I x5, o_I 1, o_I 32, .val (.long (y2 + y4)), o_s, o_A b371, o_u, o_u, o_u, o_u, o_u, o_u, o_u] [(.long y3), (.int 24), (.ref b371)]
 obtain ⟨_, T375, L375, X375, ⟨rfl, N375q, K375, G375_0⟩, st375⟩ := o_callS X374 hx hZ hown (hw _ o_t2) (hw _ o_t3) (hw _ o_t4) (hw _ o_t5) (by decide) (as := [(.ref b371), (.int 24), (.long y3)]) (rm1 l Z a0 hw [] b371 (24 : Int32) y3 (48 : Int32) (o_G1_8 (16 : Int32) y2 (o_G1_8 (8 : Int32) y1 (o_G1_8 (0 : Int32) y0 (fun _ => 0)))) T374.heap n0 (Nat.le_trans (Nat.le_trans (Nat.le_trans (Nat.le_trans Z0 E371.1) K372.1) K373.1) K374.1) g_b371 G374_0 (by decide)) rfl o_pd16 rfl (pc := 61) (Ls := #[o_J y0, o_s, o_J y1, o_s, o_J y2, o_s, o_J y3, o_s, o_J y4, o_s, o_I x5, o_I 1, o_I 32, .val (.long (y2 + y4)), o_s, o_A b371, o_u, o_u, o_u, o_u, o_u, o_u, o_u]) (rest := []) (W := 0) (by rw [hml]; rfl) (Nat.le_of_eq rfl) (by decide) (by decide) (hb hby at_61) (by decide) (by decide)
 have N375 := Fr.app N374 N375q
 refine o_go st375 ?_
 refine o_gi (XS.aload X375.here hx rfl (hb hby at_64) rfl rfl) ?_
 refine o_gi (XS.bipush X375.here hx rfl (hb hby at_66)) ?_
 refine o_gi (XS.lload X375.here hx rfl (hb hby at_68) rfl) ?_
 show o_Gs p e below _ T375 m 70 #[o_J y0, o_s, o_J y1, o_s, o_J y2, o_s, o_J y3, o_s, o_J y4, o_s, o_I x5, o_I 1, o_I 32, .val (.long (y2 + y4)), o_s, o_A b371, o_u, o_u, o_u, o_u, o_u, o_u, o_u] [(.long y4), (.int 32), (.ref b371)]
 obtain ⟨_, T376, L376, X376, ⟨rfl, N376q, K376, G376_0⟩, st376⟩ := o_callS X375 hx hZ hown (hw _ o_t2) (hw _ o_t3) (hw _ o_t4) (hw _ o_t5) (by decide) (as := [(.ref b371), (.int 32), (.long y4)]) (rm1 l Z a0 hw [] b371 (32 : Int32) y4 (48 : Int32) (o_G1_8 (24 : Int32) y3 (o_G1_8 (16 : Int32) y2 (o_G1_8 (8 : Int32) y1 (o_G1_8 (0 : Int32) y0 (fun _ => 0))))) T375.heap n0 (Nat.le_trans (Nat.le_trans (Nat.le_trans (Nat.le_trans (Nat.le_trans Z0 E371.1) K372.1) K373.1) K374.1) K375.1) g_b371 G375_0 (by decide)) rfl o_pd16 rfl (pc := 70) (Ls := #[o_J y0, o_s, o_J y1, o_s, o_J y2, o_s, o_J y3, o_s, o_J y4, o_s, o_I x5, o_I 1, o_I 32, .val (.long (y2 + y4)), o_s, o_A b371, o_u, o_u, o_u, o_u, o_u, o_u, o_u]) (rest := []) (W := 0) (by rw [hml]; rfl) (Nat.le_of_eq rfl) (by decide) (by decide) (hb hby at_70) (by decide) (by decide)
 have N376 := Fr.app N375 N376q
 refine o_go st376 ?_
 refine o_gi (XS.aload X376.here hx rfl (hb hby at_73) rfl rfl) ?_
 refine o_gi (XS.bipush X376.here hx rfl (hb hby at_75)) ?_
 refine o_gi (XS.lload X376.here hx rfl (hb hby at_77) rfl) ?_
 show o_Gs p e below _ T376 m 79 #[o_J y0, o_s, o_J y1, o_s, o_J y2, o_s, o_J y3, o_s, o_J y4, o_s, o_I x5, o_I 1, o_I 32, .val (.long (y2 + y4)), o_s, o_A b371, o_u, o_u, o_u, o_u, o_u, o_u, o_u] [(.long (y2 + y4)), (.int 40), (.ref b371)]
 obtain ⟨_, T377, L377, X377, ⟨rfl, N377q, K377, G377_0⟩, st377⟩ := o_callS X376 hx hZ hown (hw _ o_t2) (hw _ o_t3) (hw _ o_t4) (hw _ o_t5) (by decide) (as := [(.ref b371), (.int 40), (.long (y2 + y4))]) (rm1 l Z a0 hw [] b371 (40 : Int32) (y2 + y4) (48 : Int32) (o_G1_8 (32 : Int32) y4 (o_G1_8 (24 : Int32) y3 (o_G1_8 (16 : Int32) y2 (o_G1_8 (8 : Int32) y1 (o_G1_8 (0 : Int32) y0 (fun _ => 0)))))) T376.heap n0 (Nat.le_trans (Nat.le_trans (Nat.le_trans (Nat.le_trans (Nat.le_trans (Nat.le_trans Z0 E371.1) K372.1) K373.1) K374.1) K375.1) K376.1) g_b371 G376_0 (by decide)) rfl o_pd16 rfl (pc := 79) (Ls := #[o_J y0, o_s, o_J y1, o_s, o_J y2, o_s, o_J y3, o_s, o_J y4, o_s, o_I x5, o_I 1, o_I 32, .val (.long (y2 + y4)), o_s, o_A b371, o_u, o_u, o_u, o_u, o_u, o_u, o_u]) (rest := []) (W := 0) (by rw [hml]; rfl) (Nat.le_of_eq rfl) (by decide) (by decide) (hb hby at_79) (by decide) (by decide)
 have N377 := Fr.app N376 N377q
 refine o_go st377 ?_
 refine o_gi (XS.bipush X377.here hx rfl (hb hby at_82)) ?_
 show o_Gs p e below _ T377 m 84 #[o_J y0, o_s, o_J y1, o_s, o_J y2, o_s, o_J y3, o_s, o_J y4, o_s, o_I x5, o_I 1, o_I 32, .val (.long (y2 + y4)), o_s, o_A b371, o_u, o_u, o_u, o_u, o_u, o_u, o_u] [(.int 24)]
 obtain ⟨T378, h378, k378, X378, e378, E378, A378, st378⟩ := newP X377 hx hZ (aty := .char) (hw _ o_t6) rfl (g := (mkF m 84 #[o_J y0, o_s, o_J y1, o_s, o_J y2, o_s, o_J y3, o_s, o_J y4, o_s, o_I x5, o_I 1, o_I 32, .val (.long (y2 + y4)), o_s, o_A b371, o_u, o_u, o_u, o_u, o_u, o_u, o_u] [(.int 24)])) rfl (hb hby at_84) rfl (by decide) (cap := 24) (by decide) (by decide) (by decide) (by decide)
 obtain ⟨b378, q378⟩ : ∃ z, z = T377.heap.size := ⟨_, rfl⟩
 rw [← q378] at A378 st378
 have lt_b378 : T377.heap.size ≤ b378 := Nat.le_of_eq q378.symm
 have ne_b371_b378 : b371 ≠ b378 := Nat.ne_of_lt (Nat.lt_of_lt_of_le G377_0.lt lt_b378)
 have g_b378 : n0 ≤ b378 := Nat.le_trans (Nat.le_trans (Nat.le_trans (Nat.le_trans (Nat.le_trans (Nat.le_trans (Nat.le_trans (Nat.le_trans Z0 E371.1) K372.1) K373.1) K374.1) K375.1) K376.1) K377.1) lt_b378
 have V378 : o_Tb Z h378 b378 .char (24 : Int32) (fun _ => 0) := o_Tb.new A378 (by decide) rfl
 refine o_go st378 ?_
 refine o_gi (XS.astore X378.here hx rfl (hb hby at_86) rfl rfl (l' := #[o_J y0, o_s, o_J y1, o_s, o_J y2, o_s, o_J y3, o_s, o_J y4, o_s, o_I x5, o_I 1, o_I 32, .val (.long (y2 + y4)), o_s, o_A b371, o_A b378, o_u, o_u, o_u, o_u, o_u, o_u]) rfl) ?_
 refine o_gi (XS.bipush X378.here hx rfl (hb hby at_88)) ?_
 show o_Gs p e below _ T378 m 90 #[o_J y0, o_s, o_J y1, o_s, o_J y2, o_s, o_J y3, o_s, o_J y4, o_s, o_I x5, o_I 1, o_I 32, .val (.long (y2 + y4)), o_s, o_A b371, o_A b378, o_u, o_u, o_u, o_u, o_u, o_u] [(.int 44)]
 obtain ⟨T379, h379, k379, X379, e379, E379, A379, st379⟩ := newP X378 hx hZ (aty := .char) (hw _ o_t6) e378 (g := (mkF m 90 #[o_J y0, o_s, o_J y1, o_s, o_J y2, o_s, o_J y3, o_s, o_J y4, o_s, o_I x5, o_I 1, o_I 32, .val (.long (y2 + y4)), o_s, o_A b371, o_A b378, o_u, o_u, o_u, o_u, o_u, o_u] [(.int 44)])) rfl (hb hby at_90) rfl (by decide) (cap := 44) (by decide) (by decide) (by decide) (by decide)
 obtain ⟨b379, q379⟩ : ∃ z, z = h378.size := ⟨_, rfl⟩
 rw [← q379] at A379 st379
 have lt_b379 : h378.size ≤ b379 := Nat.le_of_eq q379.symm
 have ne_b371_b379 : b371 ≠ b379 := Nat.ne_of_lt (Nat.lt_of_lt_of_le (G377_0.ext E378).lt lt_b379)
 have ne_b378_b379 : b378 ≠ b379 := Nat.ne_of_lt (Nat.lt_of_lt_of_le V378.lt lt_b379)
 have g_b379 : n0 ≤ b379 := Nat.le_trans (Nat.le_trans (Nat.le_trans (Nat.le_trans (Nat.le_trans (Nat.le_trans (Nat.le_trans (Nat.le_trans (Nat.le_trans Z0 E371.1) K372.1) K373.1) K374.1) K375.1) K376.1) K377.1) E378.1) lt_b379
 have V379 : o_Tb Z h379 b379 .char (44 : Int32) (fun _ => 0) := o_Tb.new A379 (by decide) rfl
 refine o_go st379 ?_
 refine o_gi (XS.astore X379.here hx rfl (hb hby at_92) rfl rfl (l' := #[o_J y0, o_s, o_J y1, o_s, o_J y2, o_s, o_J y3, o_s, o_J y4, o_s, o_I x5, o_I 1, o_I 32, .val (.long (y2 + y4)), o_s, o_A b371, o_A b378, o_A b379, o_u, o_u, o_u, o_u, o_u]) rfl) ?_
 refine o_gi (XS.bipush X379.here hx rfl (hb hby at_94)) ?_
 show o_Gs p e below _ T379 m 96 #[o_J y0, o_s, o_J y1, o_s, o_J y2, o_s, o_J y3, o_s, o_J y4, o_s, o_I x5, o_I 1, o_I 32, .val (.long (y2 + y4)), o_s, o_A b371, o_A b378, o_A b379, o_u, o_u, o_u, o_u, o_u] [(.int 64)]
 obtain ⟨T380, h380, k380, X380, e380, E380, A380, st380⟩ := newP X379 hx hZ (aty := .char) (hw _ o_t6) e379 (g := (mkF m 96 #[o_J y0, o_s, o_J y1, o_s, o_J y2, o_s, o_J y3, o_s, o_J y4, o_s, o_I x5, o_I 1, o_I 32, .val (.long (y2 + y4)), o_s, o_A b371, o_A b378, o_A b379, o_u, o_u, o_u, o_u, o_u] [(.int 64)])) rfl (hb hby at_96) rfl (by decide) (cap := 64) (by decide) (by decide) (by decide) (by decide)
 obtain ⟨b380, q380⟩ : ∃ z, z = h379.size := ⟨_, rfl⟩
 rw [← q380] at A380 st380
 have lt_b380 : h379.size ≤ b380 := Nat.le_of_eq q380.symm
 have ne_b371_b380 : b371 ≠ b380 := Nat.ne_of_lt (Nat.lt_of_lt_of_le ((G377_0.ext E378).ext E379).lt lt_b380)
 have ne_b378_b380 : b378 ≠ b380 := Nat.ne_of_lt (Nat.lt_of_lt_of_le (V378.ext E379).lt lt_b380)
 have ne_b379_b380 : b379 ≠ b380 := Nat.ne_of_lt (Nat.lt_of_lt_of_le V379.lt lt_b380)
 have g_b380 : n0 ≤ b380 := Nat.le_trans (Nat.le_trans (Nat.le_trans (Nat.le_trans (Nat.le_trans (Nat.le_trans (Nat.le_trans (Nat.le_trans (Nat.le_trans (Nat.le_trans Z0 E371.1) K372.1) K373.1) K374.1) K375.1) K376.1) K377.1) E378.1) E379.1) lt_b380
 have V380 : o_Tb Z h380 b380 .char (64 : Int32) (fun _ => 0) := o_Tb.new A380 (by decide) rfl
 refine o_go st380 ?_
 refine o_gi (XS.astore X380.here hx rfl (hb hby at_98) rfl rfl (l' := #[o_J y0, o_s, o_J y1, o_s, o_J y2, o_s, o_J y3, o_s, o_J y4, o_s, o_I x5, o_I 1, o_I 32, .val (.long (y2 + y4)), o_s, o_A b371, o_A b378, o_A b379, o_A b380, o_u, o_u, o_u, o_u]) rfl) ?_
 refine o_gi (XS.iload X380.here hx rfl (hb hby at_100) rfl) ?_
 show o_Gs p e below _ T380 m 102 #[o_J y0, o_s, o_J y1, o_s, o_J y2, o_s, o_J y3, o_s, o_J y4, o_s, o_I x5, o_I 1, o_I 32, .val (.long (y2 + y4)), o_s, o_A b371, o_A b378, o_A b379, o_A b380, o_u, o_u, o_u, o_u] [(.int 1)]
 have hd381 : ¬ ((1 : Int32) = (0 : Int32)) := (by decide)
 refine o_gi (XS.ifYes X380.here hx rfl (pc0 := 102) (pc' := 110) rfl (hb hby at_102) rfl ((if0 _ _).trans (feq hd381).2) (by decide) (by decide)) ?_
 refine o_gi (XS.iload X380.here hx rfl (hb hby at_110) rfl) ?_
 refine o_gi (XS.iconst X380.here hx rfl (hb hby at_112)) ?_
 show o_Gs p e below _ T380 m 113 #[o_J y0, o_s, o_J y1, o_s, o_J y2, o_s, o_J y3, o_s, o_J y4, o_s, o_I x5, o_I 1, o_I 32, .val (.long (y2 + y4)), o_s, o_A b371, o_A b378, o_A b379, o_A b380, o_u, o_u, o_u, o_u] [(.int 1), (.int 1)]
 have hd382 : (1 : Int32) = (1 : Int32) := (by decide)
 refine o_gi (XS.icmpNo X380.here hx rfl (hb hby at_113) rfl (teq hd382).2) ?_
 refine o_gi (XS.aload X380.here hx rfl (hb hby at_116) rfl rfl) ?_
 refine o_gi (XS.goto X380.here hx rfl (pc0 := 118) (pc' := 123) rfl (hb hby at_118) (by decide) (by decide)) ?_
 refine o_gi (XS.astore X380.here hx rfl (hb hby at_123) rfl rfl (l' := #[o_J y0, o_s, o_J y1, o_s, o_J y2, o_s, o_J y3, o_s, o_J y4, o_s, o_I x5, o_I 1, o_I 32, .val (.long (y2 + y4)), o_s, o_A b371, o_A b378, o_A b379, o_A b380, o_A b379, o_u, o_u, o_u]) rfl) ?_
 refine o_gi (XS.aload X380.here hx rfl (hb hby at_125) rfl rfl) ?_
 refine o_gi (XS.aload X380.here hx rfl (hb hby at_127) rfl rfl) ?_
 refine o_gi (XS.iconst X380.here hx rfl (hb hby at_129)) ?_
 show o_Gs p e below _ T380 m 130 #[o_J y0, o_s, o_J y1, o_s, o_J y2, o_s, o_J y3, o_s, o_J y4, o_s, o_I x5, o_I 1, o_I 32, .val (.long (y2 + y4)), o_s, o_A b371, o_A b378, o_A b379, o_A b380, o_A b379, o_u, o_u, o_u] [(.int 0), (.ref b379), (.ref b371)]
 have ff384 : o_Tb Z h380 b371 .byte (48 : Int32) (o_G1_8 (40 : Int32) (y2 + y4) (o_G1_8 (32 : Int32) y4 (o_G1_8 (24 : Int32) y3 (o_G1_8 (16 : Int32) y2 (o_G1_8 (8 : Int32) y1 (o_G1_8 (0 : Int32) y0 (fun _ => 0))))))) := (((G377_0.ext E378).ext E379).ext E380)
 obtain ⟨B, q_B⟩ : ∃ F : Int32 → Int32, F = (o_G1_8 (40 : Int32) (y2 + y4) (o_G1_8 (32 : Int32) y4 (o_G1_8 (24 : Int32) y3 (o_G1_8 (16 : Int32) y2 (o_G1_8 (8 : Int32) y1 (o_G1_8 (0 : Int32) y0 (fun _ => 0))))))) := ⟨_, rfl⟩
 have V_B : o_Tb Z h380 b371 .byte (48 : Int32) B := by rw [q_B]; exact ff384
 have hBy : o_By B := by rw [q_B]; exact o_byP (o_byP (o_byP (o_byP (o_byP (o_byP (o_by0))))))
 obtain ⟨G0, q_G0⟩ : ∃ F : Int32 → Int32, F = (fun _ => 0) := ⟨_, rfl⟩
 have V_G0 : o_Tb Z h380 b379 .char (44 : Int32) G0 := by rw [q_G0]; exact (V379.ext E380)
 have s_G0 : o_Enc B 0 G0 := o_enc0 _ _
 have c_G0 : o_C255 G0 := by rw [q_G0]; exact o_c0
 obtain ⟨_, T383, L383, X383, ⟨rfl, N383q, K383, G383_0⟩, st383⟩ := o_callS X380 hx hZ hown (hw _ o_t7) (hw _ o_t8) (hw _ o_t4) (hw _ o_t9) (by decide) (as := [(.ref b371), (.ref b379), (.int 0)]) (rm2 l Z a0 hw [] b371 b379 (0 : Int32) (44 : Int32) B G0 h380 n0 (Nat.le_trans (Nat.le_trans (Nat.le_trans (Nat.le_trans (Nat.le_trans (Nat.le_trans (Nat.le_trans (Nat.le_trans (Nat.le_trans (Nat.le_trans Z0 E371.1) K372.1) K373.1) K374.1) K375.1) K376.1) K377.1) E378.1) E379.1) E380.1) g_b379 V_B V_G0 ne_b371_b379 (by decide)) e380 o_pd17 rfl (pc := 130) (Ls := #[o_J y0, o_s, o_J y1, o_s, o_J y2, o_s, o_J y3, o_s, o_J y4, o_s, o_I x5, o_I 1, o_I 32, .val (.long (y2 + y4)), o_s, o_A b371, o_A b378, o_A b379, o_A b380, o_A b379, o_u, o_u, o_u]) (rest := []) (W := 0) (by rw [hml]; rfl) (Nat.le_of_eq rfl) (by decide) (by decide) (hb hby at_130) (by decide) (by decide)
 have N383 := Fr.app N377 N383q
 refine o_go st383 ?_
 refine o_gi (XS.aload X383.here hx rfl (hb hby at_133) rfl rfl) ?_
 refine o_gi (XS.aload X383.here hx rfl (hb hby at_135) rfl rfl) ?_
 refine o_gi (XS.iconst X383.here hx rfl (hb hby at_137)) ?_
 show o_Gs p e below _ T383 m 138 #[o_J y0, o_s, o_J y1, o_s, o_J y2, o_s, o_J y3, o_s, o_J y4, o_s, o_I x5, o_I 1, o_I 32, .val (.long (y2 + y4)), o_s, o_A b371, o_A b378, o_A b379, o_A b380, o_A b379, o_u, o_u, o_u] [(.int 1), (.ref b379), (.ref b371)]
 obtain ⟨G1, q_G1⟩ : ∃ F : Int32 → Int32, F = (o_G2_4 (0 : Int32) B G0) := ⟨_, rfl⟩
 have V_G1 : o_Tb Z T383.heap b379 .char (44 : Int32) G1 := by rw [q_G1]; exact G383_0
 have s_G1 : o_Enc B 1 G1 := by rw [q_G1]; exact o_encS rfl (by decide) s_G0
 have c_G1 : o_C255 G1 := by rw [q_G1]; exact o_c255S c_G0
 have ff386 : o_Tb Z T383.heap b371 .byte (48 : Int32) B := (V_B.keep K383 (fun z => ne_b371_b379 (List.mem_singleton.mp z)))
 obtain ⟨_, T385, L385, X385, ⟨rfl, N385q, K385, G385_0⟩, st385⟩ := o_callS X383 hx hZ hown (hw _ o_t7) (hw _ o_t8) (hw _ o_t4) (hw _ o_t9) (by decide) (as := [(.ref b371), (.ref b379), (.int 1)]) (rm2 l Z a0 hw [] b371 b379 (1 : Int32) (44 : Int32) B G1 T383.heap n0 (Nat.le_trans (Nat.le_trans (Nat.le_trans (Nat.le_trans (Nat.le_trans (Nat.le_trans (Nat.le_trans (Nat.le_trans (Nat.le_trans (Nat.le_trans (Nat.le_trans Z0 E371.1) K372.1) K373.1) K374.1) K375.1) K376.1) K377.1) E378.1) E379.1) E380.1) K383.1) g_b379 ff386 V_G1 ne_b371_b379 (by decide)) rfl o_pd17 rfl (pc := 138) (Ls := #[o_J y0, o_s, o_J y1, o_s, o_J y2, o_s, o_J y3, o_s, o_J y4, o_s, o_I x5, o_I 1, o_I 32, .val (.long (y2 + y4)), o_s, o_A b371, o_A b378, o_A b379, o_A b380, o_A b379, o_u, o_u, o_u]) (rest := []) (W := 0) (by rw [hml]; rfl) (Nat.le_of_eq rfl) (by decide) (by decide) (hb hby at_138) (by decide) (by decide)
 have N385 := Fr.app N383 N385q
 refine o_go st385 ?_
 refine o_gi (XS.aload X385.here hx rfl (hb hby at_141) rfl rfl) ?_
 refine o_gi (XS.aload X385.here hx rfl (hb hby at_143) rfl rfl) ?_
 refine o_gi (XS.iconst X385.here hx rfl (hb hby at_145)) ?_
 show o_Gs p e below _ T385 m 146 #[o_J y0, o_s, o_J y1, o_s, o_J y2, o_s, o_J y3, o_s, o_J y4, o_s, o_I x5, o_I 1, o_I 32, .val (.long (y2 + y4)), o_s, o_A b371, o_A b378, o_A b379, o_A b380, o_A b379, o_u, o_u, o_u] [(.int 2), (.ref b379), (.ref b371)]
 obtain ⟨G2, q_G2⟩ : ∃ F : Int32 → Int32, F = (o_G2_4 (1 : Int32) B G1) := ⟨_, rfl⟩
 have V_G2 : o_Tb Z T385.heap b379 .char (44 : Int32) G2 := by rw [q_G2]; exact G385_0
 have s_G2 : o_Enc B 2 G2 := by rw [q_G2]; exact o_encS rfl (by decide) s_G1
 have c_G2 : o_C255 G2 := by rw [q_G2]; exact o_c255S c_G1
 have ff388 : o_Tb Z T385.heap b371 .byte (48 : Int32) B := (ff386.keep K385 (fun z => ne_b371_b379 (List.mem_singleton.mp z)))
 obtain ⟨_, T387, L387, X387, ⟨rfl, N387q, K387, G387_0⟩, st387⟩ := o_callS X385 hx hZ hown (hw _ o_t7) (hw _ o_t8) (hw _ o_t4) (hw _ o_t9) (by decide) (as := [(.ref b371), (.ref b379), (.int 2)]) (rm2 l Z a0 hw [] b371 b379 (2 : Int32) (44 : Int32) B G2 T385.heap n0 (Nat.le_trans (Nat.le_trans (Nat.le_trans (Nat.le_trans (Nat.le_trans (Nat.le_trans (Nat.le_trans (Nat.le_trans (Nat.le_trans (Nat.le_trans (Nat.le_trans (Nat.le_trans Z0 E371.1) K372.1) K373.1) K374.1) K375.1) K376.1) K377.1) E378.1) E379.1) E380.1) K383.1) K385.1) g_b379 ff388 V_G2 ne_b371_b379 (by decide)) rfl o_pd17 rfl (pc := 146) (Ls := #[o_J y0, o_s, o_J y1, o_s, o_J y2, o_s, o_J y3, o_s, o_J y4, o_s, o_I x5, o_I 1, o_I 32, .val (.long (y2 + y4)), o_s, o_A b371, o_A b378, o_A b379, o_A b380, o_A b379, o_u, o_u, o_u]) (rest := []) (W := 0) (by rw [hml]; rfl) (Nat.le_of_eq rfl) (by decide) (by decide) (hb hby at_146) (by decide) (by decide)
 have N387 := Fr.app N385 N387q
 refine o_go st387 ?_
 refine o_gi (XS.aload X387.here hx rfl (hb hby at_149) rfl rfl) ?_
 refine o_gi (XS.aload X387.here hx rfl (hb hby at_151) rfl rfl) ?_
 refine o_gi (XS.iconst X387.here hx rfl (hb hby at_153)) ?_
 show o_Gs p e below _ T387 m 154 #[o_J y0, o_s, o_J y1, o_s, o_J y2, o_s, o_J y3, o_s, o_J y4, o_s, o_I x5, o_I 1, o_I 32, .val (.long (y2 + y4)), o_s, o_A b371, o_A b378, o_A b379, o_A b380, o_A b379, o_u, o_u, o_u] [(.int 3), (.ref b379), (.ref b371)]
 obtain ⟨G3, q_G3⟩ : ∃ F : Int32 → Int32, F = (o_G2_4 (2 : Int32) B G2) := ⟨_, rfl⟩
 have V_G3 : o_Tb Z T387.heap b379 .char (44 : Int32) G3 := by rw [q_G3]; exact G387_0
 have s_G3 : o_Enc B 3 G3 := by rw [q_G3]; exact o_encS rfl (by decide) s_G2
 have c_G3 : o_C255 G3 := by rw [q_G3]; exact o_c255S c_G2
 have ff390 : o_Tb Z T387.heap b371 .byte (48 : Int32) B := (ff388.keep K387 (fun z => ne_b371_b379 (List.mem_singleton.mp z)))
 obtain ⟨_, T389, L389, X389, ⟨rfl, N389q, K389, G389_0⟩, st389⟩ := o_callS X387 hx hZ hown (hw _ o_t7) (hw _ o_t8) (hw _ o_t4) (hw _ o_t9) (by decide) (as := [(.ref b371), (.ref b379), (.int 3)]) (rm2 l Z a0 hw [] b371 b379 (3 : Int32) (44 : Int32) B G3 T387.heap n0 (Nat.le_trans (Nat.le_trans (Nat.le_trans (Nat.le_trans (Nat.le_trans (Nat.le_trans (Nat.le_trans (Nat.le_trans (Nat.le_trans (Nat.le_trans (Nat.le_trans (Nat.le_trans (Nat.le_trans Z0 E371.1) K372.1) K373.1) K374.1) K375.1) K376.1) K377.1) E378.1) E379.1) E380.1) K383.1) K385.1) K387.1) g_b379 ff390 V_G3 ne_b371_b379 (by decide)) rfl o_pd17 rfl (pc := 154) (Ls := #[o_J y0, o_s, o_J y1, o_s, o_J y2, o_s, o_J y3, o_s, o_J y4, o_s, o_I x5, o_I 1, o_I 32, .val (.long (y2 + y4)), o_s, o_A b371, o_A b378, o_A b379, o_A b380, o_A b379, o_u, o_u, o_u]) (rest := []) (W := 0) (by rw [hml]; rfl) (Nat.le_of_eq rfl) (by decide) (by decide) (hb hby at_154) (by decide) (by decide)
 have N389 := Fr.app N387 N389q
 refine o_go st389 ?_
 refine o_gi (XS.aload X389.here hx rfl (hb hby at_157) rfl rfl) ?_
 refine o_gi (XS.aload X389.here hx rfl (hb hby at_159) rfl rfl) ?_
 refine o_gi (XS.iconst X389.here hx rfl (hb hby at_161)) ?_
 show o_Gs p e below _ T389 m 162 #[o_J y0, o_s, o_J y1, o_s, o_J y2, o_s, o_J y3, o_s, o_J y4, o_s, o_I x5, o_I 1, o_I 32, .val (.long (y2 + y4)), o_s, o_A b371, o_A b378, o_A b379, o_A b380, o_A b379, o_u, o_u, o_u] [(.int 4), (.ref b379), (.ref b371)]
 obtain ⟨G4, q_G4⟩ : ∃ F : Int32 → Int32, F = (o_G2_4 (3 : Int32) B G3) := ⟨_, rfl⟩
 have V_G4 : o_Tb Z T389.heap b379 .char (44 : Int32) G4 := by rw [q_G4]; exact G389_0
 have s_G4 : o_Enc B 4 G4 := by rw [q_G4]; exact o_encS rfl (by decide) s_G3
 have c_G4 : o_C255 G4 := by rw [q_G4]; exact o_c255S c_G3
 have ff392 : o_Tb Z T389.heap b371 .byte (48 : Int32) B := (ff390.keep K389 (fun z => ne_b371_b379 (List.mem_singleton.mp z)))
 obtain ⟨_, T391, L391, X391, ⟨rfl, N391q, K391, G391_0⟩, st391⟩ := o_callS X389 hx hZ hown (hw _ o_t7) (hw _ o_t8) (hw _ o_t4) (hw _ o_t9) (by decide) (as := [(.ref b371), (.ref b379), (.int 4)]) (rm2 l Z a0 hw [] b371 b379 (4 : Int32) (44 : Int32) B G4 T389.heap n0 (Nat.le_trans (Nat.le_trans (Nat.le_trans (Nat.le_trans (Nat.le_trans (Nat.le_trans (Nat.le_trans (Nat.le_trans (Nat.le_trans (Nat.le_trans (Nat.le_trans (Nat.le_trans (Nat.le_trans (Nat.le_trans Z0 E371.1) K372.1) K373.1) K374.1) K375.1) K376.1) K377.1) E378.1) E379.1) E380.1) K383.1) K385.1) K387.1) K389.1) g_b379 ff392 V_G4 ne_b371_b379 (by decide)) rfl o_pd17 rfl (pc := 162) (Ls := #[o_J y0, o_s, o_J y1, o_s, o_J y2, o_s, o_J y3, o_s, o_J y4, o_s, o_I x5, o_I 1, o_I 32, .val (.long (y2 + y4)), o_s, o_A b371, o_A b378, o_A b379, o_A b380, o_A b379, o_u, o_u, o_u]) (rest := []) (W := 0) (by rw [hml]; rfl) (Nat.le_of_eq rfl) (by decide) (by decide) (hb hby at_162) (by decide) (by decide)
 have N391 := Fr.app N389 N391q
 refine o_go st391 ?_
 refine o_gi (XS.iload X391.here hx rfl (hb hby at_165) rfl) ?_
 refine o_gi (XS.iconst X391.here hx rfl (hb hby at_167)) ?_
 show o_Gs p e below _ T391 m 168 #[o_J y0, o_s, o_J y1, o_s, o_J y2, o_s, o_J y3, o_s, o_J y4, o_s, o_I x5, o_I 1, o_I 32, .val (.long (y2 + y4)), o_s, o_A b371, o_A b378, o_A b379, o_A b380, o_A b379, o_u, o_u, o_u] [(.int 1), (.int 1)]
 have hd393 : ¬ ((1 : Int32) < (1 : Int32)) := (by decide)
 refine o_gi (XS.icmpNo X391.here hx rfl (hb hby at_168) rfl (flt hd393).1) ?_
 refine o_gi (XS.aload X391.here hx rfl (hb hby at_171) rfl rfl) ?_
 refine o_gi (XS.aload X391.here hx rfl (hb hby at_173) rfl rfl) ?_
 refine o_gi (XS.iconst X391.here hx rfl (hb hby at_175)) ?_
 show o_Gs p e below _ T391 m 176 #[o_J y0, o_s, o_J y1, o_s, o_J y2, o_s, o_J y3, o_s, o_J y4, o_s, o_I x5, o_I 1, o_I 32, .val (.long (y2 + y4)), o_s, o_A b371, o_A b378, o_A b379, o_A b380, o_A b379, o_u, o_u, o_u] [(.int 5), (.ref b379), (.ref b371)]
 obtain ⟨G5, q_G5⟩ : ∃ F : Int32 → Int32, F = (o_G2_4 (4 : Int32) B G4) := ⟨_, rfl⟩
 have V_G5 : o_Tb Z T391.heap b379 .char (44 : Int32) G5 := by rw [q_G5]; exact G391_0
 have s_G5 : o_Enc B 5 G5 := by rw [q_G5]; exact o_encS rfl (by decide) s_G4
 have c_G5 : o_C255 G5 := by rw [q_G5]; exact o_c255S c_G4
 have ff395 : o_Tb Z T391.heap b371 .byte (48 : Int32) B := (ff392.keep K391 (fun z => ne_b371_b379 (List.mem_singleton.mp z)))
 obtain ⟨_, T394, L394, X394, ⟨rfl, N394q, K394, G394_0⟩, st394⟩ := o_callS X391 hx hZ hown (hw _ o_t7) (hw _ o_t8) (hw _ o_t4) (hw _ o_t9) (by decide) (as := [(.ref b371), (.ref b379), (.int 5)]) (rm2 l Z a0 hw [] b371 b379 (5 : Int32) (44 : Int32) B G5 T391.heap n0 (Nat.le_trans (Nat.le_trans (Nat.le_trans (Nat.le_trans (Nat.le_trans (Nat.le_trans (Nat.le_trans (Nat.le_trans (Nat.le_trans (Nat.le_trans (Nat.le_trans (Nat.le_trans (Nat.le_trans (Nat.le_trans (Nat.le_trans Z0 E371.1) K372.1) K373.1) K374.1) K375.1) K376.1) K377.1) E378.1) E379.1) E380.1) K383.1) K385.1) K387.1) K389.1) K391.1) g_b379 ff395 V_G5 ne_b371_b379 (by decide)) rfl o_pd17 rfl (pc := 176) (Ls := #[o_J y0, o_s, o_J y1, o_s, o_J y2, o_s, o_J y3, o_s, o_J y4, o_s, o_I x5, o_I 1, o_I 32, .val (.long (y2 + y4)), o_s, o_A b371, o_A b378, o_A b379, o_A b380, o_A b379, o_u, o_u, o_u]) (rest := []) (W := 0) (by rw [hml]; rfl) (Nat.le_of_eq rfl) (by decide) (by decide) (hb hby at_176) (by decide) (by decide)
 have N394 := Fr.app N391 N394q
 refine o_go st394 ?_
 refine o_gi (XS.aload X394.here hx rfl (hb hby at_179) rfl rfl) ?_
 refine o_gi (XS.aload X394.here hx rfl (hb hby at_181) rfl rfl) ?_
 refine o_gi (XS.bipush X394.here hx rfl (hb hby at_183)) ?_
 show o_Gs p e below _ T394 m 185 #[o_J y0, o_s, o_J y1, o_s, o_J y2, o_s, o_J y3, o_s, o_J y4, o_s, o_I x5, o_I 1, o_I 32, .val (.long (y2 + y4)), o_s, o_A b371, o_A b378, o_A b379, o_A b380, o_A b379, o_u, o_u, o_u] [(.int 6), (.ref b379), (.ref b371)]
 obtain ⟨G6, q_G6⟩ : ∃ F : Int32 → Int32, F = (o_G2_4 (5 : Int32) B G5) := ⟨_, rfl⟩
 have V_G6 : o_Tb Z T394.heap b379 .char (44 : Int32) G6 := by rw [q_G6]; exact G394_0
 have s_G6 : o_Enc B 6 G6 := by rw [q_G6]; exact o_encS rfl (by decide) s_G5
 have c_G6 : o_C255 G6 := by rw [q_G6]; exact o_c255S c_G5
 have ff397 : o_Tb Z T394.heap b371 .byte (48 : Int32) B := (ff395.keep K394 (fun z => ne_b371_b379 (List.mem_singleton.mp z)))
 obtain ⟨_, T396, L396, X396, ⟨rfl, N396q, K396, G396_0⟩, st396⟩ := o_callS X394 hx hZ hown (hw _ o_t7) (hw _ o_t8) (hw _ o_t4) (hw _ o_t9) (by decide) (as := [(.ref b371), (.ref b379), (.int 6)]) (rm2 l Z a0 hw [] b371 b379 (6 : Int32) (44 : Int32) B G6 T394.heap n0 (Nat.le_trans (Nat.le_trans (Nat.le_trans (Nat.le_trans (Nat.le_trans (Nat.le_trans (Nat.le_trans (Nat.le_trans (Nat.le_trans (Nat.le_trans (Nat.le_trans (Nat.le_trans (Nat.le_trans (Nat.le_trans (Nat.le_trans (Nat.le_trans Z0 E371.1) K372.1) K373.1) K374.1) K375.1) K376.1) K377.1) E378.1) E379.1) E380.1) K383.1) K385.1) K387.1) K389.1) K391.1) K394.1) g_b379 ff397 V_G6 ne_b371_b379 (by decide)) rfl o_pd17 rfl (pc := 185) (Ls := #[o_J y0, o_s, o_J y1, o_s, o_J y2, o_s, o_J y3, o_s, o_J y4, o_s, o_I x5, o_I 1, o_I 32, .val (.long (y2 + y4)), o_s, o_A b371, o_A b378, o_A b379, o_A b380, o_A b379, o_u, o_u, o_u]) (rest := []) (W := 0) (by rw [hml]; rfl) (Nat.le_of_eq rfl) (by decide) (by decide) (hb hby at_185) (by decide) (by decide)
 have N396 := Fr.app N394 N396q
 refine o_go st396 ?_
 refine o_gi (XS.aload X396.here hx rfl (hb hby at_188) rfl rfl) ?_
 refine o_gi (XS.aload X396.here hx rfl (hb hby at_190) rfl rfl) ?_
 refine o_gi (XS.bipush X396.here hx rfl (hb hby at_192)) ?_
 show o_Gs p e below _ T396 m 194 #[o_J y0, o_s, o_J y1, o_s, o_J y2, o_s, o_J y3, o_s, o_J y4, o_s, o_I x5, o_I 1, o_I 32, .val (.long (y2 + y4)), o_s, o_A b371, o_A b378, o_A b379, o_A b380, o_A b379, o_u, o_u, o_u] [(.int 7), (.ref b379), (.ref b371)]
 obtain ⟨G7, q_G7⟩ : ∃ F : Int32 → Int32, F = (o_G2_4 (6 : Int32) B G6) := ⟨_, rfl⟩
 have V_G7 : o_Tb Z T396.heap b379 .char (44 : Int32) G7 := by rw [q_G7]; exact G396_0
 have s_G7 : o_Enc B 7 G7 := by rw [q_G7]; exact o_encS rfl (by decide) s_G6
 have c_G7 : o_C255 G7 := by rw [q_G7]; exact o_c255S c_G6
 have ff399 : o_Tb Z T396.heap b371 .byte (48 : Int32) B := (ff397.keep K396 (fun z => ne_b371_b379 (List.mem_singleton.mp z)))
 obtain ⟨_, T398, L398, X398, ⟨rfl, N398q, K398, G398_0⟩, st398⟩ := o_callS X396 hx hZ hown (hw _ o_t7) (hw _ o_t8) (hw _ o_t4) (hw _ o_t9) (by decide) (as := [(.ref b371), (.ref b379), (.int 7)]) (rm2 l Z a0 hw [] b371 b379 (7 : Int32) (44 : Int32) B G7 T396.heap n0 (Nat.le_trans (Nat.le_trans (Nat.le_trans (Nat.le_trans (Nat.le_trans (Nat.le_trans (Nat.le_trans (Nat.le_trans (Nat.le_trans (Nat.le_trans (Nat.le_trans (Nat.le_trans (Nat.le_trans (Nat.le_trans (Nat.le_trans (Nat.le_trans (Nat.le_trans Z0 E371.1) K372.1) K373.1) K374.1) K375.1) K376.1) K377.1) E378.1) E379.1) E380.1) K383.1) K385.1) K387.1) K389.1) K391.1) K394.1) K396.1) g_b379 ff399 V_G7 ne_b371_b379 (by decide)) rfl o_pd17 rfl (pc := 194) (Ls := #[o_J y0, o_s, o_J y1, o_s, o_J y2, o_s, o_J y3, o_s, o_J y4, o_s, o_I x5, o_I 1, o_I 32, .val (.long (y2 + y4)), o_s, o_A b371, o_A b378, o_A b379, o_A b380, o_A b379, o_u, o_u, o_u]) (rest := []) (W := 0) (by rw [hml]; rfl) (Nat.le_of_eq rfl) (by decide) (by decide) (hb hby at_194) (by decide) (by decide)
 have N398 := Fr.app N396 N398q
 refine o_go st398 ?_
 refine o_gi (XS.aload X398.here hx rfl (hb hby at_197) rfl rfl) ?_
 refine o_gi (XS.aload X398.here hx rfl (hb hby at_199) rfl rfl) ?_
 refine o_gi (XS.bipush X398.here hx rfl (hb hby at_201)) ?_
 show o_Gs p e below _ T398 m 203 #[o_J y0, o_s, o_J y1, o_s, o_J y2, o_s, o_J y3, o_s, o_J y4, o_s, o_I x5, o_I 1, o_I 32, .val (.long (y2 + y4)), o_s, o_A b371, o_A b378, o_A b379, o_A b380, o_A b379, o_u, o_u, o_u] [(.int 8), (.ref b379), (.ref b371)]
 obtain ⟨G8, q_G8⟩ : ∃ F : Int32 → Int32, F = (o_G2_4 (7 : Int32) B G7) := ⟨_, rfl⟩
 have V_G8 : o_Tb Z T398.heap b379 .char (44 : Int32) G8 := by rw [q_G8]; exact G398_0
 have s_G8 : o_Enc B 8 G8 := by rw [q_G8]; exact o_encS rfl (by decide) s_G7
 have c_G8 : o_C255 G8 := by rw [q_G8]; exact o_c255S c_G7
 have ff401 : o_Tb Z T398.heap b371 .byte (48 : Int32) B := (ff399.keep K398 (fun z => ne_b371_b379 (List.mem_singleton.mp z)))
 obtain ⟨_, T400, L400, X400, ⟨rfl, N400q, K400, G400_0⟩, st400⟩ := o_callS X398 hx hZ hown (hw _ o_t7) (hw _ o_t8) (hw _ o_t4) (hw _ o_t9) (by decide) (as := [(.ref b371), (.ref b379), (.int 8)]) (rm2 l Z a0 hw [] b371 b379 (8 : Int32) (44 : Int32) B G8 T398.heap n0 (Nat.le_trans (Nat.le_trans (Nat.le_trans (Nat.le_trans (Nat.le_trans (Nat.le_trans (Nat.le_trans (Nat.le_trans (Nat.le_trans (Nat.le_trans (Nat.le_trans (Nat.le_trans (Nat.le_trans (Nat.le_trans (Nat.le_trans (Nat.le_trans (Nat.le_trans (Nat.le_trans Z0 E371.1) K372.1) K373.1) K374.1) K375.1) K376.1) K377.1) E378.1) E379.1) E380.1) K383.1) K385.1) K387.1) K389.1) K391.1) K394.1) K396.1) K398.1) g_b379 ff401 V_G8 ne_b371_b379 (by decide)) rfl o_pd17 rfl (pc := 203) (Ls := #[o_J y0, o_s, o_J y1, o_s, o_J y2, o_s, o_J y3, o_s, o_J y4, o_s, o_I x5, o_I 1, o_I 32, .val (.long (y2 + y4)), o_s, o_A b371, o_A b378, o_A b379, o_A b380, o_A b379, o_u, o_u, o_u]) (rest := []) (W := 0) (by rw [hml]; rfl) (Nat.le_of_eq rfl) (by decide) (by decide) (hb hby at_203) (by decide) (by decide)
 have N400 := Fr.app N398 N400q
 refine o_go st400 ?_
 refine o_gi (XS.aload X400.here hx rfl (hb hby at_206) rfl rfl) ?_
 refine o_gi (XS.aload X400.here hx rfl (hb hby at_208) rfl rfl) ?_
 refine o_gi (XS.bipush X400.here hx rfl (hb hby at_210)) ?_
 show o_Gs p e below _ T400 m 212 #[o_J y0, o_s, o_J y1, o_s, o_J y2, o_s, o_J y3, o_s, o_J y4, o_s, o_I x5, o_I 1, o_I 32, .val (.long (y2 + y4)), o_s, o_A b371, o_A b378, o_A b379, o_A b380, o_A b379, o_u, o_u, o_u] [(.int 9), (.ref b379), (.ref b371)]
 obtain ⟨G9, q_G9⟩ : ∃ F : Int32 → Int32, F = (o_G2_4 (8 : Int32) B G8) := ⟨_, rfl⟩
 have V_G9 : o_Tb Z T400.heap b379 .char (44 : Int32) G9 := by rw [q_G9]; exact G400_0
 have s_G9 : o_Enc B 9 G9 := by rw [q_G9]; exact o_encS rfl (by decide) s_G8
 have c_G9 : o_C255 G9 := by rw [q_G9]; exact o_c255S c_G8
 have ff403 : o_Tb Z T400.heap b371 .byte (48 : Int32) B := (ff401.keep K400 (fun z => ne_b371_b379 (List.mem_singleton.mp z)))
 obtain ⟨_, T402, L402, X402, ⟨rfl, N402q, K402, G402_0⟩, st402⟩ := o_callS X400 hx hZ hown (hw _ o_t7) (hw _ o_t8) (hw _ o_t4) (hw _ o_t9) (by decide) (as := [(.ref b371), (.ref b379), (.int 9)]) (rm2 l Z a0 hw [] b371 b379 (9 : Int32) (44 : Int32) B G9 T400.heap n0 (Nat.le_trans (Nat.le_trans (Nat.le_trans (Nat.le_trans (Nat.le_trans (Nat.le_trans (Nat.le_trans (Nat.le_trans (Nat.le_trans (Nat.le_trans (Nat.le_trans (Nat.le_trans (Nat.le_trans (Nat.le_trans (Nat.le_trans (Nat.le_trans (Nat.le_trans (Nat.le_trans (Nat.le_trans Z0 E371.1) K372.1) K373.1) K374.1) K375.1) K376.1) K377.1) E378.1) E379.1) E380.1) K383.1) K385.1) K387.1) K389.1) K391.1) K394.1) K396.1) K398.1) K400.1) g_b379 ff403 V_G9 ne_b371_b379 (by decide)) rfl o_pd17 rfl (pc := 212) (Ls := #[o_J y0, o_s, o_J y1, o_s, o_J y2, o_s, o_J y3, o_s, o_J y4, o_s, o_I x5, o_I 1, o_I 32, .val (.long (y2 + y4)), o_s, o_A b371, o_A b378, o_A b379, o_A b380, o_A b379, o_u, o_u, o_u]) (rest := []) (W := 0) (by rw [hml]; rfl) (Nat.le_of_eq rfl) (by decide) (by decide) (hb hby at_212) (by decide) (by decide)
 have N402 := Fr.app N400 N402q
 refine o_go st402 ?_
 refine o_gi (XS.iload X402.here hx rfl (hb hby at_215) rfl) ?_
 refine o_gi (XS.iconst X402.here hx rfl (hb hby at_217)) ?_
 show o_Gs p e below _ T402 m 218 #[o_J y0, o_s, o_J y1, o_s, o_J y2, o_s, o_J y3, o_s, o_J y4, o_s, o_I x5, o_I 1, o_I 32, .val (.long (y2 + y4)), o_s, o_A b371, o_A b378, o_A b379, o_A b380, o_A b379, o_u, o_u, o_u] [(.int 2), (.int 1)]
 have hd404 : ¬ ((1 : Int32) = (2 : Int32)) := (by decide)
 refine o_gi (XS.icmpYes X402.here hx rfl (pc0 := 218) (pc' := 275) rfl (hb hby at_218) rfl (feq hd404).2 (by decide) (by decide)) ?_
 refine o_gi (XS.iload X402.here hx rfl (hb hby at_275) rfl) ?_
 show o_Gs p e below _ T402 m 277 #[o_J y0, o_s, o_J y1, o_s, o_J y2, o_s, o_J y3, o_s, o_J y4, o_s, o_I x5, o_I 1, o_I 32, .val (.long (y2 + y4)), o_s, o_A b371, o_A b378, o_A b379, o_A b380, o_A b379, o_u, o_u, o_u] [(.int 1)]
 have hd405 : ¬ ((1 : Int32) = (0 : Int32)) := (by decide)
 refine o_gi (XS.ifYes X402.here hx rfl (pc0 := 277) (pc' := 340) rfl (hb hby at_277) rfl ((if0 _ _).trans (feq hd405).2) (by decide) (by decide)) ?_
 refine o_gi (XS.iload X402.here hx rfl (hb hby at_340) rfl) ?_
 refine o_gi (XS.iconst X402.here hx rfl (hb hby at_342)) ?_
 show o_Gs p e below _ T402 m 343 #[o_J y0, o_s, o_J y1, o_s, o_J y2, o_s, o_J y3, o_s, o_J y4, o_s, o_I x5, o_I 1, o_I 32, .val (.long (y2 + y4)), o_s, o_A b371, o_A b378, o_A b379, o_A b380, o_A b379, o_u, o_u, o_u] [(.int 1), (.int 1)]
 have hd406 : (1 : Int32) = (1 : Int32) := (by decide)
 refine o_gi (XS.icmpNo X402.here hx rfl (hb hby at_343) rfl (teq hd406).2) ?_
 refine o_gi (XS.aload X402.here hx rfl (hb hby at_346) rfl rfl) ?_
 refine o_gi (XS.bipush X402.here hx rfl (hb hby at_348)) ?_
 show o_Gs p e below _ T402 m 350 #[o_J y0, o_s, o_J y1, o_s, o_J y2, o_s, o_J y3, o_s, o_J y4, o_s, o_I x5, o_I 1, o_I 32, .val (.long (y2 + y4)), o_s, o_A b371, o_A b378, o_A b379, o_A b380, o_A b379, o_u, o_u, o_u] [(.int 30), (.ref b371)]
 have ff407 : o_Tb Z T402.heap b371 .byte (48 : Int32) B := (ff403.keep K402 (fun z => ne_b371_b379 (List.mem_singleton.mp z)))
 obtain ⟨cl408, Ar408, sa408, na408, ha408⟩ := id ff407
 have ix408 : ¬ (30 : Int32) < 0 ∧ (30 : Int32) < (48 : Int32) := ⟨by decide, by decide⟩
 refine o_go (X402.baloadBytes hx (j := (30 : Int32)) (v := (.int (B (30 : Int32)))) Ar408.1 (State.isArrayOf_alike hZ.alike Ar408.2.1) Ar408.2.2 (inb_of sa408 ix408) (ha408 _ ix408.1 ix408.2) (g := (mkF m 350 #[o_J y0, o_s, o_J y1, o_s, o_J y2, o_s, o_J y3, o_s, o_J y4, o_s, o_I x5, o_I 1, o_I 32, .val (.long (y2 + y4)), o_s, o_A b371, o_A b378, o_A b379, o_A b380, o_A b379, o_u, o_u, o_u] [(.int 30), (.ref b371)])) rfl rfl (hb hby at_350)) ?_
 refine o_gi (XS.sipush X402.here hx rfl (hb hby at_351)) ?_
 show o_Gs p e below _ T402 m 354 #[o_J y0, o_s, o_J y1, o_s, o_J y2, o_s, o_J y3, o_s, o_J y4, o_s, o_I x5, o_I 1, o_I 32, .val (.long (y2 + y4)), o_s, o_A b371, o_A b378, o_A b379, o_A b380, o_A b379, o_u, o_u, o_u] [(.int 255), (.int (B (30 : Int32)))]
 refine o_gi (XS.iand X402.here hx rfl (hb hby at_354) rfl) ?_
 refine o_gi (XS.bipush X402.here hx rfl (hb hby at_355)) ?_
 show o_Gs p e below _ T402 m 357 #[o_J y0, o_s, o_J y1, o_s, o_J y2, o_s, o_J y3, o_s, o_J y4, o_s, o_I x5, o_I 1, o_I 32, .val (.long (y2 + y4)), o_s, o_A b371, o_A b378, o_A b379, o_A b380, o_A b379, o_u, o_u, o_u] [(.int 16), (.int ((B (30 : Int32)) &&& (255 : Int32)))]
 refine o_gi (XS.ishl X402.here hx rfl (hb hby at_357) rfl) ?_
 refine o_gi (XS.aload X402.here hx rfl (hb hby at_358) rfl rfl) ?_
 refine o_gi (XS.bipush X402.here hx rfl (hb hby at_360)) ?_
 show o_Gs p e below _ T402 m 362 #[o_J y0, o_s, o_J y1, o_s, o_J y2, o_s, o_J y3, o_s, o_J y4, o_s, o_I x5, o_I 1, o_I 32, .val (.long (y2 + y4)), o_s, o_A b371, o_A b378, o_A b379, o_A b380, o_A b379, o_u, o_u, o_u] [(.int 31), (.ref b371), (.int (((B (30 : Int32)) &&& (255 : Int32)) <<< ((16 : Int32) &&& 31)))]
 obtain ⟨cl409, Ar409, sa409, na409, ha409⟩ := id ff407
 have ix409 : ¬ (31 : Int32) < 0 ∧ (31 : Int32) < (48 : Int32) := ⟨by decide, by decide⟩
 refine o_go (X402.baloadBytes hx (j := (31 : Int32)) (v := (.int (B (31 : Int32)))) Ar409.1 (State.isArrayOf_alike hZ.alike Ar409.2.1) Ar409.2.2 (inb_of sa409 ix409) (ha409 _ ix409.1 ix409.2) (g := (mkF m 362 #[o_J y0, o_s, o_J y1, o_s, o_J y2, o_s, o_J y3, o_s, o_J y4, o_s, o_I x5, o_I 1, o_I 32, .val (.long (y2 + y4)), o_s, o_A b371, o_A b378, o_A b379, o_A b380, o_A b379, o_u, o_u, o_u] [(.int 31), (.ref b371), (.int (((B (30 : Int32)) &&& (255 : Int32)) <<< ((16 : Int32) &&& 31)))])) rfl rfl (hb hby at_362)) ?_
 refine o_gi (XS.sipush X402.here hx rfl (hb hby at_363)) ?_
 show o_Gs p e below _ T402 m 366 #[o_J y0, o_s, o_J y1, o_s, o_J y2, o_s, o_J y3, o_s, o_J y4, o_s, o_I x5, o_I 1, o_I 32, .val (.long (y2 + y4)), o_s, o_A b371, o_A b378, o_A b379, o_A b380, o_A b379, o_u, o_u, o_u] [(.int 255), (.int (B (31 : Int32))), (.int (((B (30 : Int32)) &&& (255 : Int32)) <<< ((16 : Int32) &&& 31)))]
 refine o_gi (XS.iand X402.here hx rfl (hb hby at_366) rfl) ?_
 refine o_gi (XS.bipush X402.here hx rfl (hb hby at_367)) ?_
 show o_Gs p e below _ T402 m 369 #[o_J y0, o_s, o_J y1, o_s, o_J y2, o_s, o_J y3, o_s, o_J y4, o_s, o_I x5, o_I 1, o_I 32, .val (.long (y2 + y4)), o_s, o_A b371, o_A b378, o_A b379, o_A b380, o_A b379, o_u, o_u, o_u] [(.int 8), (.int ((B (31 : Int32)) &&& (255 : Int32))), (.int (((B (30 : Int32)) &&& (255 : Int32)) <<< ((16 : Int32) &&& 31)))]
 refine o_gi (XS.ishl X402.here hx rfl (hb hby at_369) rfl) ?_
 show o_Gs p e below _ T402 m 370 #[o_J y0, o_s, o_J y1, o_s, o_J y2, o_s, o_J y3, o_s, o_J y4, o_s, o_I x5, o_I 1, o_I 32, .val (.long (y2 + y4)), o_s, o_A b371, o_A b378, o_A b379, o_A b380, o_A b379, o_u, o_u, o_u] [(.int (((B (31 : Int32)) &&& (255 : Int32)) <<< ((8 : Int32) &&& 31))), (.int (((B (30 : Int32)) &&& (255 : Int32)) <<< ((16 : Int32) &&& 31)))]
 refine o_gi (XS.ior X402.here hx rfl (hb hby at_370) rfl) ?_
 refine o_gi (XS.istore X402.here hx rfl (hb hby at_371) rfl (l' := #[o_J y0, o_s, o_J y1, o_s, o_J y2, o_s, o_J y3, o_s, o_J y4, o_s, o_I x5, o_I 1, o_I 32, .val (.long (y2 + y4)), o_s, o_A b371, o_A b378, o_A b379, o_A b380, o_A b379, .val (.int ((((B (30 : Int32)) &&& (255 : Int32)) <<< ((16 : Int32) &&& 31)) ||| (((B (31 : Int32)) &&& (255 : Int32)) <<< ((8 : Int32) &&& 31)))), o_u, o_u]) rfl) ?_
 refine o_gi (XS.aload X402.here hx rfl (hb hby at_373) rfl rfl) ?_
 refine o_gi (XS.bipush X402.here hx rfl (hb hby at_375)) ?_
 refine o_gi (XS.iload X402.here hx rfl (hb hby at_377) rfl) ?_
 refine o_gi (XS.bipush X402.here hx rfl (hb hby at_379)) ?_
 show o_Gs p e below _ T402 m 381 #[o_J y0, o_s, o_J y1, o_s, o_J y2, o_s, o_J y3, o_s, o_J y4, o_s, o_I x5, o_I 1, o_I 32, .val (.long (y2 + y4)), o_s, o_A b371, o_A b378, o_A b379, o_A b380, o_A b379, .val (.int ((((B (30 : Int32)) &&& (255 : Int32)) <<< ((16 : Int32) &&& 31)) ||| (((B (31 : Int32)) &&& (255 : Int32)) <<< ((8 : Int32) &&& 31)))), o_u, o_u] [(.int 18), (.int ((((B (30 : Int32)) &&& (255 : Int32)) <<< ((16 : Int32) &&& 31)) ||| (((B (31 : Int32)) &&& (255 : Int32)) <<< ((8 : Int32) &&& 31)))), (.int 40), (.ref b379)]
 refine o_gi (XS.iushr X402.here hx rfl (hb hby at_381) rfl) ?_
 show o_Gs p e below _ T402 m 382 #[o_J y0, o_s, o_J y1, o_s, o_J y2, o_s, o_J y3, o_s, o_J y4, o_s, o_I x5, o_I 1, o_I 32, .val (.long (y2 + y4)), o_s, o_A b371, o_A b378, o_A b379, o_A b380, o_A b379, .val (.int ((((B (30 : Int32)) &&& (255 : Int32)) <<< ((16 : Int32) &&& 31)) ||| (((B (31 : Int32)) &&& (255 : Int32)) <<< ((8 : Int32) &&& 31)))), o_u, o_u] [(.int ((((((B (30 : Int32)) &&& (255 : Int32)) <<< ((16 : Int32) &&& 31)) ||| (((B (31 : Int32)) &&& (255 : Int32)) <<< ((8 : Int32) &&& 31))).toUInt32 >>> ((18 : Int32) &&& 31).toUInt32).toInt32)), (.int 40), (.ref b379)]
 obtain ⟨_, T410, L410, X410, ⟨rfl, N410q, e410⟩, st410⟩ := o_callS X402 hx hZ hown (hw _ o_t10) (hw _ o_t11) (hw _ o_t4) (hw _ o_t12) (by decide) (as := [(.int ((((((B (30 : Int32)) &&& (255 : Int32)) <<< ((16 : Int32) &&& 31)) ||| (((B (31 : Int32)) &&& (255 : Int32)) <<< ((8 : Int32) &&& 31))).toUInt32 >>> ((18 : Int32) &&& 31).toUInt32).toInt32))]) (rm3 l Z a0 hw [] ((((((B (30 : Int32)) &&& (255 : Int32)) <<< ((16 : Int32) &&& 31)) ||| (((B (31 : Int32)) &&& (255 : Int32)) <<< ((8 : Int32) &&& 31))).toUInt32 >>> ((18 : Int32) &&& 31).toUInt32).toInt32) T402.heap n0) rfl o_pd0 rfl (pc := 382) (Ls := #[o_J y0, o_s, o_J y1, o_s, o_J y2, o_s, o_J y3, o_s, o_J y4, o_s, o_I x5, o_I 1, o_I 32, .val (.long (y2 + y4)), o_s, o_A b371, o_A b378, o_A b379, o_A b380, o_A b379, .val (.int ((((B (30 : Int32)) &&& (255 : Int32)) <<< ((16 : Int32) &&& 31)) ||| (((B (31 : Int32)) &&& (255 : Int32)) <<< ((8 : Int32) &&& 31)))), o_u, o_u]) (rest := [(.int 40), (.ref b379)]) (W := 2) (by rw [hml]; rfl) (Nat.le_of_eq rfl) (by decide) (by decide) (hb hby at_382) (by decide) (by decide)
 have N410 := Fr.app N402 N410q
 refine o_go st410 ?_
 show o_Gs p e below _ T410 m 385 #[o_J y0, o_s, o_J y1, o_s, o_J y2, o_s, o_J y3, o_s, o_J y4, o_s, o_I x5, o_I 1, o_I 32, .val (.long (y2 + y4)), o_s, o_A b371, o_A b378, o_A b379, o_A b380, o_A b379, .val (.int ((((B (30 : Int32)) &&& (255 : Int32)) <<< ((16 : Int32) &&& 31)) ||| (((B (31 : Int32)) &&& (255 : Int32)) <<< ((8 : Int32) &&& 31)))), o_u, o_u] [(.int (o_f3 ((((((B (30 : Int32)) &&& (255 : Int32)) <<< ((16 : Int32) &&& 31)) ||| (((B (31 : Int32)) &&& (255 : Int32)) <<< ((8 : Int32) &&& 31))).toUInt32 >>> ((18 : Int32) &&& 31).toUInt32).toInt32))), (.int 40), (.ref b379)]
 obtain ⟨cl411, Ar411, sa411, na411, ha411⟩ := id G402_0
 obtain ⟨T411, h411, X411, e411, W411, st411⟩ := stC X410 hx hZ e410 Ar411 (j := (40 : Int32)) (inb_of sa411 ⟨by decide, by decide⟩) (g := (mkF m 385 #[o_J y0, o_s, o_J y1, o_s, o_J y2, o_s, o_J y3, o_s, o_J y4, o_s, o_I x5, o_I 1, o_I 32, .val (.long (y2 + y4)), o_s, o_A b371, o_A b378, o_A b379, o_A b380, o_A b379, .val (.int ((((B (30 : Int32)) &&& (255 : Int32)) <<< ((16 : Int32) &&& 31)) ||| (((B (31 : Int32)) &&& (255 : Int32)) <<< ((8 : Int32) &&& 31)))), o_u, o_u] [(.int (o_f3 ((((((B (30 : Int32)) &&& (255 : Int32)) <<< ((16 : Int32) &&& 31)) ||| (((B (31 : Int32)) &&& (255 : Int32)) <<< ((8 : Int32) &&& 31))).toUInt32 >>> ((18 : Int32) &&& 31).toUInt32).toInt32))), (.int 40), (.ref b379)])) rfl rfl (hb hby at_385)
 have V411 : o_Tb Z h411 b379 .char (44 : Int32) (fun k => if k = (40 : Int32) then (nar .char (o_f3 ((((((B (30 : Int32)) &&& (255 : Int32)) <<< ((16 : Int32) &&& 31)) ||| (((B (31 : Int32)) &&& (255 : Int32)) <<< ((8 : Int32) &&& 31))).toUInt32 >>> ((18 : Int32) &&& 31).toUInt32).toInt32))) else (o_G2_4 (9 : Int32) B G9) k) := o_Tb.set Ar411 sa411 na411 ha411 W411 ⟨by decide, by decide⟩
 have N411 := Fr.snoc X411 N410 g_b379
 refine o_go st411 ?_
 refine o_gi (XS.aload X411.here hx rfl (hb hby at_386) rfl rfl) ?_
 refine o_gi (XS.bipush X411.here hx rfl (hb hby at_388)) ?_
 refine o_gi (XS.iload X411.here hx rfl (hb hby at_390) rfl) ?_
 refine o_gi (XS.bipush X411.here hx rfl (hb hby at_392)) ?_
 show o_Gs p e below _ T411 m 394 #[o_J y0, o_s, o_J y1, o_s, o_J y2, o_s, o_J y3, o_s, o_J y4, o_s, o_I x5, o_I 1, o_I 32, .val (.long (y2 + y4)), o_s, o_A b371, o_A b378, o_A b379, o_A b380, o_A b379, .val (.int ((((B (30 : Int32)) &&& (255 : Int32)) <<< ((16 : Int32) &&& 31)) ||| (((B (31 : Int32)) &&& (255 : Int32)) <<< ((8 : Int32) &&& 31)))), o_u, o_u] [(.int 12), (.int ((((B (30 : Int32)) &&& (255 : Int32)) <<< ((16 : Int32) &&& 31)) ||| (((B (31 : Int32)) &&& (255 : Int32)) <<< ((8 : Int32) &&& 31)))), (.int 41), (.ref b379)]
 refine o_gi (XS.iushr X411.here hx rfl (hb hby at_394) rfl) ?_
 refine o_gi (XS.bipush X411.here hx rfl (hb hby at_395)) ?_
 show o_Gs p e below _ T411 m 397 #[o_J y0, o_s, o_J y1, o_s, o_J y2, o_s, o_J y3, o_s, o_J y4, o_s, o_I x5, o_I 1, o_I 32, .val (.long (y2 + y4)), o_s, o_A b371, o_A b378, o_A b379, o_A b380, o_A b379, .val (.int ((((B (30 : Int32)) &&& (255 : Int32)) <<< ((16 : Int32) &&& 31)) ||| (((B (31 : Int32)) &&& (255 : Int32)) <<< ((8 : Int32) &&& 31)))), o_u, o_u] [(.int 63), (.int ((((((B (30 : Int32)) &&& (255 : Int32)) <<< ((16 : Int32) &&& 31)) ||| (((B (31 : Int32)) &&& (255 : Int32)) <<< ((8 : Int32) &&& 31))).toUInt32 >>> ((12 : Int32) &&& 31).toUInt32).toInt32)), (.int 41), (.ref b379)]
 refine o_gi (XS.iand X411.here hx rfl (hb hby at_397) rfl) ?_
 show o_Gs p e below _ T411 m 398 #[o_J y0, o_s, o_J y1, o_s, o_J y2, o_s, o_J y3, o_s, o_J y4, o_s, o_I x5, o_I 1, o_I 32, .val (.long (y2 + y4)), o_s, o_A b371, o_A b378, o_A b379, o_A b380, o_A b379, .val (.int ((((B (30 : Int32)) &&& (255 : Int32)) <<< ((16 : Int32) &&& 31)) ||| (((B (31 : Int32)) &&& (255 : Int32)) <<< ((8 : Int32) &&& 31)))), o_u, o_u] [(.int (((((((B (30 : Int32)) &&& (255 : Int32)) <<< ((16 : Int32) &&& 31)) ||| (((B (31 : Int32)) &&& (255 : Int32)) <<< ((8 : Int32) &&& 31))).toUInt32 >>> ((12 : Int32) &&& 31).toUInt32).toInt32) &&& (63 : Int32))), (.int 41), (.ref b379)]
 obtain ⟨_, T412, L412, X412, ⟨rfl, N412q, e412⟩, st412⟩ := o_callS X411 hx hZ hown (hw _ o_t10) (hw _ o_t11) (hw _ o_t4) (hw _ o_t12) (by decide) (as := [(.int (((((((B (30 : Int32)) &&& (255 : Int32)) <<< ((16 : Int32) &&& 31)) ||| (((B (31 : Int32)) &&& (255 : Int32)) <<< ((8 : Int32) &&& 31))).toUInt32 >>> ((12 : Int32) &&& 31).toUInt32).toInt32) &&& (63 : Int32)))]) (rm3 l Z a0 hw [] (((((((B (30 : Int32)) &&& (255 : Int32)) <<< ((16 : Int32) &&& 31)) ||| (((B (31 : Int32)) &&& (255 : Int32)) <<< ((8 : Int32) &&& 31))).toUInt32 >>> ((12 : Int32) &&& 31).toUInt32).toInt32) &&& (63 : Int32)) h411 n0) e411 o_pd0 rfl (pc := 398) (Ls := #[o_J y0, o_s, o_J y1, o_s, o_J y2, o_s, o_J y3, o_s, o_J y4, o_s, o_I x5, o_I 1, o_I 32, .val (.long (y2 + y4)), o_s, o_A b371, o_A b378, o_A b379, o_A b380, o_A b379, .val (.int ((((B (30 : Int32)) &&& (255 : Int32)) <<< ((16 : Int32) &&& 31)) ||| (((B (31 : Int32)) &&& (255 : Int32)) <<< ((8 : Int32) &&& 31)))), o_u, o_u]) (rest := [(.int 41), (.ref b379)]) (W := 2) (by rw [hml]; rfl) (Nat.le_of_eq rfl) (by decide) (by decide) (hb hby at_398) (by decide) (by decide)
 have N412 := Fr.app N411 N412q
 refine o_go st412 ?_
 show o_Gs p e below _ T412 m 401 #[o_J y0, o_s, o_J y1, o_s, o_J y2, o_s, o_J y3, o_s, o_J y4, o_s, o_I x5, o_I 1, o_I 32, .val (.long (y2 + y4)), o_s, o_A b371, o_A b378, o_A b379, o_A b380, o_A b379, .val (.int ((((B (30 : Int32)) &&& (255 : Int32)) <<< ((16 : Int32) &&& 31)) ||| (((B (31 : Int32)) &&& (255 : Int32)) <<< ((8 : Int32) &&& 31)))), o_u, o_u] [(.int (o_f3 (((((((B (30 : Int32)) &&& (255 : Int32)) <<< ((16 : Int32) &&& 31)) ||| (((B (31 : Int32)) &&& (255 : Int32)) <<< ((8 : Int32) &&& 31))).toUInt32 >>> ((12 : Int32) &&& 31).toUInt32).toInt32) &&& (63 : Int32)))), (.int 41), (.ref b379)]
 obtain ⟨cl413, Ar413, sa413, na413, ha413⟩ := id V411
 obtain ⟨T413, h413, X413, e413, W413, st413⟩ := stC X412 hx hZ e412 Ar413 (j := (41 : Int32)) (inb_of sa413 ⟨by decide, by decide⟩) (g := (mkF m 401 #[o_J y0, o_s, o_J y1, o_s, o_J y2, o_s, o_J y3, o_s, o_J y4, o_s, o_I x5, o_I 1, o_I 32, .val (.long (y2 + y4)), o_s, o_A b371, o_A b378, o_A b379, o_A b380, o_A b379, .val (.int ((((B (30 : Int32)) &&& (255 : Int32)) <<< ((16 : Int32) &&& 31)) ||| (((B (31 : Int32)) &&& (255 : Int32)) <<< ((8 : Int32) &&& 31)))), o_u, o_u] [(.int (o_f3 (((((((B (30 : Int32)) &&& (255 : Int32)) <<< ((16 : Int32) &&& 31)) ||| (((B (31 : Int32)) &&& (255 : Int32)) <<< ((8 : Int32) &&& 31))).toUInt32 >>> ((12 : Int32) &&& 31).toUInt32).toInt32) &&& (63 : Int32)))), (.int 41), (.ref b379)])) rfl rfl (hb hby at_401)
 have V413 : o_Tb Z h413 b379 .char (44 : Int32) (fun k => if k = (41 : Int32) then (nar .char (o_f3 (((((((B (30 : Int32)) &&& (255 : Int32)) <<< ((16 : Int32) &&& 31)) ||| (((B (31 : Int32)) &&& (255 : Int32)) <<< ((8 : Int32) &&& 31))).toUInt32 >>> ((12 : Int32) &&& 31).toUInt32).toInt32) &&& (63 : Int32)))) else (fun k => if k = (40 : Int32) then (nar .char (o_f3 ((((((B (30 : Int32)) &&& (255 : Int32)) <<< ((16 : Int32) &&& 31)) ||| (((B (31 : Int32)) &&& (255 : Int32)) <<< ((8 : Int32) &&& 31))).toUInt32 >>> ((18 : Int32) &&& 31).toUInt32).toInt32))) else (o_G2_4 (9 : Int32) B G9) k) k) := o_Tb.set Ar413 sa413 na413 ha413 W413 ⟨by decide, by decide⟩
 have N413 := Fr.snoc X413 N412 g_b379
 refine o_go st413 ?_
 refine o_gi (XS.aload X413.here hx rfl (hb hby at_402) rfl rfl) ?_
 refine o_gi (XS.bipush X413.here hx rfl (hb hby at_404)) ?_
 refine o_gi (XS.iload X413.here hx rfl (hb hby at_406) rfl) ?_
 refine o_gi (XS.bipush X413.here hx rfl (hb hby at_408)) ?_
 show o_Gs p e below _ T413 m 410 #[o_J y0, o_s, o_J y1, o_s, o_J y2, o_s, o_J y3, o_s, o_J y4, o_s, o_I x5, o_I 1, o_I 32, .val (.long (y2 + y4)), o_s, o_A b371, o_A b378, o_A b379, o_A b380, o_A b379, .val (.int ((((B (30 : Int32)) &&& (255 : Int32)) <<< ((16 : Int32) &&& 31)) ||| (((B (31 : Int32)) &&& (255 : Int32)) <<< ((8 : Int32) &&& 31)))), o_u, o_u] [(.int 6), (.int ((((B (30 : Int32)) &&& (255 : Int32)) <<< ((16 : Int32) &&& 31)) ||| (((B (31 : Int32)) &&& (255 : Int32)) <<< ((8 : Int32) &&& 31)))), (.int 42), (.ref b379)]
 refine o_gi (XS.iushr X413.here hx rfl (hb hby at_410) rfl) ?_
 refine o_gi (XS.bipush X413.here hx rfl (hb hby at_411)) ?_
 show o_Gs p e below _ T413 m 413 #[o_J y0, o_s, o_J y1, o_s, o_J y2, o_s, o_J y3, o_s, o_J y4, o_s, o_I x5, o_I 1, o_I 32, .val (.long (y2 + y4)), o_s, o_A b371, o_A b378, o_A b379, o_A b380, o_A b379, .val (.int ((((B (30 : Int32)) &&& (255 : Int32)) <<< ((16 : Int32) &&& 31)) ||| (((B (31 : Int32)) &&& (255 : Int32)) <<< ((8 : Int32) &&& 31)))), o_u, o_u] [(.int 63), (.int ((((((B (30 : Int32)) &&& (255 : Int32)) <<< ((16 : Int32) &&& 31)) ||| (((B (31 : Int32)) &&& (255 : Int32)) <<< ((8 : Int32) &&& 31))).toUInt32 >>> ((6 : Int32) &&& 31).toUInt32).toInt32)), (.int 42), (.ref b379)]
 refine o_gi (XS.iand X413.here hx rfl (hb hby at_413) rfl) ?_
 show o_Gs p e below _ T413 m 414 #[o_J y0, o_s, o_J y1, o_s, o_J y2, o_s, o_J y3, o_s, o_J y4, o_s, o_I x5, o_I 1, o_I 32, .val (.long (y2 + y4)), o_s, o_A b371, o_A b378, o_A b379, o_A b380, o_A b379, .val (.int ((((B (30 : Int32)) &&& (255 : Int32)) <<< ((16 : Int32) &&& 31)) ||| (((B (31 : Int32)) &&& (255 : Int32)) <<< ((8 : Int32) &&& 31)))), o_u, o_u] [(.int (((((((B (30 : Int32)) &&& (255 : Int32)) <<< ((16 : Int32) &&& 31)) ||| (((B (31 : Int32)) &&& (255 : Int32)) <<< ((8 : Int32) &&& 31))).toUInt32 >>> ((6 : Int32) &&& 31).toUInt32).toInt32) &&& (63 : Int32))), (.int 42), (.ref b379)]
 obtain ⟨_, T414, L414, X414, ⟨rfl, N414q, e414⟩, st414⟩ := o_callS X413 hx hZ hown (hw _ o_t10) (hw _ o_t11) (hw _ o_t4) (hw _ o_t12) (by decide) (as := [(.int (((((((B (30 : Int32)) &&& (255 : Int32)) <<< ((16 : Int32) &&& 31)) ||| (((B (31 : Int32)) &&& (255 : Int32)) <<< ((8 : Int32) &&& 31))).toUInt32 >>> ((6 : Int32) &&& 31).toUInt32).toInt32) &&& (63 : Int32)))]) (rm3 l Z a0 hw [] (((((((B (30 : Int32)) &&& (255 : Int32)) <<< ((16 : Int32) &&& 31)) ||| (((B (31 : Int32)) &&& (255 : Int32)) <<< ((8 : Int32) &&& 31))).toUInt32 >>> ((6 : Int32) &&& 31).toUInt32).toInt32) &&& (63 : Int32)) h413 n0) e413 o_pd0 rfl (pc := 414) (Ls := #[o_J y0, o_s, o_J y1, o_s, o_J y2, o_s, o_J y3, o_s, o_J y4, o_s, o_I x5, o_I 1, o_I 32, .val (.long (y2 + y4)), o_s, o_A b371, o_A b378, o_A b379, o_A b380, o_A b379, .val (.int ((((B (30 : Int32)) &&& (255 : Int32)) <<< ((16 : Int32) &&& 31)) ||| (((B (31 : Int32)) &&& (255 : Int32)) <<< ((8 : Int32) &&& 31)))), o_u, o_u]) (rest := [(.int 42), (.ref b379)]) (W := 2) (by rw [hml]; rfl) (Nat.le_of_eq rfl) (by decide) (by decide) (hb hby at_414) (by decide) (by decide)
 have N414 := Fr.app N413 N414q
 refine o_go st414 ?_
 show o_Gs p e below _ T414 m 417 #[o_J y0, o_s, o_J y1, o_s, o_J y2, o_s, o_J y3, o_s, o_J y4, o_s, o_I x5, o_I 1, o_I 32, .val (.long (y2 + y4)), o_s, o_A b371, o_A b378, o_A b379, o_A b380, o_A b379, .val (.int ((((B (30 : Int32)) &&& (255 : Int32)) <<< ((16 : Int32) &&& 31)) ||| (((B (31 : Int32)) &&& (255 : Int32)) <<< ((8 : Int32) &&& 31)))), o_u, o_u] [(.int (o_f3 (((((((B (30 : Int32)) &&& (255 : Int32)) <<< ((16 : Int32) &&& 31)) ||| (((B (31 : Int32)) &&& (255 : Int32)) <<< ((8 : Int32) &&& 31))).toUInt32 >>> ((6 : Int32) &&& 31).toUInt32).toInt32) &&& (63 : Int32)))), (.int 42), (.ref b379)]
 obtain ⟨cl415, Ar415, sa415, na415, ha415⟩ := id V413
 obtain ⟨T415, h415, X415, e415, W415, st415⟩ := stC X414 hx hZ e414 Ar415 (j := (42 : Int32)) (inb_of sa415 ⟨by decide, by decide⟩) (g := (mkF m 417 #[o_J y0, o_s, o_J y1, o_s, o_J y2, o_s, o_J y3, o_s, o_J y4, o_s, o_I x5, o_I 1, o_I 32, .val (.long (y2 + y4)), o_s, o_A b371, o_A b378, o_A b379, o_A b380, o_A b379, .val (.int ((((B (30 : Int32)) &&& (255 : Int32)) <<< ((16 : Int32) &&& 31)) ||| (((B (31 : Int32)) &&& (255 : Int32)) <<< ((8 : Int32) &&& 31)))), o_u, o_u] [(.int (o_f3 (((((((B (30 : Int32)) &&& (255 : Int32)) <<< ((16 : Int32) &&& 31)) ||| (((B (31 : Int32)) &&& (255 : Int32)) <<< ((8 : Int32) &&& 31))).toUInt32 >>> ((6 : Int32) &&& 31).toUInt32).toInt32) &&& (63 : Int32)))), (.int 42), (.ref b379)])) rfl rfl (hb hby at_417)
 have V415 : o_Tb Z h415 b379 .char (44 : Int32) (fun k => if k = (42 : Int32) then (nar .char (o_f3 (((((((B (30 : Int32)) &&& (255 : Int32)) <<< ((16 : Int32) &&& 31)) ||| (((B (31 : Int32)) &&& (255 : Int32)) <<< ((8 : Int32) &&& 31))).toUInt32 >>> ((6 : Int32) &&& 31).toUInt32).toInt32) &&& (63 : Int32)))) else (fun k => if k = (41 : Int32) then (nar .char (o_f3 (((((((B (30 : Int32)) &&& (255 : Int32)) <<< ((16 : Int32) &&& 31)) ||| (((B (31 : Int32)) &&& (255 : Int32)) <<< ((8 : Int32) &&& 31))).toUInt32 >>> ((12 : Int32) &&& 31).toUInt32).toInt32) &&& (63 : Int32)))) else (fun k => if k = (40 : Int32) then (nar .char (o_f3 ((((((B (30 : Int32)) &&& (255 : Int32)) <<< ((16 : Int32) &&& 31)) ||| (((B (31 : Int32)) &&& (255 : Int32)) <<< ((8 : Int32) &&& 31))).toUInt32 >>> ((18 : Int32) &&& 31).toUInt32).toInt32))) else (o_G2_4 (9 : Int32) B G9) k) k) k) := o_Tb.set Ar415 sa415 na415 ha415 W415 ⟨by decide, by decide⟩
 have N415 := Fr.snoc X415 N414 g_b379
 refine o_go st415 ?_
 refine o_gi (XS.aload X415.here hx rfl (hb hby at_418) rfl rfl) ?_
 refine o_gi (XS.bipush X415.here hx rfl (hb hby at_420)) ?_
 refine o_gi (XS.bipush X415.here hx rfl (hb hby at_422)) ?_
 show o_Gs p e below _ T415 m 424 #[o_J y0, o_s, o_J y1, o_s, o_J y2, o_s, o_J y3, o_s, o_J y4, o_s, o_I x5, o_I 1, o_I 32, .val (.long (y2 + y4)), o_s, o_A b371, o_A b378, o_A b379, o_A b380, o_A b379, .val (.int ((((B (30 : Int32)) &&& (255 : Int32)) <<< ((16 : Int32) &&& 31)) ||| (((B (31 : Int32)) &&& (255 : Int32)) <<< ((8 : Int32) &&& 31)))), o_u, o_u] [(.int 61), (.int 43), (.ref b379)]
 obtain ⟨cl416, Ar416, sa416, na416, ha416⟩ := id V415
 obtain ⟨T416, h416, X416, e416, W416, st416⟩ := stC X415 hx hZ e415 Ar416 (j := (43 : Int32)) (inb_of sa416 ⟨by decide, by decide⟩) (g := (mkF m 424 #[o_J y0, o_s, o_J y1, o_s, o_J y2, o_s, o_J y3, o_s, o_J y4, o_s, o_I x5, o_I 1, o_I 32, .val (.long (y2 + y4)), o_s, o_A b371, o_A b378, o_A b379, o_A b380, o_A b379, .val (.int ((((B (30 : Int32)) &&& (255 : Int32)) <<< ((16 : Int32) &&& 31)) ||| (((B (31 : Int32)) &&& (255 : Int32)) <<< ((8 : Int32) &&& 31)))), o_u, o_u] [(.int 61), (.int 43), (.ref b379)])) rfl rfl (hb hby at_424)
 have V416 : o_Tb Z h416 b379 .char (44 : Int32) (fun k => if k = (43 : Int32) then (nar .char (61 : Int32)) else (fun k => if k = (42 : Int32) then (nar .char (o_f3 (((((((B (30 : Int32)) &&& (255 : Int32)) <<< ((16 : Int32) &&& 31)) ||| (((B (31 : Int32)) &&& (255 : Int32)) <<< ((8 : Int32) &&& 31))).toUInt32 >>> ((6 : Int32) &&& 31).toUInt32).toInt32) &&& (63 : Int32)))) else (fun k => if k = (41 : Int32) then (nar .char (o_f3 (((((((B (30 : Int32)) &&& (255 : Int32)) <<< ((16 : Int32) &&& 31)) ||| (((B (31 : Int32)) &&& (255 : Int32)) <<< ((8 : Int32) &&& 31))).toUInt32 >>> ((12 : Int32) &&& 31).toUInt32).toInt32) &&& (63 : Int32)))) else (fun k => if k = (40 : Int32) then (nar .char (o_f3 ((((((B (30 : Int32)) &&& (255 : Int32)) <<< ((16 : Int32) &&& 31)) ||| (((B (31 : Int32)) &&& (255 : Int32)) <<< ((8 : Int32) &&& 31))).toUInt32 >>> ((18 : Int32) &&& 31).toUInt32).toInt32))) else (o_G2_4 (9 : Int32) B G9) k) k) k) k) := o_Tb.set Ar416 sa416 na416 ha416 W416 ⟨by decide, by decide⟩
 have N416 := Fr.snoc X416 N415 g_b379
 refine o_go st416 ?_
 show o_Gs p e below _ T416 m 425 #[o_J y0, o_s, o_J y1, o_s, o_J y2, o_s, o_J y3, o_s, o_J y4, o_s, o_I x5, o_I 1, o_I 32, .val (.long (y2 + y4)), o_s, o_A b371, o_A b378, o_A b379, o_A b380, o_A b379, .val (.int ((((B (30 : Int32)) &&& (255 : Int32)) <<< ((16 : Int32) &&& 31)) ||| (((B (31 : Int32)) &&& (255 : Int32)) <<< ((8 : Int32) &&& 31)))), o_u, o_u] []
 obtain ⟨T417, h417, X417, e417, E417, A417, D417, -, st417⟩ := newO X416 hx hZ hown (hw _ o_t13) (hw _ o_t14) (hw _ o_t15) e416 (g := (mkF m 425 #[o_J y0, o_s, o_J y1, o_s, o_J y2, o_s, o_J y3, o_s, o_J y4, o_s, o_I x5, o_I 1, o_I 32, .val (.long (y2 + y4)), o_s, o_A b371, o_A b378, o_A b379, o_A b380, o_A b379, .val (.int ((((B (30 : Int32)) &&& (255 : Int32)) <<< ((16 : Int32) &&& 31)) ||| (((B (31 : Int32)) &&& (255 : Int32)) <<< ((8 : Int32) &&& 31)))), o_u, o_u] [])) rfl (hb hby at_425) (by decide) (by decide)
 obtain ⟨b417, q417⟩ : ∃ z, z = h416.size := ⟨_, rfl⟩
 rw [← q417] at A417 D417 st417
 have lt_b417 : h416.size ≤ b417 := Nat.le_of_eq q417.symm
 have ne_b371_b417 : b371 ≠ b417 := Nat.ne_of_lt (Nat.lt_of_lt_of_le ((((ff407.other W411 ne_b371_b379).other W413 ne_b371_b379).other W415 ne_b371_b379).other W416 ne_b371_b379).lt lt_b417)
 have ne_b378_b417 : b378 ≠ b417 := Nat.ne_of_lt (Nat.lt_of_lt_of_le ((((((((((((((((V378.ext E379).ext E380).keep K383 (fun z => ne_b378_b379 (List.mem_singleton.mp z))).keep K385 (fun z => ne_b378_b379 (List.mem_singleton.mp z))).keep K387 (fun z => ne_b378_b379 (List.mem_singleton.mp z))).keep K389 (fun z => ne_b378_b379 (List.mem_singleton.mp z))).keep K391 (fun z => ne_b378_b379 (List.mem_singleton.mp z))).keep K394 (fun z => ne_b378_b379 (List.mem_singleton.mp z))).keep K396 (fun z => ne_b378_b379 (List.mem_singleton.mp z))).keep K398 (fun z => ne_b378_b379 (List.mem_singleton.mp z))).keep K400 (fun z => ne_b378_b379 (List.mem_singleton.mp z))).keep K402 (fun z => ne_b378_b379 (List.mem_singleton.mp z))).other W411 ne_b378_b379).other W413 ne_b378_b379).other W415 ne_b378_b379).other W416 ne_b378_b379).lt lt_b417)
 have ne_b379_b417 : b379 ≠ b417 := Nat.ne_of_lt (Nat.lt_of_lt_of_le V416.lt lt_b417)
 have ne_b380_b417 : b380 ≠ b417 := Nat.ne_of_lt (Nat.lt_of_lt_of_le ((((((((((((((V380.keep K383 (fun z => (Ne.symm ne_b379_b380) (List.mem_singleton.mp z))).keep K385 (fun z => (Ne.symm ne_b379_b380) (List.mem_singleton.mp z))).keep K387 (fun z => (Ne.symm ne_b379_b380) (List.mem_singleton.mp z))).keep K389 (fun z => (Ne.symm ne_b379_b380) (List.mem_singleton.mp z))).keep K391 (fun z => (Ne.symm ne_b379_b380) (List.mem_singleton.mp z))).keep K394 (fun z => (Ne.symm ne_b379_b380) (List.mem_singleton.mp z))).keep K396 (fun z => (Ne.symm ne_b379_b380) (List.mem_singleton.mp z))).keep K398 (fun z => (Ne.symm ne_b379_b380) (List.mem_singleton.mp z))).keep K400 (fun z => (Ne.symm ne_b379_b380) (List.mem_singleton.mp z))).keep K402 (fun z => (Ne.symm ne_b379_b380) (List.mem_singleton.mp z))).other W411 (Ne.symm ne_b379_b380)).other W413 (Ne.symm ne_b379_b380)).other W415 (Ne.symm ne_b379_b380)).other W416 (Ne.symm ne_b379_b380)).lt lt_b417)
 have g_b417 : n0 ≤ b417 := Nat.le_trans (Nat.le_trans (Nat.le_trans (Nat.le_trans (Nat.le_trans (Nat.le_trans (Nat.le_trans (Nat.le_trans (Nat.le_trans (Nat.le_trans (Nat.le_trans (Nat.le_trans (Nat.le_trans (Nat.le_trans (Nat.le_trans (Nat.le_trans (Nat.le_trans (Nat.le_trans (Nat.le_trans (Nat.le_trans (Nat.le_trans (Nat.le_trans (Nat.le_trans (Nat.le_trans (Nat.le_trans Z0 E371.1) K372.1) K373.1) K374.1) K375.1) K376.1) K377.1) E378.1) E379.1) E380.1) K383.1) K385.1) K387.1) K389.1) K391.1) K394.1) K396.1) K398.1) K400.1) K402.1) (Keep.of_wr W411).1) (Keep.of_wr W413).1) (Keep.of_wr W415).1) (Keep.of_wr W416).1) lt_b417
 have F417_coder : Fld Z h417 b417 "java/lang/String" "coder" "B" (.int 0) := D417 (Or.inr (hw _ o_t38)) (ty := .byte) (by decide)
 have F417_value : Fld Z h417 b417 "java/lang/String" "value" "[B" .null := D417 (Or.inr (hw _ o_t40)) (ty := (.array .byte)) (by decide)
 refine o_go st417 ?_
 refine o_gi (XS.dup X417.here hx rfl (hb hby at_428) rfl rfl) ?_
 refine o_gi (XS.aload X417.here hx rfl (hb hby at_429) rfl rfl) ?_
 show o_Gs p e below _ T417 m 431 #[o_J y0, o_s, o_J y1, o_s, o_J y2, o_s, o_J y3, o_s, o_J y4, o_s, o_I x5, o_I 1, o_I 32, .val (.long (y2 + y4)), o_s, o_A b371, o_A b378, o_A b379, o_A b380, o_A b379, .val (.int ((((B (30 : Int32)) &&& (255 : Int32)) <<< ((16 : Int32) &&& 31)) ||| (((B (31 : Int32)) &&& (255 : Int32)) <<< ((8 : Int32) &&& 31)))), o_u, o_u] [(.ref b379), (.ref b417), (.ref b417)]
 obtain ⟨GF, q_GF⟩ : ∃ F : Int32 → Int32, F = (fun k => if k = (43 : Int32) then (nar .char (61 : Int32)) else (fun k => if k = (42 : Int32) then (nar .char (o_f3 (((((((B (30 : Int32)) &&& (255 : Int32)) <<< ((16 : Int32) &&& 31)) ||| (((B (31 : Int32)) &&& (255 : Int32)) <<< ((8 : Int32) &&& 31))).toUInt32 >>> ((6 : Int32) &&& 31).toUInt32).toInt32) &&& (63 : Int32)))) else (fun k => if k = (41 : Int32) then (nar .char (o_f3 (((((((B (30 : Int32)) &&& (255 : Int32)) <<< ((16 : Int32) &&& 31)) ||| (((B (31 : Int32)) &&& (255 : Int32)) <<< ((8 : Int32) &&& 31))).toUInt32 >>> ((12 : Int32) &&& 31).toUInt32).toInt32) &&& (63 : Int32)))) else (fun k => if k = (40 : Int32) then (nar .char (o_f3 ((((((B (30 : Int32)) &&& (255 : Int32)) <<< ((16 : Int32) &&& 31)) ||| (((B (31 : Int32)) &&& (255 : Int32)) <<< ((8 : Int32) &&& 31))).toUInt32 >>> ((18 : Int32) &&& 31).toUInt32).toInt32))) else (o_G2_4 (9 : Int32) B G9) k) k) k) k) := ⟨_, rfl⟩
 have V_GF : o_Tb Z h417 b379 .char (44 : Int32) GF := by rw [q_GF]; exact (V416.ext E417)
 have hGG : o_C255 GF := by rw [q_GF]; exact (o_md1 hBy (o_encS (x := (9 : Int32)) rfl (by decide) s_G9)).2 (o_c255S c_G9)
 have hMD : o_Md1 B (o_b8 GF) := by rw [q_GF]; exact (o_md1 hBy (o_encS (x := (9 : Int32)) rfl (by decide) s_G9)).1
 obtain ⟨_, T418, L418, X418, ⟨b418, rfl, N418q, K418, lt_b418, G418_0, G418_1, G418_2, G418_3, G418_4⟩, st418⟩ := o_callI X417 hx hZ rfl hown (hw _ o_t16) (hw _ o_t17) (hw _ o_t15) (hw _ o_t18) (by decide) (b := b417) (as := [(.ref b379)]) (rm4_44 l Z a0 hw [] b417 b379 GF z_cs h417 n0 (Nat.le_trans (Nat.le_trans (Nat.le_trans (Nat.le_trans (Nat.le_trans (Nat.le_trans (Nat.le_trans (Nat.le_trans (Nat.le_trans (Nat.le_trans (Nat.le_trans (Nat.le_trans (Nat.le_trans (Nat.le_trans (Nat.le_trans (Nat.le_trans (Nat.le_trans (Nat.le_trans (Nat.le_trans (Nat.le_trans (Nat.le_trans (Nat.le_trans (Nat.le_trans (Nat.le_trans (Nat.le_trans Z0 E371.1) K372.1) K373.1) K374.1) K375.1) K376.1) K377.1) E378.1) E379.1) E380.1) K383.1) K385.1) K387.1) K389.1) K391.1) K394.1) K396.1) K398.1) K400.1) K402.1) (Keep.of_wr W411).1) (Keep.of_wr W413).1) (Keep.of_wr W415).1) (Keep.of_wr W416).1) E417.1) g_b417 (((((((((((((((((((((((((O0.ext E371).keep K372 (allS g_b371 all0)).keep K373 (allS g_b371 all0)).keep K374 (allS g_b371 all0)).keep K375 (allS g_b371 all0)).keep K376 (allS g_b371 all0)).keep K377 (allS g_b371 all0)).ext E378).ext E379).ext E380).keep K383 (allS g_b379 all0)).keep K385 (allS g_b379 all0)).keep K387 (allS g_b379 all0)).keep K389 (allS g_b379 all0)).keep K391 (allS g_b379 all0)).keep K394 (allS g_b379 all0)).keep K396 (allS g_b379 all0)).keep K398 (allS g_b379 all0)).keep K400 (allS g_b379 all0)).keep K402 (allS g_b379 all0)).wr W411 g_b379).wr W413 g_b379).wr W415 g_b379).wr W416 g_b379).ext E417) z_CS A417 F417_value F417_coder V_GF hGG (Ne.symm ne_b379_b417) S_z_cs) e417 o_pd18 rfl (pc := 431) (Ls := #[o_J y0, o_s, o_J y1, o_s, o_J y2, o_s, o_J y3, o_s, o_J y4, o_s, o_I x5, o_I 1, o_I 32, .val (.long (y2 + y4)), o_s, o_A b371, o_A b378, o_A b379, o_A b380, o_A b379, .val (.int ((((B (30 : Int32)) &&& (255 : Int32)) <<< ((16 : Int32) &&& 31)) ||| (((B (31 : Int32)) &&& (255 : Int32)) <<< ((8 : Int32) &&& 31)))), o_u, o_u]) (rest := [(.ref b417)]) (W := 1) (by rw [hml]; rfl) (Nat.le_of_eq rfl) (by decide) (by decide) (hb hby at_431) (by decide) (by decide)
 have N418 := Fr.app N416 N418q
 have ne_b371_b418 : b371 ≠ b418 := Nat.ne_of_lt (Nat.lt_of_lt_of_le (((((ff407.other W411 ne_b371_b379).other W413 ne_b371_b379).other W415 ne_b371_b379).other W416 ne_b371_b379).ext E417).lt lt_b418)
 have ne_b378_b418 : b378 ≠ b418 := Nat.ne_of_lt (Nat.lt_of_lt_of_le (((((((((((((((((V378.ext E379).ext E380).keep K383 (fun z => ne_b378_b379 (List.mem_singleton.mp z))).keep K385 (fun z => ne_b378_b379 (List.mem_singleton.mp z))).keep K387 (fun z => ne_b378_b379 (List.mem_singleton.mp z))).keep K389 (fun z => ne_b378_b379 (List.mem_singleton.mp z))).keep K391 (fun z => ne_b378_b379 (List.mem_singleton.mp z))).keep K394 (fun z => ne_b378_b379 (List.mem_singleton.mp z))).keep K396 (fun z => ne_b378_b379 (List.mem_singleton.mp z))).keep K398 (fun z => ne_b378_b379 (List.mem_singleton.mp z))).keep K400 (fun z => ne_b378_b379 (List.mem_singleton.mp z))).keep K402 (fun z => ne_b378_b379 (List.mem_singleton.mp z))).other W411 ne_b378_b379).other W413 ne_b378_b379).other W415 ne_b378_b379).other W416 ne_b378_b379).ext E417).lt lt_b418)
 have ne_b379_b418 : b379 ≠ b418 := Nat.ne_of_lt (Nat.lt_of_lt_of_le V_GF.lt lt_b418)
 have ne_b380_b418 : b380 ≠ b418 := Nat.ne_of_lt (Nat.lt_of_lt_of_le (((((((((((((((V380.keep K383 (fun z => (Ne.symm ne_b379_b380) (List.mem_singleton.mp z))).keep K385 (fun z => (Ne.symm ne_b379_b380) (List.mem_singleton.mp z))).keep K387 (fun z => (Ne.symm ne_b379_b380) (List.mem_singleton.mp z))).keep K389 (fun z => (Ne.symm ne_b379_b380) (List.mem_singleton.mp z))).keep K391 (fun z => (Ne.symm ne_b379_b380) (List.mem_singleton.mp z))).keep K394 (fun z => (Ne.symm ne_b379_b380) (List.mem_singleton.mp z))).keep K396 (fun z => (Ne.symm ne_b379_b380) (List.mem_singleton.mp z))).keep K398 (fun z => (Ne.symm ne_b379_b380) (List.mem_singleton.mp z))).keep K400 (fun z => (Ne.symm ne_b379_b380) (List.mem_singleton.mp z))).keep K402 (fun z => (Ne.symm ne_b379_b380) (List.mem_singleton.mp z))).other W411 (Ne.symm ne_b379_b380)).other W413 (Ne.symm ne_b379_b380)).other W415 (Ne.symm ne_b379_b380)).other W416 (Ne.symm ne_b379_b380)).ext E417).lt lt_b418)
 have ne_b417_b418 : b417 ≠ b418 := Nat.ne_of_lt (Nat.lt_of_lt_of_le A417.lt lt_b418)
 have g_b418 : n0 ≤ b418 := Nat.le_trans (Nat.le_trans (Nat.le_trans (Nat.le_trans (Nat.le_trans (Nat.le_trans (Nat.le_trans (Nat.le_trans (Nat.le_trans (Nat.le_trans (Nat.le_trans (Nat.le_trans (Nat.le_trans (Nat.le_trans (Nat.le_trans (Nat.le_trans (Nat.le_trans (Nat.le_trans (Nat.le_trans (Nat.le_trans (Nat.le_trans (Nat.le_trans (Nat.le_trans (Nat.le_trans (Nat.le_trans (Nat.le_trans Z0 E371.1) K372.1) K373.1) K374.1) K375.1) K376.1) K377.1) E378.1) E379.1) E380.1) K383.1) K385.1) K387.1) K389.1) K391.1) K394.1) K396.1) K398.1) K400.1) K402.1) (Keep.of_wr W411).1) (Keep.of_wr W413).1) (Keep.of_wr W415).1) (Keep.of_wr W416).1) E417.1) lt_b418
 refine o_go st418 ?_
 refine o_gi (XS.astore X418.here hx rfl (hb hby at_434) rfl rfl (l' := #[o_J y0, o_s, o_J y1, o_s, o_J y2, o_s, o_J y3, o_s, o_J y4, o_s, o_I x5, o_I 1, o_I 32, .val (.long (y2 + y4)), o_s, o_A b371, o_A b378, o_A b379, o_A b380, o_A b379, o_A b417, o_u, o_u]) rfl) ?_
 refine o_gi (XS.aload X418.here hx rfl (hb hby at_436) rfl rfl) ?_
 show o_Gs p e below _ T418 m 438 #[o_J y0, o_s, o_J y1, o_s, o_J y2, o_s, o_J y3, o_s, o_J y4, o_s, o_I x5, o_I 1, o_I 32, .val (.long (y2 + y4)), o_s, o_A b371, o_A b378, o_A b379, o_A b380, o_A b379, o_A b417, o_u, o_u] [(.ref b417)]
 obtain ⟨_, T419, L419, X419, ⟨b419, rfl, N419q, K419, lt_b419, G419_0⟩, st419⟩ := o_callSX X418 hx hZ hown (hw _ o_t41) (hw _ o_t42) (hw _ o_t43) (hw _ o_t44) (by decide) (as := [(.ref b417)]) (rm10_1 l Z a0 hw [] b417 b418 B (o_b8 GF) z_cs s_d s_i s_u s_t T418.heap n0 (Nat.le_trans (Nat.le_trans (Nat.le_trans (Nat.le_trans (Nat.le_trans (Nat.le_trans (Nat.le_trans (Nat.le_trans (Nat.le_trans (Nat.le_trans (Nat.le_trans (Nat.le_trans (Nat.le_trans (Nat.le_trans (Nat.le_trans (Nat.le_trans (Nat.le_trans (Nat.le_trans (Nat.le_trans (Nat.le_trans (Nat.le_trans (Nat.le_trans (Nat.le_trans (Nat.le_trans (Nat.le_trans (Nat.le_trans Z0 E371.1) K372.1) K373.1) K374.1) K375.1) K376.1) K377.1) E378.1) E379.1) E380.1) K383.1) K385.1) K387.1) K389.1) K391.1) K394.1) K396.1) K398.1) K400.1) K402.1) (Keep.of_wr W411).1) (Keep.of_wr W413).1) (Keep.of_wr W415).1) (Keep.of_wr W416).1) E417.1) K418.1) ((((((((((((((((((((((((((O0.ext E371).keep K372 (allS g_b371 all0)).keep K373 (allS g_b371 all0)).keep K374 (allS g_b371 all0)).keep K375 (allS g_b371 all0)).keep K376 (allS g_b371 all0)).keep K377 (allS g_b371 all0)).ext E378).ext E379).ext E380).keep K383 (allS g_b379 all0)).keep K385 (allS g_b379 all0)).keep K387 (allS g_b379 all0)).keep K389 (allS g_b379 all0)).keep K391 (allS g_b379 all0)).keep K394 (allS g_b379 all0)).keep K396 (allS g_b379 all0)).keep K398 (allS g_b379 all0)).keep K400 (allS g_b379 all0)).keep K402 (allS g_b379 all0)).wr W411 g_b379).wr W413 g_b379).wr W415 g_b379).wr W416 g_b379).ext E417).keep K418 (allS g_b417 all0)) z_CS E_d F_u F_m T_t G418_0 G418_2 G418_1 G418_3 G418_4 (o_by8 _) hMD ne_iu ne_b417_b418 S_z_cs S_s_d S_s_i S_s_u S_s_t) rfl o_pd15 rfl (pc := 438) (Ls := #[o_J y0, o_s, o_J y1, o_s, o_J y2, o_s, o_J y3, o_s, o_J y4, o_s, o_I x5, o_I 1, o_I 32, .val (.long (y2 + y4)), o_s, o_A b371, o_A b378, o_A b379, o_A b380, o_A b379, o_A b417, o_u, o_u]) (rest := []) (W := 0) (by rw [hml]; rfl) (Nat.le_of_eq rfl) (by decide) (by decide) (hb hby at_438) (by decide) (by decide)
 have N419 := Fr.app N418 N419q
 have ne_b371_b419 : b371 ≠ b419 := Nat.ne_of_lt (Nat.lt_of_lt_of_le ((((((ff407.other W411 ne_b371_b379).other W413 ne_b371_b379).other W415 ne_b371_b379).other W416 ne_b371_b379).ext E417).keep K418 (fun z => ne_b371_b417 (List.mem_singleton.mp z))).lt lt_b419)
 have ne_b378_b419 : b378 ≠ b419 := Nat.ne_of_lt (Nat.lt_of_lt_of_le ((((((((((((((((((V378.ext E379).ext E380).keep K383 (fun z => ne_b378_b379 (List.mem_singleton.mp z))).keep K385 (fun z => ne_b378_b379 (List.mem_singleton.mp z))).keep K387 (fun z => ne_b378_b379 (List.mem_singleton.mp z))).keep K389 (fun z => ne_b378_b379 (List.mem_singleton.mp z))).keep K391 (fun z => ne_b378_b379 (List.mem_singleton.mp z))).keep K394 (fun z => ne_b378_b379 (List.mem_singleton.mp z))).keep K396 (fun z => ne_b378_b379 (List.mem_singleton.mp z))).keep K398 (fun z => ne_b378_b379 (List.mem_singleton.mp z))).keep K400 (fun z => ne_b378_b379 (List.mem_singleton.mp z))).keep K402 (fun z => ne_b378_b379 (List.mem_singleton.mp z))).other W411 ne_b378_b379).other W413 ne_b378_b379).other W415 ne_b378_b379).other W416 ne_b378_b379).ext E417).keep K418 (fun z => ne_b378_b417 (List.mem_singleton.mp z))).lt lt_b419)
 have ne_b379_b419 : b379 ≠ b419 := Nat.ne_of_lt (Nat.lt_of_lt_of_le (V_GF.keep K418 (fun z => ne_b379_b417 (List.mem_singleton.mp z))).lt lt_b419)
 have ne_b380_b419 : b380 ≠ b419 := Nat.ne_of_lt (Nat.lt_of_lt_of_le ((((((((((((((((V380.keep K383 (fun z => (Ne.symm ne_b379_b380) (List.mem_singleton.mp z))).keep K385 (fun z => (Ne.symm ne_b379_b380) (List.mem_singleton.mp z))).keep K387 (fun z => (Ne.symm ne_b379_b380) (List.mem_singleton.mp z))).keep K389 (fun z => (Ne.symm ne_b379_b380) (List.mem_singleton.mp z))).keep K391 (fun z => (Ne.symm ne_b379_b380) (List.mem_singleton.mp z))).keep K394 (fun z => (Ne.symm ne_b379_b380) (List.mem_singleton.mp z))).keep K396 (fun z => (Ne.symm ne_b379_b380) (List.mem_singleton.mp z))).keep K398 (fun z => (Ne.symm ne_b379_b380) (List.mem_singleton.mp z))).keep K400 (fun z => (Ne.symm ne_b379_b380) (List.mem_singleton.mp z))).keep K402 (fun z => (Ne.symm ne_b379_b380) (List.mem_singleton.mp z))).other W411 (Ne.symm ne_b379_b380)).other W413 (Ne.symm ne_b379_b380)).other W415 (Ne.symm ne_b379_b380)).other W416 (Ne.symm ne_b379_b380)).ext E417).keep K418 (fun z => ne_b380_b417 (List.mem_singleton.mp z))).lt lt_b419)
 have ne_b417_b419 : b417 ≠ b419 := Nat.ne_of_lt (Nat.lt_of_lt_of_le G418_0.lt lt_b419)
 have ne_b418_b419 : b418 ≠ b419 := Nat.ne_of_lt (Nat.lt_of_lt_of_le G418_3.lt lt_b419)
 have g_b419 : n0 ≤ b419 := Nat.le_trans (Nat.le_trans (Nat.le_trans (Nat.le_trans (Nat.le_trans (Nat.le_trans (Nat.le_trans (Nat.le_trans (Nat.le_trans (Nat.le_trans (Nat.le_trans (Nat.le_trans (Nat.le_trans (Nat.le_trans (Nat.le_trans (Nat.le_trans (Nat.le_trans (Nat.le_trans (Nat.le_trans (Nat.le_trans (Nat.le_trans (Nat.le_trans (Nat.le_trans (Nat.le_trans (Nat.le_trans (Nat.le_trans (Nat.le_trans Z0 E371.1) K372.1) K373.1) K374.1) K375.1) K376.1) K377.1) E378.1) E379.1) E380.1) K383.1) K385.1) K387.1) K389.1) K391.1) K394.1) K396.1) K398.1) K400.1) K402.1) (Keep.of_wr W411).1) (Keep.of_wr W413).1) (Keep.of_wr W415).1) (Keep.of_wr W416).1) E417.1) K418.1) lt_b419
 refine o_go st419 ?_
 refine o_gi (XS.astore X419.here hx rfl (hb hby at_441) rfl rfl (l' := #[o_J y0, o_s, o_J y1, o_s, o_J y2, o_s, o_J y3, o_s, o_J y4, o_s, o_I x5, o_I 1, o_I 32, .val (.long (y2 + y4)), o_s, o_A b371, o_A b378, o_A b379, o_A b380, o_A b379, o_A b417, o_A b419, o_u]) rfl) ?_
 refine o_gi (XS.aload X419.here hx rfl (hb hby at_443) rfl rfl) ?_
 show o_Gs p e below _ T419 m 445 #[o_J y0, o_s, o_J y1, o_s, o_J y2, o_s, o_J y3, o_s, o_J y4, o_s, o_I x5, o_I 1, o_I 32, .val (.long (y2 + y4)), o_s, o_A b371, o_A b378, o_A b379, o_A b380, o_A b379, o_A b417, o_A b419, o_u] [(.ref b419)]
 refine o_gi (XS.ifnullNo X419.here hx rfl (hb hby at_445) rfl) ?_
 refine o_gi (XS.aload X419.here hx rfl (hb hby at_448) rfl rfl) ?_
 show o_Gs p e below _ T419 m 450 #[o_J y0, o_s, o_J y1, o_s, o_J y2, o_s, o_J y3, o_s, o_J y4, o_s, o_I x5, o_I 1, o_I 32, .val (.long (y2 + y4)), o_s, o_A b371, o_A b378, o_A b379, o_A b380, o_A b379, o_A b417, o_A b419, o_u] [(.ref b419)]
 obtain ⟨cl420, Ar420, sa420, na420, ha420⟩ := id G419_0
 refine o_go (X419.arraylength hx Ar420.1 (State.isArrayOf_alike hZ.alike Ar420.2.1) (g := (mkF m 450 #[o_J y0, o_s, o_J y1, o_s, o_J y2, o_s, o_J y3, o_s, o_J y4, o_s, o_I x5, o_I 1, o_I 32, .val (.long (y2 + y4)), o_s, o_A b371, o_A b378, o_A b379, o_A b380, o_A b379, o_A b417, o_A b419, o_u] [(.ref b419)])) rfl rfl (hb hby at_450)) ?_
 rw [len_of sa420 na420]
 refine o_gi (XS.iload X419.here hx rfl (hb hby at_451) rfl) ?_
 show o_Gs p e below _ T419 m 453 #[o_J y0, o_s, o_J y1, o_s, o_J y2, o_s, o_J y3, o_s, o_J y4, o_s, o_I x5, o_I 1, o_I 32, .val (.long (y2 + y4)), o_s, o_A b371, o_A b378, o_A b379, o_A b380, o_A b379, o_A b417, o_A b419, o_u] [(.int 32), (.int 32)]
 have hd421 : (32 : Int32) = (32 : Int32) := (by decide)
 refine o_gi (XS.icmpYes X419.here hx rfl (pc0 := 453) (pc' := 458) rfl (hb hby at_453) rfl (teq hd421).1 (by decide) (by decide)) ?_
 refine o_gi (XS.aload X419.here hx rfl (hb hby at_458) rfl rfl) ?_
 refine o_gi (XS.iconst X419.here hx rfl (hb hby at_460)) ?_
 show o_Gs p e below _ T419 m 461 #[o_J y0, o_s, o_J y1, o_s, o_J y2, o_s, o_J y3, o_s, o_J y4, o_s, o_I x5, o_I 1, o_I 32, .val (.long (y2 + y4)), o_s, o_A b371, o_A b378, o_A b379, o_A b380, o_A b379, o_A b417, o_A b419, o_u] [(.int 0), (.ref b419)]
 obtain ⟨_, T422, L422, X422, ⟨rfl, N422q, e422⟩, st422⟩ := o_callS X419 hx hZ hown (hw _ o_t116) (hw _ o_t117) (hw _ o_t4) (hw _ o_t118) (by decide) (as := [(.ref b419), (.int 0)]) (rm22 l Z a0 hw [] b419 (0 : Int32) (32 : Int32) B T419.heap n0 G419_0 (by decide)) rfl o_pd19 rfl (pc := 461) (Ls := #[o_J y0, o_s, o_J y1, o_s, o_J y2, o_s, o_J y3, o_s, o_J y4, o_s, o_I x5, o_I 1, o_I 32, .val (.long (y2 + y4)), o_s, o_A b371, o_A b378, o_A b379, o_A b380, o_A b379, o_A b417, o_A b419, o_u]) (rest := []) (W := 0) (by rw [hml]; rfl) (Nat.le_of_eq rfl) (by decide) (by decide) (hb hby at_461) (by decide) (by decide)
 have N422 := Fr.app N419 N422q
 refine o_go st422 ?_
 refine o_gi (XS.lloadN X422.here hx rfl (hb hby at_464) rfl) ?_
 show o_Gs p e below _ T422 m 465 #[o_J y0, o_s, o_J y1, o_s, o_J y2, o_s, o_J y3, o_s, o_J y4, o_s, o_I x5, o_I 1, o_I 32, .val (.long (y2 + y4)), o_s, o_A b371, o_A b378, o_A b379, o_A b380, o_A b379, o_A b417, o_A b419, o_u] [(.long y0), (.long (o_f22 (0 : Int32) B))]
 refine o_gi (XS.lcmp X422.here hx rfl (hb hby at_465) rfl) ?_
 show o_Gs p e below _ T422 m 466 #[o_J y0, o_s, o_J y1, o_s, o_J y2, o_s, o_J y3, o_s, o_J y4, o_s, o_I x5, o_I 1, o_I 32, .val (.long (y2 + y4)), o_s, o_A b371, o_A b378, o_A b379, o_A b380, o_A b379, o_A b417, o_A b419, o_u] [(.int (lcmpW (o_f22 (0 : Int32) B) y0))]
 have hd423 : (o_f22 (0 : Int32) B) = y0 := (by rw [q_B]; exact ((o_gq (by decide) (by decide)).trans ((o_gq (by decide) (by decide)).trans ((o_gq (by decide) (by decide)).trans ((o_gq (by decide) (by decide)).trans ((o_gq (by decide) (by decide)).trans (o_gp (by decide))))))))
 refine o_gi (XS.ifNo X422.here hx rfl (hb hby at_466) rfl ((if0 _ _).trans (teq ((lw_eq _ _).mpr hd423)).2)) ?_
 refine o_gi (XS.aload X422.here hx rfl (hb hby at_469) rfl rfl) ?_
 refine o_gi (XS.bipush X422.here hx rfl (hb hby at_471)) ?_
 show o_Gs p e below _ T422 m 473 #[o_J y0, o_s, o_J y1, o_s, o_J y2, o_s, o_J y3, o_s, o_J y4, o_s, o_I x5, o_I 1, o_I 32, .val (.long (y2 + y4)), o_s, o_A b371, o_A b378, o_A b379, o_A b380, o_A b379, o_A b417, o_A b419, o_u] [(.int 8), (.ref b419)]
 obtain ⟨_, T424, L424, X424, ⟨rfl, N424q, e424⟩, st424⟩ := o_callS X422 hx hZ hown (hw _ o_t116) (hw _ o_t117) (hw _ o_t4) (hw _ o_t118) (by decide) (as := [(.ref b419), (.int 8)]) (rm22 l Z a0 hw [] b419 (8 : Int32) (32 : Int32) B T419.heap n0 G419_0 (by decide)) e422 o_pd19 rfl (pc := 473) (Ls := #[o_J y0, o_s, o_J y1, o_s, o_J y2, o_s, o_J y3, o_s, o_J y4, o_s, o_I x5, o_I 1, o_I 32, .val (.long (y2 + y4)), o_s, o_A b371, o_A b378, o_A b379, o_A b380, o_A b379, o_A b417, o_A b419, o_u]) (rest := []) (W := 0) (by rw [hml]; rfl) (Nat.le_of_eq rfl) (by decide) (by decide) (hb hby at_473) (by decide) (by decide)
 have N424 := Fr.app N422 N424q
 refine o_go st424 ?_
 refine o_gi (XS.lloadN X424.here hx rfl (hb hby at_476) rfl) ?_
 show o_Gs p e below _ T424 m 477 #[o_J y0, o_s, o_J y1, o_s, o_J y2, o_s, o_J y3, o_s, o_J y4, o_s, o_I x5, o_I 1, o_I 32, .val (.long (y2 + y4)), o_s, o_A b371, o_A b378, o_A b379, o_A b380, o_A b379, o_A b417, o_A b419, o_u] [(.long y1), (.long (o_f22 (8 : Int32) B))]
 refine o_gi (XS.lcmp X424.here hx rfl (hb hby at_477) rfl) ?_
 show o_Gs p e below _ T424 m 478 #[o_J y0, o_s, o_J y1, o_s, o_J y2, o_s, o_J y3, o_s, o_J y4, o_s, o_I x5, o_I 1, o_I 32, .val (.long (y2 + y4)), o_s, o_A b371, o_A b378, o_A b379, o_A b380, o_A b379, o_A b417, o_A b419, o_u] [(.int (lcmpW (o_f22 (8 : Int32) B) y1))]
 have hd425 : (o_f22 (8 : Int32) B) = y1 := (by rw [q_B]; exact ((o_gq (by decide) (by decide)).trans ((o_gq (by decide) (by decide)).trans ((o_gq (by decide) (by decide)).trans ((o_gq (by decide) (by decide)).trans (o_gp (by decide)))))))
 refine o_gi (XS.ifNo X424.here hx rfl (hb hby at_478) rfl ((if0 _ _).trans (teq ((lw_eq _ _).mpr hd425)).2)) ?_
 refine o_gi (XS.iconst X424.here hx rfl (hb hby at_481)) ?_
 refine o_gi (XS.goto X424.here hx rfl (pc0 := 482) (pc' := 486) rfl (hb hby at_482) (by decide) (by decide)) ?_
 refine o_gi (XS.istore X424.here hx rfl (hb hby at_486) rfl (l' := #[o_J y0, o_s, o_J y1, o_s, o_J y2, o_s, o_J y3, o_s, o_J y4, o_s, o_I x5, o_I 1, o_I 32, .val (.long (y2 + y4)), o_s, o_A b371, o_A b378, o_A b379, o_A b380, o_A b379, o_A b417, o_A b419, o_I 1]) rfl) ?_
 refine o_gi (XS.iload X424.here hx rfl (hb hby at_488) rfl) ?_
 refine o_gi (XS.iconst X424.here hx rfl (hb hby at_490)) ?_
 show o_Gs p e below _ T424 m 491 #[o_J y0, o_s, o_J y1, o_s, o_J y2, o_s, o_J y3, o_s, o_J y4, o_s, o_I x5, o_I 1, o_I 32, .val (.long (y2 + y4)), o_s, o_A b371, o_A b378, o_A b379, o_A b380, o_A b379, o_A b417, o_A b419, o_I 1] [(.int 1), (.int 1)]
 have hd426 : ¬ ((1 : Int32) < (1 : Int32)) := (by decide)
 refine o_gi (XS.icmpNo X424.here hx rfl (hb hby at_491) rfl (flt hd426).1) ?_
 refine o_gi (XS.iload X424.here hx rfl (hb hby at_494) rfl) ?_
 show o_Gs p e below _ T424 m 496 #[o_J y0, o_s, o_J y1, o_s, o_J y2, o_s, o_J y3, o_s, o_J y4, o_s, o_I x5, o_I 1, o_I 32, .val (.long (y2 + y4)), o_s, o_A b371, o_A b378, o_A b379, o_A b380, o_A b379, o_A b417, o_A b419, o_I 1] [(.int 1)]
 have hd427 : ¬ ((1 : Int32) = (0 : Int32)) := (by decide)
 refine o_gi (XS.ifNo X424.here hx rfl (hb hby at_496) rfl ((if0 _ _).trans (feq hd427).1)) ?_
 refine o_gi (XS.aload X424.here hx rfl (hb hby at_499) rfl rfl) ?_
 refine o_gi (XS.bipush X424.here hx rfl (hb hby at_501)) ?_
 show o_Gs p e below _ T424 m 503 #[o_J y0, o_s, o_J y1, o_s, o_J y2, o_s, o_J y3, o_s, o_J y4, o_s, o_I x5, o_I 1, o_I 32, .val (.long (y2 + y4)), o_s, o_A b371, o_A b378, o_A b379, o_A b380, o_A b379, o_A b417, o_A b419, o_I 1] [(.int 16), (.ref b419)]
 obtain ⟨_, T428, L428, X428, ⟨rfl, N428q, e428⟩, st428⟩ := o_callS X424 hx hZ hown (hw _ o_t116) (hw _ o_t117) (hw _ o_t4) (hw _ o_t118) (by decide) (as := [(.ref b419), (.int 16)]) (rm22 l Z a0 hw [] b419 (16 : Int32) (32 : Int32) B T419.heap n0 G419_0 (by decide)) e424 o_pd19 rfl (pc := 503) (Ls := #[o_J y0, o_s, o_J y1, o_s, o_J y2, o_s, o_J y3, o_s, o_J y4, o_s, o_I x5, o_I 1, o_I 32, .val (.long (y2 + y4)), o_s, o_A b371, o_A b378, o_A b379, o_A b380, o_A b379, o_A b417, o_A b419, o_I 1]) (rest := []) (W := 0) (by rw [hml]; rfl) (Nat.le_of_eq rfl) (by decide) (by decide) (hb hby at_503) (by decide) (by decide)
 have N428 := Fr.app N424 N428q
 refine o_go st428 ?_
 refine o_gi (XS.lload X428.here hx rfl (hb hby at_506) rfl) ?_
 show o_Gs p e below _ T428 m 508 #[o_J y0, o_s, o_J y1, o_s, o_J y2, o_s, o_J y3, o_s, o_J y4, o_s, o_I x5, o_I 1, o_I 32, .val (.long (y2 + y4)), o_s, o_A b371, o_A b378, o_A b379, o_A b380, o_A b379, o_A b417, o_A b419, o_I 1] [(.long y2), (.long (o_f22 (16 : Int32) B))]
 refine o_gi (XS.lcmp X428.here hx rfl (hb hby at_508) rfl) ?_
 show o_Gs p e below _ T428 m 509 #[o_J y0, o_s, o_J y1, o_s, o_J y2, o_s, o_J y3, o_s, o_J y4, o_s, o_I x5, o_I 1, o_I 32, .val (.long (y2 + y4)), o_s, o_A b371, o_A b378, o_A b379, o_A b380, o_A b379, o_A b417, o_A b419, o_I 1] [(.int (lcmpW (o_f22 (16 : Int32) B) y2))]
 have hd429 : (o_f22 (16 : Int32) B) = y2 := (by rw [q_B]; exact ((o_gq (by decide) (by decide)).trans ((o_gq (by decide) (by decide)).trans ((o_gq (by decide) (by decide)).trans (o_gp (by decide))))))
 refine o_gi (XS.ifNo X428.here hx rfl (hb hby at_509) rfl ((if0 _ _).trans (teq ((lw_eq _ _).mpr hd429)).2)) ?_
 refine o_gi (XS.aload X428.here hx rfl (hb hby at_512) rfl rfl) ?_
 refine o_gi (XS.bipush X428.here hx rfl (hb hby at_514)) ?_
 show o_Gs p e below _ T428 m 516 #[o_J y0, o_s, o_J y1, o_s, o_J y2, o_s, o_J y3, o_s, o_J y4, o_s, o_I x5, o_I 1, o_I 32, .val (.long (y2 + y4)), o_s, o_A b371, o_A b378, o_A b379, o_A b380, o_A b379, o_A b417, o_A b419, o_I 1] [(.int 24), (.ref b419)]
 obtain ⟨_, T430, L430, X430, ⟨rfl, N430q, e430⟩, st430⟩ := o_callS X428 hx hZ hown (hw _ o_t116) (hw _ o_t117) (hw _ o_t4) (hw _ o_t118) (by decide) (as := [(.ref b419), (.int 24)]) (rm22 l Z a0 hw [] b419 (24 : Int32) (32 : Int32) B T419.heap n0 G419_0 (by decide)) e428 o_pd19 rfl (pc := 516) (Ls := #[o_J y0, o_s, o_J y1, o_s, o_J y2, o_s, o_J y3, o_s, o_J y4, o_s, o_I x5, o_I 1, o_I 32, .val (.long (y2 + y4)), o_s, o_A b371, o_A b378, o_A b379, o_A b380, o_A b379, o_A b417, o_A b419, o_I 1]) (rest := []) (W := 0) (by rw [hml]; rfl) (Nat.le_of_eq rfl) (by decide) (by decide) (hb hby at_516) (by decide) (by decide)
 have N430 := Fr.app N428 N430q
 refine o_go st430 ?_
 refine o_gi (XS.lload X430.here hx rfl (hb hby at_519) rfl) ?_
 show o_Gs p e below _ T430 m 521 #[o_J y0, o_s, o_J y1, o_s, o_J y2, o_s, o_J y3, o_s, o_J y4, o_s, o_I x5, o_I 1, o_I 32, .val (.long (y2 + y4)), o_s, o_A b371, o_A b378, o_A b379, o_A b380, o_A b379, o_A b417, o_A b419, o_I 1] [(.long y3), (.long (o_f22 (24 : Int32) B))]
 refine o_gi (XS.lcmp X430.here hx rfl (hb hby at_521) rfl) ?_
 show o_Gs p e below _ T430 m 522 #[o_J y0, o_s, o_J y1, o_s, o_J y2, o_s, o_J y3, o_s, o_J y4, o_s, o_I x5, o_I 1, o_I 32, .val (.long (y2 + y4)), o_s, o_A b371, o_A b378, o_A b379, o_A b380, o_A b379, o_A b417, o_A b419, o_I 1] [(.int (lcmpW (o_f22 (24 : Int32) B) y3))]
 have hd431 : (o_f22 (24 : Int32) B) = y3 := (by rw [q_B]; exact ((o_gq (by decide) (by decide)).trans ((o_gq (by decide) (by decide)).trans (o_gp (by decide)))))
 refine o_gi (XS.ifNo X430.here hx rfl (hb hby at_522) rfl ((if0 _ _).trans (teq ((lw_eq _ _).mpr hd431)).2)) ?_
 refine o_gi (XS.iconst X430.here hx rfl (hb hby at_525)) ?_
 refine o_gi (XS.goto X430.here hx rfl (pc0 := 526) (pc' := 530) rfl (hb hby at_526) (by decide) (by decide)) ?_
 refine o_gi (XS.istore X430.here hx rfl (hb hby at_530) rfl (l' := #[o_J y0, o_s, o_J y1, o_s, o_J y2, o_s, o_J y3, o_s, o_J y4, o_s, o_I x5, o_I 1, o_I 32, .val (.long (y2 + y4)), o_s, o_A b371, o_A b378, o_A b379, o_A b380, o_A b379, o_A b417, o_A b419, o_I 1]) rfl) ?_
 refine o_gi (XS.iload X430.here hx rfl (hb hby at_532) rfl) ?_
 refine o_gi (XS.iconst X430.here hx rfl (hb hby at_534)) ?_
 show o_Gs p e below _ T430 m 535 #[o_J y0, o_s, o_J y1, o_s, o_J y2, o_s, o_J y3, o_s, o_J y4, o_s, o_I x5, o_I 1, o_I 32, .val (.long (y2 + y4)), o_s, o_A b371, o_A b378, o_A b379, o_A b380, o_A b379, o_A b417, o_A b419, o_I 1] [(.int 2), (.int 1)]
 have hd432 : ¬ ((1 : Int32) = (2 : Int32)) := (by decide)
 refine o_gi (XS.icmpYes X430.here hx rfl (pc0 := 535) (pc' := 576) rfl (hb hby at_535) rfl (feq hd432).2 (by decide) (by decide)) ?_
 refine o_gi (XS.iload X430.here hx rfl (hb hby at_576) rfl) ?_
 show o_Gs p e below _ T430 m 578 #[o_J y0, o_s, o_J y1, o_s, o_J y2, o_s, o_J y3, o_s, o_J y4, o_s, o_I x5, o_I 1, o_I 32, .val (.long (y2 + y4)), o_s, o_A b371, o_A b378, o_A b379, o_A b380, o_A b379, o_A b417, o_A b419, o_I 1] [(.int 1)]
 exact o_retN X430 hx hlk hret (by simp) (z' := (1 : Int32)) rfl (hb hby at_578) (by decide) (by decide) ⟨by rw [o_f0_1], N430, trivial⟩
def o_f0_2  : Int32 := (1 : Int32)
def o_Q0_2 (y0 : Int64) (y1 : Int64) (y2 : Int64) (y3 : Int64) (y4 : Int64) (x5 : Int32) (z_cs : Int32) (s_d : Addr) (s_i : Addr) (s_u : Addr) (s_t : Addr) (h0 : Heap) (n0 : Nat) (v : Option Value) (h : Heap) (L : List Loc) : Prop := v = some (.int o_f0_2) ∧ Fr n0 L ∧ True
theorem o_ef0_2 (m : MethodId) (z0 : Int64) (z1 : Int64) (z2 : Int64) (z3 : Int64) (z4 : Int64) (z5 : Int32) : entryFrame m #[(.long z0), (.long z1), (.long z2), (.long z3), (.long z4), (.int z5)] maxLocals = mkF m 0 #[o_J z0, o_s, o_J z1, o_s, o_J z2, o_s, o_J z3, o_s, o_J z4, o_s, o_I z5, o_u, o_u, o_u, o_u, o_u, o_u, o_u, o_u, o_u, o_u, o_u, o_u] [] := by first | (simp [entryFrame, mkF, argsToLocals, Value.category, maxLocals]; done) | rfl
set_option maxRecDepth 65536 in
set_option maxHeartbeats 40000000 in
theorem rm0_2 (l : Launch) (Z : State) (a0 : Array Value) (hw : ∀ d ∈ tables_1, d.before a0 Z = true) (ws : List Jvm.Cond) (y0 : Int64) (y1 : Int64) (y2 : Int64) (y3 : Int64) (y4 : Int64) (x5 : Int32) (z_cs : Int32) (s_d : Addr) (s_i : Addr) (s_u : Addr) (s_t : Addr) (h0 : Heap) (n0 : Nat) (Z0 : n0 ≤ h0.size) (O0 : Old Z n0 h0) (z_CS : ¬ z_cs = 0) (E_d : Exa Z Z.heap s_d "java/util/Base64$Decoder") (F_u : Fld Z Z.heap s_d "java/util/Base64$Decoder" "isURL" "Z" (.int 0)) (F_m : Fld Z Z.heap s_d "java/util/Base64$Decoder" "isMIME" "Z" (.int 0)) (T_t : o_Tb Z Z.heap s_t .int 256 o_b64) (ne_iu : s_i ≠ s_u) (hmd : ((x5 &&& (2147483647 : Int32)) % (3 : Int32)) = (2 : Int32)) (S_z_cs : Sta Z Z.heap "java/lang/String" "COMPACT_STRINGS" "Z" (.int z_cs)) (S_s_d : Sta Z Z.heap "java/util/Base64$Decoder" "RFC4648" "Ljava/util/Base64$Decoder;" (.ref s_d)) (S_s_i : Sta Z Z.heap "sun/nio/cs/ISO_8859_1" "INSTANCE" "Lsun/nio/cs/ISO_8859_1;" (.ref s_i)) (S_s_u : Sta Z Z.heap "sun/nio/cs/UTF_8" "INSTANCE" "Lsun/nio/cs/UTF_8;" (.ref s_u)) (S_s_t : Sta Z Z.heap "java/util/Base64$Decoder" "fromBase64" "[I" (.ref s_t)) : o_Met l Z x code maxLocals ret ws room_1 #[(.long y0), (.long y1), (.long y2), (.long y3), (.long y4), (.int x5)] h0 (o_Q0_2 y0 y1 y2 y3 y4 x5 z_cs s_d s_i s_u s_t h0 n0) := by
 refine o_met (plainFor_of_name o_pn0) ?_
 intro p e s m below meth c s₁ hx hby hml hown hnm hret hlk hZ e0 X0
 have N0 := Fr.nil n0
 have hml : c.maxLocals = 23 := hml
 have hown : s.vm.findClass "com/example/quittance/quittance/dialect/AesCbcBlocksPinLaw" = some m.cls := hown
 have hret : meth.sig.returnType = (some .boolean) := hret
 have hby : c.code = code := hby
 have hnm : meth.name = "law" := hnm
 rw [o_ef0_2]
 refine o_gi (XS.iload X0.here hx rfl (hb hby at_0) rfl) ?_
 show o_Gs p e below _ s₁ m 2 #[o_J y0, o_s, o_J y1, o_s, o_J y2, o_s, o_J y3, o_s, o_J y4, o_s, o_I x5, o_u, o_u, o_u, o_u, o_u, o_u, o_u, o_u, o_u, o_u, o_u, o_u] [(.int x5)]
 refine o_go (X0.ldcInt hx hown (mvT hZ (hw _ o_t0)) (g := (mkF m 2 #[o_J y0, o_s, o_J y1, o_s, o_J y2, o_s, o_J y3, o_s, o_J y4, o_s, o_I x5, o_u, o_u, o_u, o_u, o_u, o_u, o_u, o_u, o_u, o_u, o_u, o_u] [(.int x5)])) rfl (hb hby at_2)) ?_
 show o_Gs p e below _ s₁ m 4 #[o_J y0, o_s, o_J y1, o_s, o_J y2, o_s, o_J y3, o_s, o_J y4, o_s, o_I x5, o_u, o_u, o_u, o_u, o_u, o_u, o_u, o_u, o_u, o_u, o_u, o_u] [(.int 2147483647), (.int x5)]
 refine o_gi (XS.iand X0.here hx rfl (hb hby at_4) rfl) ?_
 refine o_gi (XS.iconst X0.here hx rfl (hb hby at_5)) ?_
 show o_Gs p e below _ s₁ m 6 #[o_J y0, o_s, o_J y1, o_s, o_J y2, o_s, o_J y3, o_s, o_J y4, o_s, o_I x5, o_u, o_u, o_u, o_u, o_u, o_u, o_u, o_u, o_u, o_u, o_u, o_u] [(.int 3), (.int (x5 &&& (2147483647 : Int32)))]
 refine o_gi (iremM X0 hx rfl (hb hby at_6) rfl (by decide)) ?_
 show o_Gs p e below _ s₁ m 7 #[o_J y0, o_s, o_J y1, o_s, o_J y2, o_s, o_J y3, o_s, o_J y4, o_s, o_I x5, o_u, o_u, o_u, o_u, o_u, o_u, o_u, o_u, o_u, o_u, o_u, o_u] [(.int ((x5 &&& (2147483647 : Int32)) % (3 : Int32)))]
 rw [show ((x5 &&& (2147483647 : Int32)) % (3 : Int32)) = (2 : Int32) from hmd]
 refine o_gi (XS.istore X0.here hx rfl (hb hby at_7) rfl (l' := #[o_J y0, o_s, o_J y1, o_s, o_J y2, o_s, o_J y3, o_s, o_J y4, o_s, o_I x5, o_I 2, o_u, o_u, o_u, o_u, o_u, o_u, o_u, o_u, o_u, o_u, o_u]) rfl) ?_
 refine o_gi (XS.bipush X0.here hx rfl (hb hby at_9)) ?_
 refine o_gi (XS.iload X0.here hx rfl (hb hby at_11) rfl) ?_
 refine o_gi (XS.iconst X0.here hx rfl (hb hby at_13)) ?_
 show o_Gs p e below _ s₁ m 14 #[o_J y0, o_s, o_J y1, o_s, o_J y2, o_s, o_J y3, o_s, o_J y4, o_s, o_I x5, o_I 2, o_u, o_u, o_u, o_u, o_u, o_u, o_u, o_u, o_u, o_u, o_u] [(.int 1), (.int 2), (.int 16)]
 refine o_gi (XS.iadd X0.here hx rfl (hb hby at_14) rfl) ?_
 show o_Gs p e below _ s₁ m 15 #[o_J y0, o_s, o_J y1, o_s, o_J y2, o_s, o_J y3, o_s, o_J y4, o_s, o_I x5, o_I 2, o_u, o_u, o_u, o_u, o_u, o_u, o_u, o_u, o_u, o_u, o_u] [(.int ((2 : Int32) + (1 : Int32))), (.int 16)]
 rw [show ((2 : Int32) + (1 : Int32)) = (3 : Int32) from by decide]
 show o_Gs p e below _ s₁ m 15 #[o_J y0, o_s, o_J y1, o_s, o_J y2, o_s, o_J y3, o_s, o_J y4, o_s, o_I x5, o_I 2, o_u, o_u, o_u, o_u, o_u, o_u, o_u, o_u, o_u, o_u, o_u] [(.int 3), (.int 16)]
 refine o_gi (XS.imul X0.here hx rfl (hb hby at_15) rfl) ?_
 show o_Gs p e below _ s₁ m 16 #[o_J y0, o_s, o_J y1, o_s, o_J y2, o_s, o_J y3, o_s, o_J y4, o_s, o_I x5, o_I 2, o_u, o_u, o_u, o_u, o_u, o_u, o_u, o_u, o_u, o_u, o_u] [(.int ((16 : Int32) * (3 : Int32)))]
 rw [show ((16 : Int32) * (3 : Int32)) = (48 : Int32) from by decide]
 refine o_gi (XS.istore X0.here hx rfl (hb hby at_16) rfl (l' := #[o_J y0, o_s, o_J y1, o_s, o_J y2, o_s, o_J y3, o_s, o_J y4, o_s, o_I x5, o_I 2, o_I 48, o_u, o_u, o_u, o_u, o_u, o_u, o_u, o_u, o_u, o_u]) rfl) ?_
 refine o_gi (XS.lload X0.here hx rfl (hb hby at_18) rfl) ?_
 refine o_gi (XS.lload X0.here hx rfl (hb hby at_20) rfl) ?_
 show o_Gs p e below _ s₁ m 22 #[o_J y0, o_s, o_J y1, o_s, o_J y2, o_s, o_J y3, o_s, o_J y4, o_s, o_I x5, o_I 2, o_I 48, o_u, o_u, o_u, o_u, o_u, o_u, o_u, o_u, o_u, o_u] [(.long y4), (.long y2)]
 refine o_gi (XS.ladd X0.here hx rfl (hb hby at_22) rfl) ?_
 refine o_gi (XS.lstore X0.here hx rfl (hb hby at_23) rfl (l' := #[o_J y0, o_s, o_J y1, o_s, o_J y2, o_s, o_J y3, o_s, o_J y4, o_s, o_I x5, o_I 2, o_I 48, .val (.long (y2 + y4)), o_s, o_u, o_u, o_u, o_u, o_u, o_u, o_u, o_u]) rfl) ?_
 refine o_gi (XS.bipush X0.here hx rfl (hb hby at_25)) ?_
 show o_Gs p e below _ s₁ m 27 #[o_J y0, o_s, o_J y1, o_s, o_J y2, o_s, o_J y3, o_s, o_J y4, o_s, o_I x5, o_I 2, o_I 48, .val (.long (y2 + y4)), o_s, o_u, o_u, o_u, o_u, o_u, o_u, o_u, o_u] [(.int 48)]
 obtain ⟨T433, h433, k433, X433, e433, E433, A433, st433⟩ := newP X0 hx hZ (aty := .byte) (hw _ o_t1) e0 (g := (mkF m 27 #[o_J y0, o_s, o_J y1, o_s, o_J y2, o_s, o_J y3, o_s, o_J y4, o_s, o_I x5, o_I 2, o_I 48, .val (.long (y2 + y4)), o_s, o_u, o_u, o_u, o_u, o_u, o_u, o_u, o_u] [(.int 48)])) rfl (hb hby at_27) rfl (by decide) (cap := 48) (by decide) (by decide) (by decide) (by decide)
 obtain ⟨b433, q433⟩ : ∃ z, z = h0.size := ⟨_, rfl⟩
 rw [← q433] at A433 st433
 have lt_b433 : h0.size ≤ b433 := Nat.le_of_eq q433.symm
 have g_b433 : n0 ≤ b433 := Nat.le_trans Z0 lt_b433
 have V433 : o_Tb Z h433 b433 .byte (48 : Int32) (fun _ => 0) := o_Tb.new A433 (by decide) rfl
 refine o_go st433 ?_
 refine o_gi (XS.astore X433.here hx rfl (hb hby at_29) rfl rfl (l' := #[o_J y0, o_s, o_J y1, o_s, o_J y2, o_s, o_J y3, o_s, o_J y4, o_s, o_I x5, o_I 2, o_I 48, .val (.long (y2 + y4)), o_s, o_A b433, o_u, o_u, o_u, o_u, o_u, o_u, o_u]) rfl) ?_
 refine o_gi (XS.aload X433.here hx rfl (hb hby at_31) rfl rfl) ?_
 refine o_gi (XS.iconst X433.here hx rfl (hb hby at_33)) ?_
 refine o_gi (XS.lloadN X433.here hx rfl (hb hby at_34) rfl) ?_
 show o_Gs p e below _ T433 m 35 #[o_J y0, o_s, o_J y1, o_s, o_J y2, o_s, o_J y3, o_s, o_J y4, o_s, o_I x5, o_I 2, o_I 48, .val (.long (y2 + y4)), o_s, o_A b433, o_u, o_u, o_u, o_u, o_u, o_u, o_u] [(.long y0), (.int 0), (.ref b433)]
 obtain ⟨_, T434, L434, X434, ⟨rfl, N434q, K434, G434_0⟩, st434⟩ := o_callS X433 hx hZ hown (hw _ o_t2) (hw _ o_t3) (hw _ o_t4) (hw _ o_t5) (by decide) (as := [(.ref b433), (.int 0), (.long y0)]) (rm1 l Z a0 hw [] b433 (0 : Int32) y0 (48 : Int32) (fun _ => 0) h433 n0 (Nat.le_trans Z0 E433.1) g_b433 V433 (by decide)) e433 o_pd16 rfl (pc := 35) (Ls := #[o_J y0, o_s, o_J y1, o_s, o_J y2, o_s, o_J y3, o_s, o_J y4, o_s, o_I x5, o_I 2, o_I 48, .val (.long (y2 + y4)), o_s, o_A b433, o_u, o_u, o_u, o_u, o_u, o_u, o_u]) (rest := []) (W := 0) (by rw [hml]; rfl) (Nat.le_of_eq rfl) (by decide) (by decide) (hb hby at_35) (by decide) (by decide)
 have N434 := Fr.app N0 N434q
 refine o_go st434 ?_
 refine o_gi (XS.aload X434.here hx rfl (hb hby at_38) rfl rfl) ?_
 refine o_gi (XS.bipush X434.here hx rfl (hb hby at_40)) ?_
 refine o_gi (XS.lloadN X434.here hx rfl (hb hby at_42) rfl) ?_
 show o_Gs p e below _ T434 m 43 #[o_J y0, o_s, o_J y1, o_s, o_J y2, o_s, o_J y3, o_s, o_J y4, o_s, o_I x5, o_I 2, o_I 48, .val (.long (y2 + y4)), o_s, o_A b433, o_u, o_u, o_u, o_u, o_u, o_u, o_u] [(.long y1), (.int 8), (.ref b433)]
 obtain ⟨_, T435, L435, X435, ⟨rfl, N435q, K435, G435_0⟩, st435⟩ := o_callS X434 hx hZ hown (hw _ o_t2) (hw _ o_t3) (hw _ o_t4) (hw _ o_t5) (by decide) (as := [(.ref b433), (.int 8), (.long y1)]) (rm1 l Z a0 hw [] b433 (8 : Int32) y1 (48 : Int32) (o_G1_8 (0 : Int32) y0 (fun _ => 0)) T434.heap n0 (Nat.le_trans (Nat.le_trans Z0 E433.1) K434.1) g_b433 G434_0 (by decide)) rfl o_pd16 rfl (pc := 43) (Ls := #[o_J y0, o_s, o_J y1, o_s, o_J y2, o_s, o_J y3, o_s, o_J y4, o_s, o_I x5, o_I 2, o_I 48, .val (.long (y2 + y4)), o_s, o_A b433, o_u, o_u, o_u, o_u, o_u, o_u, o_u]) (rest := []) (W := 0) (by rw [hml]; rfl) (Nat.le_of_eq rfl) (by decide) (by decide) (hb hby at_43) (by decide) (by decide)
 have N435 := Fr.app N434 N435q
 refine o_go st435 ?_
 refine o_gi (XS.aload X435.here hx rfl (hb hby at_46) rfl rfl) ?_
 refine o_gi (XS.bipush X435.here hx rfl (hb hby at_48)) ?_
 refine o_gi (XS.lload X435.here hx rfl (hb hby at_50) rfl) ?_
 show o_Gs p e below _ T435 m 52 #[o_J y0, o_s, o_J y1, o_s, o_J y2, o_s, o_J y3, o_s, o_J y4, o_s, o_I x5, o_I 2, o_I 48, .val (.long (y2 + y4)), o_s, o_A b433, o_u, o_u, o_u, o_u, o_u, o_u, o_u] [(.long y2), (.int 16), (.ref b433)]
 obtain ⟨_, T436, L436, X436, ⟨rfl, N436q, K436, G436_0⟩, st436⟩ := o_callS X435 hx hZ hown (hw _ o_t2) (hw _ o_t3) (hw _ o_t4) (hw _ o_t5) (by decide) (as := [(.ref b433), (.int 16), (.long y2)]) (rm1 l Z a0 hw [] b433 (16 : Int32) y2 (48 : Int32) (o_G1_8 (8 : Int32) y1 (o_G1_8 (0 : Int32) y0 (fun _ => 0))) T435.heap n0 (Nat.le_trans (Nat.le_trans (Nat.le_trans Z0 E433.1) K434.1) K435.1) g_b433 G435_0 (by decide)) rfl o_pd16 rfl (pc := 52) (Ls := #[o_J y0, o_s, o_J y1, o_s, o_J y2, o_s, o_J y3, o_s, o_J y4, o_s, o_I x5, o_I 2, o_I 48, .val (.long (y2 + y4)), o_s, o_A b433, o_u, o_u, o_u, o_u, o_u, o_u, o_u]) (rest := []) (W := 0) (by rw [hml]; rfl) (Nat.le_of_eq rfl) (by decide) (by decide) (hb hby at_52) (by decide) (by decide)
 have N436 := Fr.app N435 N436q
 refine o_go st436 ?_
 refine o_gi (XS.aload X436.here hx rfl (hb hby at_55) rfl rfl) ?_
 refine o_gi (XS.bipush X436.here hx rfl (hb hby at_57)) ?_
 refine o_gi (XS.lload X436.here hx rfl (hb hby at_59) rfl) ?_
 show o_Gs p e below _ T436 m 61 #[o_J y0, o_s, o_J y1, o_s, o_J y2, o_s, o_J y3, o_s, o_J y4, o_s, o_I x5, o_I 2, o_I 48, .val (.long (y2 + y4)), o_s, o_A b433, o_u, o_u, o_u, o_u, o_u, o_u, o_u] [(.long y3), (.int 24), (.ref b433)]
 obtain ⟨_, T437, L437, X437, ⟨rfl, N437q, K437, G437_0⟩, st437⟩ := o_callS X436 hx hZ hown (hw _ o_t2) (hw _ o_t3) (hw _ o_t4) (hw _ o_t5) (by decide) (as := [(.ref b433), (.int 24), (.long y3)]) (rm1 l Z a0 hw [] b433 (24 : Int32) y3 (48 : Int32) (o_G1_8 (16 : Int32) y2 (o_G1_8 (8 : Int32) y1 (o_G1_8 (0 : Int32) y0 (fun _ => 0)))) T436.heap n0 (Nat.le_trans (Nat.le_trans (Nat.le_trans (Nat.le_trans Z0 E433.1) K434.1) K435.1) K436.1) g_b433 G436_0 (by decide)) rfl o_pd16 rfl (pc := 61) (Ls := #[o_J y0, o_s, o_J y1, o_s, o_J y2, o_s, o_J y3, o_s, o_J y4, o_s, o_I x5, o_I 2, o_I 48, .val (.long (y2 + y4)), o_s, o_A b433, o_u, o_u, o_u, o_u, o_u, o_u, o_u]) (rest := []) (W := 0) (by rw [hml]; rfl) (Nat.le_of_eq rfl) (by decide) (by decide) (hb hby at_61) (by decide) (by decide)
 have N437 := Fr.app N436 N437q
 refine o_go st437 ?_
 refine o_gi (XS.aload X437.here hx rfl (hb hby at_64) rfl rfl) ?_
 refine o_gi (XS.bipush X437.here hx rfl (hb hby at_66)) ?_
 refine o_gi (XS.lload X437.here hx rfl (hb hby at_68) rfl) ?_
 show o_Gs p e below _ T437 m 70 #[o_J y0, o_s, o_J y1, o_s, o_J y2, o_s, o_J y3, o_s, o_J y4, o_s, o_I x5, o_I 2, o_I 48, .val (.long (y2 + y4)), o_s, o_A b433, o_u, o_u, o_u, o_u, o_u, o_u, o_u] [(.long y4), (.int 32), (.ref b433)]
 obtain ⟨_, T438, L438, X438, ⟨rfl, N438q, K438, G438_0⟩, st438⟩ := o_callS X437 hx hZ hown (hw _ o_t2) (hw _ o_t3) (hw _ o_t4) (hw _ o_t5) (by decide) (as := [(.ref b433), (.int 32), (.long y4)]) (rm1 l Z a0 hw [] b433 (32 : Int32) y4 (48 : Int32) (o_G1_8 (24 : Int32) y3 (o_G1_8 (16 : Int32) y2 (o_G1_8 (8 : Int32) y1 (o_G1_8 (0 : Int32) y0 (fun _ => 0))))) T437.heap n0 (Nat.le_trans (Nat.le_trans (Nat.le_trans (Nat.le_trans (Nat.le_trans Z0 E433.1) K434.1) K435.1) K436.1) K437.1) g_b433 G437_0 (by decide)) rfl o_pd16 rfl (pc := 70) (Ls := #[o_J y0, o_s, o_J y1, o_s, o_J y2, o_s, o_J y3, o_s, o_J y4, o_s, o_I x5, o_I 2, o_I 48, .val (.long (y2 + y4)), o_s, o_A b433, o_u, o_u, o_u, o_u, o_u, o_u, o_u]) (rest := []) (W := 0) (by rw [hml]; rfl) (Nat.le_of_eq rfl) (by decide) (by decide) (hb hby at_70) (by decide) (by decide)
 have N438 := Fr.app N437 N438q
 refine o_go st438 ?_
 refine o_gi (XS.aload X438.here hx rfl (hb hby at_73) rfl rfl) ?_
 refine o_gi (XS.bipush X438.here hx rfl (hb hby at_75)) ?_
 refine o_gi (XS.lload X438.here hx rfl (hb hby at_77) rfl) ?_
 show o_Gs p e below _ T438 m 79 #[o_J y0, o_s, o_J y1, o_s, o_J y2, o_s, o_J y3, o_s, o_J y4, o_s, o_I x5, o_I 2, o_I 48, .val (.long (y2 + y4)), o_s, o_A b433, o_u, o_u, o_u, o_u, o_u, o_u, o_u] [(.long (y2 + y4)), (.int 40), (.ref b433)]
 obtain ⟨_, T439, L439, X439, ⟨rfl, N439q, K439, G439_0⟩, st439⟩ := o_callS X438 hx hZ hown (hw _ o_t2) (hw _ o_t3) (hw _ o_t4) (hw _ o_t5) (by decide) (as := [(.ref b433), (.int 40), (.long (y2 + y4))]) (rm1 l Z a0 hw [] b433 (40 : Int32) (y2 + y4) (48 : Int32) (o_G1_8 (32 : Int32) y4 (o_G1_8 (24 : Int32) y3 (o_G1_8 (16 : Int32) y2 (o_G1_8 (8 : Int32) y1 (o_G1_8 (0 : Int32) y0 (fun _ => 0)))))) T438.heap n0 (Nat.le_trans (Nat.le_trans (Nat.le_trans (Nat.le_trans (Nat.le_trans (Nat.le_trans Z0 E433.1) K434.1) K435.1) K436.1) K437.1) K438.1) g_b433 G438_0 (by decide)) rfl o_pd16 rfl (pc := 79) (Ls := #[o_J y0, o_s, o_J y1, o_s, o_J y2, o_s, o_J y3, o_s, o_J y4, o_s, o_I x5, o_I 2, o_I 48, .val (.long (y2 + y4)), o_s, o_A b433, o_u, o_u, o_u, o_u, o_u, o_u, o_u]) (rest := []) (W := 0) (by rw [hml]; rfl) (Nat.le_of_eq rfl) (by decide) (by decide) (hb hby at_79) (by decide) (by decide)
 have N439 := Fr.app N438 N439q
 refine o_go st439 ?_
 refine o_gi (XS.bipush X439.here hx rfl (hb hby at_82)) ?_
 show o_Gs p e below _ T439 m 84 #[o_J y0, o_s, o_J y1, o_s, o_J y2, o_s, o_J y3, o_s, o_J y4, o_s, o_I x5, o_I 2, o_I 48, .val (.long (y2 + y4)), o_s, o_A b433, o_u, o_u, o_u, o_u, o_u, o_u, o_u] [(.int 24)]
 obtain ⟨T440, h440, k440, X440, e440, E440, A440, st440⟩ := newP X439 hx hZ (aty := .char) (hw _ o_t6) rfl (g := (mkF m 84 #[o_J y0, o_s, o_J y1, o_s, o_J y2, o_s, o_J y3, o_s, o_J y4, o_s, o_I x5, o_I 2, o_I 48, .val (.long (y2 + y4)), o_s, o_A b433, o_u, o_u, o_u, o_u, o_u, o_u, o_u] [(.int 24)])) rfl (hb hby at_84) rfl (by decide) (cap := 24) (by decide) (by decide) (by decide) (by decide)
 obtain ⟨b440, q440⟩ : ∃ z, z = T439.heap.size := ⟨_, rfl⟩
 rw [← q440] at A440 st440
 have lt_b440 : T439.heap.size ≤ b440 := Nat.le_of_eq q440.symm
 have ne_b433_b440 : b433 ≠ b440 := Nat.ne_of_lt (Nat.lt_of_lt_of_le G439_0.lt lt_b440)
 have g_b440 : n0 ≤ b440 := Nat.le_trans (Nat.le_trans (Nat.le_trans (Nat.le_trans (Nat.le_trans (Nat.le_trans (Nat.le_trans (Nat.le_trans Z0 E433.1) K434.1) K435.1) K436.1) K437.1) K438.1) K439.1) lt_b440
 have V440 : o_Tb Z h440 b440 .char (24 : Int32) (fun _ => 0) := o_Tb.new A440 (by decide) rfl
 refine o_go st440 ?_
 refine o_gi (XS.astore X440.here hx rfl (hb hby at_86) rfl rfl (l' := #[o_J y0, o_s, o_J y1, o_s, o_J y2, o_s, o_J y3, o_s, o_J y4, o_s, o_I x5, o_I 2, o_I 48, .val (.long (y2 + y4)), o_s, o_A b433, o_A b440, o_u, o_u, o_u, o_u, o_u, o_u]) rfl) ?_
 refine o_gi (XS.bipush X440.here hx rfl (hb hby at_88)) ?_
 show o_Gs p e below _ T440 m 90 #[o_J y0, o_s, o_J y1, o_s, o_J y2, o_s, o_J y3, o_s, o_J y4, o_s, o_I x5, o_I 2, o_I 48, .val (.long (y2 + y4)), o_s, o_A b433, o_A b440, o_u, o_u, o_u, o_u, o_u, o_u] [(.int 44)]
 obtain ⟨T441, h441, k441, X441, e441, E441, A441, st441⟩ := newP X440 hx hZ (aty := .char) (hw _ o_t6) e440 (g := (mkF m 90 #[o_J y0, o_s, o_J y1, o_s, o_J y2, o_s, o_J y3, o_s, o_J y4, o_s, o_I x5, o_I 2, o_I 48, .val (.long (y2 + y4)), o_s, o_A b433, o_A b440, o_u, o_u, o_u, o_u, o_u, o_u] [(.int 44)])) rfl (hb hby at_90) rfl (by decide) (cap := 44) (by decide) (by decide) (by decide) (by decide)
 obtain ⟨b441, q441⟩ : ∃ z, z = h440.size := ⟨_, rfl⟩
 rw [← q441] at A441 st441
 have lt_b441 : h440.size ≤ b441 := Nat.le_of_eq q441.symm
 have ne_b433_b441 : b433 ≠ b441 := Nat.ne_of_lt (Nat.lt_of_lt_of_le (G439_0.ext E440).lt lt_b441)
 have ne_b440_b441 : b440 ≠ b441 := Nat.ne_of_lt (Nat.lt_of_lt_of_le V440.lt lt_b441)
 have g_b441 : n0 ≤ b441 := Nat.le_trans (Nat.le_trans (Nat.le_trans (Nat.le_trans (Nat.le_trans (Nat.le_trans (Nat.le_trans (Nat.le_trans (Nat.le_trans Z0 E433.1) K434.1) K435.1) K436.1) K437.1) K438.1) K439.1) E440.1) lt_b441
 have V441 : o_Tb Z h441 b441 .char (44 : Int32) (fun _ => 0) := o_Tb.new A441 (by decide) rfl
 refine o_go st441 ?_
 refine o_gi (XS.astore X441.here hx rfl (hb hby at_92) rfl rfl (l' := #[o_J y0, o_s, o_J y1, o_s, o_J y2, o_s, o_J y3, o_s, o_J y4, o_s, o_I x5, o_I 2, o_I 48, .val (.long (y2 + y4)), o_s, o_A b433, o_A b440, o_A b441, o_u, o_u, o_u, o_u, o_u]) rfl) ?_
 refine o_gi (XS.bipush X441.here hx rfl (hb hby at_94)) ?_
 show o_Gs p e below _ T441 m 96 #[o_J y0, o_s, o_J y1, o_s, o_J y2, o_s, o_J y3, o_s, o_J y4, o_s, o_I x5, o_I 2, o_I 48, .val (.long (y2 + y4)), o_s, o_A b433, o_A b440, o_A b441, o_u, o_u, o_u, o_u, o_u] [(.int 64)]
 obtain ⟨T442, h442, k442, X442, e442, E442, A442, st442⟩ := newP X441 hx hZ (aty := .char) (hw _ o_t6) e441 (g := (mkF m 96 #[o_J y0, o_s, o_J y1, o_s, o_J y2, o_s, o_J y3, o_s, o_J y4, o_s, o_I x5, o_I 2, o_I 48, .val (.long (y2 + y4)), o_s, o_A b433, o_A b440, o_A b441, o_u, o_u, o_u, o_u, o_u] [(.int 64)])) rfl (hb hby at_96) rfl (by decide) (cap := 64) (by decide) (by decide) (by decide) (by decide)
 obtain ⟨b442, q442⟩ : ∃ z, z = h441.size := ⟨_, rfl⟩
 rw [← q442] at A442 st442
 have lt_b442 : h441.size ≤ b442 := Nat.le_of_eq q442.symm
 have ne_b433_b442 : b433 ≠ b442 := Nat.ne_of_lt (Nat.lt_of_lt_of_le ((G439_0.ext E440).ext E441).lt lt_b442)
 have ne_b440_b442 : b440 ≠ b442 := Nat.ne_of_lt (Nat.lt_of_lt_of_le (V440.ext E441).lt lt_b442)
 have ne_b441_b442 : b441 ≠ b442 := Nat.ne_of_lt (Nat.lt_of_lt_of_le V441.lt lt_b442)
 have g_b442 : n0 ≤ b442 := Nat.le_trans (Nat.le_trans (Nat.le_trans (Nat.le_trans (Nat.le_trans (Nat.le_trans (Nat.le_trans (Nat.le_trans (Nat.le_trans (Nat.le_trans Z0 E433.1) K434.1) K435.1) K436.1) K437.1) K438.1) K439.1) E440.1) E441.1) lt_b442
 have V442 : o_Tb Z h442 b442 .char (64 : Int32) (fun _ => 0) := o_Tb.new A442 (by decide) rfl
 refine o_go st442 ?_
 refine o_gi (XS.astore X442.here hx rfl (hb hby at_98) rfl rfl (l' := #[o_J y0, o_s, o_J y1, o_s, o_J y2, o_s, o_J y3, o_s, o_J y4, o_s, o_I x5, o_I 2, o_I 48, .val (.long (y2 + y4)), o_s, o_A b433, o_A b440, o_A b441, o_A b442, o_u, o_u, o_u, o_u]) rfl) ?_
 refine o_gi (XS.iload X442.here hx rfl (hb hby at_100) rfl) ?_
 show o_Gs p e below _ T442 m 102 #[o_J y0, o_s, o_J y1, o_s, o_J y2, o_s, o_J y3, o_s, o_J y4, o_s, o_I x5, o_I 2, o_I 48, .val (.long (y2 + y4)), o_s, o_A b433, o_A b440, o_A b441, o_A b442, o_u, o_u, o_u, o_u] [(.int 2)]
 have hd443 : ¬ ((2 : Int32) = (0 : Int32)) := (by decide)
 refine o_gi (XS.ifYes X442.here hx rfl (pc0 := 102) (pc' := 110) rfl (hb hby at_102) rfl ((if0 _ _).trans (feq hd443).2) (by decide) (by decide)) ?_
 refine o_gi (XS.iload X442.here hx rfl (hb hby at_110) rfl) ?_
 refine o_gi (XS.iconst X442.here hx rfl (hb hby at_112)) ?_
 show o_Gs p e below _ T442 m 113 #[o_J y0, o_s, o_J y1, o_s, o_J y2, o_s, o_J y3, o_s, o_J y4, o_s, o_I x5, o_I 2, o_I 48, .val (.long (y2 + y4)), o_s, o_A b433, o_A b440, o_A b441, o_A b442, o_u, o_u, o_u, o_u] [(.int 1), (.int 2)]
 have hd444 : ¬ ((2 : Int32) = (1 : Int32)) := (by decide)
 refine o_gi (XS.icmpYes X442.here hx rfl (pc0 := 113) (pc' := 121) rfl (hb hby at_113) rfl (feq hd444).2 (by decide) (by decide)) ?_
 refine o_gi (XS.aload X442.here hx rfl (hb hby at_121) rfl rfl) ?_
 refine o_gi (XS.astore X442.here hx rfl (hb hby at_123) rfl rfl (l' := #[o_J y0, o_s, o_J y1, o_s, o_J y2, o_s, o_J y3, o_s, o_J y4, o_s, o_I x5, o_I 2, o_I 48, .val (.long (y2 + y4)), o_s, o_A b433, o_A b440, o_A b441, o_A b442, o_A b442, o_u, o_u, o_u]) rfl) ?_
 refine o_gi (XS.aload X442.here hx rfl (hb hby at_125) rfl rfl) ?_
 refine o_gi (XS.aload X442.here hx rfl (hb hby at_127) rfl rfl) ?_
 refine o_gi (XS.iconst X442.here hx rfl (hb hby at_129)) ?_
 show o_Gs p e below _ T442 m 130 #[o_J y0, o_s, o_J y1, o_s, o_J y2, o_s, o_J y3, o_s, o_J y4, o_s, o_I x5, o_I 2, o_I 48, .val (.long (y2 + y4)), o_s, o_A b433, o_A b440, o_A b441, o_A b442, o_A b442, o_u, o_u, o_u] [(.int 0), (.ref b442), (.ref b433)]
 have ff446 : o_Tb Z h442 b433 .byte (48 : Int32) (o_G1_8 (40 : Int32) (y2 + y4) (o_G1_8 (32 : Int32) y4 (o_G1_8 (24 : Int32) y3 (o_G1_8 (16 : Int32) y2 (o_G1_8 (8 : Int32) y1 (o_G1_8 (0 : Int32) y0 (fun _ => 0))))))) := (((G439_0.ext E440).ext E441).ext E442)
 obtain ⟨B, q_B⟩ : ∃ F : Int32 → Int32, F = (o_G1_8 (40 : Int32) (y2 + y4) (o_G1_8 (32 : Int32) y4 (o_G1_8 (24 : Int32) y3 (o_G1_8 (16 : Int32) y2 (o_G1_8 (8 : Int32) y1 (o_G1_8 (0 : Int32) y0 (fun _ => 0))))))) := ⟨_, rfl⟩
 have V_B : o_Tb Z h442 b433 .byte (48 : Int32) B := by rw [q_B]; exact ff446
 have hBy : o_By B := by rw [q_B]; exact o_byP (o_byP (o_byP (o_byP (o_byP (o_byP (o_by0))))))
 obtain ⟨G0, q_G0⟩ : ∃ F : Int32 → Int32, F = (fun _ => 0) := ⟨_, rfl⟩
 have V_G0 : o_Tb Z h442 b442 .char (64 : Int32) G0 := by rw [q_G0]; exact V442
 have s_G0 : o_Enc B 0 G0 := o_enc0 _ _
 have c_G0 : o_C255 G0 := by rw [q_G0]; exact o_c0
 obtain ⟨_, T445, L445, X445, ⟨rfl, N445q, K445, G445_0⟩, st445⟩ := o_callS X442 hx hZ hown (hw _ o_t7) (hw _ o_t8) (hw _ o_t4) (hw _ o_t9) (by decide) (as := [(.ref b433), (.ref b442), (.int 0)]) (rm2 l Z a0 hw [] b433 b442 (0 : Int32) (64 : Int32) B G0 h442 n0 (Nat.le_trans (Nat.le_trans (Nat.le_trans (Nat.le_trans (Nat.le_trans (Nat.le_trans (Nat.le_trans (Nat.le_trans (Nat.le_trans (Nat.le_trans Z0 E433.1) K434.1) K435.1) K436.1) K437.1) K438.1) K439.1) E440.1) E441.1) E442.1) g_b442 V_B V_G0 ne_b433_b442 (by decide)) e442 o_pd17 rfl (pc := 130) (Ls := #[o_J y0, o_s, o_J y1, o_s, o_J y2, o_s, o_J y3, o_s, o_J y4, o_s, o_I x5, o_I 2, o_I 48, .val (.long (y2 + y4)), o_s, o_A b433, o_A b440, o_A b441, o_A b442, o_A b442, o_u, o_u, o_u]) (rest := []) (W := 0) (by rw [hml]; rfl) (Nat.le_of_eq rfl) (by decide) (by decide) (hb hby at_130) (by decide) (by decide)
 have N445 := Fr.app N439 N445q
 refine o_go st445 ?_
 refine o_gi (XS.aload X445.here hx rfl (hb hby at_133) rfl rfl) ?_
 refine o_gi (XS.aload X445.here hx rfl (hb hby at_135) rfl rfl) ?_
 refine o_gi (XS.iconst X445.here hx rfl (hb hby at_137)) ?_
 show o_Gs p e below _ T445 m 138 #[o_J y0, o_s, o_J y1, o_s, o_J y2, o_s, o_J y3, o_s, o_J y4, o_s, o_I x5, o_I 2, o_I 48, .val (.long (y2 + y4)), o_s, o_A b433, o_A b440, o_A b441, o_A b442, o_A b442, o_u, o_u, o_u] [(.int 1), (.ref b442), (.ref b433)]
 obtain ⟨G1, q_G1⟩ : ∃ F : Int32 → Int32, F = (o_G2_4 (0 : Int32) B G0) := ⟨_, rfl⟩
 have V_G1 : o_Tb Z T445.heap b442 .char (64 : Int32) G1 := by rw [q_G1]; exact G445_0
 have s_G1 : o_Enc B 1 G1 := by rw [q_G1]; exact o_encS rfl (by decide) s_G0
 have c_G1 : o_C255 G1 := by rw [q_G1]; exact o_c255S c_G0
 have ff448 : o_Tb Z T445.heap b433 .byte (48 : Int32) B := (V_B.keep K445 (fun z => ne_b433_b442 (List.mem_singleton.mp z)))
 obtain ⟨_, T447, L447, X447, ⟨rfl, N447q, K447, G447_0⟩, st447⟩ := o_callS X445 hx hZ hown (hw _ o_t7) (hw _ o_t8) (hw _ o_t4) (hw _ o_t9) (by decide) (as := [(.ref b433), (.ref b442), (.int 1)]) (rm2 l Z a0 hw [] b433 b442 (1 : Int32) (64 : Int32) B G1 T445.heap n0 (Nat.le_trans (Nat.le_trans (Nat.le_trans (Nat.le_trans (Nat.le_trans (Nat.le_trans (Nat.le_trans (Nat.le_trans (Nat.le_trans (Nat.le_trans (Nat.le_trans Z0 E433.1) K434.1) K435.1) K436.1) K437.1) K438.1) K439.1) E440.1) E441.1) E442.1) K445.1) g_b442 ff448 V_G1 ne_b433_b442 (by decide)) rfl o_pd17 rfl (pc := 138) (Ls := #[o_J y0, o_s, o_J y1, o_s, o_J y2, o_s, o_J y3, o_s, o_J y4, o_s, o_I x5, o_I 2, o_I 48, .val (.long (y2 + y4)), o_s, o_A b433, o_A b440, o_A b441, o_A b442, o_A b442, o_u, o_u, o_u]) (rest := []) (W := 0) (by rw [hml]; rfl) (Nat.le_of_eq rfl) (by decide) (by decide) (hb hby at_138) (by decide) (by decide)
 have N447 := Fr.app N445 N447q
 refine o_go st447 ?_
 refine o_gi (XS.aload X447.here hx rfl (hb hby at_141) rfl rfl) ?_
 refine o_gi (XS.aload X447.here hx rfl (hb hby at_143) rfl rfl) ?_
 refine o_gi (XS.iconst X447.here hx rfl (hb hby at_145)) ?_
 show o_Gs p e below _ T447 m 146 #[o_J y0, o_s, o_J y1, o_s, o_J y2, o_s, o_J y3, o_s, o_J y4, o_s, o_I x5, o_I 2, o_I 48, .val (.long (y2 + y4)), o_s, o_A b433, o_A b440, o_A b441, o_A b442, o_A b442, o_u, o_u, o_u] [(.int 2), (.ref b442), (.ref b433)]
 obtain ⟨G2, q_G2⟩ : ∃ F : Int32 → Int32, F = (o_G2_4 (1 : Int32) B G1) := ⟨_, rfl⟩
 have V_G2 : o_Tb Z T447.heap b442 .char (64 : Int32) G2 := by rw [q_G2]; exact G447_0
 have s_G2 : o_Enc B 2 G2 := by rw [q_G2]; exact o_encS rfl (by decide) s_G1
 have c_G2 : o_C255 G2 := by rw [q_G2]; exact o_c255S c_G1
 have ff450 : o_Tb Z T447.heap b433 .byte (48 : Int32) B := (ff448.keep K447 (fun z => ne_b433_b442 (List.mem_singleton.mp z)))
 obtain ⟨_, T449, L449, X449, ⟨rfl, N449q, K449, G449_0⟩, st449⟩ := o_callS X447 hx hZ hown (hw _ o_t7) (hw _ o_t8) (hw _ o_t4) (hw _ o_t9) (by decide) (as := [(.ref b433), (.ref b442), (.int 2)]) (rm2 l Z a0 hw [] b433 b442 (2 : Int32) (64 : Int32) B G2 T447.heap n0 (Nat.le_trans (Nat.le_trans (Nat.le_trans (Nat.le_trans (Nat.le_trans (Nat.le_trans (Nat.le_trans (Nat.le_trans (Nat.le_trans (Nat.le_trans (Nat.le_trans (Nat.le_trans Z0 E433.1) K434.1) K435.1) K436.1) K437.1) K438.1) K439.1) E440.1) E441.1) E442.1) K445.1) K447.1) g_b442 ff450 V_G2 ne_b433_b442 (by decide)) rfl o_pd17 rfl (pc := 146) (Ls := #[o_J y0, o_s, o_J y1, o_s, o_J y2, o_s, o_J y3, o_s, o_J y4, o_s, o_I x5, o_I 2, o_I 48, .val (.long (y2 + y4)), o_s, o_A b433, o_A b440, o_A b441, o_A b442, o_A b442, o_u, o_u, o_u]) (rest := []) (W := 0) (by rw [hml]; rfl) (Nat.le_of_eq rfl) (by decide) (by decide) (hb hby at_146) (by decide) (by decide)
 have N449 := Fr.app N447 N449q
 refine o_go st449 ?_
 refine o_gi (XS.aload X449.here hx rfl (hb hby at_149) rfl rfl) ?_
 refine o_gi (XS.aload X449.here hx rfl (hb hby at_151) rfl rfl) ?_
 refine o_gi (XS.iconst X449.here hx rfl (hb hby at_153)) ?_
 show o_Gs p e below _ T449 m 154 #[o_J y0, o_s, o_J y1, o_s, o_J y2, o_s, o_J y3, o_s, o_J y4, o_s, o_I x5, o_I 2, o_I 48, .val (.long (y2 + y4)), o_s, o_A b433, o_A b440, o_A b441, o_A b442, o_A b442, o_u, o_u, o_u] [(.int 3), (.ref b442), (.ref b433)]
 obtain ⟨G3, q_G3⟩ : ∃ F : Int32 → Int32, F = (o_G2_4 (2 : Int32) B G2) := ⟨_, rfl⟩
 have V_G3 : o_Tb Z T449.heap b442 .char (64 : Int32) G3 := by rw [q_G3]; exact G449_0
 have s_G3 : o_Enc B 3 G3 := by rw [q_G3]; exact o_encS rfl (by decide) s_G2
 have c_G3 : o_C255 G3 := by rw [q_G3]; exact o_c255S c_G2
 have ff452 : o_Tb Z T449.heap b433 .byte (48 : Int32) B := (ff450.keep K449 (fun z => ne_b433_b442 (List.mem_singleton.mp z)))
 obtain ⟨_, T451, L451, X451, ⟨rfl, N451q, K451, G451_0⟩, st451⟩ := o_callS X449 hx hZ hown (hw _ o_t7) (hw _ o_t8) (hw _ o_t4) (hw _ o_t9) (by decide) (as := [(.ref b433), (.ref b442), (.int 3)]) (rm2 l Z a0 hw [] b433 b442 (3 : Int32) (64 : Int32) B G3 T449.heap n0 (Nat.le_trans (Nat.le_trans (Nat.le_trans (Nat.le_trans (Nat.le_trans (Nat.le_trans (Nat.le_trans (Nat.le_trans (Nat.le_trans (Nat.le_trans (Nat.le_trans (Nat.le_trans (Nat.le_trans Z0 E433.1) K434.1) K435.1) K436.1) K437.1) K438.1) K439.1) E440.1) E441.1) E442.1) K445.1) K447.1) K449.1) g_b442 ff452 V_G3 ne_b433_b442 (by decide)) rfl o_pd17 rfl (pc := 154) (Ls := #[o_J y0, o_s, o_J y1, o_s, o_J y2, o_s, o_J y3, o_s, o_J y4, o_s, o_I x5, o_I 2, o_I 48, .val (.long (y2 + y4)), o_s, o_A b433, o_A b440, o_A b441, o_A b442, o_A b442, o_u, o_u, o_u]) (rest := []) (W := 0) (by rw [hml]; rfl) (Nat.le_of_eq rfl) (by decide) (by decide) (hb hby at_154) (by decide) (by decide)
 have N451 := Fr.app N449 N451q
 refine o_go st451 ?_
 refine o_gi (XS.aload X451.here hx rfl (hb hby at_157) rfl rfl) ?_
 refine o_gi (XS.aload X451.here hx rfl (hb hby at_159) rfl rfl) ?_
 refine o_gi (XS.iconst X451.here hx rfl (hb hby at_161)) ?_
 show o_Gs p e below _ T451 m 162 #[o_J y0, o_s, o_J y1, o_s, o_J y2, o_s, o_J y3, o_s, o_J y4, o_s, o_I x5, o_I 2, o_I 48, .val (.long (y2 + y4)), o_s, o_A b433, o_A b440, o_A b441, o_A b442, o_A b442, o_u, o_u, o_u] [(.int 4), (.ref b442), (.ref b433)]
 obtain ⟨G4, q_G4⟩ : ∃ F : Int32 → Int32, F = (o_G2_4 (3 : Int32) B G3) := ⟨_, rfl⟩
 have V_G4 : o_Tb Z T451.heap b442 .char (64 : Int32) G4 := by rw [q_G4]; exact G451_0
 have s_G4 : o_Enc B 4 G4 := by rw [q_G4]; exact o_encS rfl (by decide) s_G3
 have c_G4 : o_C255 G4 := by rw [q_G4]; exact o_c255S c_G3
 have ff454 : o_Tb Z T451.heap b433 .byte (48 : Int32) B := (ff452.keep K451 (fun z => ne_b433_b442 (List.mem_singleton.mp z)))
 obtain ⟨_, T453, L453, X453, ⟨rfl, N453q, K453, G453_0⟩, st453⟩ := o_callS X451 hx hZ hown (hw _ o_t7) (hw _ o_t8) (hw _ o_t4) (hw _ o_t9) (by decide) (as := [(.ref b433), (.ref b442), (.int 4)]) (rm2 l Z a0 hw [] b433 b442 (4 : Int32) (64 : Int32) B G4 T451.heap n0 (Nat.le_trans (Nat.le_trans (Nat.le_trans (Nat.le_trans (Nat.le_trans (Nat.le_trans (Nat.le_trans (Nat.le_trans (Nat.le_trans (Nat.le_trans (Nat.le_trans (Nat.le_trans (Nat.le_trans (Nat.le_trans Z0 E433.1) K434.1) K435.1) K436.1) K437.1) K438.1) K439.1) E440.1) E441.1) E442.1) K445.1) K447.1) K449.1) K451.1) g_b442 ff454 V_G4 ne_b433_b442 (by decide)) rfl o_pd17 rfl (pc := 162) (Ls := #[o_J y0, o_s, o_J y1, o_s, o_J y2, o_s, o_J y3, o_s, o_J y4, o_s, o_I x5, o_I 2, o_I 48, .val (.long (y2 + y4)), o_s, o_A b433, o_A b440, o_A b441, o_A b442, o_A b442, o_u, o_u, o_u]) (rest := []) (W := 0) (by rw [hml]; rfl) (Nat.le_of_eq rfl) (by decide) (by decide) (hb hby at_162) (by decide) (by decide)
 have N453 := Fr.app N451 N453q
 refine o_go st453 ?_
 refine o_gi (XS.iload X453.here hx rfl (hb hby at_165) rfl) ?_
 refine o_gi (XS.iconst X453.here hx rfl (hb hby at_167)) ?_
 show o_Gs p e below _ T453 m 168 #[o_J y0, o_s, o_J y1, o_s, o_J y2, o_s, o_J y3, o_s, o_J y4, o_s, o_I x5, o_I 2, o_I 48, .val (.long (y2 + y4)), o_s, o_A b433, o_A b440, o_A b441, o_A b442, o_A b442, o_u, o_u, o_u] [(.int 1), (.int 2)]
 have hd455 : ¬ ((2 : Int32) < (1 : Int32)) := (by decide)
 refine o_gi (XS.icmpNo X453.here hx rfl (hb hby at_168) rfl (flt hd455).1) ?_
 refine o_gi (XS.aload X453.here hx rfl (hb hby at_171) rfl rfl) ?_
 refine o_gi (XS.aload X453.here hx rfl (hb hby at_173) rfl rfl) ?_
 refine o_gi (XS.iconst X453.here hx rfl (hb hby at_175)) ?_
 show o_Gs p e below _ T453 m 176 #[o_J y0, o_s, o_J y1, o_s, o_J y2, o_s, o_J y3, o_s, o_J y4, o_s, o_I x5, o_I 2, o_I 48, .val (.long (y2 + y4)), o_s, o_A b433, o_A b440, o_A b441, o_A b442, o_A b442, o_u, o_u, o_u] [(.int 5), (.ref b442), (.ref b433)]
 obtain ⟨G5, q_G5⟩ : ∃ F : Int32 → Int32, F = (o_G2_4 (4 : Int32) B G4) := ⟨_, rfl⟩
 have V_G5 : o_Tb Z T453.heap b442 .char (64 : Int32) G5 := by rw [q_G5]; exact G453_0
 have s_G5 : o_Enc B 5 G5 := by rw [q_G5]; exact o_encS rfl (by decide) s_G4
 have c_G5 : o_C255 G5 := by rw [q_G5]; exact o_c255S c_G4
 have ff457 : o_Tb Z T453.heap b433 .byte (48 : Int32) B := (ff454.keep K453 (fun z => ne_b433_b442 (List.mem_singleton.mp z)))
 obtain ⟨_, T456, L456, X456, ⟨rfl, N456q, K456, G456_0⟩, st456⟩ := o_callS X453 hx hZ hown (hw _ o_t7) (hw _ o_t8) (hw _ o_t4) (hw _ o_t9) (by decide) (as := [(.ref b433), (.ref b442), (.int 5)]) (rm2 l Z a0 hw [] b433 b442 (5 : Int32) (64 : Int32) B G5 T453.heap n0 (Nat.le_trans (Nat.le_trans (Nat.le_trans (Nat.le_trans (Nat.le_trans (Nat.le_trans (Nat.le_trans (Nat.le_trans (Nat.le_trans (Nat.le_trans (Nat.le_trans (Nat.le_trans (Nat.le_trans (Nat.le_trans (Nat.le_trans Z0 E433.1) K434.1) K435.1) K436.1) K437.1) K438.1) K439.1) E440.1) E441.1) E442.1) K445.1) K447.1) K449.1) K451.1) K453.1) g_b442 ff457 V_G5 ne_b433_b442 (by decide)) rfl o_pd17 rfl (pc := 176) (Ls := #[o_J y0, o_s, o_J y1, o_s, o_J y2, o_s, o_J y3, o_s, o_J y4, o_s, o_I x5, o_I 2, o_I 48, .val (.long (y2 + y4)), o_s, o_A b433, o_A b440, o_A b441, o_A b442, o_A b442, o_u, o_u, o_u]) (rest := []) (W := 0) (by rw [hml]; rfl) (Nat.le_of_eq rfl) (by decide) (by decide) (hb hby at_176) (by decide) (by decide)
 have N456 := Fr.app N453 N456q
 refine o_go st456 ?_
 refine o_gi (XS.aload X456.here hx rfl (hb hby at_179) rfl rfl) ?_
 refine o_gi (XS.aload X456.here hx rfl (hb hby at_181) rfl rfl) ?_
 refine o_gi (XS.bipush X456.here hx rfl (hb hby at_183)) ?_
 show o_Gs p e below _ T456 m 185 #[o_J y0, o_s, o_J y1, o_s, o_J y2, o_s, o_J y3, o_s, o_J y4, o_s, o_I x5, o_I 2, o_I 48, .val (.long (y2 + y4)), o_s, o_A b433, o_A b440, o_A b441, o_A b442, o_A b442, o_u, o_u, o_u] [(.int 6), (.ref b442), (.ref b433)]
 obtain ⟨G6, q_G6⟩ : ∃ F : Int32 → Int32, F = (o_G2_4 (5 : Int32) B G5) := ⟨_, rfl⟩
 have V_G6 : o_Tb Z T456.heap b442 .char (64 : Int32) G6 := by rw [q_G6]; exact G456_0
 have s_G6 : o_Enc B 6 G6 := by rw [q_G6]; exact o_encS rfl (by decide) s_G5
 have c_G6 : o_C255 G6 := by rw [q_G6]; exact o_c255S c_G5
 have ff459 : o_Tb Z T456.heap b433 .byte (48 : Int32) B := (ff457.keep K456 (fun z => ne_b433_b442 (List.mem_singleton.mp z)))
 obtain ⟨_, T458, L458, X458, ⟨rfl, N458q, K458, G458_0⟩, st458⟩ := o_callS X456 hx hZ hown (hw _ o_t7) (hw _ o_t8) (hw _ o_t4) (hw _ o_t9) (by decide) (as := [(.ref b433), (.ref b442), (.int 6)]) (rm2 l Z a0 hw [] b433 b442 (6 : Int32) (64 : Int32) B G6 T456.heap n0 (Nat.le_trans (Nat.le_trans (Nat.le_trans (Nat.le_trans (Nat.le_trans (Nat.le_trans (Nat.le_trans (Nat.le_trans (Nat.le_trans (Nat.le_trans (Nat.le_trans (Nat.le_trans (Nat.le_trans (Nat.le_trans (Nat.le_trans (Nat.le_trans Z0 E433.1) K434.1) K435.1) K436.1) K437.1) K438.1) K439.1) E440.1) E441.1) E442.1) K445.1) K447.1) K449.1) K451.1) K453.1) K456.1) g_b442 ff459 V_G6 ne_b433_b442 (by decide)) rfl o_pd17 rfl (pc := 185) (Ls := #[o_J y0, o_s, o_J y1, o_s, o_J y2, o_s, o_J y3, o_s, o_J y4, o_s, o_I x5, o_I 2, o_I 48, .val (.long (y2 + y4)), o_s, o_A b433, o_A b440, o_A b441, o_A b442, o_A b442, o_u, o_u, o_u]) (rest := []) (W := 0) (by rw [hml]; rfl) (Nat.le_of_eq rfl) (by decide) (by decide) (hb hby at_185) (by decide) (by decide)
 have N458 := Fr.app N456 N458q
 refine o_go st458 ?_
 refine o_gi (XS.aload X458.here hx rfl (hb hby at_188) rfl rfl) ?_
 refine o_gi (XS.aload X458.here hx rfl (hb hby at_190) rfl rfl) ?_
 refine o_gi (XS.bipush X458.here hx rfl (hb hby at_192)) ?_
 show o_Gs p e below _ T458 m 194 #[o_J y0, o_s, o_J y1, o_s, o_J y2, o_s, o_J y3, o_s, o_J y4, o_s, o_I x5, o_I 2, o_I 48, .val (.long (y2 + y4)), o_s, o_A b433, o_A b440, o_A b441, o_A b442, o_A b442, o_u, o_u, o_u] [(.int 7), (.ref b442), (.ref b433)]
 obtain ⟨G7, q_G7⟩ : ∃ F : Int32 → Int32, F = (o_G2_4 (6 : Int32) B G6) := ⟨_, rfl⟩
 have V_G7 : o_Tb Z T458.heap b442 .char (64 : Int32) G7 := by rw [q_G7]; exact G458_0
 have s_G7 : o_Enc B 7 G7 := by rw [q_G7]; exact o_encS rfl (by decide) s_G6
 have c_G7 : o_C255 G7 := by rw [q_G7]; exact o_c255S c_G6
 have ff461 : o_Tb Z T458.heap b433 .byte (48 : Int32) B := (ff459.keep K458 (fun z => ne_b433_b442 (List.mem_singleton.mp z)))
 obtain ⟨_, T460, L460, X460, ⟨rfl, N460q, K460, G460_0⟩, st460⟩ := o_callS X458 hx hZ hown (hw _ o_t7) (hw _ o_t8) (hw _ o_t4) (hw _ o_t9) (by decide) (as := [(.ref b433), (.ref b442), (.int 7)]) (rm2 l Z a0 hw [] b433 b442 (7 : Int32) (64 : Int32) B G7 T458.heap n0 (Nat.le_trans (Nat.le_trans (Nat.le_trans (Nat.le_trans (Nat.le_trans (Nat.le_trans (Nat.le_trans (Nat.le_trans (Nat.le_trans (Nat.le_trans (Nat.le_trans (Nat.le_trans (Nat.le_trans (Nat.le_trans (Nat.le_trans (Nat.le_trans (Nat.le_trans Z0 E433.1) K434.1) K435.1) K436.1) K437.1) K438.1) K439.1) E440.1) E441.1) E442.1) K445.1) K447.1) K449.1) K451.1) K453.1) K456.1) K458.1) g_b442 ff461 V_G7 ne_b433_b442 (by decide)) rfl o_pd17 rfl (pc := 194) (Ls := #[o_J y0, o_s, o_J y1, o_s, o_J y2, o_s, o_J y3, o_s, o_J y4, o_s, o_I x5, o_I 2, o_I 48, .val (.long (y2 + y4)), o_s, o_A b433, o_A b440, o_A b441, o_A b442, o_A b442, o_u, o_u, o_u]) (rest := []) (W := 0) (by rw [hml]; rfl) (Nat.le_of_eq rfl) (by decide) (by decide) (hb hby at_194) (by decide) (by decide)
 have N460 := Fr.app N458 N460q
 refine o_go st460 ?_
 refine o_gi (XS.aload X460.here hx rfl (hb hby at_197) rfl rfl) ?_
 refine o_gi (XS.aload X460.here hx rfl (hb hby at_199) rfl rfl) ?_
 refine o_gi (XS.bipush X460.here hx rfl (hb hby at_201)) ?_
 show o_Gs p e below _ T460 m 203 #[o_J y0, o_s, o_J y1, o_s, o_J y2, o_s, o_J y3, o_s, o_J y4, o_s, o_I x5, o_I 2, o_I 48, .val (.long (y2 + y4)), o_s, o_A b433, o_A b440, o_A b441, o_A b442, o_A b442, o_u, o_u, o_u] [(.int 8), (.ref b442), (.ref b433)]
 obtain ⟨G8, q_G8⟩ : ∃ F : Int32 → Int32, F = (o_G2_4 (7 : Int32) B G7) := ⟨_, rfl⟩
 have V_G8 : o_Tb Z T460.heap b442 .char (64 : Int32) G8 := by rw [q_G8]; exact G460_0
 have s_G8 : o_Enc B 8 G8 := by rw [q_G8]; exact o_encS rfl (by decide) s_G7
 have c_G8 : o_C255 G8 := by rw [q_G8]; exact o_c255S c_G7
 have ff463 : o_Tb Z T460.heap b433 .byte (48 : Int32) B := (ff461.keep K460 (fun z => ne_b433_b442 (List.mem_singleton.mp z)))
 obtain ⟨_, T462, L462, X462, ⟨rfl, N462q, K462, G462_0⟩, st462⟩ := o_callS X460 hx hZ hown (hw _ o_t7) (hw _ o_t8) (hw _ o_t4) (hw _ o_t9) (by decide) (as := [(.ref b433), (.ref b442), (.int 8)]) (rm2 l Z a0 hw [] b433 b442 (8 : Int32) (64 : Int32) B G8 T460.heap n0 (Nat.le_trans (Nat.le_trans (Nat.le_trans (Nat.le_trans (Nat.le_trans (Nat.le_trans (Nat.le_trans (Nat.le_trans (Nat.le_trans (Nat.le_trans (Nat.le_trans (Nat.le_trans (Nat.le_trans (Nat.le_trans (Nat.le_trans (Nat.le_trans (Nat.le_trans (Nat.le_trans Z0 E433.1) K434.1) K435.1) K436.1) K437.1) K438.1) K439.1) E440.1) E441.1) E442.1) K445.1) K447.1) K449.1) K451.1) K453.1) K456.1) K458.1) K460.1) g_b442 ff463 V_G8 ne_b433_b442 (by decide)) rfl o_pd17 rfl (pc := 203) (Ls := #[o_J y0, o_s, o_J y1, o_s, o_J y2, o_s, o_J y3, o_s, o_J y4, o_s, o_I x5, o_I 2, o_I 48, .val (.long (y2 + y4)), o_s, o_A b433, o_A b440, o_A b441, o_A b442, o_A b442, o_u, o_u, o_u]) (rest := []) (W := 0) (by rw [hml]; rfl) (Nat.le_of_eq rfl) (by decide) (by decide) (hb hby at_203) (by decide) (by decide)
 have N462 := Fr.app N460 N462q
 refine o_go st462 ?_
 refine o_gi (XS.aload X462.here hx rfl (hb hby at_206) rfl rfl) ?_
 refine o_gi (XS.aload X462.here hx rfl (hb hby at_208) rfl rfl) ?_
 refine o_gi (XS.bipush X462.here hx rfl (hb hby at_210)) ?_
 show o_Gs p e below _ T462 m 212 #[o_J y0, o_s, o_J y1, o_s, o_J y2, o_s, o_J y3, o_s, o_J y4, o_s, o_I x5, o_I 2, o_I 48, .val (.long (y2 + y4)), o_s, o_A b433, o_A b440, o_A b441, o_A b442, o_A b442, o_u, o_u, o_u] [(.int 9), (.ref b442), (.ref b433)]
 obtain ⟨G9, q_G9⟩ : ∃ F : Int32 → Int32, F = (o_G2_4 (8 : Int32) B G8) := ⟨_, rfl⟩
 have V_G9 : o_Tb Z T462.heap b442 .char (64 : Int32) G9 := by rw [q_G9]; exact G462_0
 have s_G9 : o_Enc B 9 G9 := by rw [q_G9]; exact o_encS rfl (by decide) s_G8
 have c_G9 : o_C255 G9 := by rw [q_G9]; exact o_c255S c_G8
 have ff465 : o_Tb Z T462.heap b433 .byte (48 : Int32) B := (ff463.keep K462 (fun z => ne_b433_b442 (List.mem_singleton.mp z)))
 obtain ⟨_, T464, L464, X464, ⟨rfl, N464q, K464, G464_0⟩, st464⟩ := o_callS X462 hx hZ hown (hw _ o_t7) (hw _ o_t8) (hw _ o_t4) (hw _ o_t9) (by decide) (as := [(.ref b433), (.ref b442), (.int 9)]) (rm2 l Z a0 hw [] b433 b442 (9 : Int32) (64 : Int32) B G9 T462.heap n0 (Nat.le_trans (Nat.le_trans (Nat.le_trans (Nat.le_trans (Nat.le_trans (Nat.le_trans (Nat.le_trans (Nat.le_trans (Nat.le_trans (Nat.le_trans (Nat.le_trans (Nat.le_trans (Nat.le_trans (Nat.le_trans (Nat.le_trans (Nat.le_trans (Nat.le_trans (Nat.le_trans (Nat.le_trans Z0 E433.1) K434.1) K435.1) K436.1) K437.1) K438.1) K439.1) E440.1) E441.1) E442.1) K445.1) K447.1) K449.1) K451.1) K453.1) K456.1) K458.1) K460.1) K462.1) g_b442 ff465 V_G9 ne_b433_b442 (by decide)) rfl o_pd17 rfl (pc := 212) (Ls := #[o_J y0, o_s, o_J y1, o_s, o_J y2, o_s, o_J y3, o_s, o_J y4, o_s, o_I x5, o_I 2, o_I 48, .val (.long (y2 + y4)), o_s, o_A b433, o_A b440, o_A b441, o_A b442, o_A b442, o_u, o_u, o_u]) (rest := []) (W := 0) (by rw [hml]; rfl) (Nat.le_of_eq rfl) (by decide) (by decide) (hb hby at_212) (by decide) (by decide)
 have N464 := Fr.app N462 N464q
 refine o_go st464 ?_
 refine o_gi (XS.iload X464.here hx rfl (hb hby at_215) rfl) ?_
 refine o_gi (XS.iconst X464.here hx rfl (hb hby at_217)) ?_
 show o_Gs p e below _ T464 m 218 #[o_J y0, o_s, o_J y1, o_s, o_J y2, o_s, o_J y3, o_s, o_J y4, o_s, o_I x5, o_I 2, o_I 48, .val (.long (y2 + y4)), o_s, o_A b433, o_A b440, o_A b441, o_A b442, o_A b442, o_u, o_u, o_u] [(.int 2), (.int 2)]
 have hd466 : (2 : Int32) = (2 : Int32) := (by decide)
 refine o_gi (XS.icmpNo X464.here hx rfl (hb hby at_218) rfl (teq hd466).2) ?_
 refine o_gi (XS.aload X464.here hx rfl (hb hby at_221) rfl rfl) ?_
 refine o_gi (XS.aload X464.here hx rfl (hb hby at_223) rfl rfl) ?_
 refine o_gi (XS.bipush X464.here hx rfl (hb hby at_225)) ?_
 show o_Gs p e below _ T464 m 227 #[o_J y0, o_s, o_J y1, o_s, o_J y2, o_s, o_J y3, o_s, o_J y4, o_s, o_I x5, o_I 2, o_I 48, .val (.long (y2 + y4)), o_s, o_A b433, o_A b440, o_A b441, o_A b442, o_A b442, o_u, o_u, o_u] [(.int 10), (.ref b442), (.ref b433)]
 obtain ⟨G10, q_G10⟩ : ∃ F : Int32 → Int32, F = (o_G2_4 (9 : Int32) B G9) := ⟨_, rfl⟩
 have V_G10 : o_Tb Z T464.heap b442 .char (64 : Int32) G10 := by rw [q_G10]; exact G464_0
 have s_G10 : o_Enc B 10 G10 := by rw [q_G10]; exact o_encS rfl (by decide) s_G9
 have c_G10 : o_C255 G10 := by rw [q_G10]; exact o_c255S c_G9
 have ff468 : o_Tb Z T464.heap b433 .byte (48 : Int32) B := (ff465.keep K464 (fun z => ne_b433_b442 (List.mem_singleton.mp z)))
 obtain ⟨_, T467, L467, X467, ⟨rfl, N467q, K467, G467_0⟩, st467⟩ := o_callS X464 hx hZ hown (hw _ o_t7) (hw _ o_t8) (hw _ o_t4) (hw _ o_t9) (by decide) (as := [(.ref b433), (.ref b442), (.int 10)]) (rm2 l Z a0 hw [] b433 b442 (10 : Int32) (64 : Int32) B G10 T464.heap n0 (Nat.le_trans (Nat.le_trans (Nat.le_trans (Nat.le_trans (Nat.le_trans (Nat.le_trans (Nat.le_trans (Nat.le_trans (Nat.le_trans (Nat.le_trans (Nat.le_trans (Nat.le_trans (Nat.le_trans (Nat.le_trans (Nat.le_trans (Nat.le_trans (Nat.le_trans (Nat.le_trans (Nat.le_trans (Nat.le_trans Z0 E433.1) K434.1) K435.1) K436.1) K437.1) K438.1) K439.1) E440.1) E441.1) E442.1) K445.1) K447.1) K449.1) K451.1) K453.1) K456.1) K458.1) K460.1) K462.1) K464.1) g_b442 ff468 V_G10 ne_b433_b442 (by decide)) rfl o_pd17 rfl (pc := 227) (Ls := #[o_J y0, o_s, o_J y1, o_s, o_J y2, o_s, o_J y3, o_s, o_J y4, o_s, o_I x5, o_I 2, o_I 48, .val (.long (y2 + y4)), o_s, o_A b433, o_A b440, o_A b441, o_A b442, o_A b442, o_u, o_u, o_u]) (rest := []) (W := 0) (by rw [hml]; rfl) (Nat.le_of_eq rfl) (by decide) (by decide) (hb hby at_227) (by decide) (by decide)
 have N467 := Fr.app N464 N467q
 refine o_go st467 ?_
 refine o_gi (XS.aload X467.here hx rfl (hb hby at_230) rfl rfl) ?_
 refine o_gi (XS.aload X467.here hx rfl (hb hby at_232) rfl rfl) ?_
 refine o_gi (XS.bipush X467.here hx rfl (hb hby at_234)) ?_
 show o_Gs p e below _ T467 m 236 #[o_J y0, o_s, o_J y1, o_s, o_J y2, o_s, o_J y3, o_s, o_J y4, o_s, o_I x5, o_I 2, o_I 48, .val (.long (y2 + y4)), o_s, o_A b433, o_A b440, o_A b441, o_A b442, o_A b442, o_u, o_u, o_u] [(.int 11), (.ref b442), (.ref b433)]
 obtain ⟨G11, q_G11⟩ : ∃ F : Int32 → Int32, F = (o_G2_4 (10 : Int32) B G10) := ⟨_, rfl⟩
 have V_G11 : o_Tb Z T467.heap b442 .char (64 : Int32) G11 := by rw [q_G11]; exact G467_0
 have s_G11 : o_Enc B 11 G11 := by rw [q_G11]; exact o_encS rfl (by decide) s_G10
 have c_G11 : o_C255 G11 := by rw [q_G11]; exact o_c255S c_G10
 have ff470 : o_Tb Z T467.heap b433 .byte (48 : Int32) B := (ff468.keep K467 (fun z => ne_b433_b442 (List.mem_singleton.mp z)))
 obtain ⟨_, T469, L469, X469, ⟨rfl, N469q, K469, G469_0⟩, st469⟩ := o_callS X467 hx hZ hown (hw _ o_t7) (hw _ o_t8) (hw _ o_t4) (hw _ o_t9) (by decide) (as := [(.ref b433), (.ref b442), (.int 11)]) (rm2 l Z a0 hw [] b433 b442 (11 : Int32) (64 : Int32) B G11 T467.heap n0 (Nat.le_trans (Nat.le_trans (Nat.le_trans (Nat.le_trans (Nat.le_trans (Nat.le_trans (Nat.le_trans (Nat.le_trans (Nat.le_trans (Nat.le_trans (Nat.le_trans (Nat.le_trans (Nat.le_trans (Nat.le_trans (Nat.le_trans (Nat.le_trans (Nat.le_trans (Nat.le_trans (Nat.le_trans (Nat.le_trans (Nat.le_trans Z0 E433.1) K434.1) K435.1) K436.1) K437.1) K438.1) K439.1) E440.1) E441.1) E442.1) K445.1) K447.1) K449.1) K451.1) K453.1) K456.1) K458.1) K460.1) K462.1) K464.1) K467.1) g_b442 ff470 V_G11 ne_b433_b442 (by decide)) rfl o_pd17 rfl (pc := 236) (Ls := #[o_J y0, o_s, o_J y1, o_s, o_J y2, o_s, o_J y3, o_s, o_J y4, o_s, o_I x5, o_I 2, o_I 48, .val (.long (y2 + y4)), o_s, o_A b433, o_A b440, o_A b441, o_A b442, o_A b442, o_u, o_u, o_u]) (rest := []) (W := 0) (by rw [hml]; rfl) (Nat.le_of_eq rfl) (by decide) (by decide) (hb hby at_236) (by decide) (by decide)
 have N469 := Fr.app N467 N469q
 refine o_go st469 ?_
 refine o_gi (XS.aload X469.here hx rfl (hb hby at_239) rfl rfl) ?_
 refine o_gi (XS.aload X469.here hx rfl (hb hby at_241) rfl rfl) ?_
 refine o_gi (XS.bipush X469.here hx rfl (hb hby at_243)) ?_
 show o_Gs p e below _ T469 m 245 #[o_J y0, o_s, o_J y1, o_s, o_J y2, o_s, o_J y3, o_s, o_J y4, o_s, o_I x5, o_I 2, o_I 48, .val (.long (y2 + y4)), o_s, o_A b433, o_A b440, o_A b441, o_A b442, o_A b442, o_u, o_u, o_u] [(.int 12), (.ref b442), (.ref b433)]
 obtain ⟨G12, q_G12⟩ : ∃ F : Int32 → Int32, F = (o_G2_4 (11 : Int32) B G11) := ⟨_, rfl⟩
 have V_G12 : o_Tb Z T469.heap b442 .char (64 : Int32) G12 := by rw [q_G12]; exact G469_0
 have s_G12 : o_Enc B 12 G12 := by rw [q_G12]; exact o_encS rfl (by decide) s_G11
 have c_G12 : o_C255 G12 := by rw [q_G12]; exact o_c255S c_G11
 have ff472 : o_Tb Z T469.heap b433 .byte (48 : Int32) B := (ff470.keep K469 (fun z => ne_b433_b442 (List.mem_singleton.mp z)))
 obtain ⟨_, T471, L471, X471, ⟨rfl, N471q, K471, G471_0⟩, st471⟩ := o_callS X469 hx hZ hown (hw _ o_t7) (hw _ o_t8) (hw _ o_t4) (hw _ o_t9) (by decide) (as := [(.ref b433), (.ref b442), (.int 12)]) (rm2 l Z a0 hw [] b433 b442 (12 : Int32) (64 : Int32) B G12 T469.heap n0 (Nat.le_trans (Nat.le_trans (Nat.le_trans (Nat.le_trans (Nat.le_trans (Nat.le_trans (Nat.le_trans (Nat.le_trans (Nat.le_trans (Nat.le_trans (Nat.le_trans (Nat.le_trans (Nat.le_trans (Nat.le_trans (Nat.le_trans (Nat.le_trans (Nat.le_trans (Nat.le_trans (Nat.le_trans (Nat.le_trans (Nat.le_trans (Nat.le_trans Z0 E433.1) K434.1) K435.1) K436.1) K437.1) K438.1) K439.1) E440.1) E441.1) E442.1) K445.1) K447.1) K449.1) K451.1) K453.1) K456.1) K458.1) K460.1) K462.1) K464.1) K467.1) K469.1) g_b442 ff472 V_G12 ne_b433_b442 (by decide)) rfl o_pd17 rfl (pc := 245) (Ls := #[o_J y0, o_s, o_J y1, o_s, o_J y2, o_s, o_J y3, o_s, o_J y4, o_s, o_I x5, o_I 2, o_I 48, .val (.long (y2 + y4)), o_s, o_A b433, o_A b440, o_A b441, o_A b442, o_A b442, o_u, o_u, o_u]) (rest := []) (W := 0) (by rw [hml]; rfl) (Nat.le_of_eq rfl) (by decide) (by decide) (hb hby at_245) (by decide) (by decide)
 have N471 := Fr.app N469 N471q
 refine o_go st471 ?_
 refine o_gi (XS.aload X471.here hx rfl (hb hby at_248) rfl rfl) ?_
 refine o_gi (XS.aload X471.here hx rfl (hb hby at_250) rfl rfl) ?_
 refine o_gi (XS.bipush X471.here hx rfl (hb hby at_252)) ?_
 show o_Gs p e below _ T471 m 254 #[o_J y0, o_s, o_J y1, o_s, o_J y2, o_s, o_J y3, o_s, o_J y4, o_s, o_I x5, o_I 2, o_I 48, .val (.long (y2 + y4)), o_s, o_A b433, o_A b440, o_A b441, o_A b442, o_A b442, o_u, o_u, o_u] [(.int 13), (.ref b442), (.ref b433)]
 obtain ⟨G13, q_G13⟩ : ∃ F : Int32 → Int32, F = (o_G2_4 (12 : Int32) B G12) := ⟨_, rfl⟩
 have V_G13 : o_Tb Z T471.heap b442 .char (64 : Int32) G13 := by rw [q_G13]; exact G471_0
 have s_G13 : o_Enc B 13 G13 := by rw [q_G13]; exact o_encS rfl (by decide) s_G12
 have c_G13 : o_C255 G13 := by rw [q_G13]; exact o_c255S c_G12
 have ff474 : o_Tb Z T471.heap b433 .byte (48 : Int32) B := (ff472.keep K471 (fun z => ne_b433_b442 (List.mem_singleton.mp z)))
 obtain ⟨_, T473, L473, X473, ⟨rfl, N473q, K473, G473_0⟩, st473⟩ := o_callS X471 hx hZ hown (hw _ o_t7) (hw _ o_t8) (hw _ o_t4) (hw _ o_t9) (by decide) (as := [(.ref b433), (.ref b442), (.int 13)]) (rm2 l Z a0 hw [] b433 b442 (13 : Int32) (64 : Int32) B G13 T471.heap n0 (Nat.le_trans (Nat.le_trans (Nat.le_trans (Nat.le_trans (Nat.le_trans (Nat.le_trans (Nat.le_trans (Nat.le_trans (Nat.le_trans (Nat.le_trans (Nat.le_trans (Nat.le_trans (Nat.le_trans (Nat.le_trans (Nat.le_trans (Nat.le_trans (Nat.le_trans (Nat.le_trans (Nat.le_trans (Nat.le_trans (Nat.le_trans (Nat.le_trans (Nat.le_trans Z0 E433.1) K434.1) K435.1) K436.1) K437.1) K438.1) K439.1) E440.1) E441.1) E442.1) K445.1) K447.1) K449.1) K451.1) K453.1) K456.1) K458.1) K460.1) K462.1) K464.1) K467.1) K469.1) K471.1) g_b442 ff474 V_G13 ne_b433_b442 (by decide)) rfl o_pd17 rfl (pc := 254) (Ls := #[o_J y0, o_s, o_J y1, o_s, o_J y2, o_s, o_J y3, o_s, o_J y4, o_s, o_I x5, o_I 2, o_I 48, .val (.long (y2 + y4)), o_s, o_A b433, o_A b440, o_A b441, o_A b442, o_A b442, o_u, o_u, o_u]) (rest := []) (W := 0) (by rw [hml]; rfl) (Nat.le_of_eq rfl) (by decide) (by decide) (hb hby at_254) (by decide) (by decide)
 have N473 := Fr.app N471 N473q
 refine o_go st473 ?_
 refine o_gi (XS.aload X473.here hx rfl (hb hby at_257) rfl rfl) ?_
 refine o_gi (XS.aload X473.here hx rfl (hb hby at_259) rfl rfl) ?_
 refine o_gi (XS.bipush X473.here hx rfl (hb hby at_261)) ?_
 show o_Gs p e below _ T473 m 263 #[o_J y0, o_s, o_J y1, o_s, o_J y2, o_s, o_J y3, o_s, o_J y4, o_s, o_I x5, o_I 2, o_I 48, .val (.long (y2 + y4)), o_s, o_A b433, o_A b440, o_A b441, o_A b442, o_A b442, o_u, o_u, o_u] [(.int 14), (.ref b442), (.ref b433)]
 obtain ⟨G14, q_G14⟩ : ∃ F : Int32 → Int32, F = (o_G2_4 (13 : Int32) B G13) := ⟨_, rfl⟩
 have V_G14 : o_Tb Z T473.heap b442 .char (64 : Int32) G14 := by rw [q_G14]; exact G473_0
 have s_G14 : o_Enc B 14 G14 := by rw [q_G14]; exact o_encS rfl (by decide) s_G13
 have c_G14 : o_C255 G14 := by rw [q_G14]; exact o_c255S c_G13
 have ff476 : o_Tb Z T473.heap b433 .byte (48 : Int32) B := (ff474.keep K473 (fun z => ne_b433_b442 (List.mem_singleton.mp z)))
 obtain ⟨_, T475, L475, X475, ⟨rfl, N475q, K475, G475_0⟩, st475⟩ := o_callS X473 hx hZ hown (hw _ o_t7) (hw _ o_t8) (hw _ o_t4) (hw _ o_t9) (by decide) (as := [(.ref b433), (.ref b442), (.int 14)]) (rm2 l Z a0 hw [] b433 b442 (14 : Int32) (64 : Int32) B G14 T473.heap n0 (Nat.le_trans (Nat.le_trans (Nat.le_trans (Nat.le_trans (Nat.le_trans (Nat.le_trans (Nat.le_trans (Nat.le_trans (Nat.le_trans (Nat.le_trans (Nat.le_trans (Nat.le_trans (Nat.le_trans (Nat.le_trans (Nat.le_trans (Nat.le_trans (Nat.le_trans (Nat.le_trans (Nat.le_trans (Nat.le_trans (Nat.le_trans (Nat.le_trans (Nat.le_trans (Nat.le_trans Z0 E433.1) K434.1) K435.1) K436.1) K437.1) K438.1) K439.1) E440.1) E441.1) E442.1) K445.1) K447.1) K449.1) K451.1) K453.1) K456.1) K458.1) K460.1) K462.1) K464.1) K467.1) K469.1) K471.1) K473.1) g_b442 ff476 V_G14 ne_b433_b442 (by decide)) rfl o_pd17 rfl (pc := 263) (Ls := #[o_J y0, o_s, o_J y1, o_s, o_J y2, o_s, o_J y3, o_s, o_J y4, o_s, o_I x5, o_I 2, o_I 48, .val (.long (y2 + y4)), o_s, o_A b433, o_A b440, o_A b441, o_A b442, o_A b442, o_u, o_u, o_u]) (rest := []) (W := 0) (by rw [hml]; rfl) (Nat.le_of_eq rfl) (by decide) (by decide) (hb hby at_263) (by decide) (by decide)
 have N475 := Fr.app N473 N475q
 refine o_go st475 ?_
 refine o_gi (XS.aload X475.here hx rfl (hb hby at_266) rfl rfl) ?_
 refine o_gi (XS.aload X475.here hx rfl (hb hby at_268) rfl rfl) ?_
 refine o_gi (XS.bipush X475.here hx rfl (hb hby at_270)) ?_
 show o_Gs p e below _ T475 m 272 #[o_J y0, o_s, o_J y1, o_s, o_J y2, o_s, o_J y3, o_s, o_J y4, o_s, o_I x5, o_I 2, o_I 48, .val (.long (y2 + y4)), o_s, o_A b433, o_A b440, o_A b441, o_A b442, o_A b442, o_u, o_u, o_u] [(.int 15), (.ref b442), (.ref b433)]
 obtain ⟨G15, q_G15⟩ : ∃ F : Int32 → Int32, F = (o_G2_4 (14 : Int32) B G14) := ⟨_, rfl⟩
 have V_G15 : o_Tb Z T475.heap b442 .char (64 : Int32) G15 := by rw [q_G15]; exact G475_0
 have s_G15 : o_Enc B 15 G15 := by rw [q_G15]; exact o_encS rfl (by decide) s_G14
 have c_G15 : o_C255 G15 := by rw [q_G15]; exact o_c255S c_G14
 have ff478 : o_Tb Z T475.heap b433 .byte (48 : Int32) B := (ff476.keep K475 (fun z => ne_b433_b442 (List.mem_singleton.mp z)))
 obtain ⟨_, T477, L477, X477, ⟨rfl, N477q, K477, G477_0⟩, st477⟩ := o_callS X475 hx hZ hown (hw _ o_t7) (hw _ o_t8) (hw _ o_t4) (hw _ o_t9) (by decide) (as := [(.ref b433), (.ref b442), (.int 15)]) (rm2 l Z a0 hw [] b433 b442 (15 : Int32) (64 : Int32) B G15 T475.heap n0 (Nat.le_trans (Nat.le_trans (Nat.le_trans (Nat.le_trans (Nat.le_trans (Nat.le_trans (Nat.le_trans (Nat.le_trans (Nat.le_trans (Nat.le_trans (Nat.le_trans (Nat.le_trans (Nat.le_trans (Nat.le_trans (Nat.le_trans (Nat.le_trans (Nat.le_trans (Nat.le_trans (Nat.le_trans (Nat.le_trans (Nat.le_trans (Nat.le_trans (Nat.le_trans (Nat.le_trans (Nat.le_trans Z0 E433.1) K434.1) K435.1) K436.1) K437.1) K438.1) K439.1) E440.1) E441.1) E442.1) K445.1) K447.1) K449.1) K451.1) K453.1) K456.1) K458.1) K460.1) K462.1) K464.1) K467.1) K469.1) K471.1) K473.1) K475.1) g_b442 ff478 V_G15 ne_b433_b442 (by decide)) rfl o_pd17 rfl (pc := 272) (Ls := #[o_J y0, o_s, o_J y1, o_s, o_J y2, o_s, o_J y3, o_s, o_J y4, o_s, o_I x5, o_I 2, o_I 48, .val (.long (y2 + y4)), o_s, o_A b433, o_A b440, o_A b441, o_A b442, o_A b442, o_u, o_u, o_u]) (rest := []) (W := 0) (by rw [hml]; rfl) (Nat.le_of_eq rfl) (by decide) (by decide) (hb hby at_272) (by decide) (by decide)
 have N477 := Fr.app N475 N477q
 refine o_go st477 ?_
 refine o_gi (XS.iload X477.here hx rfl (hb hby at_275) rfl) ?_
 show o_Gs p e below _ T477 m 277 #[o_J y0, o_s, o_J y1, o_s, o_J y2, o_s, o_J y3, o_s, o_J y4, o_s, o_I x5, o_I 2, o_I 48, .val (.long (y2 + y4)), o_s, o_A b433, o_A b440, o_A b441, o_A b442, o_A b442, o_u, o_u, o_u] [(.int 2)]
 have hd479 : ¬ ((2 : Int32) = (0 : Int32)) := (by decide)
 refine o_gi (XS.ifYes X477.here hx rfl (pc0 := 277) (pc' := 340) rfl (hb hby at_277) rfl ((if0 _ _).trans (feq hd479).2) (by decide) (by decide)) ?_
 refine o_gi (XS.iload X477.here hx rfl (hb hby at_340) rfl) ?_
 refine o_gi (XS.iconst X477.here hx rfl (hb hby at_342)) ?_
 show o_Gs p e below _ T477 m 343 #[o_J y0, o_s, o_J y1, o_s, o_J y2, o_s, o_J y3, o_s, o_J y4, o_s, o_I x5, o_I 2, o_I 48, .val (.long (y2 + y4)), o_s, o_A b433, o_A b440, o_A b441, o_A b442, o_A b442, o_u, o_u, o_u] [(.int 1), (.int 2)]
 have hd480 : ¬ ((2 : Int32) = (1 : Int32)) := (by decide)
 refine o_gi (XS.icmpYes X477.here hx rfl (pc0 := 343) (pc' := 425) rfl (hb hby at_343) rfl (feq hd480).2 (by decide) (by decide)) ?_
 show o_Gs p e below _ T477 m 425 #[o_J y0, o_s, o_J y1, o_s, o_J y2, o_s, o_J y3, o_s, o_J y4, o_s, o_I x5, o_I 2, o_I 48, .val (.long (y2 + y4)), o_s, o_A b433, o_A b440, o_A b441, o_A b442, o_A b442, o_u, o_u, o_u] []
 obtain ⟨T481, h481, X481, e481, E481, A481, D481, -, st481⟩ := newO X477 hx hZ hown (hw _ o_t13) (hw _ o_t14) (hw _ o_t15) rfl (g := (mkF m 425 #[o_J y0, o_s, o_J y1, o_s, o_J y2, o_s, o_J y3, o_s, o_J y4, o_s, o_I x5, o_I 2, o_I 48, .val (.long (y2 + y4)), o_s, o_A b433, o_A b440, o_A b441, o_A b442, o_A b442, o_u, o_u, o_u] [])) rfl (hb hby at_425) (by decide) (by decide)
 obtain ⟨b481, q481⟩ : ∃ z, z = T477.heap.size := ⟨_, rfl⟩
 rw [← q481] at A481 D481 st481
 have lt_b481 : T477.heap.size ≤ b481 := Nat.le_of_eq q481.symm
 have ne_b433_b481 : b433 ≠ b481 := Nat.ne_of_lt (Nat.lt_of_lt_of_le (ff478.keep K477 (fun z => ne_b433_b442 (List.mem_singleton.mp z))).lt lt_b481)
 have ne_b440_b481 : b440 ≠ b481 := Nat.ne_of_lt (Nat.lt_of_lt_of_le ((((((((((((((((((V440.ext E441).ext E442).keep K445 (fun z => ne_b440_b442 (List.mem_singleton.mp z))).keep K447 (fun z => ne_b440_b442 (List.mem_singleton.mp z))).keep K449 (fun z => ne_b440_b442 (List.mem_singleton.mp z))).keep K451 (fun z => ne_b440_b442 (List.mem_singleton.mp z))).keep K453 (fun z => ne_b440_b442 (List.mem_singleton.mp z))).keep K456 (fun z => ne_b440_b442 (List.mem_singleton.mp z))).keep K458 (fun z => ne_b440_b442 (List.mem_singleton.mp z))).keep K460 (fun z => ne_b440_b442 (List.mem_singleton.mp z))).keep K462 (fun z => ne_b440_b442 (List.mem_singleton.mp z))).keep K464 (fun z => ne_b440_b442 (List.mem_singleton.mp z))).keep K467 (fun z => ne_b440_b442 (List.mem_singleton.mp z))).keep K469 (fun z => ne_b440_b442 (List.mem_singleton.mp z))).keep K471 (fun z => ne_b440_b442 (List.mem_singleton.mp z))).keep K473 (fun z => ne_b440_b442 (List.mem_singleton.mp z))).keep K475 (fun z => ne_b440_b442 (List.mem_singleton.mp z))).keep K477 (fun z => ne_b440_b442 (List.mem_singleton.mp z))).lt lt_b481)
 have ne_b441_b481 : b441 ≠ b481 := Nat.ne_of_lt (Nat.lt_of_lt_of_le (((((((((((((((((V441.ext E442).keep K445 (fun z => ne_b441_b442 (List.mem_singleton.mp z))).keep K447 (fun z => ne_b441_b442 (List.mem_singleton.mp z))).keep K449 (fun z => ne_b441_b442 (List.mem_singleton.mp z))).keep K451 (fun z => ne_b441_b442 (List.mem_singleton.mp z))).keep K453 (fun z => ne_b441_b442 (List.mem_singleton.mp z))).keep K456 (fun z => ne_b441_b442 (List.mem_singleton.mp z))).keep K458 (fun z => ne_b441_b442 (List.mem_singleton.mp z))).keep K460 (fun z => ne_b441_b442 (List.mem_singleton.mp z))).keep K462 (fun z => ne_b441_b442 (List.mem_singleton.mp z))).keep K464 (fun z => ne_b441_b442 (List.mem_singleton.mp z))).keep K467 (fun z => ne_b441_b442 (List.mem_singleton.mp z))).keep K469 (fun z => ne_b441_b442 (List.mem_singleton.mp z))).keep K471 (fun z => ne_b441_b442 (List.mem_singleton.mp z))).keep K473 (fun z => ne_b441_b442 (List.mem_singleton.mp z))).keep K475 (fun z => ne_b441_b442 (List.mem_singleton.mp z))).keep K477 (fun z => ne_b441_b442 (List.mem_singleton.mp z))).lt lt_b481)
 have ne_b442_b481 : b442 ≠ b481 := Nat.ne_of_lt (Nat.lt_of_lt_of_le G477_0.lt lt_b481)
 have g_b481 : n0 ≤ b481 := Nat.le_trans (Nat.le_trans (Nat.le_trans (Nat.le_trans (Nat.le_trans (Nat.le_trans (Nat.le_trans (Nat.le_trans (Nat.le_trans (Nat.le_trans (Nat.le_trans (Nat.le_trans (Nat.le_trans (Nat.le_trans (Nat.le_trans (Nat.le_trans (Nat.le_trans (Nat.le_trans (Nat.le_trans (Nat.le_trans (Nat.le_trans (Nat.le_trans (Nat.le_trans (Nat.le_trans (Nat.le_trans (Nat.le_trans (Nat.le_trans Z0 E433.1) K434.1) K435.1) K436.1) K437.1) K438.1) K439.1) E440.1) E441.1) E442.1) K445.1) K447.1) K449.1) K451.1) K453.1) K456.1) K458.1) K460.1) K462.1) K464.1) K467.1) K469.1) K471.1) K473.1) K475.1) K477.1) lt_b481
 have F481_coder : Fld Z h481 b481 "java/lang/String" "coder" "B" (.int 0) := D481 (Or.inr (hw _ o_t38)) (ty := .byte) (by decide)
 have F481_value : Fld Z h481 b481 "java/lang/String" "value" "[B" .null := D481 (Or.inr (hw _ o_t40)) (ty := (.array .byte)) (by decide)
 refine o_go st481 ?_
 refine o_gi (XS.dup X481.here hx rfl (hb hby at_428) rfl rfl) ?_
 refine o_gi (XS.aload X481.here hx rfl (hb hby at_429) rfl rfl) ?_
 show o_Gs p e below _ T481 m 431 #[o_J y0, o_s, o_J y1, o_s, o_J y2, o_s, o_J y3, o_s, o_J y4, o_s, o_I x5, o_I 2, o_I 48, .val (.long (y2 + y4)), o_s, o_A b433, o_A b440, o_A b441, o_A b442, o_A b442, o_u, o_u, o_u] [(.ref b442), (.ref b481), (.ref b481)]
 obtain ⟨GF, q_GF⟩ : ∃ F : Int32 → Int32, F = (o_G2_4 (15 : Int32) B G15) := ⟨_, rfl⟩
 have V_GF : o_Tb Z h481 b442 .char (64 : Int32) GF := by rw [q_GF]; exact (G477_0.ext E481)
 have hGG : o_C255 GF := by rw [q_GF]; exact (o_c255S c_G15)
 have hMD : o_Md2 B (o_b8 GF) := by rw [q_GF]; exact o_md2 hBy (o_encS (x := (15 : Int32)) rfl (by decide) s_G15)
 obtain ⟨_, T482, L482, X482, ⟨b482, rfl, N482q, K482, lt_b482, G482_0, G482_1, G482_2, G482_3, G482_4⟩, st482⟩ := o_callI X481 hx hZ rfl hown (hw _ o_t16) (hw _ o_t17) (hw _ o_t15) (hw _ o_t18) (by decide) (b := b481) (as := [(.ref b442)]) (rm4_64 l Z a0 hw [] b481 b442 GF z_cs h481 n0 (Nat.le_trans (Nat.le_trans (Nat.le_trans (Nat.le_trans (Nat.le_trans (Nat.le_trans (Nat.le_trans (Nat.le_trans (Nat.le_trans (Nat.le_trans (Nat.le_trans (Nat.le_trans (Nat.le_trans (Nat.le_trans (Nat.le_trans (Nat.le_trans (Nat.le_trans (Nat.le_trans (Nat.le_trans (Nat.le_trans (Nat.le_trans (Nat.le_trans (Nat.le_trans (Nat.le_trans (Nat.le_trans (Nat.le_trans (Nat.le_trans Z0 E433.1) K434.1) K435.1) K436.1) K437.1) K438.1) K439.1) E440.1) E441.1) E442.1) K445.1) K447.1) K449.1) K451.1) K453.1) K456.1) K458.1) K460.1) K462.1) K464.1) K467.1) K469.1) K471.1) K473.1) K475.1) K477.1) E481.1) g_b481 (((((((((((((((((((((((((((O0.ext E433).keep K434 (allS g_b433 all0)).keep K435 (allS g_b433 all0)).keep K436 (allS g_b433 all0)).keep K437 (allS g_b433 all0)).keep K438 (allS g_b433 all0)).keep K439 (allS g_b433 all0)).ext E440).ext E441).ext E442).keep K445 (allS g_b442 all0)).keep K447 (allS g_b442 all0)).keep K449 (allS g_b442 all0)).keep K451 (allS g_b442 all0)).keep K453 (allS g_b442 all0)).keep K456 (allS g_b442 all0)).keep K458 (allS g_b442 all0)).keep K460 (allS g_b442 all0)).keep K462 (allS g_b442 all0)).keep K464 (allS g_b442 all0)).keep K467 (allS g_b442 all0)).keep K469 (allS g_b442 all0)).keep K471 (allS g_b442 all0)).keep K473 (allS g_b442 all0)).keep K475 (allS g_b442 all0)).keep K477 (allS g_b442 all0)).ext E481) z_CS A481 F481_value F481_coder V_GF hGG (Ne.symm ne_b442_b481) S_z_cs) e481 o_pd18 rfl (pc := 431) (Ls := #[o_J y0, o_s, o_J y1, o_s, o_J y2, o_s, o_J y3, o_s, o_J y4, o_s, o_I x5, o_I 2, o_I 48, .val (.long (y2 + y4)), o_s, o_A b433, o_A b440, o_A b441, o_A b442, o_A b442, o_u, o_u, o_u]) (rest := [(.ref b481)]) (W := 1) (by rw [hml]; rfl) (Nat.le_of_eq rfl) (by decide) (by decide) (hb hby at_431) (by decide) (by decide)
 have N482 := Fr.app N477 N482q
 have ne_b433_b482 : b433 ≠ b482 := Nat.ne_of_lt (Nat.lt_of_lt_of_le ((ff478.keep K477 (fun z => ne_b433_b442 (List.mem_singleton.mp z))).ext E481).lt lt_b482)
 have ne_b440_b482 : b440 ≠ b482 := Nat.ne_of_lt (Nat.lt_of_lt_of_le (((((((((((((((((((V440.ext E441).ext E442).keep K445 (fun z => ne_b440_b442 (List.mem_singleton.mp z))).keep K447 (fun z => ne_b440_b442 (List.mem_singleton.mp z))).keep K449 (fun z => ne_b440_b442 (List.mem_singleton.mp z))).keep K451 (fun z => ne_b440_b442 (List.mem_singleton.mp z))).keep K453 (fun z => ne_b440_b442 (List.mem_singleton.mp z))).keep K456 (fun z => ne_b440_b442 (List.mem_singleton.mp z))).keep K458 (fun z => ne_b440_b442 (List.mem_singleton.mp z))).keep K460 (fun z => ne_b440_b442 (List.mem_singleton.mp z))).keep K462 (fun z => ne_b440_b442 (List.mem_singleton.mp z))).keep K464 (fun z => ne_b440_b442 (List.mem_singleton.mp z))).keep K467 (fun z => ne_b440_b442 (List.mem_singleton.mp z))).keep K469 (fun z => ne_b440_b442 (List.mem_singleton.mp z))).keep K471 (fun z => ne_b440_b442 (List.mem_singleton.mp z))).keep K473 (fun z => ne_b440_b442 (List.mem_singleton.mp z))).keep K475 (fun z => ne_b440_b442 (List.mem_singleton.mp z))).keep K477 (fun z => ne_b440_b442 (List.mem_singleton.mp z))).ext E481).lt lt_b482)
 have ne_b441_b482 : b441 ≠ b482 := Nat.ne_of_lt (Nat.lt_of_lt_of_le ((((((((((((((((((V441.ext E442).keep K445 (fun z => ne_b441_b442 (List.mem_singleton.mp z))).keep K447 (fun z => ne_b441_b442 (List.mem_singleton.mp z))).keep K449 (fun z => ne_b441_b442 (List.mem_singleton.mp z))).keep K451 (fun z => ne_b441_b442 (List.mem_singleton.mp z))).keep K453 (fun z => ne_b441_b442 (List.mem_singleton.mp z))).keep K456 (fun z => ne_b441_b442 (List.mem_singleton.mp z))).keep K458 (fun z => ne_b441_b442 (List.mem_singleton.mp z))).keep K460 (fun z => ne_b441_b442 (List.mem_singleton.mp z))).keep K462 (fun z => ne_b441_b442 (List.mem_singleton.mp z))).keep K464 (fun z => ne_b441_b442 (List.mem_singleton.mp z))).keep K467 (fun z => ne_b441_b442 (List.mem_singleton.mp z))).keep K469 (fun z => ne_b441_b442 (List.mem_singleton.mp z))).keep K471 (fun z => ne_b441_b442 (List.mem_singleton.mp z))).keep K473 (fun z => ne_b441_b442 (List.mem_singleton.mp z))).keep K475 (fun z => ne_b441_b442 (List.mem_singleton.mp z))).keep K477 (fun z => ne_b441_b442 (List.mem_singleton.mp z))).ext E481).lt lt_b482)
 have ne_b442_b482 : b442 ≠ b482 := Nat.ne_of_lt (Nat.lt_of_lt_of_le V_GF.lt lt_b482)
 have ne_b481_b482 : b481 ≠ b482 := Nat.ne_of_lt (Nat.lt_of_lt_of_le A481.lt lt_b482)
 have g_b482 : n0 ≤ b482 := Nat.le_trans (Nat.le_trans (Nat.le_trans (Nat.le_trans (Nat.le_trans (Nat.le_trans (Nat.le_trans (Nat.le_trans (Nat.le_trans (Nat.le_trans (Nat.le_trans (Nat.le_trans (Nat.le_trans (Nat.le_trans (Nat.le_trans (Nat.le_trans (Nat.le_trans (Nat.le_trans (Nat.le_trans (Nat.le_trans (Nat.le_trans (Nat.le_trans (Nat.le_trans (Nat.le_trans (Nat.le_trans (Nat.le_trans (Nat.le_trans (Nat.le_trans Z0 E433.1) K434.1) K435.1) K436.1) K437.1) K438.1) K439.1) E440.1) E441.1) E442.1) K445.1) K447.1) K449.1) K451.1) K453.1) K456.1) K458.1) K460.1) K462.1) K464.1) K467.1) K469.1) K471.1) K473.1) K475.1) K477.1) E481.1) lt_b482
 refine o_go st482 ?_
 refine o_gi (XS.astore X482.here hx rfl (hb hby at_434) rfl rfl (l' := #[o_J y0, o_s, o_J y1, o_s, o_J y2, o_s, o_J y3, o_s, o_J y4, o_s, o_I x5, o_I 2, o_I 48, .val (.long (y2 + y4)), o_s, o_A b433, o_A b440, o_A b441, o_A b442, o_A b442, o_A b481, o_u, o_u]) rfl) ?_
 refine o_gi (XS.aload X482.here hx rfl (hb hby at_436) rfl rfl) ?_
 show o_Gs p e below _ T482 m 438 #[o_J y0, o_s, o_J y1, o_s, o_J y2, o_s, o_J y3, o_s, o_J y4, o_s, o_I x5, o_I 2, o_I 48, .val (.long (y2 + y4)), o_s, o_A b433, o_A b440, o_A b441, o_A b442, o_A b442, o_A b481, o_u, o_u] [(.ref b481)]
 obtain ⟨_, T483, L483, X483, ⟨b483, rfl, N483q, K483, lt_b483, G483_0⟩, st483⟩ := o_callSX X482 hx hZ hown (hw _ o_t41) (hw _ o_t42) (hw _ o_t43) (hw _ o_t44) (by decide) (as := [(.ref b481)]) (rm10_2 l Z a0 hw [] b481 b482 B (o_b8 GF) z_cs s_d s_i s_u s_t T482.heap n0 (Nat.le_trans (Nat.le_trans (Nat.le_trans (Nat.le_trans (Nat.le_trans (Nat.le_trans (Nat.le_trans (Nat.le_trans (Nat.le_trans (Nat.le_trans (Nat.le_trans (Nat.le_trans (Nat.le_trans (Nat.le_trans (Nat.le_trans (Nat.le_trans (Nat.le_trans (Nat.le_trans (Nat.le_trans (Nat.le_trans (Nat.le_trans (Nat.le_trans (Nat.le_trans (Nat.le_trans (Nat.le_trans (Nat.le_trans (Nat.le_trans (Nat.le_trans Z0 E433.1) K434.1) K435.1) K436.1) K437.1) K438.1) K439.1) E440.1) E441.1) E442.1) K445.1) K447.1) K449.1) K451.1) K453.1) K456.1) K458.1) K460.1) K462.1) K464.1) K467.1) K469.1) K471.1) K473.1) K475.1) K477.1) E481.1) K482.1) ((((((((((((((((((((((((((((O0.ext E433).keep K434 (allS g_b433 all0)).keep K435 (allS g_b433 all0)).keep K436 (allS g_b433 all0)).keep K437 (allS g_b433 all0)).keep K438 (allS g_b433 all0)).keep K439 (allS g_b433 all0)).ext E440).ext E441).ext E442).keep K445 (allS g_b442 all0)).keep K447 (allS g_b442 all0)).keep K449 (allS g_b442 all0)).keep K451 (allS g_b442 all0)).keep K453 (allS g_b442 all0)).keep K456 (allS g_b442 all0)).keep K458 (allS g_b442 all0)).keep K460 (allS g_b442 all0)).keep K462 (allS g_b442 all0)).keep K464 (allS g_b442 all0)).keep K467 (allS g_b442 all0)).keep K469 (allS g_b442 all0)).keep K471 (allS g_b442 all0)).keep K473 (allS g_b442 all0)).keep K475 (allS g_b442 all0)).keep K477 (allS g_b442 all0)).ext E481).keep K482 (allS g_b481 all0)) z_CS E_d F_u F_m T_t G482_0 G482_2 G482_1 G482_3 G482_4 (o_by8 _) hMD ne_iu ne_b481_b482 S_z_cs S_s_d S_s_i S_s_u S_s_t) rfl o_pd15 rfl (pc := 438) (Ls := #[o_J y0, o_s, o_J y1, o_s, o_J y2, o_s, o_J y3, o_s, o_J y4, o_s, o_I x5, o_I 2, o_I 48, .val (.long (y2 + y4)), o_s, o_A b433, o_A b440, o_A b441, o_A b442, o_A b442, o_A b481, o_u, o_u]) (rest := []) (W := 0) (by rw [hml]; rfl) (Nat.le_of_eq rfl) (by decide) (by decide) (hb hby at_438) (by decide) (by decide)
 have N483 := Fr.app N482 N483q
 have ne_b433_b483 : b433 ≠ b483 := Nat.ne_of_lt (Nat.lt_of_lt_of_le (((ff478.keep K477 (fun z => ne_b433_b442 (List.mem_singleton.mp z))).ext E481).keep K482 (fun z => ne_b433_b481 (List.mem_singleton.mp z))).lt lt_b483)
 have ne_b440_b483 : b440 ≠ b483 := Nat.ne_of_lt (Nat.lt_of_lt_of_le ((((((((((((((((((((V440.ext E441).ext E442).keep K445 (fun z => ne_b440_b442 (List.mem_singleton.mp z))).keep K447 (fun z => ne_b440_b442 (List.mem_singleton.mp z))).keep K449 (fun z => ne_b440_b442 (List.mem_singleton.mp z))).keep K451 (fun z => ne_b440_b442 (List.mem_singleton.mp z))).keep K453 (fun z => ne_b440_b442 (List.mem_singleton.mp z))).keep K456 (fun z => ne_b440_b442 (List.mem_singleton.mp z))).keep K458 (fun z => ne_b440_b442 (List.mem_singleton.mp z))).keep K460 (fun z => ne_b440_b442 (List.mem_singleton.mp z))).keep K462 (fun z => ne_b440_b442 (List.mem_singleton.mp z))).keep K464 (fun z => ne_b440_b442 (List.mem_singleton.mp z))).keep K467 (fun z => ne_b440_b442 (List.mem_singleton.mp z))).keep K469 (fun z => ne_b440_b442 (List.mem_singleton.mp z))).keep K471 (fun z => ne_b440_b442 (List.mem_singleton.mp z))).keep K473 (fun z => ne_b440_b442 (List.mem_singleton.mp z))).keep K475 (fun z => ne_b440_b442 (List.mem_singleton.mp z))).keep K477 (fun z => ne_b440_b442 (List.mem_singleton.mp z))).ext E481).keep K482 (fun z => ne_b440_b481 (List.mem_singleton.mp z))).lt lt_b483)
 have ne_b441_b483 : b441 ≠ b483 := Nat.ne_of_lt (Nat.lt_of_lt_of_le (((((((((((((((((((V441.ext E442).keep K445 (fun z => ne_b441_b442 (List.mem_singleton.mp z))).keep K447 (fun z => ne_b441_b442 (List.mem_singleton.mp z))).keep K449 (fun z => ne_b441_b442 (List.mem_singleton.mp z))).keep K451 (fun z => ne_b441_b442 (List.mem_singleton.mp z))).keep K453 (fun z => ne_b441_b442 (List.mem_singleton.mp z))).keep K456 (fun z => ne_b441_b442 (List.mem_singleton.mp z))).keep K458 (fun z => ne_b441_b442 (List.mem_singleton.mp z))).keep K460 (fun z => ne_b441_b442 (List.mem_singleton.mp z))).keep K462 (fun z => ne_b441_b442 (List.mem_singleton.mp z))).keep K464 (fun z => ne_b441_b442 (List.mem_singleton.mp z))).keep K467 (fun z => ne_b441_b442 (List.mem_singleton.mp z))).keep K469 (fun z => ne_b441_b442 (List.mem_singleton.mp z))).keep K471 (fun z => ne_b441_b442 (List.mem_singleton.mp z))).keep K473 (fun z => ne_b441_b442 (List.mem_singleton.mp z))).keep K475 (fun z => ne_b441_b442 (List.mem_singleton.mp z))).keep K477 (fun z => ne_b441_b442 (List.mem_singleton.mp z))).ext E481).keep K482 (fun z => ne_b441_b481 (List.mem_singleton.mp z))).lt lt_b483)
 have ne_b442_b483 : b442 ≠ b483 := Nat.ne_of_lt (Nat.lt_of_lt_of_le (V_GF.keep K482 (fun z => ne_b442_b481 (List.mem_singleton.mp z))).lt lt_b483)
 have ne_b481_b483 : b481 ≠ b483 := Nat.ne_of_lt (Nat.lt_of_lt_of_le G482_0.lt lt_b483)
 have ne_b482_b483 : b482 ≠ b483 := Nat.ne_of_lt (Nat.lt_of_lt_of_le G482_3.lt lt_b483)
 have g_b483 : n0 ≤ b483 := Nat.le_trans (Nat.le_trans (Nat.le_trans (Nat.le_trans (Nat.le_trans (Nat.le_trans (Nat.le_trans (Nat.le_trans (Nat.le_trans (Nat.le_trans (Nat.le_trans (Nat.le_trans (Nat.le_trans (Nat.le_trans (Nat.le_trans (Nat.le_trans (Nat.le_trans (Nat.le_trans (Nat.le_trans (Nat.le_trans (Nat.le_trans (Nat.le_trans (Nat.le_trans (Nat.le_trans (Nat.le_trans (Nat.le_trans (Nat.le_trans (Nat.le_trans (Nat.le_trans Z0 E433.1) K434.1) K435.1) K436.1) K437.1) K438.1) K439.1) E440.1) E441.1) E442.1) K445.1) K447.1) K449.1) K451.1) K453.1) K456.1) K458.1) K460.1) K462.1) K464.1) K467.1) K469.1) K471.1) K473.1) K475.1) K477.1) E481.1) K482.1) lt_b483
 refine o_go st483 ?_
 refine o_gi (XS.astore X483.here hx rfl (hb hby at_441) rfl rfl (l' := #[o_J y0, o_s, o_J y1, o_s, o_J y2, o_s, o_J y3, o_s, o_J y4, o_s, o_I x5, o_I 2, o_I 48, .val (.long (y2 + y4)), o_s, o_A b433, o_A b440, o_A b441, o_A b442, o_A b442, o_A b481, o_A b483, o_u]) rfl) ?_
 refine o_gi (XS.aload X483.here hx rfl (hb hby at_443) rfl rfl) ?_
 show o_Gs p e below _ T483 m 445 #[o_J y0, o_s, o_J y1, o_s, o_J y2, o_s, o_J y3, o_s, o_J y4, o_s, o_I x5, o_I 2, o_I 48, .val (.long (y2 + y4)), o_s, o_A b433, o_A b440, o_A b441, o_A b442, o_A b442, o_A b481, o_A b483, o_u] [(.ref b483)]
 refine o_gi (XS.ifnullNo X483.here hx rfl (hb hby at_445) rfl) ?_
 refine o_gi (XS.aload X483.here hx rfl (hb hby at_448) rfl rfl) ?_
 show o_Gs p e below _ T483 m 450 #[o_J y0, o_s, o_J y1, o_s, o_J y2, o_s, o_J y3, o_s, o_J y4, o_s, o_I x5, o_I 2, o_I 48, .val (.long (y2 + y4)), o_s, o_A b433, o_A b440, o_A b441, o_A b442, o_A b442, o_A b481, o_A b483, o_u] [(.ref b483)]
 obtain ⟨cl484, Ar484, sa484, na484, ha484⟩ := id G483_0
 refine o_go (X483.arraylength hx Ar484.1 (State.isArrayOf_alike hZ.alike Ar484.2.1) (g := (mkF m 450 #[o_J y0, o_s, o_J y1, o_s, o_J y2, o_s, o_J y3, o_s, o_J y4, o_s, o_I x5, o_I 2, o_I 48, .val (.long (y2 + y4)), o_s, o_A b433, o_A b440, o_A b441, o_A b442, o_A b442, o_A b481, o_A b483, o_u] [(.ref b483)])) rfl rfl (hb hby at_450)) ?_
 rw [len_of sa484 na484]
 refine o_gi (XS.iload X483.here hx rfl (hb hby at_451) rfl) ?_
 show o_Gs p e below _ T483 m 453 #[o_J y0, o_s, o_J y1, o_s, o_J y2, o_s, o_J y3, o_s, o_J y4, o_s, o_I x5, o_I 2, o_I 48, .val (.long (y2 + y4)), o_s, o_A b433, o_A b440, o_A b441, o_A b442, o_A b442, o_A b481, o_A b483, o_u] [(.int 48), (.int 48)]
 have hd485 : (48 : Int32) = (48 : Int32) := (by decide)
 refine o_gi (XS.icmpYes X483.here hx rfl (pc0 := 453) (pc' := 458) rfl (hb hby at_453) rfl (teq hd485).1 (by decide) (by decide)) ?_
 refine o_gi (XS.aload X483.here hx rfl (hb hby at_458) rfl rfl) ?_
 refine o_gi (XS.iconst X483.here hx rfl (hb hby at_460)) ?_
 show o_Gs p e below _ T483 m 461 #[o_J y0, o_s, o_J y1, o_s, o_J y2, o_s, o_J y3, o_s, o_J y4, o_s, o_I x5, o_I 2, o_I 48, .val (.long (y2 + y4)), o_s, o_A b433, o_A b440, o_A b441, o_A b442, o_A b442, o_A b481, o_A b483, o_u] [(.int 0), (.ref b483)]
 obtain ⟨_, T486, L486, X486, ⟨rfl, N486q, e486⟩, st486⟩ := o_callS X483 hx hZ hown (hw _ o_t116) (hw _ o_t117) (hw _ o_t4) (hw _ o_t118) (by decide) (as := [(.ref b483), (.int 0)]) (rm22 l Z a0 hw [] b483 (0 : Int32) (48 : Int32) B T483.heap n0 G483_0 (by decide)) rfl o_pd19 rfl (pc := 461) (Ls := #[o_J y0, o_s, o_J y1, o_s, o_J y2, o_s, o_J y3, o_s, o_J y4, o_s, o_I x5, o_I 2, o_I 48, .val (.long (y2 + y4)), o_s, o_A b433, o_A b440, o_A b441, o_A b442, o_A b442, o_A b481, o_A b483, o_u]) (rest := []) (W := 0) (by rw [hml]; rfl) (Nat.le_of_eq rfl) (by decide) (by decide) (hb hby at_461) (by decide) (by decide)
 have N486 := Fr.app N483 N486q
 refine o_go st486 ?_
 refine o_gi (XS.lloadN X486.here hx rfl (hb hby at_464) rfl) ?_
 show o_Gs p e below _ T486 m 465 #[o_J y0, o_s, o_J y1, o_s, o_J y2, o_s, o_J y3, o_s, o_J y4, o_s, o_I x5, o_I 2, o_I 48, .val (.long (y2 + y4)), o_s, o_A b433, o_A b440, o_A b441, o_A b442, o_A b442, o_A b481, o_A b483, o_u] [(.long y0), (.long (o_f22 (0 : Int32) B))]
 refine o_gi (XS.lcmp X486.here hx rfl (hb hby at_465) rfl) ?_
 show o_Gs p e below _ T486 m 466 #[o_J y0, o_s, o_J y1, o_s, o_J y2, o_s, o_J y3, o_s, o_J y4, o_s, o_I x5, o_I 2, o_I 48, .val (.long (y2 + y4)), o_s, o_A b433, o_A b440, o_A b441, o_A b442, o_A b442, o_A b481, o_A b483, o_u] [(.int (lcmpW (o_f22 (0 : Int32) B) y0))]
 have hd487 : (o_f22 (0 : Int32) B) = y0 := (by rw [q_B]; exact ((o_gq (by decide) (by decide)).trans ((o_gq (by decide) (by decide)).trans ((o_gq (by decide) (by decide)).trans ((o_gq (by decide) (by decide)).trans ((o_gq (by decide) (by decide)).trans (o_gp (by decide))))))))
 refine o_gi (XS.ifNo X486.here hx rfl (hb hby at_466) rfl ((if0 _ _).trans (teq ((lw_eq _ _).mpr hd487)).2)) ?_
 refine o_gi (XS.aload X486.here hx rfl (hb hby at_469) rfl rfl) ?_
 refine o_gi (XS.bipush X486.here hx rfl (hb hby at_471)) ?_
 show o_Gs p e below _ T486 m 473 #[o_J y0, o_s, o_J y1, o_s, o_J y2, o_s, o_J y3, o_s, o_J y4, o_s, o_I x5, o_I 2, o_I 48, .val (.long (y2 + y4)), o_s, o_A b433, o_A b440, o_A b441, o_A b442, o_A b442, o_A b481, o_A b483, o_u] [(.int 8), (.ref b483)]
 obtain ⟨_, T488, L488, X488, ⟨rfl, N488q, e488⟩, st488⟩ := o_callS X486 hx hZ hown (hw _ o_t116) (hw _ o_t117) (hw _ o_t4) (hw _ o_t118) (by decide) (as := [(.ref b483), (.int 8)]) (rm22 l Z a0 hw [] b483 (8 : Int32) (48 : Int32) B T483.heap n0 G483_0 (by decide)) e486 o_pd19 rfl (pc := 473) (Ls := #[o_J y0, o_s, o_J y1, o_s, o_J y2, o_s, o_J y3, o_s, o_J y4, o_s, o_I x5, o_I 2, o_I 48, .val (.long (y2 + y4)), o_s, o_A b433, o_A b440, o_A b441, o_A b442, o_A b442, o_A b481, o_A b483, o_u]) (rest := []) (W := 0) (by rw [hml]; rfl) (Nat.le_of_eq rfl) (by decide) (by decide) (hb hby at_473) (by decide) (by decide)
 have N488 := Fr.app N486 N488q
 refine o_go st488 ?_
 refine o_gi (XS.lloadN X488.here hx rfl (hb hby at_476) rfl) ?_
 show o_Gs p e below _ T488 m 477 #[o_J y0, o_s, o_J y1, o_s, o_J y2, o_s, o_J y3, o_s, o_J y4, o_s, o_I x5, o_I 2, o_I 48, .val (.long (y2 + y4)), o_s, o_A b433, o_A b440, o_A b441, o_A b442, o_A b442, o_A b481, o_A b483, o_u] [(.long y1), (.long (o_f22 (8 : Int32) B))]
 refine o_gi (XS.lcmp X488.here hx rfl (hb hby at_477) rfl) ?_
 show o_Gs p e below _ T488 m 478 #[o_J y0, o_s, o_J y1, o_s, o_J y2, o_s, o_J y3, o_s, o_J y4, o_s, o_I x5, o_I 2, o_I 48, .val (.long (y2 + y4)), o_s, o_A b433, o_A b440, o_A b441, o_A b442, o_A b442, o_A b481, o_A b483, o_u] [(.int (lcmpW (o_f22 (8 : Int32) B) y1))]
 have hd489 : (o_f22 (8 : Int32) B) = y1 := (by rw [q_B]; exact ((o_gq (by decide) (by decide)).trans ((o_gq (by decide) (by decide)).trans ((o_gq (by decide) (by decide)).trans ((o_gq (by decide) (by decide)).trans (o_gp (by decide)))))))
 refine o_gi (XS.ifNo X488.here hx rfl (hb hby at_478) rfl ((if0 _ _).trans (teq ((lw_eq _ _).mpr hd489)).2)) ?_
 refine o_gi (XS.iconst X488.here hx rfl (hb hby at_481)) ?_
 refine o_gi (XS.goto X488.here hx rfl (pc0 := 482) (pc' := 486) rfl (hb hby at_482) (by decide) (by decide)) ?_
 refine o_gi (XS.istore X488.here hx rfl (hb hby at_486) rfl (l' := #[o_J y0, o_s, o_J y1, o_s, o_J y2, o_s, o_J y3, o_s, o_J y4, o_s, o_I x5, o_I 2, o_I 48, .val (.long (y2 + y4)), o_s, o_A b433, o_A b440, o_A b441, o_A b442, o_A b442, o_A b481, o_A b483, o_I 1]) rfl) ?_
 refine o_gi (XS.iload X488.here hx rfl (hb hby at_488) rfl) ?_
 refine o_gi (XS.iconst X488.here hx rfl (hb hby at_490)) ?_
 show o_Gs p e below _ T488 m 491 #[o_J y0, o_s, o_J y1, o_s, o_J y2, o_s, o_J y3, o_s, o_J y4, o_s, o_I x5, o_I 2, o_I 48, .val (.long (y2 + y4)), o_s, o_A b433, o_A b440, o_A b441, o_A b442, o_A b442, o_A b481, o_A b483, o_I 1] [(.int 1), (.int 2)]
 have hd490 : ¬ ((2 : Int32) < (1 : Int32)) := (by decide)
 refine o_gi (XS.icmpNo X488.here hx rfl (hb hby at_491) rfl (flt hd490).1) ?_
 refine o_gi (XS.iload X488.here hx rfl (hb hby at_494) rfl) ?_
 show o_Gs p e below _ T488 m 496 #[o_J y0, o_s, o_J y1, o_s, o_J y2, o_s, o_J y3, o_s, o_J y4, o_s, o_I x5, o_I 2, o_I 48, .val (.long (y2 + y4)), o_s, o_A b433, o_A b440, o_A b441, o_A b442, o_A b442, o_A b481, o_A b483, o_I 1] [(.int 1)]
 have hd491 : ¬ ((1 : Int32) = (0 : Int32)) := (by decide)
 refine o_gi (XS.ifNo X488.here hx rfl (hb hby at_496) rfl ((if0 _ _).trans (feq hd491).1)) ?_
 refine o_gi (XS.aload X488.here hx rfl (hb hby at_499) rfl rfl) ?_
 refine o_gi (XS.bipush X488.here hx rfl (hb hby at_501)) ?_
 show o_Gs p e below _ T488 m 503 #[o_J y0, o_s, o_J y1, o_s, o_J y2, o_s, o_J y3, o_s, o_J y4, o_s, o_I x5, o_I 2, o_I 48, .val (.long (y2 + y4)), o_s, o_A b433, o_A b440, o_A b441, o_A b442, o_A b442, o_A b481, o_A b483, o_I 1] [(.int 16), (.ref b483)]
 obtain ⟨_, T492, L492, X492, ⟨rfl, N492q, e492⟩, st492⟩ := o_callS X488 hx hZ hown (hw _ o_t116) (hw _ o_t117) (hw _ o_t4) (hw _ o_t118) (by decide) (as := [(.ref b483), (.int 16)]) (rm22 l Z a0 hw [] b483 (16 : Int32) (48 : Int32) B T483.heap n0 G483_0 (by decide)) e488 o_pd19 rfl (pc := 503) (Ls := #[o_J y0, o_s, o_J y1, o_s, o_J y2, o_s, o_J y3, o_s, o_J y4, o_s, o_I x5, o_I 2, o_I 48, .val (.long (y2 + y4)), o_s, o_A b433, o_A b440, o_A b441, o_A b442, o_A b442, o_A b481, o_A b483, o_I 1]) (rest := []) (W := 0) (by rw [hml]; rfl) (Nat.le_of_eq rfl) (by decide) (by decide) (hb hby at_503) (by decide) (by decide)
 have N492 := Fr.app N488 N492q
 refine o_go st492 ?_
 refine o_gi (XS.lload X492.here hx rfl (hb hby at_506) rfl) ?_
 show o_Gs p e below _ T492 m 508 #[o_J y0, o_s, o_J y1, o_s, o_J y2, o_s, o_J y3, o_s, o_J y4, o_s, o_I x5, o_I 2, o_I 48, .val (.long (y2 + y4)), o_s, o_A b433, o_A b440, o_A b441, o_A b442, o_A b442, o_A b481, o_A b483, o_I 1] [(.long y2), (.long (o_f22 (16 : Int32) B))]
 refine o_gi (XS.lcmp X492.here hx rfl (hb hby at_508) rfl) ?_
 show o_Gs p e below _ T492 m 509 #[o_J y0, o_s, o_J y1, o_s, o_J y2, o_s, o_J y3, o_s, o_J y4, o_s, o_I x5, o_I 2, o_I 48, .val (.long (y2 + y4)), o_s, o_A b433, o_A b440, o_A b441, o_A b442, o_A b442, o_A b481, o_A b483, o_I 1] [(.int (lcmpW (o_f22 (16 : Int32) B) y2))]
 have hd493 : (o_f22 (16 : Int32) B) = y2 := (by rw [q_B]; exact ((o_gq (by decide) (by decide)).trans ((o_gq (by decide) (by decide)).trans ((o_gq (by decide) (by decide)).trans (o_gp (by decide))))))
 refine o_gi (XS.ifNo X492.here hx rfl (hb hby at_509) rfl ((if0 _ _).trans (teq ((lw_eq _ _).mpr hd493)).2)) ?_
 refine o_gi (XS.aload X492.here hx rfl (hb hby at_512) rfl rfl) ?_
 refine o_gi (XS.bipush X492.here hx rfl (hb hby at_514)) ?_
 show o_Gs p e below _ T492 m 516 #[o_J y0, o_s, o_J y1, o_s, o_J y2, o_s, o_J y3, o_s, o_J y4, o_s, o_I x5, o_I 2, o_I 48, .val (.long (y2 + y4)), o_s, o_A b433, o_A b440, o_A b441, o_A b442, o_A b442, o_A b481, o_A b483, o_I 1] [(.int 24), (.ref b483)]
 obtain ⟨_, T494, L494, X494, ⟨rfl, N494q, e494⟩, st494⟩ := o_callS X492 hx hZ hown (hw _ o_t116) (hw _ o_t117) (hw _ o_t4) (hw _ o_t118) (by decide) (as := [(.ref b483), (.int 24)]) (rm22 l Z a0 hw [] b483 (24 : Int32) (48 : Int32) B T483.heap n0 G483_0 (by decide)) e492 o_pd19 rfl (pc := 516) (Ls := #[o_J y0, o_s, o_J y1, o_s, o_J y2, o_s, o_J y3, o_s, o_J y4, o_s, o_I x5, o_I 2, o_I 48, .val (.long (y2 + y4)), o_s, o_A b433, o_A b440, o_A b441, o_A b442, o_A b442, o_A b481, o_A b483, o_I 1]) (rest := []) (W := 0) (by rw [hml]; rfl) (Nat.le_of_eq rfl) (by decide) (by decide) (hb hby at_516) (by decide) (by decide)
 have N494 := Fr.app N492 N494q
 refine o_go st494 ?_
 refine o_gi (XS.lload X494.here hx rfl (hb hby at_519) rfl) ?_
 show o_Gs p e below _ T494 m 521 #[o_J y0, o_s, o_J y1, o_s, o_J y2, o_s, o_J y3, o_s, o_J y4, o_s, o_I x5, o_I 2, o_I 48, .val (.long (y2 + y4)), o_s, o_A b433, o_A b440, o_A b441, o_A b442, o_A b442, o_A b481, o_A b483, o_I 1] [(.long y3), (.long (o_f22 (24 : Int32) B))]
 refine o_gi (XS.lcmp X494.here hx rfl (hb hby at_521) rfl) ?_
 show o_Gs p e below _ T494 m 522 #[o_J y0, o_s, o_J y1, o_s, o_J y2, o_s, o_J y3, o_s, o_J y4, o_s, o_I x5, o_I 2, o_I 48, .val (.long (y2 + y4)), o_s, o_A b433, o_A b440, o_A b441, o_A b442, o_A b442, o_A b481, o_A b483, o_I 1] [(.int (lcmpW (o_f22 (24 : Int32) B) y3))]
 have hd495 : (o_f22 (24 : Int32) B) = y3 := (by rw [q_B]; exact ((o_gq (by decide) (by decide)).trans ((o_gq (by decide) (by decide)).trans (o_gp (by decide)))))
 refine o_gi (XS.ifNo X494.here hx rfl (hb hby at_522) rfl ((if0 _ _).trans (teq ((lw_eq _ _).mpr hd495)).2)) ?_
 refine o_gi (XS.iconst X494.here hx rfl (hb hby at_525)) ?_
 refine o_gi (XS.goto X494.here hx rfl (pc0 := 526) (pc' := 530) rfl (hb hby at_526) (by decide) (by decide)) ?_
 refine o_gi (XS.istore X494.here hx rfl (hb hby at_530) rfl (l' := #[o_J y0, o_s, o_J y1, o_s, o_J y2, o_s, o_J y3, o_s, o_J y4, o_s, o_I x5, o_I 2, o_I 48, .val (.long (y2 + y4)), o_s, o_A b433, o_A b440, o_A b441, o_A b442, o_A b442, o_A b481, o_A b483, o_I 1]) rfl) ?_
 refine o_gi (XS.iload X494.here hx rfl (hb hby at_532) rfl) ?_
 refine o_gi (XS.iconst X494.here hx rfl (hb hby at_534)) ?_
 show o_Gs p e below _ T494 m 535 #[o_J y0, o_s, o_J y1, o_s, o_J y2, o_s, o_J y3, o_s, o_J y4, o_s, o_I x5, o_I 2, o_I 48, .val (.long (y2 + y4)), o_s, o_A b433, o_A b440, o_A b441, o_A b442, o_A b442, o_A b481, o_A b483, o_I 1] [(.int 2), (.int 2)]
 have hd496 : (2 : Int32) = (2 : Int32) := (by decide)
 refine o_gi (XS.icmpNo X494.here hx rfl (hb hby at_535) rfl (teq hd496).2) ?_
 refine o_gi (XS.iload X494.here hx rfl (hb hby at_538) rfl) ?_
 show o_Gs p e below _ T494 m 540 #[o_J y0, o_s, o_J y1, o_s, o_J y2, o_s, o_J y3, o_s, o_J y4, o_s, o_I x5, o_I 2, o_I 48, .val (.long (y2 + y4)), o_s, o_A b433, o_A b440, o_A b441, o_A b442, o_A b442, o_A b481, o_A b483, o_I 1] [(.int 1)]
 have hd497 : ¬ ((1 : Int32) = (0 : Int32)) := (by decide)
 refine o_gi (XS.ifNo X494.here hx rfl (hb hby at_540) rfl ((if0 _ _).trans (feq hd497).1)) ?_
 refine o_gi (XS.aload X494.here hx rfl (hb hby at_543) rfl rfl) ?_
 refine o_gi (XS.bipush X494.here hx rfl (hb hby at_545)) ?_
 show o_Gs p e below _ T494 m 547 #[o_J y0, o_s, o_J y1, o_s, o_J y2, o_s, o_J y3, o_s, o_J y4, o_s, o_I x5, o_I 2, o_I 48, .val (.long (y2 + y4)), o_s, o_A b433, o_A b440, o_A b441, o_A b442, o_A b442, o_A b481, o_A b483, o_I 1] [(.int 32), (.ref b483)]
 obtain ⟨_, T498, L498, X498, ⟨rfl, N498q, e498⟩, st498⟩ := o_callS X494 hx hZ hown (hw _ o_t116) (hw _ o_t117) (hw _ o_t4) (hw _ o_t118) (by decide) (as := [(.ref b483), (.int 32)]) (rm22 l Z a0 hw [] b483 (32 : Int32) (48 : Int32) B T483.heap n0 G483_0 (by decide)) e494 o_pd19 rfl (pc := 547) (Ls := #[o_J y0, o_s, o_J y1, o_s, o_J y2, o_s, o_J y3, o_s, o_J y4, o_s, o_I x5, o_I 2, o_I 48, .val (.long (y2 + y4)), o_s, o_A b433, o_A b440, o_A b441, o_A b442, o_A b442, o_A b481, o_A b483, o_I 1]) (rest := []) (W := 0) (by rw [hml]; rfl) (Nat.le_of_eq rfl) (by decide) (by decide) (hb hby at_547) (by decide) (by decide)
 have N498 := Fr.app N494 N498q
 refine o_go st498 ?_
 refine o_gi (XS.lload X498.here hx rfl (hb hby at_550) rfl) ?_
 show o_Gs p e below _ T498 m 552 #[o_J y0, o_s, o_J y1, o_s, o_J y2, o_s, o_J y3, o_s, o_J y4, o_s, o_I x5, o_I 2, o_I 48, .val (.long (y2 + y4)), o_s, o_A b433, o_A b440, o_A b441, o_A b442, o_A b442, o_A b481, o_A b483, o_I 1] [(.long y4), (.long (o_f22 (32 : Int32) B))]
 refine o_gi (XS.lcmp X498.here hx rfl (hb hby at_552) rfl) ?_
 show o_Gs p e below _ T498 m 553 #[o_J y0, o_s, o_J y1, o_s, o_J y2, o_s, o_J y3, o_s, o_J y4, o_s, o_I x5, o_I 2, o_I 48, .val (.long (y2 + y4)), o_s, o_A b433, o_A b440, o_A b441, o_A b442, o_A b442, o_A b481, o_A b483, o_I 1] [(.int (lcmpW (o_f22 (32 : Int32) B) y4))]
 have hd499 : (o_f22 (32 : Int32) B) = y4 := (by rw [q_B]; exact ((o_gq (by decide) (by decide)).trans (o_gp (by decide))))
 refine o_gi (XS.ifNo X498.here hx rfl (hb hby at_553) rfl ((if0 _ _).trans (teq ((lw_eq _ _).mpr hd499)).2)) ?_
 refine o_gi (XS.aload X498.here hx rfl (hb hby at_556) rfl rfl) ?_
 refine o_gi (XS.bipush X498.here hx rfl (hb hby at_558)) ?_
 show o_Gs p e below _ T498 m 560 #[o_J y0, o_s, o_J y1, o_s, o_J y2, o_s, o_J y3, o_s, o_J y4, o_s, o_I x5, o_I 2, o_I 48, .val (.long (y2 + y4)), o_s, o_A b433, o_A b440, o_A b441, o_A b442, o_A b442, o_A b481, o_A b483, o_I 1] [(.int 40), (.ref b483)]
 obtain ⟨_, T500, L500, X500, ⟨rfl, N500q, e500⟩, st500⟩ := o_callS X498 hx hZ hown (hw _ o_t116) (hw _ o_t117) (hw _ o_t4) (hw _ o_t118) (by decide) (as := [(.ref b483), (.int 40)]) (rm22 l Z a0 hw [] b483 (40 : Int32) (48 : Int32) B T483.heap n0 G483_0 (by decide)) e498 o_pd19 rfl (pc := 560) (Ls := #[o_J y0, o_s, o_J y1, o_s, o_J y2, o_s, o_J y3, o_s, o_J y4, o_s, o_I x5, o_I 2, o_I 48, .val (.long (y2 + y4)), o_s, o_A b433, o_A b440, o_A b441, o_A b442, o_A b442, o_A b481, o_A b483, o_I 1]) (rest := []) (W := 0) (by rw [hml]; rfl) (Nat.le_of_eq rfl) (by decide) (by decide) (hb hby at_560) (by decide) (by decide)
 have N500 := Fr.app N498 N500q
 refine o_go st500 ?_
 refine o_gi (XS.lload X500.here hx rfl (hb hby at_563) rfl) ?_
 show o_Gs p e below _ T500 m 565 #[o_J y0, o_s, o_J y1, o_s, o_J y2, o_s, o_J y3, o_s, o_J y4, o_s, o_I x5, o_I 2, o_I 48, .val (.long (y2 + y4)), o_s, o_A b433, o_A b440, o_A b441, o_A b442, o_A b442, o_A b481, o_A b483, o_I 1] [(.long (y2 + y4)), (.long (o_f22 (40 : Int32) B))]
 refine o_gi (XS.lcmp X500.here hx rfl (hb hby at_565) rfl) ?_
 show o_Gs p e below _ T500 m 566 #[o_J y0, o_s, o_J y1, o_s, o_J y2, o_s, o_J y3, o_s, o_J y4, o_s, o_I x5, o_I 2, o_I 48, .val (.long (y2 + y4)), o_s, o_A b433, o_A b440, o_A b441, o_A b442, o_A b442, o_A b481, o_A b483, o_I 1] [(.int (lcmpW (o_f22 (40 : Int32) B) (y2 + y4)))]
 have hd501 : (o_f22 (40 : Int32) B) = (y2 + y4) := (by rw [q_B]; exact (o_gp (by decide)))
 refine o_gi (XS.ifNo X500.here hx rfl (hb hby at_566) rfl ((if0 _ _).trans (teq ((lw_eq _ _).mpr hd501)).2)) ?_
 refine o_gi (XS.iconst X500.here hx rfl (hb hby at_569)) ?_
 refine o_gi (XS.goto X500.here hx rfl (pc0 := 570) (pc' := 574) rfl (hb hby at_570) (by decide) (by decide)) ?_
 refine o_gi (XS.istore X500.here hx rfl (hb hby at_574) rfl (l' := #[o_J y0, o_s, o_J y1, o_s, o_J y2, o_s, o_J y3, o_s, o_J y4, o_s, o_I x5, o_I 2, o_I 48, .val (.long (y2 + y4)), o_s, o_A b433, o_A b440, o_A b441, o_A b442, o_A b442, o_A b481, o_A b483, o_I 1]) rfl) ?_
 refine o_gi (XS.iload X500.here hx rfl (hb hby at_576) rfl) ?_
 show o_Gs p e below _ T500 m 578 #[o_J y0, o_s, o_J y1, o_s, o_J y2, o_s, o_J y3, o_s, o_J y4, o_s, o_I x5, o_I 2, o_I 48, .val (.long (y2 + y4)), o_s, o_A b433, o_A b440, o_A b441, o_A b442, o_A b442, o_A b481, o_A b483, o_I 1] [(.int 1)]
 exact o_retN X500 hx hlk hret (by simp) (z' := (1 : Int32)) rfl (hb hby at_578) (by decide) (by decide) ⟨by rw [o_f0_2], N500, trivial⟩
def o_f0 : Int32 := 1
def o_Q0 (h0 : Heap) (n0 : Nat) (v : Option Value) (h : Heap) (L : List Loc) : Prop := v = some (.int o_f0) ∧ Fr n0 L ∧ True
set_option maxRecDepth 65536 in
set_option maxHeartbeats 40000000 in
theorem rm0 (l : Launch) (Z : State) (a0 : Array Value) (hw : ∀ d ∈ tables_1, d.before a0 Z = true) (ws : List Jvm.Cond) (y0 : Int64) (y1 : Int64) (y2 : Int64) (y3 : Int64) (y4 : Int64) (x5 : Int32) (z_cs : Int32) (s_d : Addr) (s_i : Addr) (s_u : Addr) (s_t : Addr) (h0 : Heap) (n0 : Nat) (Z0 : n0 ≤ h0.size) (O0 : Old Z n0 h0) (z_CS : ¬ z_cs = 0) (E_d : Exa Z Z.heap s_d "java/util/Base64$Decoder") (F_u : Fld Z Z.heap s_d "java/util/Base64$Decoder" "isURL" "Z" (.int 0)) (F_m : Fld Z Z.heap s_d "java/util/Base64$Decoder" "isMIME" "Z" (.int 0)) (T_t : o_Tb Z Z.heap s_t .int 256 o_b64) (ne_iu : s_i ≠ s_u) (S_z_cs : Sta Z Z.heap "java/lang/String" "COMPACT_STRINGS" "Z" (.int z_cs)) (S_s_d : Sta Z Z.heap "java/util/Base64$Decoder" "RFC4648" "Ljava/util/Base64$Decoder;" (.ref s_d)) (S_s_i : Sta Z Z.heap "sun/nio/cs/ISO_8859_1" "INSTANCE" "Lsun/nio/cs/ISO_8859_1;" (.ref s_i)) (S_s_u : Sta Z Z.heap "sun/nio/cs/UTF_8" "INSTANCE" "Lsun/nio/cs/UTF_8;" (.ref s_u)) (S_s_t : Sta Z Z.heap "java/util/Base64$Decoder" "fromBase64" "[I" (.ref s_t)) : o_Met l Z x code maxLocals ret ws room_1 #[(.long y0), (.long y1), (.long y2), (.long y3), (.long y4), (.int x5)] h0 (o_Q0 h0 n0) := by
 rcases o_m3 x5 with h | h | h
 ·exact rm0_0 l Z a0 hw ws y0 y1 y2 y3 y4 x5 z_cs s_d s_i s_u s_t h0 n0 Z0 O0 z_CS E_d F_u F_m T_t ne_iu h S_z_cs S_s_d S_s_i S_s_u S_s_t
 ·exact rm0_1 l Z a0 hw ws y0 y1 y2 y3 y4 x5 z_cs s_d s_i s_u s_t h0 n0 Z0 O0 z_CS E_d F_u F_m T_t ne_iu h S_z_cs S_s_d S_s_i S_s_u S_s_t
 ·exact rm0_2 l Z a0 hw ws y0 y1 y2 y3 y4 x5 z_cs s_d s_i s_u s_t h0 n0 Z0 O0 z_CS E_d F_u F_m T_t ne_iu h S_z_cs S_s_d S_s_i S_s_u S_s_t
section OwnWords
variable {args : Array Value} {first s : State} {o : Option Outcome} {idx : List Nat} {a b t : Term} {G Y : Jvm.Cond}
theorem o_eqI {k : Int32} (h : (Jvm.Cond.eq a b).value args first o s idx = some true) (hb : b.eval args first o idx s = some (.int k)) : a.eval args first o idx s = some (.int k) := by
 obtain ⟨x, y, h1, h2, h3, h4⟩ := cmp_v (Or.inl h)
 cases hb.symm.trans h2
 obtain ⟨z, rfl⟩ := h4
 simp only [Jvm.Cond.value, h1, hb] at h
 rw [h1]
 simpa using h
theorem o_eqJ {k : Int64} (h : (Jvm.Cond.eq a b).value args first o s idx = some true) (hb : b.eval args first o idx s = some (.long k)) : a.eval args first o idx s = some (.long k) := by
 obtain ⟨x, y, h1, h2, h3, h4⟩ := cmp_v (Or.inl h)
 cases hb.symm.trans h2
 obtain ⟨z, rfl⟩ := h4
 simp only [Jvm.Cond.value, h1, hb] at h
 rw [h1]
 simpa using h
theorem o_or (h : (Jvm.Cond.or G Y).value args first o s idx = some true) (h1 : G.value args first o s idx = some false) : Y.value args first o s idx = some true := by
 simpa [Jvm.Cond.value, h1] using h
theorem o_ixlt {j k : Int32} (hj : ¬ j < 0) (hk : ¬ j < k) : (Jvm.Cond.lt (Jvm.Term.index 0) (Jvm.Term.int k)).value args first o s [j.toNatClampNeg] = some false := by
 have e := idx_at (args := args) (first := first) (o := o) (s := s) hj
 have f : (Jvm.Term.int k).eval args first o [j.toNatClampNeg] s = some (.int k) := Term.int_eval _
 rw [Cond.lt_ints e f]
 simp [hk]
theorem o_ixle {j k : Int32} (hj : ¬ j < 0) (hk : j < k) : (Jvm.Cond.le (Jvm.Term.int k) (Jvm.Term.index 0)).value args first o s [j.toNatClampNeg] = some false := by
 have e := idx_at (args := args) (first := first) (o := o) (s := s) hj
 have f : (Jvm.Term.int k).eval args first o [j.toNatClampNeg] s = some (.int k) := Term.int_eval _
 rw [Cond.le_ints f e]
 simp [Int32.not_le.mpr hk]
theorem o_ixsub {j k : Int32} (hj : ¬ j < 0) : (Jvm.Term.sub (Jvm.Term.index 0) (Jvm.Term.int k)).eval args first o [j.toNatClampNeg] s = some (.int (j - k)) := by
 have e := idx_at (args := args) (first := first) (o := o) (s := s) hj
 have f : (Jvm.Term.int k).eval args first o [j.toNatClampNeg] s = some (.int k) := Term.int_eval _
 rw [Term.eval, e, f]
 rfl
/-- a field that the case says to hold a number -/
theorem o_fldI {C n d : String} {x : Addr} {k : Int32} (ht : t.eval args s none [] s = some (.ref x)) (h : (Jvm.Cond.eq (Term.field t C n d) (Term.int k)).value args s none s [] = some true) : Fld s s.heap x C n d (.int k) := by
 have e := o_eqI h (Term.int_eval _)
 rw [fld_at ht] at e
 exact Fld.start e
theorem o_fldJ {C n d : String} {x : Addr} {k : Int64} (ht : t.eval args s none [] s = some (.ref x)) (h : (Jvm.Cond.eq (Term.field t C n d) (Term.long k)).value args s none s [] = some true) : Fld s s.heap x C n d (.long k) := by
 have e := o_eqJ h (show (Term.long k).eval args s none [] s = some (.long k) by simp [Term.eval])
 rw [fld_at ht] at e
 exact Fld.start e
end OwnWords

theorem o_lenA {args : Array Value} {s : State} {t : Term} {x : Addr} {cl : Cell} {z : Int32} (ht : t.eval args s none [] s = some (.ref x)) (ha : s.arrayAt? x = some cl) (h : (Term.length t).eval args s none [] s = some (.int z)) : cl.slots.size = z.toNatClampNeg := by
 by_cases q : cl.slots.size < 2 ^ 31
 ·rw [len_f ht ha q] at h
  rw [← Value.int.inj (Option.some.inj h)]
  simp only [Int32.toNatClampNeg, len_toInt q]
  rfl
 ·simp [Term.eval, ht, ha, q] at h
theorem o_elem1 {args : Array Value} {s : State} {t : Term} {x : Addr} {cl : Cell} {i k : Int32} (ht : t.eval args s none [] s = some (.ref x)) (ha : s.arrayAt? x = some cl) (hi : ¬ i < 0) (h : (Jvm.Cond.eq (Term.elem t (Term.int i)) (Term.int k)).value args s none s [] = some true) : cl.slots[i.toNatClampNeg]? = some (.int k) := by
 have e := o_eqI h (Term.int_eval _)
 rwa [elem_f ht (Term.int_eval _) ha hi] at e
def o_c64 (k : Nat) : Jvm.Cond := Jvm.Cond.eq (Jvm.Term.elem (Jvm.Term.static "java/util/Base64$Decoder" "fromBase64" "[I") (Jvm.Term.int (Int32.ofNat k))) (Jvm.Term.int (o_b64 (Int32.ofNat k)))
set_option maxRecDepth 65536 in
set_option maxHeartbeats 40000000 in
theorem o_l64 : (jdkStatics_1.drop 25).take 256 = (List.range 256).map o_c64 := by rfl
theorem o_w64 (k : Fin 256) : o_c64 k.val ∈ jdkStatics_1 := by
 have h : o_c64 k.val ∈ (List.range 256).map o_c64 := List.mem_map_of_mem (List.mem_range.mpr k.isLt)
 rw [← o_l64] at h
 exact List.mem_of_mem_drop (List.mem_of_mem_take h)
set_option maxRecDepth 65536 in
set_option maxHeartbeats 40000000 in
theorem comes_1 {Post : Tables → Env → Array Value → State → Outcome → State → Prop} (hpost : ∀ tb e args s v u, (limb_1_1.after args s (.returned v) u = true ∧ limb_1_2.after args s (.returned v) u = true) → FrameEnd s (.returned v) u (Jvm.fieldLocs frame_1_writes args s ++ Jvm.arrayLocs frame_1_arrays args s ++ Jvm.staticLocs frame_1_statics s) 24 832 → Post tb e args s (.returned v) u) :
  ArmFor flags0 classFile x code maxLocals ret World_1 tables_1 room_1 Calls_1 rest_1 Pre_1 Post := by
 intro l hfl _ _ p e ha hc hk s m args below hf hA hF happ hP
 obtain ⟨hcalls, hrest, hpre⟩ := hP
 obtain ⟨-, -, -, hnamed, -, -, -, hat⟩ := (Spec.applies_iff hf).mp happ
 obtain ⟨hg, hn⟩ := and_e (Cond.before_iff.mp (show (Jvm.Cond.and given_1 narrow_1).before args s = true from hpre))
 obtain ⟨gg1, gg2⟩ := and_e hg
 obtain ⟨gg3, gg4⟩ := and_e gg2
 obtain ⟨gg5, gg6⟩ := and_e gg4
 obtain ⟨gg7, gg8⟩ := and_e gg6
 obtain ⟨gg9, gg10⟩ := and_e gg8
 obtain ⟨gg11, gg12⟩ := and_e gg10
 obtain ⟨w0, w1, w2, w3, w4, w5, rfl⟩ : ∃ w0 w1 w2 w3 w4 w5 : Value, args = #[w0, w1, w2, w3, w4, w5] := by
  have hs : args.size = 6 := by simpa [Cond.value, given_1] using gg1
  obtain ⟨L⟩ := args
  match L, hs with
  | [w0, w1, w2, w3, w4, w5], _ => exact ⟨w0, w1, w2, w3, w4, w5, rfl⟩
 have hw := fun d (hd : d ∈ tables_1) => atoms_spec (ws := Jvm.Cond.code x code maxLocals ret :: tables_1) hat d (List.mem_cons_of_mem _ hd)
 have hfit : Fit s := fun {y c} hc i hi => by
  obtain ⟨ha, rfl⟩ := Array.getElem?_eq_some_iff.mp hc
  have q := List.all_eq_true.mp ((Array.all_eq_true_iff_forall_mem.mp hF) _ (Array.getElem_mem ha)) i (List.mem_range.mpr hi)
  simpa [Array.getElem?_eq_getElem hi] using q
 obtain ⟨hsets, hown0⟩ := atoms_of _ (rest_1_c_eq ▸ (show rest_1_c.before _ s = true from hrest))
 have hr0 := Cond.before_iff.mp hown0
 obtain ⟨i0, ei0⟩ := isL_v gg3
 obtain rfl : w0 = (.long i0) := Option.some.inj ei0
 obtain ⟨i1, ei1⟩ := isL_v gg5
 obtain rfl : w1 = (.long i1) := Option.some.inj ei1
 obtain ⟨i2, ei2⟩ := isL_v gg7
 obtain rfl : w2 = (.long i2) := Option.some.inj ei2
 obtain ⟨i3, ei3⟩ := isL_v gg9
 obtain rfl : w3 = (.long i3) := Option.some.inj ei3
 obtain ⟨i4, ei4⟩ := isL_v gg11
 obtain rfl : w4 = (.long i4) := Option.some.inj ei4
 obtain ⟨i5, ei5⟩ := is_v gg12
 obtain rfl : w5 = (.int i5) := Option.some.inj ei5
 obtain ⟨z_cs, v_cs⟩ := is_v (Cond.before_iff.mp (hsets _ (List.mem_of_getElem? (i := 1) rfl)))
 have S_CS := Sta.start v_cs (Or.inl (hsets _ (List.mem_of_getElem? (i := 0) rfl)))
 have z_CS : ¬ z_cs = 0 := o_nz v_cs (Cond.before_iff.mp (hsets _ (List.mem_of_getElem? (i := 2) rfl)))
 obtain ⟨s_d, v_d⟩ := exa_v (Cond.before_iff.mp (hsets _ (List.mem_of_getElem? (i := 11) rfl)))
 have E_d := exa_at v_d (Cond.before_iff.mp (hsets _ (List.mem_of_getElem? (i := 11) rfl)))
 have F_u := o_fldI v_d (Cond.before_iff.mp (hsets _ (List.mem_of_getElem? (i := 12) rfl)))
 have F_m := o_fldI v_d (Cond.before_iff.mp (hsets _ (List.mem_of_getElem? (i := 13) rfl)))
 have S_d := Sta.start v_d (Or.inl (hsets _ (List.mem_of_getElem? (i := 10) rfl)))
 obtain ⟨s_i, v_i⟩ := exa_v (Cond.before_iff.mp (hsets _ (List.mem_of_getElem? (i := 16) rfl)))
 have E_i := exa_at v_i (Cond.before_iff.mp (hsets _ (List.mem_of_getElem? (i := 16) rfl)))
 have S_i := Sta.start v_i (Or.inl (hsets _ (List.mem_of_getElem? (i := 15) rfl)))
 obtain ⟨s_u, v_u⟩ := exa_v (Cond.before_iff.mp (hsets _ (List.mem_of_getElem? (i := 19) rfl)))
 have E_u := exa_at v_u (Cond.before_iff.mp (hsets _ (List.mem_of_getElem? (i := 19) rfl)))
 have S_u := Sta.start v_u (Or.inl (hsets _ (List.mem_of_getElem? (i := 18) rfl)))
 have ne_iu : s_i ≠ s_u := Exa.ne E_i E_u (by decide)
 obtain ⟨s_t, v_t⟩ := arr_v (Cond.before_iff.mp (hsets _ (List.mem_of_getElem? (i := 22) rfl)))
 obtain ⟨cl, A⟩ := Arr.start v_t (Cond.before_iff.mp (hsets _ (List.mem_of_getElem? (i := 22) rfl)))
 have ha_t : s.arrayAt? s_t = some cl := Arr.fin (Vm.Alike.refl _) A
 have z_t := o_lenA v_t ha_t (o_eqI (Cond.before_iff.mp (hsets _ (List.mem_of_getElem? (i := 24) rfl))) (Term.int_eval _))
 have S_t := Sta.start v_t (Or.inl (hsets _ (List.mem_of_getElem? (i := 21) rfl)))
 have T_t : o_Tb s s.heap s_t .int 256 o_b64 := ⟨cl, A, z_t, by decide, fun j h1 h2 => by
  obtain ⟨k, rfl⟩ := o_small ⟨h1, fun q => by rw [o_lt, show (255 : Int32).toInt = 255 from rfl] at q; rw [o_lt, show (256 : Int32).toInt = 256 from rfl] at h2; omega⟩
  exact o_elem1 v_t ha_t h1 (Cond.before_iff.mp (hsets _ (o_w64 k)))⟩
 obtain ⟨n, o, h1, h2, h3, v, L, rfl, hQ, hq⟩ := rm0 l s _ hw tables_1 i0 i1 i2 i3 i4 i5 z_cs s_d s_i s_u s_t s.heap s.heap.size (Nat.le_refl _) (Old.start s) z_CS E_d F_u F_m T_t ne_iu S_CS S_d S_i S_u S_t p e ha hc hk s m _ below hf ((Spec.applies_iff_loose hf).mp happ).1 ⟨rfl, State.Warmed39.refl s, rfl⟩ trivial
 obtain ⟨hv, N, -⟩ := hQ
 rw [show (o_f0  : Int32) = 1 from rfl] at hv
 subst hv
 refine ⟨n, _, h1, h2, h3, hpost _ _ _ _ _ _ ⟨Cond.after_iff.mpr rfl, Cond.after_iff.mpr (eq_i res_at (Term.int_eval (1)) rfl)⟩ ⟨hq.1, hq.2.1, (hq.2.2.sift fun y hy => Or.inr (N y hy)).mono (by decide) (by decide)⟩⟩
theorem main_1_1 : Claimed_1_1 := comes_1 fun _ _ _ _ _ _ h hF => ⟨h.1, hF⟩
theorem main_1_2 : Claimed_1_2 := comes_1 fun _ _ _ _ _ _ h hF => ⟨h.2, hF⟩
end Jvm.Pilot.@@N@@
namespace Jvm.Pilot.@@N@@
open Jvm Jvm.ClassFile Sem Op Lib Jvm.Free Jvm.Stand Jvm.Pilot.@@N@@.Jvm.D
/-! MADE BY PROGRAM (witnessworld.py) out of the Statement's table words and the real class files: 27 classes; the members and pool entries that the words name. The judged class is class 1, her method 1. -/
namespace start1
open Jvm.ClassFile
def u (s : String) : CpInfo := .utf8 (stringToUtf16 s)
/-- a pool by its gaps: so many unusable entries, then the entry; so many at the end -/
def gap : Nat → List CpInfo → List CpInfo
  | 0, r => r
  | n + 1, r => .unusable :: gap n r
def poolList (es : List (Nat × CpInfo)) (last : Nat) : List CpInfo := es.foldr (fun e r => gap e.1 (e.2 :: r)) (gap last [])
def pool (es : List (Nat × CpInfo)) (last : Nat) : Array CpInfo := ⟨poolList es last⟩
def fileOf (pool : Array CpInfo) (this : Nat) (attrs : Array Attribute := #[]) (ms : Array MethodInfo := #[]) (fl : Nat := 33) (sup : Nat := 0) (ifs : Array Nat := #[]) (fds : Array FieldInfo := #[]) : ClassFile where
  minorVersion := 0
  majorVersion := 65
  constantPool := pool
  accessFlags := fl
  thisClass := this
  superClass := sup
  interfaces := ifs
  fields := fds
  methods := ms
  attributes := attrs
def plain (name : String) (sup : Option ClassId) : Class where
  name := name
  kind := .ordinary
  loader := none
  accessFlags := 33
  super := sup
  interfaces := #[]
  cf := none
  fields := #[]
  methods := #[]
  instanceTypes := #[]
  staticTypes := #[]
  resolved := #[]
  callSites := []
  init := .initialized
  statics := none
  mirror := none

def pool0 : Array CpInfo := pool [(5, u "<init>"), (0, u "()V"), (1, .class_ 10), (1, u "java/lang/Object"), (85, u "clone"), (0, u "()Ljava/lang/Object;")] 26

def k0c0 : Code := { maxStack := 0, maxLocals := 1, code := object_method_1_code, exceptionTable := #[], attributes := #[] }
def k0m0 : Method := { name := "<init>", desc := "()V", sig := { parameters := [], returnType := none }, accessFlags := 1, code := some k0c0 }
def k0m1 : Method := { name := "clone", desc := "()Ljava/lang/Object;", sig := { parameters := [], returnType := some (.object "java/lang/Object") }, accessFlags := 260, code := none }
/-- java/lang/Object -/
def k0 : Class := { plain "java/lang/Object" none with
  accessFlags := 33
  interfaces := #[]
  cf := some (fileOf pool0 8 #[] #[{ accessFlags := 1, nameIndex := 5, descriptorIndex := 6, attributes := #[] }, { accessFlags := 260, nameIndex := 96, descriptorIndex := 97, attributes := #[] }] 33 0 #[] #[])
  fields := #[]
  methods := #[k0m0, k0m1]
  instanceTypes := #[]
  staticTypes := #[]
  resolved := Array.replicate 124 none
  statics := none }

def pool1 : Array CpInfo := pool [(2, .class_ 4), (1, u "java/lang/Object"), (0, u "<init>"), (0, u "()V"), (0, .integer 2147483647), (0, .methodref 9 10), (0, .class_ 11), (0, .nameAndType 12 13), (0, u "com/example/quittance/quittance/dialect/AesCbcBlocksPinLaw"), (0, u "put"), (0, u "([BIJ)V"), (0, .methodref 9 15), (0, .nameAndType 16 17), (0, u "enc3"), (0, u "([B[CI)V"), (0, .methodref 9 19), (0, .nameAndType 20 21), (0, u "sym"), (0, u "(I)C"), (0, .class_ 23), (0, u "java/lang/String"), (0, .methodref 22 25), (0, .nameAndType 5 26), (0, u "([C)V"), (0, .methodref 28 29), (0, .class_ 30), (0, .nameAndType 31 32), (0, u "com/example/quittance/quittance/dialect/AesCbc"), (0, u "blocks"), (0, u "(Ljava/lang/String;)[B"), (0, .methodref 9 34), (0, .nameAndType 35 36), (0, u "get"), (0, u "([BI)J"), (2, u "law"), (0, u "(JJJJJI)Z")] 10

def k1m0 : Method := { name := "<init>", desc := "()V", sig := { parameters := [], returnType := none }, accessFlags := 1, code := none }
def k1c1 : Code := { maxStack := 4, maxLocals := 23, code := code, exceptionTable := #[], attributes := #[] }
def k1m1 : Method := { name := "law", desc := "(JJJJJI)Z", sig := { parameters := [.long, .long, .long, .long, .long, .int], returnType := some .boolean }, accessFlags := 9, code := some k1c1 }
def k1c2 : Code := { maxStack := 3, maxLocals := 1, code := method_3_code, exceptionTable := #[], attributes := #[] }
def k1m2 : Method := { name := "sym", desc := "(I)C", sig := { parameters := [.int], returnType := some .char }, accessFlags := 10, code := some k1c2 }
def k1c3 : Code := { maxStack := 4, maxLocals := 6, code := method_4_code, exceptionTable := #[], attributes := #[] }
def k1m3 : Method := { name := "enc3", desc := "([B[CI)V", sig := { parameters := [(.array .byte), (.array .char), .int], returnType := none }, accessFlags := 10, code := some k1c3 }
def k1c4 : Code := { maxStack := 5, maxLocals := 4, code := method_5_code, exceptionTable := #[], attributes := #[] }
def k1m4 : Method := { name := "put", desc := "([BIJ)V", sig := { parameters := [(.array .byte), .int, .long], returnType := none }, accessFlags := 10, code := some k1c4 }
def k1c5 : Code := { maxStack := 5, maxLocals := 2, code := method_6_code, exceptionTable := #[], attributes := #[] }
def k1m5 : Method := { name := "get", desc := "([BI)J", sig := { parameters := [(.array .byte), .int], returnType := some .long }, accessFlags := 10, code := some k1c5 }
/-- com/example/quittance/quittance/dialect/AesCbcBlocksPinLaw -/
def k1 : Class := { plain "com/example/quittance/quittance/dialect/AesCbcBlocksPinLaw" (some 0) with
  accessFlags := 49
  interfaces := #[]
  cf := some (fileOf pool1 9 #[] #[{ accessFlags := 1, nameIndex := 5, descriptorIndex := 6, attributes := #[] }, { accessFlags := 9, nameIndex := 39, descriptorIndex := 40, attributes := #[] }, { accessFlags := 10, nameIndex := 20, descriptorIndex := 21, attributes := #[] }, { accessFlags := 10, nameIndex := 16, descriptorIndex := 17, attributes := #[] }, { accessFlags := 10, nameIndex := 12, descriptorIndex := 13, attributes := #[] }, { accessFlags := 10, nameIndex := 35, descriptorIndex := 36, attributes := #[] }] 49 2 #[] #[])
  fields := #[]
  methods := #[k1m0, k1m1, k1m2, k1m3, k1m4, k1m5]
  instanceTypes := #[]
  staticTypes := #[]
  resolved := Array.replicate 51 none
  statics := none }

def pool2 : Array CpInfo := pool [(1, .class_ 2), (0, u "java/io/Serializable"), (0, .class_ 4), (0, u "java/lang/Object")] 2

/-- java/io/Serializable -/
def k2 : Class := { plain "java/io/Serializable" (some 0) with
  accessFlags := 1537
  interfaces := #[]
  cf := some (fileOf pool2 1 #[] #[] 1537 3 #[] #[])
  fields := #[]
  methods := #[]
  instanceTypes := #[]
  staticTypes := #[]
  resolved := Array.replicate 7 none
  statics := none }

def pool3 : Array CpInfo := pool [(1, .class_ 2), (0, u "java/lang/Comparable"), (0, .class_ 4), (0, u "java/lang/Object")] 7

/-- java/lang/Comparable -/
def k3 : Class := { plain "java/lang/Comparable" (some 0) with
  accessFlags := 1537
  interfaces := #[]
  cf := some (fileOf pool3 1 #[] #[] 1537 3 #[] #[])
  fields := #[]
  methods := #[]
  instanceTypes := #[]
  staticTypes := #[]
  resolved := Array.replicate 12 none
  statics := none }

def pool4 : Array CpInfo := pool [(2, .class_ 4), (1, u "java/lang/CharSequence"), (42, .class_ 48), (0, u "java/lang/CharSequence$1CodePointIterator"), (10, .class_ 60), (0, u "java/lang/CharSequence$1CharIterator"), (5, .class_ 67), (0, u "java/lang/Object")] 63

/-- java/lang/CharSequence -/
def k4 : Class := { plain "java/lang/CharSequence" (some 0) with
  accessFlags := 1537
  interfaces := #[]
  cf := some (fileOf pool4 2 #[.nestMembers #[47, 59]] #[] 1537 66 #[] #[])
  fields := #[]
  methods := #[]
  instanceTypes := #[]
  staticTypes := #[]
  resolved := Array.replicate 131 none
  statics := none }

def pool5 : Array CpInfo := pool [(1, .class_ 2), (0, u "java/lang/constant/Constable"), (0, .class_ 4), (0, u "java/lang/Object")] 6

/-- java/lang/constant/Constable -/
def k5 : Class := { plain "java/lang/constant/Constable" (some 0) with
  accessFlags := 1537
  interfaces := #[]
  cf := some (fileOf pool5 1 #[] #[] 1537 3 #[] #[])
  fields := #[]
  methods := #[]
  instanceTypes := #[]
  staticTypes := #[]
  resolved := Array.replicate 11 none
  statics := none }

def pool6 : Array CpInfo := pool [(1, .class_ 2), (0, u "java/lang/constant/ConstantDesc"), (0, .class_ 4), (0, u "java/lang/Object")] 32

/-- java/lang/constant/ConstantDesc -/
def k6 : Class := { plain "java/lang/constant/ConstantDesc" (some 0) with
  accessFlags := 1537
  interfaces := #[]
  cf := some (fileOf pool6 1 #[] #[] 1537 3 #[] #[])
  fields := #[]
  methods := #[]
  instanceTypes := #[]
  staticTypes := #[]
  resolved := Array.replicate 37 none
  statics := none }

def pool7 : Array CpInfo := pool [(1, .methodref 2 3), (0, .class_ 4), (0, .nameAndType 5 6), (0, u "java/lang/Object"), (0, u "<init>"), (0, u "()V"), (2, .fieldref 10 11), (0, .class_ 12), (0, .nameAndType 13 14), (0, u "java/lang/String"), (0, u "value"), (0, u "[B"), (0, .fieldref 10 16), (0, .nameAndType 17 18), (0, u "coder"), (0, u "B"), (2, u "hash"), (0, u "I"), (2, u "hashIsZero"), (0, u "Z"), (0, .methodref 10 28), (0, .nameAndType 5 29), (0, u "([CIILjava/lang/Void;)V"), (8, .fieldref 10 39), (0, .nameAndType 40 26), (0, u "COMPACT_STRINGS"), (1, .class_ 44), (1, u "java/lang/StringUTF16"), (0, u "compress"), (1, .methodref 42 48), (0, .nameAndType 49 50), (0, u "coderFromArrayLen"), (0, u "([BI)B"), (35, .fieldref 87 88), (0, .class_ 89), (0, .nameAndType 90 91), (0, u "sun/nio/cs/UTF_8"), (0, u "INSTANCE"), (0, u "Lsun/nio/cs/UTF_8;"), (24, .fieldref 117 118), (0, .class_ 119), (0, .nameAndType 90 120), (0, u "sun/nio/cs/ISO_8859_1"), (0, u "Lsun/nio/cs/ISO_8859_1;"), (56, .methodref 42 178), (0, .nameAndType 45 179), (0, u "([CII)[B"), (75, u "(B[BZ)[B"), (0, .methodref 10 257), (0, .nameAndType 258 259), (0, u "encode8859_1"), (0, u "(B[B)[B"), (19, .methodref 280 281), (0, .class_ 14), (0, .nameAndType 282 283), (0, u "clone"), (0, u "()Ljava/lang/Object;"), (33, u "encode"), (17, .methodref 10 336), (0, .nameAndType 17 337), (0, u "()B"), (13, .methodref 10 352), (0, .nameAndType 258 255), (179, u "getBytes"), (2, .methodref 10 536), (0, .nameAndType 317 537), (0, u "(Ljava/nio/charset/Charset;B[B)[B"), (37, .class_ 576), (0, u "java/lang/CharSequence"), (22, u "CASE_INSENSITIVE_ORDER"), (0, u "Ljava/util/Comparator;"), (409, u "([C)V"), (90, u "serialPersistentFields"), (0, u "[Ljava/io/ObjectStreamField;"), (0, .class_ 1104), (0, u "java/lang/String$CaseInsensitiveComparator"), (1, .class_ 1107), (0, u "java/io/Serializable"), (0, .class_ 1109), (0, u "java/lang/Comparable"), (0, .class_ 1111), (0, u "java/lang/constant/Constable"), (0, .class_ 1113), (0, u "java/lang/constant/ConstantDesc"), (2, u "serialVersionUID"), (0, u "J"), (3, u "REPL"), (0, u "C"), (2, u "LATIN1"), (1, u "UTF16"), (117, u "(Ljava/nio/charset/Charset;)[B")] 205

def k7m0 : Method := { name := "<init>", desc := "()V", sig := { parameters := [], returnType := none }, accessFlags := 1, code := none }
def k7c1 : Code := { maxStack := 5, maxLocals := 2, code := jdk_42_method_3_code, exceptionTable := #[], attributes := #[] }
def k7m1 : Method := { name := "<init>", desc := "([C)V", sig := { parameters := [(.array .char)], returnType := none }, accessFlags := 1, code := some k7c1 }
def k7c2 : Code := { maxStack := 4, maxLocals := 3, code := jdk_42_method_18_code, exceptionTable := #[], attributes := #[] }
def k7m2 : Method := { name := "encode", desc := "(Ljava/nio/charset/Charset;B[B)[B", sig := { parameters := [(.object "java/nio/charset/Charset"), .byte, (.array .byte)], returnType := some (.array .byte) }, accessFlags := 10, code := some k7c2 }
def k7c3 : Code := { maxStack := 3, maxLocals := 2, code := jdk_42_method_26_code, exceptionTable := #[], attributes := #[] }
def k7m3 : Method := { name := "encode8859_1", desc := "(B[B)[B", sig := { parameters := [.byte, (.array .byte)], returnType := some (.array .byte) }, accessFlags := 10, code := some k7c3 }
def k7c4 : Code := { maxStack := 5, maxLocals := 10, code := jdk_42_method_27_code, exceptionTable := #[], attributes := #[] }
def k7m4 : Method := { name := "encode8859_1", desc := "(B[BZ)[B", sig := { parameters := [.byte, (.array .byte), .boolean], returnType := some (.array .byte) }, accessFlags := 10, code := some k7c4 }
def k7c5 : Code := { maxStack := 3, maxLocals := 2, code := jdk_42_method_64_code, exceptionTable := #[], attributes := #[] }
def k7m5 : Method := { name := "getBytes", desc := "(Ljava/nio/charset/Charset;)[B", sig := { parameters := [(.object "java/nio/charset/Charset")], returnType := some (.array .byte) }, accessFlags := 1, code := some k7c5 }
def k7c6 : Code := { maxStack := 4, maxLocals := 6, code := jdk_42_method_149_code, exceptionTable := #[], attributes := #[] }
def k7m6 : Method := { name := "<init>", desc := "([CIILjava/lang/Void;)V", sig := { parameters := [(.array .char), .int, .int, (.object "java/lang/Void")], returnType := none }, accessFlags := 2, code := some k7c6 }
def k7c7 : Code := { maxStack := 1, maxLocals := 1, code := jdk_42_method_152_code, exceptionTable := #[], attributes := #[] }
def k7m7 : Method := { name := "coder", desc := "()B", sig := { parameters := [], returnType := some .byte }, accessFlags := 0, code := some k7c7 }
/-- java/lang/String -/
def k7 : Class := { plain "java/lang/String" (some 0) with
  accessFlags := 49
  interfaces := #[2, 3, 4, 5, 6]
  cf := some (fileOf pool7 10 #[.nestMembers #[1103]] #[{ accessFlags := 1, nameIndex := 5, descriptorIndex := 6, attributes := #[] }, { accessFlags := 1, nameIndex := 5, descriptorIndex := 1010, attributes := #[] }, { accessFlags := 10, nameIndex := 317, descriptorIndex := 537, attributes := #[] }, { accessFlags := 10, nameIndex := 258, descriptorIndex := 259, attributes := #[] }, { accessFlags := 10, nameIndex := 258, descriptorIndex := 255, attributes := #[] }, { accessFlags := 1, nameIndex := 532, descriptorIndex := 1245, attributes := #[] }, { accessFlags := 2, nameIndex := 5, descriptorIndex := 29, attributes := #[] }, { accessFlags := 0, nameIndex := 17, descriptorIndex := 337, attributes := #[] }] 49 2 #[1106, 1108, 575, 1110, 1112] #[{ accessFlags := 18, nameIndex := 13, descriptorIndex := 14, attributes := #[] }, { accessFlags := 18, nameIndex := 17, descriptorIndex := 18, attributes := #[] }, { accessFlags := 2, nameIndex := 21, descriptorIndex := 22, attributes := #[] }, { accessFlags := 2, nameIndex := 25, descriptorIndex := 26, attributes := #[] }, { accessFlags := 26, nameIndex := 1116, descriptorIndex := 1117, attributes := #[] }, { accessFlags := 24, nameIndex := 40, descriptorIndex := 26, attributes := #[] }, { accessFlags := 26, nameIndex := 1101, descriptorIndex := 1102, attributes := #[] }, { accessFlags := 26, nameIndex := 1121, descriptorIndex := 1122, attributes := #[] }, { accessFlags := 25, nameIndex := 599, descriptorIndex := 600, attributes := #[] }, { accessFlags := 24, nameIndex := 1125, descriptorIndex := 18, attributes := #[] }, { accessFlags := 24, nameIndex := 1127, descriptorIndex := 18, attributes := #[] }])
  fields := #[{ name := "value", type := (.array .byte), accessFlags := 18, slot := 0, constantValue := 0 }, { name := "coder", type := .byte, accessFlags := 18, slot := 1, constantValue := 0 }, { name := "hash", type := .int, accessFlags := 2, slot := 2, constantValue := 0 }, { name := "hashIsZero", type := .boolean, accessFlags := 2, slot := 3, constantValue := 0 }, { name := "serialVersionUID", type := .long, accessFlags := 26, slot := 0, constantValue := 0 }, { name := "COMPACT_STRINGS", type := .boolean, accessFlags := 24, slot := 1, constantValue := 0 }, { name := "serialPersistentFields", type := (.array (.object "java/io/ObjectStreamField")), accessFlags := 26, slot := 2, constantValue := 0 }, { name := "REPL", type := .char, accessFlags := 26, slot := 3, constantValue := 0 }, { name := "CASE_INSENSITIVE_ORDER", type := (.object "java/util/Comparator"), accessFlags := 25, slot := 4, constantValue := 0 }, { name := "LATIN1", type := .byte, accessFlags := 24, slot := 5, constantValue := 0 }, { name := "UTF16", type := .byte, accessFlags := 24, slot := 6, constantValue := 0 }]
  methods := #[k7m0, k7m1, k7m2, k7m3, k7m4, k7m5, k7m6, k7m7]
  instanceTypes := #[(.array .byte), .byte, .int, .boolean]
  staticTypes := #[.long, .boolean, (.array (.object "java/io/ObjectStreamField")), .char, (.object "java/util/Comparator"), .byte, .byte]
  resolved := Array.replicate 1451 none
  statics := some 0 }

def pool8 : Array CpInfo := pool [(6, .class_ 8), (1, u "java/lang/Object"), (0, u "<init>"), (0, u "()V"), (1, .class_ 14), (1, u "java/lang/StringUTF16"), (31, u "$assertionsDisabled"), (0, u "Z"), (13, u "HI_BYTE_SHIFT"), (0, u "I"), (2, u "LO_BYTE_SHIFT"), (49, .methodref 12 116), (0, .nameAndType 117 118), (0, u "compress"), (0, u "([CI[BII)I"), (3, u "([CII)[B"), (138, u "coderFromArrayLen"), (0, u "([BI)B"), (106, .class_ 371), (1, u "java/lang/StringUTF16$LinesSpliterator"), (58, u "MAX_LENGTH"), (196, .class_ 628), (0, u "java/lang/StringUTF16$CodePointsSpliterator"), (0, .class_ 630), (0, u "java/lang/StringUTF16$CharsSpliterator")] 4

def k8m0 : Method := { name := "<init>", desc := "()V", sig := { parameters := [], returnType := none }, accessFlags := 0, code := none }
def k8c1 : Code := { maxStack := 2, maxLocals := 2, code := jdk_52_method_15_code, exceptionTable := #[], attributes := #[] }
def k8m1 : Method := { name := "coderFromArrayLen", desc := "([BI)B", sig := { parameters := [(.array .byte), .int], returnType := some .byte }, accessFlags := 8, code := some k8c1 }
def k8c2 : Code := { maxStack := 5, maxLocals := 6, code := jdk_52_method_16_code, exceptionTable := #[], attributes := #[] }
def k8m2 : Method := { name := "compress", desc := "([CII)[B", sig := { parameters := [(.array .char), .int, .int], returnType := some (.array .byte) }, accessFlags := 9, code := some k8c2 }
def k8c3 : Code := { maxStack := 3, maxLocals := 7, code := jdk_52_method_21_code, exceptionTable := #[], attributes := #[] }
def k8m3 : Method := { name := "compress", desc := "([CI[BII)I", sig := { parameters := [(.array .char), .int, (.array .byte), .int, .int], returnType := some .int }, accessFlags := 9, code := some k8c3 }
/-- java/lang/StringUTF16 -/
def k8 : Class := { plain "java/lang/StringUTF16" (some 0) with
  accessFlags := 48
  interfaces := #[]
  cf := some (fileOf pool8 12 #[.nestMembers #[627, 629, 369]] #[{ accessFlags := 0, nameIndex := 9, descriptorIndex := 10, attributes := #[] }, { accessFlags := 8, nameIndex := 261, descriptorIndex := 262, attributes := #[] }, { accessFlags := 9, nameIndex := 117, descriptorIndex := 122, attributes := #[] }, { accessFlags := 9, nameIndex := 117, descriptorIndex := 118, attributes := #[] }] 48 6 #[] #[{ accessFlags := 26, nameIndex := 61, descriptorIndex := 62, attributes := #[] }, { accessFlags := 26, nameIndex := 65, descriptorIndex := 62, attributes := #[] }, { accessFlags := 24, nameIndex := 430, descriptorIndex := 62, attributes := #[] }, { accessFlags := 4120, nameIndex := 46, descriptorIndex := 47, attributes := #[] }])
  fields := #[{ name := "HI_BYTE_SHIFT", type := .int, accessFlags := 26, slot := 0, constantValue := 0 }, { name := "LO_BYTE_SHIFT", type := .int, accessFlags := 26, slot := 1, constantValue := 0 }, { name := "MAX_LENGTH", type := .int, accessFlags := 24, slot := 2, constantValue := 0 }, { name := "$assertionsDisabled", type := .boolean, accessFlags := 4120, slot := 3, constantValue := 0 }]
  methods := #[k8m0, k8m1, k8m2, k8m3]
  instanceTypes := #[]
  staticTypes := #[.int, .int, .int, .boolean]
  resolved := Array.replicate 635 none
  statics := none }

def pool9 : Array CpInfo := pool [(2, .class_ 4), (1, u "java/lang/Object"), (10, .class_ 17), (1, u "com/example/quittance/quittance/dialect/AesCbc"), (0, u "key"), (0, u "Ljavax/crypto/spec/SecretKeySpec;"), (7, u "iv"), (0, u "Ljavax/crypto/spec/IvParameterSpec;"), (0, .methodref 30 31), (0, .class_ 32), (0, .nameAndType 33 34), (0, u "java/util/Base64"), (0, u "getDecoder"), (0, u "()Ljava/util/Base64$Decoder;"), (0, .methodref 36 37), (0, .class_ 38), (0, .nameAndType 39 40), (0, u "java/util/Base64$Decoder"), (0, u "decode"), (0, u "(Ljava/lang/String;)[B"), (42, u "BLOCK_BYTES"), (0, u "I"), (8, u "blocks")] 8

def k9c0 : Code := { maxStack := 3, maxLocals := 3, code := prog_9_method_3_code, exceptionTable := #[{ startPc := 0, endPc := 8, handlerPc := 11, catchType := 41 }], attributes := #[] }
def k9m0 : Method := { name := "blocks", desc := "(Ljava/lang/String;)[B", sig := { parameters := [(.object "java/lang/String")], returnType := some (.array .byte) }, accessFlags := 8, code := some k9c0 }
/-- com/example/quittance/quittance/dialect/AesCbc -/
def k9 : Class := { plain "com/example/quittance/quittance/dialect/AesCbc" (some 0) with
  accessFlags := 48
  interfaces := #[]
  cf := some (fileOf pool9 15 #[] #[{ accessFlags := 8, nameIndex := 93, descriptorIndex := 40, attributes := #[] }] 48 2 #[] #[{ accessFlags := 24, nameIndex := 83, descriptorIndex := 84, attributes := #[] }, { accessFlags := 18, nameIndex := 18, descriptorIndex := 19, attributes := #[] }, { accessFlags := 18, nameIndex := 27, descriptorIndex := 28, attributes := #[] }])
  fields := #[{ name := "BLOCK_BYTES", type := .int, accessFlags := 24, slot := 0, constantValue := 0 }, { name := "key", type := (.object "javax/crypto/spec/SecretKeySpec"), accessFlags := 18, slot := 0, constantValue := 0 }, { name := "iv", type := (.object "javax/crypto/spec/IvParameterSpec"), accessFlags := 18, slot := 1, constantValue := 0 }]
  methods := #[k9m0]
  instanceTypes := #[(.object "javax/crypto/spec/SecretKeySpec"), (.object "javax/crypto/spec/IvParameterSpec")]
  staticTypes := #[.int]
  resolved := Array.replicate 102 none
  statics := none }

def pool10 : Array CpInfo := pool [(2, .class_ 4), (1, u "java/lang/Object"), (0, u "<init>"), (0, u "()V"), (1, .class_ 10), (1, u "java/util/Base64$Encoder"), (0, u "RFC4648"), (14, .class_ 28), (1, u "java/util/Base64$Decoder"), (28, .fieldref 26 58), (0, .nameAndType 11 59), (0, u "Ljava/util/Base64$Decoder;"), (4, .class_ 65), (0, u "java/util/Base64"), (20, u "getDecoder"), (0, u "()Ljava/util/Base64$Decoder;"), (5, .class_ 94), (0, u "java/util/Base64$DecInputStream"), (0, .class_ 96), (0, u "java/util/Base64$EncOutputStream")] 5

def k10m0 : Method := { name := "<init>", desc := "()V", sig := { parameters := [], returnType := none }, accessFlags := 2, code := none }
def k10c1 : Code := { maxStack := 1, maxLocals := 0, code := jdk_2448_method_6_code, exceptionTable := #[], attributes := #[] }
def k10m1 : Method := { name := "getDecoder", desc := "()Ljava/util/Base64$Decoder;", sig := { parameters := [], returnType := some (.object "java/util/Base64$Decoder") }, accessFlags := 9, code := some k10c1 }
/-- java/util/Base64 -/
def k10 : Class := { plain "java/util/Base64" (some 0) with
  accessFlags := 33
  interfaces := #[]
  cf := some (fileOf pool10 64 #[.nestMembers #[93, 95, 26, 8]] #[{ accessFlags := 2, nameIndex := 5, descriptorIndex := 6, attributes := #[] }, { accessFlags := 9, nameIndex := 86, descriptorIndex := 87, attributes := #[] }] 33 2 #[] #[])
  fields := #[]
  methods := #[k10m0, k10m1]
  instanceTypes := #[]
  staticTypes := #[]
  resolved := Array.replicate 102 none
  statics := none }

def pool11 : Array CpInfo := pool [(2, .class_ 4), (1, u "java/lang/Object"), (2, .fieldref 8 9), (0, .class_ 10), (0, .nameAndType 11 12), (0, u "java/util/Base64$Decoder"), (0, u "isURL"), (0, u "Z"), (0, .fieldref 8 14), (0, .nameAndType 15 12), (0, u "isMIME"), (0, .methodref 8 17), (0, .nameAndType 18 19), (0, u "decodedOutLength"), (0, u "([BII)I"), (0, .methodref 8 21), (0, .nameAndType 22 23), (0, u "decode0"), (0, u "([BII[B)I"), (6, .fieldref 31 32), (0, .class_ 33), (0, .nameAndType 34 35), (0, u "sun/nio/cs/ISO_8859_1"), (0, u "INSTANCE"), (0, u "Lsun/nio/cs/ISO_8859_1;"), (0, .methodref 37 38), (0, .class_ 39), (0, .nameAndType 40 41), (0, u "java/lang/String"), (0, u "getBytes"), (0, u "(Ljava/nio/charset/Charset;)[B"), (0, .methodref 8 43), (0, .nameAndType 44 45), (0, u "decode"), (0, u "([B)[B"), (51, u "fromBase64URL"), (0, u "[I"), (0, .fieldref 8 100), (0, .nameAndType 101 98), (0, u "fromBase64"), (5, .long 3), (1, .long 4), (1, .methodref 8 112), (0, .nameAndType 113 114), (0, u "decodeBlock"), (0, u "([BII[BIZZ)I"), (45, u "RFC4648"), (0, u "Ljava/util/Base64$Decoder;"), (2, u "RFC4648_URLSAFE"), (2, u "RFC2045"), (11, u "(Ljava/lang/String;)[B"), (40, .class_ 221), (0, u "java/util/Base64")] 4

def k11c0 : Code := { maxStack := 5, maxLocals := 4, code := jdk_2450_method_2_code, exceptionTable := #[], attributes := #[] }
def k11m0 : Method := { name := "decode", desc := "([B)[B", sig := { parameters := [(.array .byte)], returnType := some (.array .byte) }, accessFlags := 1, code := some k11c0 }
def k11c1 : Code := { maxStack := 3, maxLocals := 2, code := jdk_2450_method_3_code, exceptionTable := #[], attributes := #[] }
def k11m1 : Method := { name := "decode", desc := "(Ljava/lang/String;)[B", sig := { parameters := [(.object "java/lang/String")], returnType := some (.array .byte) }, accessFlags := 1, code := some k11c1 }
def k11c2 : Code := { maxStack := 5, maxLocals := 9, code := jdk_2450_method_7_code, exceptionTable := #[], attributes := #[] }
def k11m2 : Method := { name := "decodedOutLength", desc := "([BII)I", sig := { parameters := [(.array .byte), .int, .int], returnType := some .int }, accessFlags := 2, code := some k11c2 }
def k11c3 : Code := { maxStack := 4, maxLocals := 16, code := jdk_2450_method_8_code, exceptionTable := #[], attributes := #[] }
def k11m3 : Method := { name := "decodeBlock", desc := "([BII[BIZZ)I", sig := { parameters := [(.array .byte), .int, .int, (.array .byte), .int, .boolean, .boolean], returnType := some .int }, accessFlags := 2, code := some k11c3 }
def k11c4 : Code := { maxStack := 8, maxLocals := 11, code := jdk_2450_method_9_code, exceptionTable := #[], attributes := #[] }
def k11m4 : Method := { name := "decode0", desc := "([BII[B)I", sig := { parameters := [(.array .byte), .int, .int, (.array .byte)], returnType := some .int }, accessFlags := 2, code := some k11c4 }
/-- java/util/Base64$Decoder -/
def k11 : Class := { plain "java/util/Base64$Decoder" (some 0) with
  accessFlags := 33
  interfaces := #[]
  cf := some (fileOf pool11 8 #[.nestHost 220] #[{ accessFlags := 1, nameIndex := 44, descriptorIndex := 45, attributes := #[] }, { accessFlags := 1, nameIndex := 44, descriptorIndex := 179, attributes := #[] }, { accessFlags := 2, nameIndex := 18, descriptorIndex := 19, attributes := #[] }, { accessFlags := 2, nameIndex := 113, descriptorIndex := 114, attributes := #[] }, { accessFlags := 2, nameIndex := 22, descriptorIndex := 23, attributes := #[] }] 33 2 #[] #[{ accessFlags := 18, nameIndex := 11, descriptorIndex := 12, attributes := #[] }, { accessFlags := 18, nameIndex := 15, descriptorIndex := 12, attributes := #[] }, { accessFlags := 26, nameIndex := 101, descriptorIndex := 98, attributes := #[] }, { accessFlags := 26, nameIndex := 97, descriptorIndex := 98, attributes := #[] }, { accessFlags := 24, nameIndex := 160, descriptorIndex := 161, attributes := #[] }, { accessFlags := 24, nameIndex := 164, descriptorIndex := 161, attributes := #[] }, { accessFlags := 24, nameIndex := 167, descriptorIndex := 161, attributes := #[] }])
  fields := #[{ name := "isURL", type := .boolean, accessFlags := 18, slot := 0, constantValue := 0 }, { name := "isMIME", type := .boolean, accessFlags := 18, slot := 1, constantValue := 0 }, { name := "fromBase64", type := (.array .int), accessFlags := 26, slot := 0, constantValue := 0 }, { name := "fromBase64URL", type := (.array .int), accessFlags := 26, slot := 1, constantValue := 0 }, { name := "RFC4648", type := (.object "java/util/Base64$Decoder"), accessFlags := 24, slot := 2, constantValue := 0 }, { name := "RFC4648_URLSAFE", type := (.object "java/util/Base64$Decoder"), accessFlags := 24, slot := 3, constantValue := 0 }, { name := "RFC2045", type := (.object "java/util/Base64$Decoder"), accessFlags := 24, slot := 4, constantValue := 0 }]
  methods := #[k11m0, k11m1, k11m2, k11m3, k11m4]
  instanceTypes := #[.boolean, .boolean]
  staticTypes := #[(.array .int), (.array .int), (.object "java/util/Base64$Decoder"), (.object "java/util/Base64$Decoder"), (.object "java/util/Base64$Decoder")]
  resolved := Array.replicate 226 none
  statics := some 1 }

def pool12 : Array CpInfo := pool [(18, .class_ 20), (1, u "java/nio/charset/Charset"), (0, u "cache1"), (0, u "[Ljava/lang/Object;"), (2, u "cache2"), (0, .class_ 27), (0, u "java/lang/Object"), (0, .class_ 29), (0, u "java/nio/charset/Charset$1"), (4, .class_ 36), (1, u "java/nio/charset/Charset$ThreadTrackHolder"), (21, .class_ 59), (0, u "java/nio/charset/Charset$2"), (11, .class_ 73), (1, u "java/nio/charset/Charset$ExtendedProviderHolder"), (22, u "standardProvider"), (0, u "Ljava/nio/charset/spi/CharsetProvider;"), (29, u "name"), (7, .class_ 136), (0, u "java/nio/charset/Charset$3"), (5, u "defaultCharset"), (0, u "Ljava/nio/charset/Charset;"), (14, u "zeroAliases"), (0, u "[Ljava/lang/String;"), (29, u "Ljava/lang/String;"), (2, u "aliases"), (2, u "aliasSet"), (0, u "Ljava/util/Set;"), (82, .class_ 280), (0, u "java/lang/Comparable"), (84, .class_ 366), (0, u "java/nio/charset/Charset$ExtendedProviderHolder$1")] 3

/-- java/nio/charset/Charset -/
def k12 : Class := { plain "java/nio/charset/Charset" (some 0) with
  accessFlags := 1057
  interfaces := #[3]
  cf := some (fileOf pool12 18 #[.nestMembers #[71, 365, 34, 135, 58, 28]] #[] 1057 26 #[279] #[{ accessFlags := 26, nameIndex := 96, descriptorIndex := 97, attributes := #[] }, { accessFlags := 26, nameIndex := 158, descriptorIndex := 159, attributes := #[] }, { accessFlags := 74, nameIndex := 21, descriptorIndex := 22, attributes := #[] }, { accessFlags := 74, nameIndex := 25, descriptorIndex := 22, attributes := #[] }, { accessFlags := 10, nameIndex := 142, descriptorIndex := 143, attributes := #[] }, { accessFlags := 18, nameIndex := 127, descriptorIndex := 189, attributes := #[] }, { accessFlags := 18, nameIndex := 192, descriptorIndex := 159, attributes := #[] }, { accessFlags := 2, nameIndex := 195, descriptorIndex := 196, attributes := #[] }])
  fields := #[{ name := "standardProvider", type := (.object "java/nio/charset/spi/CharsetProvider"), accessFlags := 26, slot := 0, constantValue := 0 }, { name := "zeroAliases", type := (.array (.object "java/lang/String")), accessFlags := 26, slot := 1, constantValue := 0 }, { name := "cache1", type := (.array (.object "java/lang/Object")), accessFlags := 74, slot := 2, constantValue := 0 }, { name := "cache2", type := (.array (.object "java/lang/Object")), accessFlags := 74, slot := 3, constantValue := 0 }, { name := "defaultCharset", type := (.object "java/nio/charset/Charset"), accessFlags := 10, slot := 4, constantValue := 0 }, { name := "name", type := (.object "java/lang/String"), accessFlags := 18, slot := 0, constantValue := 0 }, { name := "aliases", type := (.array (.object "java/lang/String")), accessFlags := 18, slot := 1, constantValue := 0 }, { name := "aliasSet", type := (.object "java/util/Set"), accessFlags := 2, slot := 2, constantValue := 0 }]
  methods := #[]
  instanceTypes := #[(.object "java/lang/String"), (.array (.object "java/lang/String")), (.object "java/util/Set")]
  staticTypes := #[(.object "java/nio/charset/spi/CharsetProvider"), (.array (.object "java/lang/String")), (.array (.object "java/lang/Object")), (.array (.object "java/lang/Object")), (.object "java/nio/charset/Charset")]
  resolved := Array.replicate 370 none
  statics := none }

def pool13 : Array CpInfo := pool [(1, .class_ 2), (0, u "sun/nio/cs/HistoricallyNamedCharset"), (0, .class_ 4), (0, u "java/lang/Object")] 4

/-- sun/nio/cs/HistoricallyNamedCharset -/
def k13 : Class := { plain "sun/nio/cs/HistoricallyNamedCharset" (some 0) with
  accessFlags := 1537
  interfaces := #[]
  cf := some (fileOf pool13 1 #[] #[] 1537 3 #[] #[])
  fields := #[]
  methods := #[]
  instanceTypes := #[]
  staticTypes := #[]
  resolved := Array.replicate 9 none
  statics := none }

def pool14 : Array CpInfo := pool [(10, .class_ 12), (1, u "java/nio/charset/Charset"), (0, u "<init>"), (5, .class_ 20), (0, u "sun/nio/cs/ISO_8859_1"), (0, .class_ 22), (0, u "sun/nio/cs/ISO_8859_1$Decoder"), (3, .class_ 27), (0, u "sun/nio/cs/ISO_8859_1$Encoder"), (3, u "()V"), (2, u "INSTANCE"), (0, u "Lsun/nio/cs/ISO_8859_1;"), (0, .class_ 37), (0, u "sun/nio/cs/HistoricallyNamedCharset")] 22

def k14m0 : Method := { name := "<init>", desc := "()V", sig := { parameters := [], returnType := none }, accessFlags := 1, code := none }
/-- sun/nio/cs/ISO_8859_1 -/
def k14 : Class := { plain "sun/nio/cs/ISO_8859_1" (some 12) with
  accessFlags := 33
  interfaces := #[13]
  cf := some (fileOf pool14 19 #[.nestMembers #[26, 21]] #[{ accessFlags := 1, nameIndex := 13, descriptorIndex := 31, attributes := #[] }] 33 10 #[36] #[{ accessFlags := 25, nameIndex := 34, descriptorIndex := 35, attributes := #[] }])
  fields := #[{ name := "INSTANCE", type := (.object "sun/nio/cs/ISO_8859_1"), accessFlags := 25, slot := 0, constantValue := 0 }]
  methods := #[k14m0]
  instanceTypes := #[(.object "java/lang/String"), (.array (.object "java/lang/String")), (.object "java/util/Set")]
  staticTypes := #[(.object "sun/nio/cs/ISO_8859_1")]
  resolved := Array.replicate 60 none
  statics := some 2 }

def pool15 : Array CpInfo := pool [(2, .class_ 4), (1, u "java/nio/charset/Charset"), (130, .class_ 136), (0, u "sun/nio/cs/Unicode"), (0, .class_ 138), (0, u "sun/nio/cs/HistoricallyNamedCharset")] 15

/-- sun/nio/cs/Unicode -/
def k15 : Class := { plain "sun/nio/cs/Unicode" (some 12) with
  accessFlags := 1056
  interfaces := #[13]
  cf := some (fileOf pool15 135 #[] #[] 1056 2 #[137] #[])
  fields := #[]
  methods := #[]
  instanceTypes := #[(.object "java/lang/String"), (.array (.object "java/lang/String")), (.object "java/util/Set")]
  staticTypes := #[]
  resolved := Array.replicate 154 none
  statics := none }

def pool16 : Array CpInfo := pool [(10, .class_ 12), (1, u "sun/nio/cs/Unicode"), (0, u "<init>"), (3, .class_ 18), (0, u "sun/nio/cs/UTF_8$Decoder"), (3, .class_ 23), (0, u "sun/nio/cs/UTF_8$Encoder"), (15, .class_ 40), (0, u "sun/nio/cs/UTF_8"), (2, u "()V"), (2, u "INSTANCE"), (0, u "Lsun/nio/cs/UTF_8;"), (8, u "JLA"), (0, u "Ljdk/internal/access/JavaLangAccess;")] 26

def k16m0 : Method := { name := "<init>", desc := "()V", sig := { parameters := [], returnType := none }, accessFlags := 1, code := none }
/-- sun/nio/cs/UTF_8 -/
def k16 : Class := { plain "sun/nio/cs/UTF_8" (some 15) with
  accessFlags := 49
  interfaces := #[]
  cf := some (fileOf pool16 39 #[.nestMembers #[22, 17]] #[{ accessFlags := 1, nameIndex := 13, descriptorIndex := 43, attributes := #[] }] 49 10 #[] #[{ accessFlags := 25, nameIndex := 46, descriptorIndex := 47, attributes := #[] }, { accessFlags := 26, nameIndex := 56, descriptorIndex := 57, attributes := #[] }])
  fields := #[{ name := "INSTANCE", type := (.object "sun/nio/cs/UTF_8"), accessFlags := 25, slot := 0, constantValue := 0 }, { name := "JLA", type := (.object "jdk/internal/access/JavaLangAccess"), accessFlags := 26, slot := 1, constantValue := 0 }]
  methods := #[k16m0]
  instanceTypes := #[(.object "java/lang/String"), (.array (.object "java/lang/String")), (.object "java/util/Set")]
  staticTypes := #[(.object "sun/nio/cs/UTF_8"), (.object "jdk/internal/access/JavaLangAccess")]
  resolved := Array.replicate 84 none
  statics := some 3 }

def pool17 : Array CpInfo := pool [(1, .class_ 2), (0, u "java/lang/Cloneable"), (0, .class_ 4), (0, u "java/lang/Object")] 2

/-- java/lang/Cloneable -/
def k17 : Class := { plain "java/lang/Cloneable" (some 0) with
  accessFlags := 1537
  interfaces := #[]
  cf := some (fileOf pool17 1 #[] #[] 1537 3 #[] #[])
  fields := #[]
  methods := #[]
  instanceTypes := #[]
  staticTypes := #[]
  resolved := Array.replicate 7 none
  statics := none }

def pool18 : Array CpInfo := pool [(2, .class_ 4), (1, u "java/lang/Object"), (0, u "<init>"), (0, u "()V"), (17, .class_ 26), (1, u "jdk/internal/util/Preconditions"), (28, .class_ 56), (0, u "jdk/internal/util/Preconditions$4"), (57, .class_ 115), (0, u "jdk/internal/util/Preconditions$1"), (7, u "SIOOBE_FORMATTER"), (0, u "Ljava/util/function/BiFunction;"), (0, .class_ 126), (0, u "jdk/internal/util/Preconditions$2"), (3, u "AIOOBE_FORMATTER"), (0, .class_ 132), (0, u "jdk/internal/util/Preconditions$3"), (3, u "IOOBE_FORMATTER")] 57

def k18m0 : Method := { name := "<init>", desc := "()V", sig := { parameters := [], returnType := none }, accessFlags := 1, code := none }
/-- jdk/internal/util/Preconditions -/
def k18 : Class := { plain "jdk/internal/util/Preconditions" (some 0) with
  accessFlags := 33
  interfaces := #[]
  cf := some (fileOf pool18 24 #[.nestMembers #[55, 131, 125, 114]] #[{ accessFlags := 1, nameIndex := 5, descriptorIndex := 6, attributes := #[] }] 33 2 #[] #[{ accessFlags := 25, nameIndex := 123, descriptorIndex := 124, attributes := #[] }, { accessFlags := 25, nameIndex := 130, descriptorIndex := 124, attributes := #[] }, { accessFlags := 25, nameIndex := 136, descriptorIndex := 124, attributes := #[] }])
  fields := #[{ name := "SIOOBE_FORMATTER", type := (.object "java/util/function/BiFunction"), accessFlags := 25, slot := 0, constantValue := 0 }, { name := "AIOOBE_FORMATTER", type := (.object "java/util/function/BiFunction"), accessFlags := 25, slot := 1, constantValue := 0 }, { name := "IOOBE_FORMATTER", type := (.object "java/util/function/BiFunction"), accessFlags := 25, slot := 2, constantValue := 0 }]
  methods := #[k18m0]
  instanceTypes := #[]
  staticTypes := #[(.object "java/util/function/BiFunction"), (.object "java/util/function/BiFunction"), (.object "java/util/function/BiFunction")]
  resolved := Array.replicate 194 none
  statics := some 4 }

def pool19 : Array CpInfo := pool [(4, .class_ 6), (1, u "java/lang/Object"), (0, u "<init>"), (0, u "()V"), (5, .class_ 16), (1, u "java/lang/StringLatin1"), (104, u "$assertionsDisabled"), (0, u "Z"), (98, .class_ 223), (1, u "java/lang/StringLatin1$LinesSpliterator"), (166, .class_ 391), (0, u "java/lang/StringLatin1$CharsSpliterator")] 3

def k19m0 : Method := { name := "<init>", desc := "()V", sig := { parameters := [], returnType := none }, accessFlags := 0, code := none }
/-- java/lang/StringLatin1 -/
def k19 : Class := { plain "java/lang/StringLatin1" (some 0) with
  accessFlags := 48
  interfaces := #[]
  cf := some (fileOf pool19 14 #[.nestMembers #[390, 221]] #[{ accessFlags := 0, nameIndex := 7, descriptorIndex := 8, attributes := #[] }] 48 4 #[] #[{ accessFlags := 4120, nameIndex := 121, descriptorIndex := 122, attributes := #[] }])
  fields := #[{ name := "$assertionsDisabled", type := .boolean, accessFlags := 4120, slot := 0, constantValue := 0 }]
  methods := #[k19m0]
  instanceTypes := #[]
  staticTypes := #[.boolean]
  resolved := Array.replicate 395 none
  statics := none }

def pool20 : Array CpInfo := pool [(9, u "<init>"), (6, .class_ 18), (1, u "java/lang/Object"), (0, u "()V"), (1, .class_ 23), (1, u "jdk/internal/util/ArraysSupport"), (0, u "LOG2_ARRAY_LONG_INDEX_SCALE"), (0, u "I"), (2, u "U"), (0, u "Ljdk/internal/misc/Unsafe;"), (8, u "BIG_ENDIAN"), (0, u "Z"), (8, u "LOG2_BYTE_BIT_SIZE"), (4, u "LOG2_ARRAY_INT_INDEX_SCALE"), (54, u "JLA"), (0, u "Ljdk/internal/access/JavaLangAccess;"), (11, u "LOG2_ARRAY_BOOLEAN_INDEX_SCALE"), (9, u "LOG2_ARRAY_BYTE_INDEX_SCALE"), (5, u "LOG2_ARRAY_CHAR_INDEX_SCALE"), (5, u "LOG2_ARRAY_SHORT_INDEX_SCALE"), (18, u "LOG2_ARRAY_FLOAT_INDEX_SCALE"), (24, u "LOG2_ARRAY_DOUBLE_INDEX_SCALE"), (89, u "T_BOOLEAN"), (2, u "T_CHAR"), (1, u "T_FLOAT"), (1, u "T_DOUBLE"), (1, u "T_BYTE"), (1, u "T_SHORT"), (1, u "T_INT"), (1, u "T_LONG"), (1, u "SOFT_MAX_ARRAY_LENGTH")] 83

def k20m0 : Method := { name := "<init>", desc := "()V", sig := { parameters := [], returnType := none }, accessFlags := 2, code := none }
/-- jdk/internal/util/ArraysSupport -/
def k20 : Class := { plain "jdk/internal/util/ArraysSupport" (some 0) with
  accessFlags := 33
  interfaces := #[]
  cf := some (fileOf pool20 21 #[] #[{ accessFlags := 2, nameIndex := 9, descriptorIndex := 19, attributes := #[] }] 33 16 #[] #[{ accessFlags := 24, nameIndex := 28, descriptorIndex := 29, attributes := #[] }, { accessFlags := 26, nameIndex := 38, descriptorIndex := 39, attributes := #[] }, { accessFlags := 25, nameIndex := 121, descriptorIndex := 25, attributes := #[] }, { accessFlags := 25, nameIndex := 131, descriptorIndex := 25, attributes := #[] }, { accessFlags := 25, nameIndex := 137, descriptorIndex := 25, attributes := #[] }, { accessFlags := 25, nameIndex := 143, descriptorIndex := 25, attributes := #[] }, { accessFlags := 25, nameIndex := 53, descriptorIndex := 25, attributes := #[] }, { accessFlags := 25, nameIndex := 24, descriptorIndex := 25, attributes := #[] }, { accessFlags := 25, nameIndex := 162, descriptorIndex := 25, attributes := #[] }, { accessFlags := 25, nameIndex := 187, descriptorIndex := 25, attributes := #[] }, { accessFlags := 26, nameIndex := 48, descriptorIndex := 25, attributes := #[] }, { accessFlags := 25, nameIndex := 277, descriptorIndex := 25, attributes := #[] }, { accessFlags := 25, nameIndex := 280, descriptorIndex := 25, attributes := #[] }, { accessFlags := 25, nameIndex := 282, descriptorIndex := 25, attributes := #[] }, { accessFlags := 25, nameIndex := 284, descriptorIndex := 25, attributes := #[] }, { accessFlags := 25, nameIndex := 286, descriptorIndex := 25, attributes := #[] }, { accessFlags := 25, nameIndex := 288, descriptorIndex := 25, attributes := #[] }, { accessFlags := 25, nameIndex := 290, descriptorIndex := 25, attributes := #[] }, { accessFlags := 25, nameIndex := 292, descriptorIndex := 25, attributes := #[] }, { accessFlags := 26, nameIndex := 108, descriptorIndex := 109, attributes := #[] }, { accessFlags := 25, nameIndex := 294, descriptorIndex := 25, attributes := #[] }])
  fields := #[{ name := "U", type := (.object "jdk/internal/misc/Unsafe"), accessFlags := 24, slot := 0, constantValue := 0 }, { name := "BIG_ENDIAN", type := .boolean, accessFlags := 26, slot := 1, constantValue := 0 }, { name := "LOG2_ARRAY_BOOLEAN_INDEX_SCALE", type := .int, accessFlags := 25, slot := 2, constantValue := 0 }, { name := "LOG2_ARRAY_BYTE_INDEX_SCALE", type := .int, accessFlags := 25, slot := 3, constantValue := 0 }, { name := "LOG2_ARRAY_CHAR_INDEX_SCALE", type := .int, accessFlags := 25, slot := 4, constantValue := 0 }, { name := "LOG2_ARRAY_SHORT_INDEX_SCALE", type := .int, accessFlags := 25, slot := 5, constantValue := 0 }, { name := "LOG2_ARRAY_INT_INDEX_SCALE", type := .int, accessFlags := 25, slot := 6, constantValue := 0 }, { name := "LOG2_ARRAY_LONG_INDEX_SCALE", type := .int, accessFlags := 25, slot := 7, constantValue := 0 }, { name := "LOG2_ARRAY_FLOAT_INDEX_SCALE", type := .int, accessFlags := 25, slot := 8, constantValue := 0 }, { name := "LOG2_ARRAY_DOUBLE_INDEX_SCALE", type := .int, accessFlags := 25, slot := 9, constantValue := 0 }, { name := "LOG2_BYTE_BIT_SIZE", type := .int, accessFlags := 26, slot := 10, constantValue := 0 }, { name := "T_BOOLEAN", type := .int, accessFlags := 25, slot := 11, constantValue := 0 }, { name := "T_CHAR", type := .int, accessFlags := 25, slot := 12, constantValue := 0 }, { name := "T_FLOAT", type := .int, accessFlags := 25, slot := 13, constantValue := 0 }, { name := "T_DOUBLE", type := .int, accessFlags := 25, slot := 14, constantValue := 0 }, { name := "T_BYTE", type := .int, accessFlags := 25, slot := 15, constantValue := 0 }, { name := "T_SHORT", type := .int, accessFlags := 25, slot := 16, constantValue := 0 }, { name := "T_INT", type := .int, accessFlags := 25, slot := 17, constantValue := 0 }, { name := "T_LONG", type := .int, accessFlags := 25, slot := 18, constantValue := 0 }, { name := "JLA", type := (.object "jdk/internal/access/JavaLangAccess"), accessFlags := 26, slot := 19, constantValue := 0 }, { name := "SOFT_MAX_ARRAY_LENGTH", type := .int, accessFlags := 25, slot := 20, constantValue := 0 }]
  methods := #[k20m0]
  instanceTypes := #[]
  staticTypes := #[(.object "jdk/internal/misc/Unsafe"), .boolean, .int, .int, .int, .int, .int, .int, .int, .int, .int, .int, .int, .int, .int, .int, .int, .int, .int, (.object "jdk/internal/access/JavaLangAccess"), .int]
  resolved := Array.replicate 378 none
  statics := none }

/-- the primitive byte -/
def k21 : Class := { plain "byte" none with kind := .primitive 'B', accessFlags := 0x411 }
/-- [B -/
def k22 : Class := { plain "[B" (some 0) with kind := .array 21 .byte, interfaces := #[17, 2], accessFlags := 1041 }

/-- the primitive char -/
def k23 : Class := { plain "char" none with kind := .primitive 'C', accessFlags := 0x411 }
/-- [C -/
def k24 : Class := { plain "[C" (some 0) with kind := .array 23 .char, interfaces := #[17, 2], accessFlags := 1041 }

/-- the primitive int -/
def k25 : Class := { plain "int" none with kind := .primitive 'I', accessFlags := 0x411 }
/-- [I -/
def k26 : Class := { plain "[I" (some 0) with kind := .array 25 .int, interfaces := #[17, 2], accessFlags := 1041 }

def heap : Heap := #[{ cls := 7, slots := #[.long 0, .int 1, .null, .int 0, .null, .int 0, .int 0], vm := .statics 7 },
  { cls := 11, slots := #[.ref 10, .null, .ref 7, .null, .null], vm := .statics 11 },
  { cls := 14, slots := #[.ref 8], vm := .statics 14 },
  { cls := 16, slots := #[.ref 9, .null], vm := .statics 16 },
  { cls := 18, slots := #[.null, .null, .null], vm := .statics 18 },
  { cls := 19, slots := #[], vm := .none },
  { cls := 20, slots := #[], vm := .none },
  { cls := 11, slots := #[.int 0, .int 0], vm := .none },
  { cls := 14, slots := #[.null, .null, .null], vm := .none },
  { cls := 16, slots := #[.null, .null, .null], vm := .none },
  { cls := 26, slots := #[.int (-1), .int (-1), .int (-1), .int (-1), .int (-1), .int (-1), .int (-1), .int (-1), .int (-1), .int (-1), .int (-1), .int (-1), .int (-1), .int (-1), .int (-1), .int (-1), .int (-1), .int (-1), .int (-1), .int (-1), .int (-1), .int (-1), .int (-1), .int (-1), .int (-1), .int (-1), .int (-1), .int (-1), .int (-1), .int (-1), .int (-1), .int (-1), .int (-1), .int (-1), .int (-1), .int (-1), .int (-1), .int (-1), .int (-1), .int (-1), .int (-1), .int (-1), .int (-1), .int 62, .int (-1), .int (-1), .int (-1), .int 63, .int 52, .int 53, .int 54, .int 55, .int 56, .int 57, .int 58, .int 59, .int 60, .int 61, .int (-1), .int (-1), .int (-1), .int (-2), .int (-1), .int (-1), .int (-1), .int 0, .int 1, .int 2, .int 3, .int 4, .int 5, .int 6, .int 7, .int 8, .int 9, .int 10, .int 11, .int 12, .int 13, .int 14, .int 15, .int 16, .int 17, .int 18, .int 19, .int 20, .int 21, .int 22, .int 23, .int 24, .int 25, .int (-1), .int (-1), .int (-1), .int (-1), .int (-1), .int (-1), .int 26, .int 27, .int 28, .int 29, .int 30, .int 31, .int 32, .int 33, .int 34, .int 35, .int 36, .int 37, .int 38, .int 39, .int 40, .int 41, .int 42, .int 43, .int 44, .int 45, .int 46, .int 47, .int 48, .int 49, .int 50, .int 51, .int (-1), .int (-1), .int (-1), .int (-1), .int (-1), .int (-1), .int (-1), .int (-1), .int (-1), .int (-1), .int (-1), .int (-1), .int (-1), .int (-1), .int (-1), .int (-1), .int (-1), .int (-1), .int (-1), .int (-1), .int (-1), .int (-1), .int (-1), .int (-1), .int (-1), .int (-1), .int (-1), .int (-1), .int (-1), .int (-1), .int (-1), .int (-1), .int (-1), .int (-1), .int (-1), .int (-1), .int (-1), .int (-1), .int (-1), .int (-1), .int (-1), .int (-1), .int (-1), .int (-1), .int (-1), .int (-1), .int (-1), .int (-1), .int (-1), .int (-1), .int (-1), .int (-1), .int (-1), .int (-1), .int (-1), .int (-1), .int (-1), .int (-1), .int (-1), .int (-1), .int (-1), .int (-1), .int (-1), .int (-1), .int (-1), .int (-1), .int (-1), .int (-1), .int (-1), .int (-1), .int (-1), .int (-1), .int (-1), .int (-1), .int (-1), .int (-1), .int (-1), .int (-1), .int (-1), .int (-1), .int (-1), .int (-1), .int (-1), .int (-1), .int (-1), .int (-1), .int (-1), .int (-1), .int (-1), .int (-1), .int (-1), .int (-1), .int (-1), .int (-1), .int (-1), .int (-1), .int (-1), .int (-1), .int (-1), .int (-1), .int (-1), .int (-1), .int (-1), .int (-1), .int (-1), .int (-1), .int (-1), .int (-1), .int (-1), .int (-1), .int (-1), .int (-1), .int (-1), .int (-1), .int (-1), .int (-1), .int (-1), .int (-1), .int (-1), .int (-1), .int (-1), .int (-1), .int (-1), .int (-1), .int (-1), .int (-1), .int (-1), .int (-1), .int (-1), .int (-1), .int (-1), .int (-1), .int (-1)], vm := .none }]
def classes : Array Class := #[k0, k1, k2, k3, k4, k5, k6, k7, k8, k9, k10, k11, k12, k13, k14, k15, k16, k17, k18, k19, k20, k21, k22, k23, k24, k25, k26]
def interned : List (Array UInt16 × Addr) := []
def slotsUsed : Nat := 282
def theMethod : MethodId := ⟨1, 1⟩
def args0 : Array Value := #[.long 0, .long 0, .long 0, .long 0, .long 0, .int 0]
def aboutOver (below : List Frame) : State where
  vm := { classes := classes, interned := interned.toArray }
  heap := heap
  slotsUsed := slotsUsed
  threads := #[{ frames := .invoking theMethod args0 :: below }]
def below0 : List Frame := [.native { method := ⟨0, 0⟩, args := #[] }]
def about1 : State := aboutOver below0
def p0 : Program := .bare "" "" ""
def e0 : Env := launch0.env 0 0 0
theorem w_frames : about1.frames = Frame.invoking theMethod args0 :: below0 := rfl
set_option maxRecDepth 65536 in
theorem w_args : argsFit about1.vm theMethod args0 = true := by decide +kernel
set_option maxRecDepth 65536 in
theorem w_heap : heapFits about1 = true := by decide +kernel
set_option maxRecDepth 65536 in
theorem w_runnable : about1.curStatus? = some .runnable := by decide +kernel
set_option maxRecDepth 65536 in
theorem w_alone : about1.alone = true := by decide +kernel
set_option maxRecDepth 65536 in
theorem w_named : about1.methodNamed? x = some theMethod := by decide +kernel
set_option maxRecDepth 65536 in
theorem w_hears : about1.hears theMethod below0 = true := by decide +kernel
set_option maxRecDepth 65536 in
theorem w_ripe : about1.ripe theMethod args0 below0 = true := by decide +kernel
theorem w_running : about1.status = .running := rfl
set_option maxRecDepth 65536 in
theorem w_room : about1.hasRoom e0.platform room_1 = true :=
  launch0.hasRoom_least _ room_1 (by decide +kernel) (by decide +kernel) (by decide +kernel) (by decide +kernel) (by decide +kernel) (by decide +kernel)
theorem allAtoms_all (ts : List Jvm.Cond) (a : Array Jvm.Value) (st : Jvm.State) : (allAtoms ts).before a st = ts.all (fun c => c.before a st) := by
  induction ts with
  | nil => rfl
  | cons c t ih =>
    show (Jvm.Cond.and c (allAtoms t)).before a st = _
    rw [Jvm.Cond.before_and, ih, List.all_cons]
def words1 : List Jvm.Cond := Jvm.Cond.code x code maxLocals ret :: tables_1
/-- a 'code' word, met by the world's own term for the bytes: nothing is compared byte by byte -/
theorem code_word {y : MethodName} {bytes : ByteArray} {mx : Nat} {rt : Option FieldType} {a : Array Value} {s : State} {m : MethodId} {meth : Method} {c : Code} (h1 : s.methodNamed? y = some m) (h2 : s.vm.method? m = some meth) (h3 : meth.code = some c) (h4 : c.code = bytes)
    (h5 : (c.maxLocals == mx && c.exceptionTable.isEmpty && decide (c.maxStack ≤ mostOperands) && decide (meth.sig.returnType = rt) && !meth.locks && decide (parseMethodDescriptor y.desc = some meth.sig)) = true) : (Jvm.Cond.code y bytes mx rt).before a s = true := by
  simp only [Bool.and_eq_true, beq_iff_eq, Bool.not_eq_true', decide_eq_true_eq] at h5
  obtain ⟨⟨⟨⟨⟨g1, g2⟩, g3⟩, g4⟩, g5⟩, g6⟩ := h5
  simp [Cond.before, Cond.holds, Cond.value, h1, h2, h3, h4, g1, g2, g3, g4, g5, g6]
def isCode : Jvm.Cond → Bool
  | .code _ _ _ _ => true
  | _ => false
theorem all_split {L : List Jvm.Cond} {P : Jvm.Cond → Bool} (h1 : L.all (fun c => isCode c || P c) = true) (h2 : ∀ c ∈ L.filter isCode, P c = true) : L.all P = true := by
  refine List.all_eq_true.mpr fun c hc => ?_
  have h := List.all_eq_true.mp h1 c hc
  rcases Bool.eq_false_or_eq_true (isCode c) with hi | hi
  · exact h2 c (List.mem_filter.mpr ⟨hc, hi⟩)
  · simpa [hi] using h
set_option maxRecDepth 65536 in
theorem w_c0 : (Jvm.Cond.code x code maxLocals ret).before args0 about1 = true := code_word (m := ⟨1, 1⟩) (meth := k1m1) (c := k1c1) (by decide +kernel) rfl rfl rfl (by decide +kernel)
set_option maxRecDepth 65536 in
theorem w_c1 : (Jvm.Cond.code ({ cls := "com/example/quittance/quittance/dialect/AesCbcBlocksPinLaw", name := "put", desc := "([BIJ)V" } : Jvm.MethodName) method_5_code (4 : Nat) (Option.none : Option Jvm.ClassFile.FieldType)).before args0 about1 = true := code_word (m := ⟨1, 4⟩) (meth := k1m4) (c := k1c4) (by decide +kernel) rfl rfl rfl (by decide +kernel)
set_option maxRecDepth 65536 in
theorem w_c2 : (Jvm.Cond.code ({ cls := "com/example/quittance/quittance/dialect/AesCbcBlocksPinLaw", name := "enc3", desc := "([B[CI)V" } : Jvm.MethodName) method_4_code (6 : Nat) (Option.none : Option Jvm.ClassFile.FieldType)).before args0 about1 = true := code_word (m := ⟨1, 3⟩) (meth := k1m3) (c := k1c3) (by decide +kernel) rfl rfl rfl (by decide +kernel)
set_option maxRecDepth 65536 in
theorem w_c3 : (Jvm.Cond.code ({ cls := "com/example/quittance/quittance/dialect/AesCbcBlocksPinLaw", name := "sym", desc := "(I)C" } : Jvm.MethodName) method_3_code (1 : Nat) (Option.some Jvm.ClassFile.FieldType.char)).before args0 about1 = true := code_word (m := ⟨1, 2⟩) (meth := k1m2) (c := k1c2) (by decide +kernel) rfl rfl rfl (by decide +kernel)
set_option maxRecDepth 65536 in
theorem w_c4 : (Jvm.Cond.code ({ cls := "java/lang/String", name := "<init>", desc := "([C)V" } : Jvm.MethodName) jdk_42_method_3_code (2 : Nat) (Option.none : Option Jvm.ClassFile.FieldType)).before args0 about1 = true := code_word (m := ⟨7, 1⟩) (meth := k7m1) (c := k7c1) (by decide +kernel) rfl rfl rfl (by decide +kernel)
set_option maxRecDepth 65536 in
theorem w_c5 : (Jvm.Cond.code ({ cls := "java/lang/String", name := "<init>", desc := "([CIILjava/lang/Void;)V" } : Jvm.MethodName) jdk_42_method_149_code (6 : Nat) (Option.none : Option Jvm.ClassFile.FieldType)).before args0 about1 = true := code_word (m := ⟨7, 6⟩) (meth := k7m6) (c := k7c6) (by decide +kernel) rfl rfl rfl (by decide +kernel)
set_option maxRecDepth 65536 in
theorem w_c6 : (Jvm.Cond.code ({ cls := "java/lang/Object", name := "<init>", desc := "()V" } : Jvm.MethodName) object_method_1_code (1 : Nat) (Option.none : Option Jvm.ClassFile.FieldType)).before args0 about1 = true := code_word (m := ⟨0, 0⟩) (meth := k0m0) (c := k0c0) (by decide +kernel) rfl rfl rfl (by decide +kernel)
set_option maxRecDepth 65536 in
theorem w_c7 : (Jvm.Cond.code ({ cls := "java/lang/StringUTF16", name := "compress", desc := "([CII)[B" } : Jvm.MethodName) jdk_52_method_16_code (6 : Nat) (Option.some (Jvm.ClassFile.FieldType.array Jvm.ClassFile.FieldType.byte))).before args0 about1 = true := code_word (m := ⟨8, 2⟩) (meth := k8m2) (c := k8c2) (by decide +kernel) rfl rfl rfl (by decide +kernel)
set_option maxRecDepth 65536 in
theorem w_c8 : (Jvm.Cond.code ({ cls := "java/lang/StringUTF16", name := "compress", desc := "([CI[BII)I" } : Jvm.MethodName) jdk_52_method_21_code (7 : Nat) (Option.some Jvm.ClassFile.FieldType.int)).before args0 about1 = true := code_word (m := ⟨8, 3⟩) (meth := k8m3) (c := k8c3) (by decide +kernel) rfl rfl rfl (by decide +kernel)
set_option maxRecDepth 65536 in
theorem w_c9 : (Jvm.Cond.code ({ cls := "java/lang/StringUTF16", name := "coderFromArrayLen", desc := "([BI)B" } : Jvm.MethodName) jdk_52_method_15_code (2 : Nat) (Option.some Jvm.ClassFile.FieldType.byte)).before args0 about1 = true := code_word (m := ⟨8, 1⟩) (meth := k8m1) (c := k8c1) (by decide +kernel) rfl rfl rfl (by decide +kernel)
set_option maxRecDepth 65536 in
theorem w_c10 : (Jvm.Cond.code ({ cls := "java/util/Base64", name := "getDecoder", desc := "()Ljava/util/Base64$Decoder;" } : Jvm.MethodName) jdk_2448_method_6_code (0 : Nat) (Option.some (Jvm.ClassFile.FieldType.object "java/util/Base64$Decoder"))).before args0 about1 = true := code_word (m := ⟨10, 1⟩) (meth := k10m1) (c := k10c1) (by decide +kernel) rfl rfl rfl (by decide +kernel)
set_option maxRecDepth 65536 in
theorem w_c11 : (Jvm.Cond.code ({ cls := "java/util/Base64$Decoder", name := "decode", desc := "(Ljava/lang/String;)[B" } : Jvm.MethodName) jdk_2450_method_3_code (2 : Nat) (Option.some (Jvm.ClassFile.FieldType.array Jvm.ClassFile.FieldType.byte))).before args0 about1 = true := code_word (m := ⟨11, 1⟩) (meth := k11m1) (c := k11c1) (by decide +kernel) rfl rfl rfl (by decide +kernel)
set_option maxRecDepth 65536 in
theorem w_c12 : (Jvm.Cond.code ({ cls := "java/lang/String", name := "getBytes", desc := "(Ljava/nio/charset/Charset;)[B" } : Jvm.MethodName) jdk_42_method_64_code (2 : Nat) (Option.some (Jvm.ClassFile.FieldType.array Jvm.ClassFile.FieldType.byte))).before args0 about1 = true := code_word (m := ⟨7, 5⟩) (meth := k7m5) (c := k7c5) (by decide +kernel) rfl rfl rfl (by decide +kernel)
set_option maxRecDepth 65536 in
theorem w_c13 : (Jvm.Cond.code ({ cls := "java/lang/String", name := "coder", desc := "()B" } : Jvm.MethodName) jdk_42_method_152_code (1 : Nat) (Option.some Jvm.ClassFile.FieldType.byte)).before args0 about1 = true := code_word (m := ⟨7, 7⟩) (meth := k7m7) (c := k7c7) (by decide +kernel) rfl rfl rfl (by decide +kernel)
set_option maxRecDepth 65536 in
theorem w_c14 : (Jvm.Cond.code ({ cls := "java/lang/String", name := "encode", desc := "(Ljava/nio/charset/Charset;B[B)[B" } : Jvm.MethodName) jdk_42_method_18_code (3 : Nat) (Option.some (Jvm.ClassFile.FieldType.array Jvm.ClassFile.FieldType.byte))).before args0 about1 = true := code_word (m := ⟨7, 2⟩) (meth := k7m2) (c := k7c2) (by decide +kernel) rfl rfl rfl (by decide +kernel)
set_option maxRecDepth 65536 in
theorem w_c15 : (Jvm.Cond.code ({ cls := "java/lang/String", name := "encode8859_1", desc := "(B[B)[B" } : Jvm.MethodName) jdk_42_method_26_code (2 : Nat) (Option.some (Jvm.ClassFile.FieldType.array Jvm.ClassFile.FieldType.byte))).before args0 about1 = true := code_word (m := ⟨7, 3⟩) (meth := k7m3) (c := k7c3) (by decide +kernel) rfl rfl rfl (by decide +kernel)
set_option maxRecDepth 65536 in
theorem w_c16 : (Jvm.Cond.code ({ cls := "java/lang/String", name := "encode8859_1", desc := "(B[BZ)[B" } : Jvm.MethodName) jdk_42_method_27_code (10 : Nat) (Option.some (Jvm.ClassFile.FieldType.array Jvm.ClassFile.FieldType.byte))).before args0 about1 = true := code_word (m := ⟨7, 4⟩) (meth := k7m4) (c := k7c4) (by decide +kernel) rfl rfl rfl (by decide +kernel)
set_option maxRecDepth 65536 in
theorem w_c17 : (Jvm.Cond.code ({ cls := "java/util/Base64$Decoder", name := "decode", desc := "([B)[B" } : Jvm.MethodName) jdk_2450_method_2_code (4 : Nat) (Option.some (Jvm.ClassFile.FieldType.array Jvm.ClassFile.FieldType.byte))).before args0 about1 = true := code_word (m := ⟨11, 0⟩) (meth := k11m0) (c := k11c0) (by decide +kernel) rfl rfl rfl (by decide +kernel)
set_option maxRecDepth 65536 in
theorem w_c18 : (Jvm.Cond.code ({ cls := "java/util/Base64$Decoder", name := "decodedOutLength", desc := "([BII)I" } : Jvm.MethodName) jdk_2450_method_7_code (9 : Nat) (Option.some Jvm.ClassFile.FieldType.int)).before args0 about1 = true := code_word (m := ⟨11, 2⟩) (meth := k11m2) (c := k11c2) (by decide +kernel) rfl rfl rfl (by decide +kernel)
set_option maxRecDepth 65536 in
theorem w_c19 : (Jvm.Cond.code ({ cls := "java/util/Base64$Decoder", name := "decode0", desc := "([BII[B)I" } : Jvm.MethodName) jdk_2450_method_9_code (11 : Nat) (Option.some Jvm.ClassFile.FieldType.int)).before args0 about1 = true := code_word (m := ⟨11, 4⟩) (meth := k11m4) (c := k11c4) (by decide +kernel) rfl rfl rfl (by decide +kernel)
set_option maxRecDepth 65536 in
theorem w_c20 : (Jvm.Cond.code ({ cls := "java/util/Base64$Decoder", name := "decodeBlock", desc := "([BII[BIZZ)I" } : Jvm.MethodName) jdk_2450_method_8_code (16 : Nat) (Option.some Jvm.ClassFile.FieldType.int)).before args0 about1 = true := code_word (m := ⟨11, 3⟩) (meth := k11m3) (c := k11c3) (by decide +kernel) rfl rfl rfl (by decide +kernel)
set_option maxRecDepth 65536 in
theorem w_c21 : (Jvm.Cond.code ({ cls := "com/example/quittance/quittance/dialect/AesCbcBlocksPinLaw", name := "get", desc := "([BI)J" } : Jvm.MethodName) method_6_code (2 : Nat) (Option.some Jvm.ClassFile.FieldType.long)).before args0 about1 = true := code_word (m := ⟨1, 5⟩) (meth := k1m5) (c := k1c5) (by decide +kernel) rfl rfl rfl (by decide +kernel)
def codes1 : List Jvm.Cond := [Jvm.Cond.code x code maxLocals ret, Jvm.Cond.code ({ cls := "com/example/quittance/quittance/dialect/AesCbcBlocksPinLaw", name := "put", desc := "([BIJ)V" } : Jvm.MethodName) method_5_code (4 : Nat) (Option.none : Option Jvm.ClassFile.FieldType), Jvm.Cond.code ({ cls := "com/example/quittance/quittance/dialect/AesCbcBlocksPinLaw", name := "enc3", desc := "([B[CI)V" } : Jvm.MethodName) method_4_code (6 : Nat) (Option.none : Option Jvm.ClassFile.FieldType), Jvm.Cond.code ({ cls := "com/example/quittance/quittance/dialect/AesCbcBlocksPinLaw", name := "sym", desc := "(I)C" } : Jvm.MethodName) method_3_code (1 : Nat) (Option.some Jvm.ClassFile.FieldType.char), Jvm.Cond.code ({ cls := "java/lang/String", name := "<init>", desc := "([C)V" } : Jvm.MethodName) jdk_42_method_3_code (2 : Nat) (Option.none : Option Jvm.ClassFile.FieldType), Jvm.Cond.code ({ cls := "java/lang/String", name := "<init>", desc := "([CIILjava/lang/Void;)V" } : Jvm.MethodName) jdk_42_method_149_code (6 : Nat) (Option.none : Option Jvm.ClassFile.FieldType), Jvm.Cond.code ({ cls := "java/lang/Object", name := "<init>", desc := "()V" } : Jvm.MethodName) object_method_1_code (1 : Nat) (Option.none : Option Jvm.ClassFile.FieldType), Jvm.Cond.code ({ cls := "java/lang/StringUTF16", name := "compress", desc := "([CII)[B" } : Jvm.MethodName) jdk_52_method_16_code (6 : Nat) (Option.some (Jvm.ClassFile.FieldType.array Jvm.ClassFile.FieldType.byte)), Jvm.Cond.code ({ cls := "java/lang/StringUTF16", name := "compress", desc := "([CI[BII)I" } : Jvm.MethodName) jdk_52_method_21_code (7 : Nat) (Option.some Jvm.ClassFile.FieldType.int), Jvm.Cond.code ({ cls := "java/lang/StringUTF16", name := "coderFromArrayLen", desc := "([BI)B" } : Jvm.MethodName) jdk_52_method_15_code (2 : Nat) (Option.some Jvm.ClassFile.FieldType.byte), Jvm.Cond.code ({ cls := "java/util/Base64", name := "getDecoder", desc := "()Ljava/util/Base64$Decoder;" } : Jvm.MethodName) jdk_2448_method_6_code (0 : Nat) (Option.some (Jvm.ClassFile.FieldType.object "java/util/Base64$Decoder")), Jvm.Cond.code ({ cls := "java/util/Base64$Decoder", name := "decode", desc := "(Ljava/lang/String;)[B" } : Jvm.MethodName) jdk_2450_method_3_code (2 : Nat) (Option.some (Jvm.ClassFile.FieldType.array Jvm.ClassFile.FieldType.byte)), Jvm.Cond.code ({ cls := "java/lang/String", name := "getBytes", desc := "(Ljava/nio/charset/Charset;)[B" } : Jvm.MethodName) jdk_42_method_64_code (2 : Nat) (Option.some (Jvm.ClassFile.FieldType.array Jvm.ClassFile.FieldType.byte)), Jvm.Cond.code ({ cls := "java/lang/String", name := "coder", desc := "()B" } : Jvm.MethodName) jdk_42_method_152_code (1 : Nat) (Option.some Jvm.ClassFile.FieldType.byte), Jvm.Cond.code ({ cls := "java/lang/String", name := "encode", desc := "(Ljava/nio/charset/Charset;B[B)[B" } : Jvm.MethodName) jdk_42_method_18_code (3 : Nat) (Option.some (Jvm.ClassFile.FieldType.array Jvm.ClassFile.FieldType.byte)), Jvm.Cond.code ({ cls := "java/lang/String", name := "encode8859_1", desc := "(B[B)[B" } : Jvm.MethodName) jdk_42_method_26_code (2 : Nat) (Option.some (Jvm.ClassFile.FieldType.array Jvm.ClassFile.FieldType.byte)), Jvm.Cond.code ({ cls := "java/lang/String", name := "encode8859_1", desc := "(B[BZ)[B" } : Jvm.MethodName) jdk_42_method_27_code (10 : Nat) (Option.some (Jvm.ClassFile.FieldType.array Jvm.ClassFile.FieldType.byte)), Jvm.Cond.code ({ cls := "java/util/Base64$Decoder", name := "decode", desc := "([B)[B" } : Jvm.MethodName) jdk_2450_method_2_code (4 : Nat) (Option.some (Jvm.ClassFile.FieldType.array Jvm.ClassFile.FieldType.byte)), Jvm.Cond.code ({ cls := "java/util/Base64$Decoder", name := "decodedOutLength", desc := "([BII)I" } : Jvm.MethodName) jdk_2450_method_7_code (9 : Nat) (Option.some Jvm.ClassFile.FieldType.int), Jvm.Cond.code ({ cls := "java/util/Base64$Decoder", name := "decode0", desc := "([BII[B)I" } : Jvm.MethodName) jdk_2450_method_9_code (11 : Nat) (Option.some Jvm.ClassFile.FieldType.int), Jvm.Cond.code ({ cls := "java/util/Base64$Decoder", name := "decodeBlock", desc := "([BII[BIZZ)I" } : Jvm.MethodName) jdk_2450_method_8_code (16 : Nat) (Option.some Jvm.ClassFile.FieldType.int), Jvm.Cond.code ({ cls := "com/example/quittance/quittance/dialect/AesCbcBlocksPinLaw", name := "get", desc := "([BI)J" } : Jvm.MethodName) method_6_code (2 : Nat) (Option.some Jvm.ClassFile.FieldType.long)]
set_option maxRecDepth 65536 in
theorem codes_eq : words1.filter isCode = codes1 := rfl
theorem w_codes : ∀ c ∈ words1.filter isCode, c.before args0 about1 = true := by
  rw [codes_eq]
  intro c hc
  simp only [codes1, List.mem_cons, List.not_mem_nil, or_false] at hc
  rcases hc with rfl | rfl | rfl | rfl | rfl | rfl | rfl | rfl | rfl | rfl | rfl | rfl | rfl | rfl | rfl | rfl | rfl | rfl | rfl | rfl | rfl | rfl
  · exact w_c0
  · exact w_c1
  · exact w_c2
  · exact w_c3
  · exact w_c4
  · exact w_c5
  · exact w_c6
  · exact w_c7
  · exact w_c8
  · exact w_c9
  · exact w_c10
  · exact w_c11
  · exact w_c12
  · exact w_c13
  · exact w_c14
  · exact w_c15
  · exact w_c16
  · exact w_c17
  · exact w_c18
  · exact w_c19
  · exact w_c20
  · exact w_c21
set_option maxRecDepth 65536 in
theorem w_t1 : (words1.take 24).all (fun c => isCode c || c.before args0 about1) = true := by decide +kernel
set_option maxRecDepth 65536 in
theorem w_t2 : ((words1.drop 24).take 24).all (fun c => isCode c || c.before args0 about1) = true := by decide +kernel
set_option maxRecDepth 65536 in
theorem w_t3 : (((words1.drop 24).drop 24).take 24).all (fun c => isCode c || c.before args0 about1) = true := by decide +kernel
set_option maxRecDepth 65536 in
theorem w_t4 : ((((words1.drop 24).drop 24).drop 24).take 24).all (fun c => isCode c || c.before args0 about1) = true := by decide +kernel
set_option maxRecDepth 65536 in
theorem w_t5 : ((((words1.drop 24).drop 24).drop 24).drop 24).all (fun c => isCode c || c.before args0 about1) = true := by decide +kernel
theorem w_tables : (allAtoms (Jvm.Cond.code x code maxLocals ret :: tables_1)).before args0 about1 = true := by
  rw [allAtoms_all]
  show words1.all (fun c => c.before args0 about1) = true
  refine all_split ?_ w_codes
  rw [← List.take_append_drop 24 words1, List.all_append, w_t1, ← List.take_append_drop 24 (words1.drop 24), List.all_append, w_t2, ← List.take_append_drop 24 ((words1.drop 24).drop 24), List.all_append, w_t3, ← List.take_append_drop 24 (((words1.drop 24).drop 24).drop 24), List.all_append, w_t4, w_t5]
  rfl
set_option maxRecDepth 65536 in
theorem w_rest : rest_1_c.before args0 about1 = true := by decide +kernel
set_option maxRecDepth 65536 in
theorem w_case : (Jvm.Cond.and given_1 narrow_1).before args0 about1 = true := by decide +kernel
theorem w_applies : (headSpec (Jvm.Cond.code x code maxLocals ret :: tables_1) room_1).applies x e0.platform about1 = true :=
  (Spec.applies_iff w_frames).mpr ⟨w_running, w_runnable, w_alone, w_named, w_hears, w_ripe, w_room, w_tables⟩
theorem atStart : AtStart classFile x code maxLocals ret World_1 tables_1 room_1 Calls_1 rest_1 Pre_1 launch0 p0 e0 about1 theMethod args0 below0 :=
  ⟨lists_1, trivial, launch0.admits_env _ _ _, launch0.least_env, fairChoices_fair.cas, fairChoices_fair.clock, w_frames, w_args, w_heap, w_applies, trivial, w_rest, w_case⟩
end start1
theorem witness_1 : WitnessClaimed_1 := ⟨start1.p0, start1.e0, start1.about1, start1.theMethod, start1.args0, start1.below0, start1.atStart⟩
end Jvm.Pilot.@@N@@
