import JvmDerived
import JvmDerived.Pilot.@@N@@Statement
import JvmDerived.Pilot.@@N@@Code
set_option linter.unusedVariables false
set_option linter.unusedSimpArgs false
@@BLOCK:NumsL.lean.txt@@
namespace Jvm.Pilot.@@N@@
open Jvm Jvm.ClassFile Sem Op Lib Jvm.Free Jvm.Stand Jvm.LawKit Jvm.RoadKit Bundle Jvm.Pilot.@@N@@.Jvm.D
section Own
variable {p : Program} {l : Launch} {e : Env} {R rm : Room} {s : State} {m : MethodId} {args : Array Value} {below : List Frame} {meth : Method} {c : Code} {T : State} {locs : List Loc} {cells slots : Nat} {Z : State} {a0 : Array Value} {h : Heap}
/-- the run comes to the end of the invocation, and what is asked holds there -/
def own_Goes (p : Program) (e : Env) (below : List Frame) (G : Outcome → State → Prop) (S : State) : Prop := ∃ s₂ o, Steps p.tables e below S s₂ ∧ s₂.status = .running ∧ Ended s₂ below o ∧ G o s₂
theorem own_go {G : Outcome → State → Prop} {S S' : State} (h : ∀ t, Steps p.tables e below S' t → Steps p.tables e below S t) (k : own_Goes p e below G S') : own_Goes p e below G S := by
  obtain ⟨s₂, o, h1, h2⟩ := k
  exact ⟨s₂, o, h _ h1, h2⟩
theorem own_tr {G : Outcome → State → Prop} {S S' : State} (h : Steps p.tables e below S S') (k : own_Goes p e below G S') : own_Goes p e below G S := own_go (fun _ q => h.trans q) k
abbrev own_End (s : State) (rm : Room) (Q : Option Value → Heap → List Loc → Prop) : Outcome → State → Prop := fun o U' => ∃ v L, o = .returned v ∧ Q v U'.heap L ∧ FrameEnd s o U' L rm.cells rm.slots
/-- a body's contract: with these arguments, over this heap, it returns and leaves what Q says -/
def own_Met (l : Launch) (Z : State) (y : MethodName) (bytes : ByteArray) (maxL : Nat) (ret : Option FieldType) (ws : List Jvm.Cond) (rm : Room) (as : Array Value) (h0 : Heap) (Q : Option Value → Heap → List Loc → Prop) : Prop :=
  MetFree l y (head1 (Jvm.Cond.code y bytes maxL ret :: ws) rm) (fun a U => a = as ∧ Z.Warmed39 U.vm ∧ U.heap = h0) (fun _ _ _ _ _ => True) (fun _ U o U' => ∃ v L, o = .returned v ∧ Q v U'.heap L ∧ FrameEnd U o U' L rm.cells rm.slots)
theorem own_met {y : MethodName} {bytes : ByteArray} {maxL : Nat} {ret : Option FieldType} {ws : List Jvm.Cond} {as : Array Value} {h0 : Heap} {Q : Option Value → Heap → List Loc → Prop} (hp : plainFor y = true)
    (body : ∀ (p : Program) (e : Env) (s : State) (m : MethodId) (below : List Frame) (meth : Method) (c : Code) (s₁ : State), p.tables.exec = Jvm.exec → c.code = bytes → c.maxLocals = maxL → s.vm.findClass y.cls = some m.cls → meth.name = y.name → meth.sig.returnType = ret → meth.locks = false → Z.Warmed39 s.vm → s₁.heap = h0 →
      Stand p l e rm s m as below meth c s₁ [] 0 0 → own_Goes p e below (own_End s rm Q) (s₁.setTop (entryFrame m as maxL))) : own_Met l Z y bytes maxL ret ws rm as h0 Q := by
  refine MetFree.of_bodySF hp hisR ?_
  intro p e s m args below meth c s₁ Bd hml hP hK
  obtain ⟨rfl, hZ, hh⟩ := hP
  exact body p e s m below meth c s₁ Bd.exec Bd.bytes hml (findClass_of_methodNamed Bd.named) (name_of_methodNamed Bd.named Bd.method).1 Bd.returns Bd.notSynchronized hZ (by rw [← hh, Bd.state]; rfl) (Stand.of_body Bd)
/-- the returns -/
theorem own_retV {Q : Option Value → Heap → List Loc → Prop} (X : Stand p l e rm s m args below meth c T locs cells slots) (hx : p.tables.exec = Jvm.exec) (hlk : meth.locks = false) {pc : Nat} {Ls : Array Slot} {w : Value} {t : FieldType} {i : Instr} {rest : List Value} (hret : meth.sig.returnType = some t) (hn : narrow t w = w)
    (hi : (i = .ireturn ∧ (t = .int ∨ t = .boolean ∨ t = .byte ∨ t = .char ∨ t = .short) ∧ ∃ z, w = .int z) ∨ (i = .lreturn ∧ t = .long ∧ ∃ z, w = .long z) ∨ (i = .dreturn ∧ t = .double ∧ ∃ z, w = .double z) ∨ (i = .freturn ∧ t = .float ∧ ∃ z, w = .float z) ∨ (i = .areturn ∧ t.isReference = true ∧ w.isRef = true))
    (hd : decode c.code pc = .ok (i, 1)) (hc : cells ≤ rm.cells) (hs : slots ≤ rm.slots) (hq : Q (some w) T.heap locs) : own_Goes p e below (own_End s rm Q) (T.setTop (mkF m pc Ls (w :: rest))) := by
  obtain ⟨fs, hr, hrun, hended, hW, hsame⟩ := X.leave (v := some w) (fun h => by rw [hret] at h; cases h) hlk
  exact ⟨_, _, retOut X hx hret hn hi hd hr, hrun, hended, _, _, rfl, hq, ⟨_, rfl⟩, hW, hsame.mono hc hs⟩
theorem own_retI {Q : Option Value → Heap → List Loc → Prop} (X : Stand p l e rm s m args below meth c T locs cells slots) (hx : p.tables.exec = Jvm.exec) (hlk : meth.locks = false) {pc : Nat} {Ls : Array Slot} {z : Int32} {rest : List Value} (hret : meth.sig.returnType = some .int)
    (hd : decode c.code pc = .ok (.ireturn, 1)) (hc : cells ≤ rm.cells) (hs : slots ≤ rm.slots) (hq : Q (some (.int z)) T.heap locs) : own_Goes p e below (own_End s rm Q) (T.setTop (mkF m pc Ls (.int z :: rest))) :=
  own_retV X hx hlk hret rfl (Or.inl ⟨rfl, Or.inl rfl, z, rfl⟩) hd hc hs hq
theorem own_retJ {Q : Option Value → Heap → List Loc → Prop} (X : Stand p l e rm s m args below meth c T locs cells slots) (hx : p.tables.exec = Jvm.exec) (hlk : meth.locks = false) {pc : Nat} {Ls : Array Slot} {z : Int64} {rest : List Value} (hret : meth.sig.returnType = some .long)
    (hd : decode c.code pc = .ok (.lreturn, 1)) (hc : cells ≤ rm.cells) (hs : slots ≤ rm.slots) (hq : Q (some (.long z)) T.heap locs) : own_Goes p e below (own_End s rm Q) (T.setTop (mkF m pc Ls (.long z :: rest))) :=
  own_retV X hx hlk hret rfl (Or.inr (Or.inl ⟨rfl, rfl, z, rfl⟩)) hd hc hs hq
theorem own_retR {Q : Option Value → Heap → List Loc → Prop} (X : Stand p l e rm s m args below meth c T locs cells slots) (hx : p.tables.exec = Jvm.exec) (hlk : meth.locks = false) {pc : Nat} {Ls : Array Slot} {w : Value} {t : FieldType} {rest : List Value} (hret : meth.sig.returnType = some t) (ht : t.isReference = true) (hw : w.isRef = true)
    (hd : decode c.code pc = .ok (.areturn, 1)) (hc : cells ≤ rm.cells) (hs : slots ≤ rm.slots) (hq : Q (some w) T.heap locs) : own_Goes p e below (own_End s rm Q) (T.setTop (mkF m pc Ls (w :: rest))) :=
  own_retV X hx hlk hret (by cases t <;> first | rfl | cases ht) (Or.inr (Or.inr (Or.inr (Or.inr ⟨rfl, ht, hw⟩)))) hd hc hs hq
theorem own_retN {Q : Option Value → Heap → List Loc → Prop} (X : Stand p l e rm s m args below meth c T locs cells slots) (hx : p.tables.exec = Jvm.exec) (hlk : meth.locks = false) {pc : Nat} {Ls : Array Slot} {z z' : Int32} {t : FieldType} {rest : List Value} (hret : meth.sig.returnType = some t) (ht : t = .boolean ∨ t = .byte ∨ t = .char ∨ t = .short) (hz : nar t z = z')
    (hd : decode c.code pc = .ok (.ireturn, 1)) (hc : cells ≤ rm.cells) (hs : slots ≤ rm.slots) (hq : Q (some (.int z')) T.heap locs) : own_Goes p e below (own_End s rm Q) (T.setTop (mkF m pc Ls (.int z :: rest))) := by
  subst hz
  obtain ⟨fs, hr, hrun, hended, hW, hsame⟩ := X.leave (v := some (.int (nar t z))) (fun h => by rw [hret] at h; cases h) hlk
  exact ⟨_, _, retN X hx hret ht hd hr, hrun, hended, _, _, rfl, hq, ⟨_, rfl⟩, hW, hsame.mono hc hs⟩
theorem own_ret0 {Q : Option Value → Heap → List Loc → Prop} (X : Stand p l e rm s m args below meth c T locs cells slots) (hx : p.tables.exec = Jvm.exec) (hlk : meth.locks = false) {pc : Nat} {Ls : Array Slot} (hret : meth.sig.returnType = none)
    (hd : decode c.code pc = .ok (.return_, 1)) (hc : cells ≤ rm.cells) (hs : slots ≤ rm.slots) (hq : Q none T.heap locs) : own_Goes p e below (own_End s rm Q) (T.setTop (mkF m pc Ls [])) := by
  obtain ⟨fs, hr, hrun, hended, hW, hsame⟩ := X.leave (v := none) (fun _ => rfl) hlk
  exact ⟨_, _, X.returnOut hx hret hd hr, hrun, hended, _, _, rfl, hq, ⟨_, rfl⟩, hW, hsame.mono hc hs⟩
/-- a static call by the callee's contract -/
theorem own_callS (X : Stand p l e R s m args below meth c T locs cells slots) (hx : p.tables.exec = Jvm.exec) (hZ : Z.Warmed39 s.vm) {own : String} {index : Nat} {y : MethodName} {bytes : ByteArray} {maxL : Nat} {ret : Option FieldType} (hown : s.vm.findClass own = some m.cls)
    (w1 : (Jvm.Cond.methodLink own index y).before a0 Z = true) (w2 : (Jvm.Cond.static y).before a0 Z = true) (w3 : (Jvm.Cond.initialized y.cls).before a0 Z = true) (w4 : (Jvm.Cond.code y bytes maxL ret).before a0 Z = true) (hy : y.cls ≠ "java/lang/invoke/MethodHandle" ∧ y.cls ≠ "java/lang/invoke/VarHandle")
    {as : List Value} {Q : Option Value → Heap → List Loc → Prop} (hM : own_Met l Z y bytes maxL ret [] rm as.toArray h Q) (eT : T.heap = h) {ps : List FieldType} {rt : Option FieldType} (hpd : parseMethodDescriptor y.desc = some ⟨ps, rt⟩) (hlen : as.length = ps.length)
    {pc : Nat} {Ls : Array Slot} {rest : List Value} {W : Nat} (hsize : Ls.size = c.maxLocals) (hW : (rest.map fun v => v.category).sum ≤ W) (hf : rm.frames + 1 ≤ R.frames) (hl : W + (maxL + 11) + rm.locals ≤ R.locals) (hd : decode c.code pc = .ok (.invokestatic index, 3)) (hc : cells + rm.cells ≤ R.cells) (hs : slots + rm.slots ≤ R.slots) :
    ∃ (v : Option Value) (T' : State) (L' : List Loc), Stand p l e R s m args below meth c T' (locs ++ L') (cells + rm.cells) (slots + rm.slots) ∧ Q v T'.heap L' ∧ ∀ target, Steps p.tables e below (T'.setTop (mkF m (pc + 3) Ls (v.toList ++ rest))) target → Steps p.tables e below (T.setTop (mkF m pc Ls (as.reverse ++ rest))) target := by
  obtain ⟨v, _, ⟨T', L', k', n'⟩, -, X', ⟨Lc, hQ, hl', hk', hn'⟩, st⟩ := Jvm.LawKit.callS X hx (y := y) hown (mvT hZ w1) (mvT hZ w2) (mvT hZ w3) (mvT hZ w4) hy (backOf (W := W) hM hZ w4 w3 hf hl) (g := mkF m pc Ls (as.reverse ++ rest)) rfl hsize (argsL := as) (rest := rest) (lenOf hpd hlen) rfl (by show 2 * 0 + _ ≤ _; omega) hd (fun _ _ => ⟨rfl, eT, hc, hs⟩)
  dsimp only [Pt.U, Pt.locs, Pt.cells, Pt.slots] at X' hl' hk' hn' st hQ
  subst hl' hk' hn'
  exact ⟨v, T', Lc, X', hQ, st⟩
/-- an instance method by the contract of the body that the receiver's class selects -/
theorem own_callV (X : Stand p l e R s m args below meth c T locs cells slots) (hx : p.tables.exec = Jvm.exec) (hZ : Z.Warmed39 s.vm) {own C : String} {index : Nat} {y : MethodName} {bytes : ByteArray} {maxL : Nat} {ret : Option FieldType} (hown : s.vm.findClass own = some m.cls)
    (w1 : (Jvm.Cond.methodLink own index y).before a0 Z = true) (w2 : (Jvm.Cond.declares y).before a0 Z = true) (w3 : (Jvm.Cond.selects C y y).before a0 Z = true) (w4 : (Jvm.Cond.instanceMethod y).before a0 Z = true) (w5 : (Jvm.Cond.initialized y.cls).before a0 Z = true) (w6 : (Jvm.Cond.code y bytes maxL ret).before a0 Z = true) (hy : y.cls ≠ "java/lang/invoke/MethodHandle" ∧ y.cls ≠ "java/lang/invoke/VarHandle")
    {b : Addr} {as : List Value} {Q : Option Value → Heap → List Loc → Prop} (hM : own_Met l Z y bytes maxL ret [] rm (Value.ref b :: as).toArray h Q) (eT : T.heap = h) (E : Exa Z h b C) {ps : List FieldType} {rt : Option FieldType} (hpd : parseMethodDescriptor y.desc = some ⟨ps, rt⟩) (hlen : as.length = ps.length)
    {pc : Nat} {Ls : Array Slot} {rest : List Value} {W : Nat} (hsize : Ls.size = c.maxLocals) (hW : (rest.map fun v => v.category).sum ≤ W) (hf : rm.frames + 1 ≤ R.frames) (hl : W + (maxL + 11) + rm.locals ≤ R.locals) (hd : decode c.code pc = .ok (.invokevirtual index, 3)) (hc : cells + rm.cells ≤ R.cells) (hs : slots + rm.slots ≤ R.slots) :
    ∃ (v : Option Value) (T' : State) (L' : List Loc), Stand p l e R s m args below meth c T' (locs ++ L') (cells + rm.cells) (slots + rm.slots) ∧ Q v T'.heap L' ∧ ∀ target, Steps p.tables e below (T'.setTop (mkF m (pc + 3) Ls (v.toList ++ rest))) target → Steps p.tables e below (T.setTop (mkF m pc Ls (as.reverse ++ Value.ref b :: rest))) target := by
  obtain ⟨cq, kq, qa, qb, qc⟩ := isOf hZ eT E
  obtain ⟨v, _, ⟨T', L', k', n'⟩, -, X', ⟨Lc, hQ, hl', hk', hn'⟩, st⟩ := X.virtualBack hx (y := y) (z := y) hown (mvT hZ w1) (mvT hZ w2) (notFace_of_selects (args := #[]) (mvT hZ w3)) (mvT hZ w3) (mvT hZ w4) hy (backOf (W := W) hM hZ w6 w5 hf hl) qa qc (g := mkF m pc Ls (as.reverse ++ Value.ref b :: rest)) rfl hsize (Steps.refl _) (argsL := as) (rest := rest) (lenOf hpd hlen) rfl (by show 2 * 0 + _ ≤ _; omega) hd (fun _ _ => ⟨rfl, eT, hc, hs⟩)
  dsimp only [Pt.U, Pt.locs, Pt.cells, Pt.slots] at X' hl' hk' hn' st hQ
  subst hl' hk' hn'
  exact ⟨v, T', Lc, X', hQ, fun _ q => st.trans q⟩
/-- a constructor by its contract -/
theorem own_callI (X : Stand p l e R s m args below meth c T locs cells slots) (hx : p.tables.exec = Jvm.exec) (hZ : Z.Warmed39 s.vm) {own : String} {index : Nat} {y : MethodName} {bytes : ByteArray} {maxL : Nat} (hy1 : y.name = "<init>") (hown : s.vm.findClass own = some m.cls)
    (w1 : (Jvm.Cond.methodLink own index y).before a0 Z = true) (w4 : (Jvm.Cond.instanceMethod y).before a0 Z = true) (w5 : (Jvm.Cond.initialized y.cls).before a0 Z = true) (w6 : (Jvm.Cond.code y bytes maxL none).before a0 Z = true) (hy : y.cls ≠ "java/lang/invoke/MethodHandle" ∧ y.cls ≠ "java/lang/invoke/VarHandle")
    {b : Addr} {as : List Value} {Q : Option Value → Heap → List Loc → Prop} (hM : own_Met l Z y bytes maxL none [] rm (Value.ref b :: as).toArray h Q) (eT : T.heap = h) {ps : List FieldType} {rt : Option FieldType} (hpd : parseMethodDescriptor y.desc = some ⟨ps, rt⟩) (hlen : as.length = ps.length)
    {pc : Nat} {Ls : Array Slot} {rest : List Value} {W : Nat} (hsize : Ls.size = c.maxLocals) (hW : (rest.map fun v => v.category).sum ≤ W) (hf : rm.frames + 1 ≤ R.frames) (hl : W + (maxL + 11) + rm.locals ≤ R.locals) (hd : decode c.code pc = .ok (.invokespecial index, 3)) (hc : cells + rm.cells ≤ R.cells) (hs : slots + rm.slots ≤ R.slots) :
    ∃ (v : Option Value) (T' : State) (L' : List Loc), Stand p l e R s m args below meth c T' (locs ++ L') (cells + rm.cells) (slots + rm.slots) ∧ Q v T'.heap L' ∧ ∀ target, Steps p.tables e below (T'.setTop (mkF m (pc + 3) Ls (v.toList ++ rest))) target → Steps p.tables e below (T.setTop (mkF m pc Ls (as.reverse ++ Value.ref b :: rest))) target := by
  obtain ⟨v, _, ⟨T', L', k', n'⟩, -, X', ⟨Lc, hQ, hl', hk', hn'⟩, st⟩ := X.specialBack hx (y := y) hy1 hown (mvT hZ w1) (mvT hZ w4) (mvT hZ w6) hy (backOf (W := W) hM hZ w6 w5 hf hl) (g := mkF m pc Ls (as.reverse ++ Value.ref b :: rest)) rfl hsize (Steps.refl _) (a := b) (argsL := as) (rest := rest) (lenOf hpd hlen) rfl (by show 2 * 0 + _ ≤ _; omega) hd (fun _ _ => ⟨rfl, eT, hc, hs⟩)
  dsimp only [Pt.U, Pt.locs, Pt.cells, Pt.slots] at X' hl' hk' hn' st hQ
  subst hl' hk' hn'
  exact ⟨v, T', Lc, X', hQ, fun _ q => st.trans q⟩
end Own
section OwnWords
variable {args : Array Value} {first s : State} {o : Option Outcome} {idx : List Nat} {a b t : Term} {G Y : Jvm.Cond}
theorem own_eqI {k : Int32} (h : (Jvm.Cond.eq a b).value args first o s idx = some true) (hb : b.eval args first o idx s = some (.int k)) : a.eval args first o idx s = some (.int k) := by
  obtain ⟨x, y, h1, h2, h3, h4⟩ := cmp_v (Or.inl h)
  cases hb.symm.trans h2
  obtain ⟨z, rfl⟩ := h4
  simp only [Jvm.Cond.value, h1, hb] at h
  rw [h1]
  simpa using h
theorem own_eqJ {k : Int64} (h : (Jvm.Cond.eq a b).value args first o s idx = some true) (hb : b.eval args first o idx s = some (.long k)) : a.eval args first o idx s = some (.long k) := by
  obtain ⟨x, y, h1, h2, h3, h4⟩ := cmp_v (Or.inl h)
  cases hb.symm.trans h2
  obtain ⟨z, rfl⟩ := h4
  simp only [Jvm.Cond.value, h1, hb] at h
  rw [h1]
  simpa using h
theorem own_or (h : (Jvm.Cond.or G Y).value args first o s idx = some true) (h1 : G.value args first o s idx = some false) : Y.value args first o s idx = some true := by
  simpa [Jvm.Cond.value, h1] using h
theorem own_ixlt {j k : Int32} (hj : ¬ j < 0) (hk : ¬ j < k) : (Jvm.Cond.lt (Jvm.Term.index 0) (Jvm.Term.int k)).value args first o s [j.toNatClampNeg] = some false := by
  have e := idx_at (args := args) (first := first) (o := o) (s := s) hj
  have f : (Jvm.Term.int k).eval args first o [j.toNatClampNeg] s = some (.int k) := Term.int_eval _
  rw [Cond.lt_ints e f]
  simp [hk]
theorem own_ixle {j k : Int32} (hj : ¬ j < 0) (hk : j < k) : (Jvm.Cond.le (Jvm.Term.int k) (Jvm.Term.index 0)).value args first o s [j.toNatClampNeg] = some false := by
  have e := idx_at (args := args) (first := first) (o := o) (s := s) hj
  have f : (Jvm.Term.int k).eval args first o [j.toNatClampNeg] s = some (.int k) := Term.int_eval _
  rw [Cond.le_ints f e]
  simp [Int32.not_le.mpr hk]
theorem own_ixsub {j k : Int32} (hj : ¬ j < 0) : (Jvm.Term.sub (Jvm.Term.index 0) (Jvm.Term.int k)).eval args first o [j.toNatClampNeg] s = some (.int (j - k)) := by
  have e := idx_at (args := args) (first := first) (o := o) (s := s) hj
  have f : (Jvm.Term.int k).eval args first o [j.toNatClampNeg] s = some (.int k) := Term.int_eval _
  rw [Term.eval, e, f]
  rfl
/-- a field that the case says to hold a number -/
theorem own_fldI {C n d : String} {x : Addr} {k : Int32} (ht : t.eval args s none [] s = some (.ref x)) (h : (Jvm.Cond.eq (Term.field t C n d) (Term.int k)).value args s none s [] = some true) : Fld s s.heap x C n d (.int k) := by
  have e := own_eqI h (Term.int_eval _)
  rw [fld_at ht] at e
  exact Fld.start e
theorem own_fldJ {C n d : String} {x : Addr} {k : Int64} (ht : t.eval args s none [] s = some (.ref x)) (h : (Jvm.Cond.eq (Term.field t C n d) (Term.long k)).value args s none s [] = some true) : Fld s s.heap x C n d (.long k) := by
  have e := own_eqJ h (show (Term.long k).eval args s none [] s = some (.long k) by simp [Term.eval])
  rw [fld_at ht] at e
  exact Fld.start e
end OwnWords

theorem own_d1_0 : decode prog_91_method_6_code 0 = .ok (.aload_n 0, 1) := by decide +kernel
theorem own_d1_1 : decode prog_91_method_6_code 1 = .ok (.getstatic 13, 3) := by decide +kernel
theorem own_t9 : (Jvm.Cond.fieldLink "com/example/foothold/foothold/Sequence$Kind" (13 : Nat) "com/example/foothold/foothold/Sequence$Kind" "ITERABLE" "Lcom/example/foothold/foothold/Sequence$Kind;") ∈ tables_1 := List.mem_of_getElem? (i := 9) rfl
theorem own_d1_4 : decode prog_91_method_6_code 4 = .ok (.if_acmp .ne 9, 3) := by decide +kernel
theorem own_d1_7 : decode prog_91_method_6_code 7 = .ok (.getstatic 3, 3) := by decide +kernel
theorem own_t12 : (Jvm.Cond.fieldLink "com/example/foothold/foothold/Sequence$Kind" (3 : Nat) "com/example/foothold/foothold/Sequence$Kind" "LIST" "Lcom/example/foothold/foothold/Sequence$Kind;") ∈ tables_1 := List.mem_of_getElem? (i := 12) rfl
theorem own_d1_10 : decode prog_91_method_6_code 10 = .ok (.goto 4, 3) := by decide +kernel
theorem own_d1_13 : decode prog_91_method_6_code 13 = .ok (.aload_n 0, 1) := by decide +kernel
theorem own_pn0 : plainName "com/example/foothold/foothold/Sequence$Kind" = true := by first | (simp [plainName, overriddenIn]; done) | decide +kernel
theorem own_d1_14 : decode prog_91_method_6_code 14 = .ok (.areturn, 1) := by decide +kernel
def own_j1_1 (r0 : Addr) (s_ITERABLE : Addr) (s_LIST : Addr) : Addr := (if r0 = s_ITERABLE then s_LIST else r0)
def own_f1 (r0 : Addr) (s_ITERABLE : Addr) (s_LIST : Addr) : Addr := (own_j1_1 r0 s_ITERABLE s_LIST)
def own_Q1 (r0 : Addr) (s_ITERABLE : Addr) (s_LIST : Addr) (h0 : Heap) (n0 : Nat) (v : Option Value) (h : Heap) (L : List Loc) : Prop := v = some (.ref (own_f1 r0 s_ITERABLE s_LIST)) ∧ Fr n0 L ∧ h = h0
abbrev own_R1 : Room := { frames := 0, cells := 0, slots := 0, locals := 0 }
theorem own_ef1 (m : MethodId) (z0 : Addr) : entryFrame m #[(.ref z0)] 1 = mkF m 0 #[.val (.ref z0)] [] := by first | (simp [entryFrame, mkF, argsToLocals, Value.category]; done) | rfl
set_option maxRecDepth 65536 in
set_option maxHeartbeats 40000000 in
theorem rm1 (l : Launch) (Z : State) (a0 : Array Value) (hw : ∀ d ∈ tables_1, d.before a0 Z = true) (ws : List Jvm.Cond) (r0 : Addr) (s_ITERABLE : Addr) (s_LIST : Addr) (h0 : Heap) (n0 : Nat) (S_s_ITERABLE : Sta Z h0 "com/example/foothold/foothold/Sequence$Kind" "ITERABLE" "Lcom/example/foothold/foothold/Sequence$Kind;" (.ref s_ITERABLE)) (S_s_LIST : Sta Z h0 "com/example/foothold/foothold/Sequence$Kind" "LIST" "Lcom/example/foothold/foothold/Sequence$Kind;" (.ref s_LIST)) : own_Met l Z (⟨"com/example/foothold/foothold/Sequence$Kind", "resultKind", "()Lcom/example/foothold/foothold/Sequence$Kind;"⟩ : MethodName) prog_91_method_6_code 1 (some (.object "com/example/foothold/foothold/Sequence$Kind")) ws own_R1 #[(.ref r0)] h0 (own_Q1 r0 s_ITERABLE s_LIST h0 n0) := by
  refine own_met (plainFor_of_name own_pn0) ?_
  intro p e s m below meth c s₁ hx hby hml hown hnm hret hlk hZ e0 X0
  have N0 := Fr.nil n0
  have hml : c.maxLocals = 1 := hml
  have hown : s.vm.findClass "com/example/foothold/foothold/Sequence$Kind" = some m.cls := hown
  have hret : meth.sig.returnType = (some (.object "com/example/foothold/foothold/Sequence$Kind")) := hret
  have hby : c.code = prog_91_method_6_code := hby
  have hnm : meth.name = "resultKind" := hnm
  rw [own_ef1]
  show own_Goes p e below _ (s₁.setTop (mkF m 0 #[.val (.ref r0)] []))
  refine own_go (fun t k => XS.aloadN X0.here hx rfl (hb hby own_d1_0) rfl rfl k) ?_
  show own_Goes p e below _ (s₁.setTop (mkF m 1 #[.val (.ref r0)] [(.ref r0)]))
  obtain ⟨T1, X1, e1, st1⟩ := getS2 X0 hx hZ hown (host := "") (Or.inl (hw _ own_t9)) Via.refl e0 S_s_ITERABLE (g := (mkF m 1 #[.val (.ref r0)] [(.ref r0)])) rfl (hb hby own_d1_1)
  refine own_go st1 ?_
  show own_Goes p e below _ (T1.setTop (mkF m 4 #[.val (.ref r0)] [(.ref s_ITERABLE), (.ref r0)]))
  suffices HH4 : ∀ (T4 : State) (L4 : List Loc) (X4 : Stand p l e own_R1 s m #[(.ref r0)] below meth c T4 L4 0 0) (e4 : T4.heap = h0) (N4 : Fr n0 L4), own_Goes p e below (own_End s own_R1 (own_Q1 r0 s_ITERABLE s_LIST h0 n0)) (T4.setTop (mkF m 14 #[.val (.ref r0)] [(.ref (own_j1_1 r0 s_ITERABLE s_LIST))])) by
    by_cases hc2 : r0 = s_ITERABLE
    · refine own_go (fun t k => Jvm.RoadKit.acmp (g := (mkF m 4 #[.val (.ref r0)] [(.ref s_ITERABLE), (.ref r0)])) X1 hx rfl rfl rfl (pc0 := 4) (pc' := 7) (same := true) rfl (hb hby own_d1_4) rfl (decide_eq_true (congrArg Value.ref hc2)) (by decide) (by decide) k) ?_
      show own_Goes p e below _ (T1.setTop (mkF m 7 #[.val (.ref r0)] []))
      obtain ⟨T3, X3, e3, st3⟩ := getS2 X1 hx hZ hown (host := "") (Or.inl (hw _ own_t12)) Via.refl e1 S_s_LIST (g := (mkF m 7 #[.val (.ref r0)] [])) rfl (hb hby own_d1_7)
      refine own_go st3 ?_
      show own_Goes p e below _ (T3.setTop (mkF m 10 #[.val (.ref r0)] [(.ref s_LIST)]))
      refine own_go (fun t k => XS.goto X3.here hx rfl (pc0 := 10) (pc' := 14) rfl (hb hby own_d1_10) (by decide) (by decide) k) ?_
      rw [show (own_j1_1 r0 s_ITERABLE s_LIST) = s_LIST from by rw [own_j1_1, if_pos hc2]] at HH4
      exact HH4 _ _ X3 e3 N0
    · refine own_go (fun t k => Jvm.RoadKit.acmp (g := (mkF m 4 #[.val (.ref r0)] [(.ref s_ITERABLE), (.ref r0)])) X1 hx rfl rfl rfl (pc0 := 4) (pc' := 13) (same := false) rfl (hb hby own_d1_4) rfl (decide_eq_false (fun q => hc2 (Value.ref.inj q))) (by decide) (by decide) k) ?_
      show own_Goes p e below _ (T1.setTop (mkF m 13 #[.val (.ref r0)] []))
      refine own_go (fun t k => XS.aloadN X1.here hx rfl (hb hby own_d1_13) rfl rfl k) ?_
      rw [show (own_j1_1 r0 s_ITERABLE s_LIST) = r0 from by rw [own_j1_1, if_neg hc2]] at HH4
      exact HH4 _ _ X1 e1 N0
  intro T4 L4 X4 e4 N4
  show own_Goes p e below _ (T4.setTop (mkF m 14 #[.val (.ref r0)] [(.ref (own_j1_1 r0 s_ITERABLE s_LIST))]))
  exact own_retR X4 hx hlk hret rfl rfl (hb hby own_d1_14) (by decide) (by decide) ⟨by rw [own_f1], N4, e4⟩
theorem own_t0 : (Jvm.Cond.constant "com/example/foothold/foothold/KindResultKindPinLaw" (7 : Nat) (2147483647 : Int32)) ∈ tables_1 := List.mem_of_getElem? (i := 0) rfl
theorem own_t1 : (Jvm.Cond.fieldLink "com/example/foothold/foothold/KindResultKindPinLaw" (8 : Nat) "com/example/foothold/foothold/Sequence$Kind" "LIST" "Lcom/example/foothold/foothold/Sequence$Kind;") ∈ tables_1 := List.mem_of_getElem? (i := 1) rfl
theorem own_t13 : (Jvm.Cond.fieldLink "com/example/foothold/foothold/KindResultKindPinLaw" (14 : Nat) "com/example/foothold/foothold/Sequence$Kind" "VECTOR" "Lcom/example/foothold/foothold/Sequence$Kind;") ∈ tables_1 := List.mem_of_getElem? (i := 13) rfl
theorem own_t17 : (Jvm.Cond.fieldLink "com/example/foothold/foothold/KindResultKindPinLaw" (17 : Nat) "com/example/foothold/foothold/Sequence$Kind" "ARRAY_SEQ" "Lcom/example/foothold/foothold/Sequence$Kind;") ∈ tables_1 := List.mem_of_getElem? (i := 17) rfl
theorem own_t11 : (Jvm.Cond.fieldLink "com/example/foothold/foothold/KindResultKindPinLaw" (20 : Nat) "com/example/foothold/foothold/Sequence$Kind" "ITERABLE" "Lcom/example/foothold/foothold/Sequence$Kind;") ∈ tables_1 := List.mem_of_getElem? (i := 11) rfl
theorem own_t15 : (Jvm.Cond.fieldLink "com/example/foothold/foothold/KindResultKindPinLaw" (23 : Nat) "com/example/foothold/foothold/Sequence$Kind" "ITERATOR" "Lcom/example/foothold/foothold/Sequence$Kind;") ∈ tables_1 := List.mem_of_getElem? (i := 15) rfl
theorem own_t4 : (Jvm.Cond.methodLink "com/example/foothold/foothold/KindResultKindPinLaw" (26 : Nat) ({ cls := "com/example/foothold/foothold/Sequence$Kind", name := "resultKind", desc := "()Lcom/example/foothold/foothold/Sequence$Kind;" } : Jvm.MethodName)) ∈ tables_1 := List.mem_of_getElem? (i := 4) rfl
theorem own_pd0 : parseMethodDescriptor "()Lcom/example/foothold/foothold/Sequence$Kind;" = some ⟨[], some (.object "com/example/foothold/foothold/Sequence$Kind")⟩ := by decide +kernel
theorem own_t5 : (Jvm.Cond.declares ({ cls := "com/example/foothold/foothold/Sequence$Kind", name := "resultKind", desc := "()Lcom/example/foothold/foothold/Sequence$Kind;" } : Jvm.MethodName)) ∈ tables_1 := List.mem_of_getElem? (i := 5) rfl
theorem own_t7 : (Jvm.Cond.selects "com/example/foothold/foothold/Sequence$Kind" ({ cls := "com/example/foothold/foothold/Sequence$Kind", name := "resultKind", desc := "()Lcom/example/foothold/foothold/Sequence$Kind;" } : Jvm.MethodName) ({ cls := "com/example/foothold/foothold/Sequence$Kind", name := "resultKind", desc := "()Lcom/example/foothold/foothold/Sequence$Kind;" } : Jvm.MethodName)) ∈ tables_1 := List.mem_of_getElem? (i := 7) rfl
theorem own_t6 : (Jvm.Cond.instanceMethod ({ cls := "com/example/foothold/foothold/Sequence$Kind", name := "resultKind", desc := "()Lcom/example/foothold/foothold/Sequence$Kind;" } : Jvm.MethodName)) ∈ tables_1 := List.mem_of_getElem? (i := 6) rfl
theorem own_t2 : (Jvm.Cond.initialized "com/example/foothold/foothold/Sequence$Kind") ∈ tables_1 := List.mem_of_getElem? (i := 2) rfl
theorem own_t8 : (Jvm.Cond.code ({ cls := "com/example/foothold/foothold/Sequence$Kind", name := "resultKind", desc := "()Lcom/example/foothold/foothold/Sequence$Kind;" } : Jvm.MethodName) prog_91_method_6_code (1 : Nat) (Option.some (Jvm.ClassFile.FieldType.object "com/example/foothold/foothold/Sequence$Kind"))) ∈ tables_1 := List.mem_of_getElem? (i := 8) rfl
theorem own_pn1 : plainName "com/example/foothold/foothold/KindResultKindPinLaw" = true := by first | (simp [plainName, overriddenIn]; done) | decide +kernel
def own_v0_1 (x0 : Int32) : Int32 := ((x0 &&& (2147483647 : Int32)) % (5 : Int32))
def own_j0_1 (x0 : Int32) (s_LIST : Addr) (s_VECTOR : Addr) (s_ARRAY_SEQ : Addr) (s_ITERABLE : Addr) (s_ITERATOR : Addr) : Addr := (if (own_v0_1 x0) = (0 : Int32) then s_LIST else (if (own_v0_1 x0) = (1 : Int32) then s_VECTOR else (if (own_v0_1 x0) = (2 : Int32) then s_ARRAY_SEQ else (if (own_v0_1 x0) = (3 : Int32) then s_ITERABLE else s_ITERATOR))))
def own_j0_2 (x0 : Int32) (s_LIST : Addr) (s_VECTOR : Addr) (s_ARRAY_SEQ : Addr) (s_ITERATOR : Addr) : Addr := (if (own_v0_1 x0) = (0 : Int32) then s_LIST else (if (own_v0_1 x0) = (1 : Int32) then s_VECTOR else (if (own_v0_1 x0) = (2 : Int32) then s_ARRAY_SEQ else (if (own_v0_1 x0) = (3 : Int32) then s_LIST else s_ITERATOR))))
def own_j0_3 (x0 : Int32) (s_LIST : Addr) (s_VECTOR : Addr) (s_ARRAY_SEQ : Addr) (s_ITERABLE : Addr) (s_ITERATOR : Addr) : Int32 := (if (own_f1 (own_j0_1 x0 s_LIST s_VECTOR s_ARRAY_SEQ s_ITERABLE s_ITERATOR) s_ITERABLE s_LIST) = (own_j0_2 x0 s_LIST s_VECTOR s_ARRAY_SEQ s_ITERATOR) then (if (own_f1 (own_f1 (own_j0_1 x0 s_LIST s_VECTOR s_ARRAY_SEQ s_ITERABLE s_ITERATOR) s_ITERABLE s_LIST) s_ITERABLE s_LIST) = (own_f1 (own_j0_1 x0 s_LIST s_VECTOR s_ARRAY_SEQ s_ITERABLE s_ITERATOR) s_ITERABLE s_LIST) then (1 : Int32) else (0 : Int32)) else (0 : Int32))
def own_f0 (x0 : Int32) (s_LIST : Addr) (s_VECTOR : Addr) (s_ARRAY_SEQ : Addr) (s_ITERABLE : Addr) (s_ITERATOR : Addr) : Int32 := ((own_j0_3 x0 s_LIST s_VECTOR s_ARRAY_SEQ s_ITERABLE s_ITERATOR) &&& 1)
def own_Q0 (x0 : Int32) (s_LIST : Addr) (s_VECTOR : Addr) (s_ARRAY_SEQ : Addr) (s_ITERABLE : Addr) (s_ITERATOR : Addr) (h0 : Heap) (n0 : Nat) (v : Option Value) (h : Heap) (L : List Loc) : Prop := v = some (.int (own_f0 x0 s_LIST s_VECTOR s_ARRAY_SEQ s_ITERABLE s_ITERATOR)) ∧ Fr n0 L ∧ True
theorem own_kE {Z : State} {h : Heap} {C : String} {x0 : Int32} {s_LIST s_VECTOR s_ARRAY_SEQ s_ITERABLE s_ITERATOR : Addr} (E_LIST : Exa Z h s_LIST C) (E_VECTOR : Exa Z h s_VECTOR C) (E_ARRAY_SEQ : Exa Z h s_ARRAY_SEQ C) (E_ITERABLE : Exa Z h s_ITERABLE C) (E_ITERATOR : Exa Z h s_ITERATOR C) : Exa Z h (own_j0_1 x0 s_LIST s_VECTOR s_ARRAY_SEQ s_ITERABLE s_ITERATOR) C := by
  unfold own_j0_1
  repeat' split
  all_goals assumption
theorem own_rE {Z : State} {h : Heap} {C : String} {r s_ITERABLE s_LIST : Addr} (E1 : Exa Z h r C) (E2 : Exa Z h s_LIST C) : Exa Z h (own_f1 r s_ITERABLE s_LIST) C := by
  unfold own_f1 own_j1_1
  split
  · exact E2
  · exact E1
theorem own_ef0 (m : MethodId) (z0 : Int32) : entryFrame m #[(.int z0)] maxLocals = mkF m 0 #[.val (.int z0), .unset, .unset, .unset, .unset] [] := by first | (simp [entryFrame, mkF, argsToLocals, Value.category, maxLocals]; done) | rfl
set_option maxRecDepth 65536 in
set_option maxHeartbeats 40000000 in
theorem rm0 (l : Launch) (Z : State) (a0 : Array Value) (hw : ∀ d ∈ tables_1, d.before a0 Z = true) (ws : List Jvm.Cond) (x0 : Int32) (s_LIST : Addr) (s_VECTOR : Addr) (s_ARRAY_SEQ : Addr) (s_ITERABLE : Addr) (s_ITERATOR : Addr) (h0 : Heap) (n0 : Nat) (E_LIST : Exa Z h0 s_LIST "com/example/foothold/foothold/Sequence$Kind") (E_VECTOR : Exa Z h0 s_VECTOR "com/example/foothold/foothold/Sequence$Kind") (E_ARRAY_SEQ : Exa Z h0 s_ARRAY_SEQ "com/example/foothold/foothold/Sequence$Kind") (E_ITERABLE : Exa Z h0 s_ITERABLE "com/example/foothold/foothold/Sequence$Kind") (E_ITERATOR : Exa Z h0 s_ITERATOR "com/example/foothold/foothold/Sequence$Kind") (S_s_LIST : Sta Z h0 "com/example/foothold/foothold/Sequence$Kind" "LIST" "Lcom/example/foothold/foothold/Sequence$Kind;" (.ref s_LIST)) (S_s_VECTOR : Sta Z h0 "com/example/foothold/foothold/Sequence$Kind" "VECTOR" "Lcom/example/foothold/foothold/Sequence$Kind;" (.ref s_VECTOR)) (S_s_ARRAY_SEQ : Sta Z h0 "com/example/foothold/foothold/Sequence$Kind" "ARRAY_SEQ" "Lcom/example/foothold/foothold/Sequence$Kind;" (.ref s_ARRAY_SEQ)) (S_s_ITERABLE : Sta Z h0 "com/example/foothold/foothold/Sequence$Kind" "ITERABLE" "Lcom/example/foothold/foothold/Sequence$Kind;" (.ref s_ITERABLE)) (S_s_ITERATOR : Sta Z h0 "com/example/foothold/foothold/Sequence$Kind" "ITERATOR" "Lcom/example/foothold/foothold/Sequence$Kind;" (.ref s_ITERATOR)) : own_Met l Z x code maxLocals ret ws room_1 #[(.int x0)] h0 (own_Q0 x0 s_LIST s_VECTOR s_ARRAY_SEQ s_ITERABLE s_ITERATOR h0 n0) := by
  refine own_met (plainFor_of_name own_pn1) ?_
  intro p e s m below meth c s₁ hx hby hml hown hnm hret hlk hZ e0 X0
  have N0 := Fr.nil n0
  have hml : c.maxLocals = 5 := hml
  have hown : s.vm.findClass "com/example/foothold/foothold/KindResultKindPinLaw" = some m.cls := hown
  have hret : meth.sig.returnType = (some .boolean) := hret
  have hby : c.code = code := hby
  have hnm : meth.name = "law" := hnm
  rw [own_ef0]
  show own_Goes p e below _ (s₁.setTop (mkF m 0 #[.val (.int x0), .unset, .unset, .unset, .unset] []))
  refine own_go (fun t k => XS.iloadN X0.here hx rfl (hb hby at_0) rfl k) ?_
  show own_Goes p e below _ (s₁.setTop (mkF m 1 #[.val (.int x0), .unset, .unset, .unset, .unset] [(.int x0)]))
  refine own_go (fun t k => X0.ldcInt hx hown (mvT hZ (hw _ own_t0)) (g := (mkF m 1 #[.val (.int x0), .unset, .unset, .unset, .unset] [(.int x0)])) rfl (hb hby at_1) t k) ?_
  show own_Goes p e below _ (s₁.setTop (mkF m 3 #[.val (.int x0), .unset, .unset, .unset, .unset] [(.int (2147483647 : Int32)), (.int x0)]))
  refine own_go (fun t k => XS.iand X0.here hx rfl (hb hby at_3) rfl k) ?_
  show own_Goes p e below _ (s₁.setTop (mkF m 4 #[.val (.int x0), .unset, .unset, .unset, .unset] [(.int (x0 &&& (2147483647 : Int32)))]))
  refine own_go (fun t k => XS.iconst X0.here hx rfl (hb hby at_4) k) ?_
  show own_Goes p e below _ (s₁.setTop (mkF m 5 #[.val (.int x0), .unset, .unset, .unset, .unset] [(.int (5 : Int32)), (.int (x0 &&& (2147483647 : Int32)))]))
  refine own_go (fun t k => iremM X0 hx rfl (hb hby at_5) rfl (by decide) k) ?_
  show own_Goes p e below _ (s₁.setTop (mkF m 6 #[.val (.int x0), .unset, .unset, .unset, .unset] [(.int ((x0 &&& (2147483647 : Int32)) % (5 : Int32)))]))
  refine own_go (fun t k => XS.istoreN X0.here hx rfl (hb hby at_6) rfl (l' := #[.val (.int x0), .val (.int (own_v0_1 x0)), .unset, .unset, .unset]) rfl k) ?_
  show own_Goes p e below _ (s₁.setTop (mkF m 7 #[.val (.int x0), .val (.int (own_v0_1 x0)), .unset, .unset, .unset] []))
  refine own_go (fun t k => XS.iloadN X0.here hx rfl (hb hby at_7) rfl k) ?_
  show own_Goes p e below _ (s₁.setTop (mkF m 8 #[.val (.int x0), .val (.int (own_v0_1 x0)), .unset, .unset, .unset] [(.int (own_v0_1 x0))]))
  suffices HH19 : ∀ (T19 : State) (L19 : List Loc) (X19 : Stand p l e room_1 s m #[(.int x0)] below meth c T19 L19 0 0) (e19 : T19.heap = h0) (N19 : Fr n0 L19), own_Goes p e below (own_End s room_1 (own_Q0 x0 s_LIST s_VECTOR s_ARRAY_SEQ s_ITERABLE s_ITERATOR h0 n0)) (T19.setTop (mkF m 78 #[.val (.int x0), .val (.int (own_v0_1 x0)), .val (.ref (own_j0_1 x0 s_LIST s_VECTOR s_ARRAY_SEQ s_ITERABLE s_ITERATOR)), .val (.ref (own_j0_2 x0 s_LIST s_VECTOR s_ARRAY_SEQ s_ITERATOR)), .unset] [])) by
    by_cases hc5 : (own_v0_1 x0) = (0 : Int32)
    · refine own_go (fun t k => XS.ifNo X0.here hx rfl (hb hby at_8) rfl ((if0 _ _).trans (teq hc5).2) k) ?_
      show own_Goes p e below _ (s₁.setTop (mkF m 11 #[.val (.int x0), .val (.int (own_v0_1 x0)), .unset, .unset, .unset] []))
      obtain ⟨T6, X6, e6, st6⟩ := getS2 X0 hx hZ hown (host := "") (Or.inl (hw _ own_t1)) Via.refl e0 S_s_LIST (g := (mkF m 11 #[.val (.int x0), .val (.int (own_v0_1 x0)), .unset, .unset, .unset] [])) rfl (hb hby at_11)
      refine own_go st6 ?_
      show own_Goes p e below _ (T6.setTop (mkF m 14 #[.val (.int x0), .val (.int (own_v0_1 x0)), .unset, .unset, .unset] [(.ref s_LIST)]))
      refine own_go (fun t k => XS.astoreN X6.here hx rfl (hb hby at_14) rfl rfl (l' := #[.val (.int x0), .val (.int (own_v0_1 x0)), .val (.ref s_LIST), .unset, .unset]) rfl k) ?_
      show own_Goes p e below _ (T6.setTop (mkF m 15 #[.val (.int x0), .val (.int (own_v0_1 x0)), .val (.ref s_LIST), .unset, .unset] []))
      obtain ⟨T7, X7, e7, st7⟩ := getS2 X6 hx hZ hown (host := "") (Or.inl (hw _ own_t1)) Via.refl e6 S_s_LIST (g := (mkF m 15 #[.val (.int x0), .val (.int (own_v0_1 x0)), .val (.ref s_LIST), .unset, .unset] [])) rfl (hb hby at_15)
      refine own_go st7 ?_
      show own_Goes p e below _ (T7.setTop (mkF m 18 #[.val (.int x0), .val (.int (own_v0_1 x0)), .val (.ref s_LIST), .unset, .unset] [(.ref s_LIST)]))
      refine own_go (fun t k => XS.astoreN X7.here hx rfl (hb hby at_18) rfl rfl (l' := #[.val (.int x0), .val (.int (own_v0_1 x0)), .val (.ref s_LIST), .val (.ref s_LIST), .unset]) rfl k) ?_
      show own_Goes p e below _ (T7.setTop (mkF m 19 #[.val (.int x0), .val (.int (own_v0_1 x0)), .val (.ref s_LIST), .val (.ref s_LIST), .unset] []))
      refine own_go (fun t k => XS.goto X7.here hx rfl (pc0 := 19) (pc' := 78) rfl (hb hby at_19) (by decide) (by decide) k) ?_
      rw [show (own_j0_1 x0 s_LIST s_VECTOR s_ARRAY_SEQ s_ITERABLE s_ITERATOR) = s_LIST from by rw [own_j0_1, if_pos hc5]] at HH19
      rw [show (own_j0_2 x0 s_LIST s_VECTOR s_ARRAY_SEQ s_ITERATOR) = s_LIST from by rw [own_j0_2, if_pos hc5]] at HH19
      exact HH19 _ _ X7 e7 N0
    · refine own_go (fun t k => XS.ifYes X0.here hx rfl (pc0 := 8) (pc' := 22) rfl (hb hby at_8) rfl ((if0 _ _).trans (feq hc5).2) (by decide) (by decide) k) ?_
      show own_Goes p e below _ (s₁.setTop (mkF m 22 #[.val (.int x0), .val (.int (own_v0_1 x0)), .unset, .unset, .unset] []))
      refine own_go (fun t k => XS.iloadN X0.here hx rfl (hb hby at_22) rfl k) ?_
      show own_Goes p e below _ (s₁.setTop (mkF m 23 #[.val (.int x0), .val (.int (own_v0_1 x0)), .unset, .unset, .unset] [(.int (own_v0_1 x0))]))
      refine own_go (fun t k => XS.iconst X0.here hx rfl (hb hby at_23) k) ?_
      show own_Goes p e below _ (s₁.setTop (mkF m 24 #[.val (.int x0), .val (.int (own_v0_1 x0)), .unset, .unset, .unset] [(.int (1 : Int32)), (.int (own_v0_1 x0))]))
      by_cases hc8 : (own_v0_1 x0) = (1 : Int32)
      · refine own_go (fun t k => XS.icmpNo X0.here hx rfl (hb hby at_24) rfl (teq hc8).2 k) ?_
        show own_Goes p e below _ (s₁.setTop (mkF m 27 #[.val (.int x0), .val (.int (own_v0_1 x0)), .unset, .unset, .unset] []))
        obtain ⟨T9, X9, e9, st9⟩ := getS2 X0 hx hZ hown (host := "") (Or.inl (hw _ own_t13)) Via.refl e0 S_s_VECTOR (g := (mkF m 27 #[.val (.int x0), .val (.int (own_v0_1 x0)), .unset, .unset, .unset] [])) rfl (hb hby at_27)
        refine own_go st9 ?_
        show own_Goes p e below _ (T9.setTop (mkF m 30 #[.val (.int x0), .val (.int (own_v0_1 x0)), .unset, .unset, .unset] [(.ref s_VECTOR)]))
        refine own_go (fun t k => XS.astoreN X9.here hx rfl (hb hby at_30) rfl rfl (l' := #[.val (.int x0), .val (.int (own_v0_1 x0)), .val (.ref s_VECTOR), .unset, .unset]) rfl k) ?_
        show own_Goes p e below _ (T9.setTop (mkF m 31 #[.val (.int x0), .val (.int (own_v0_1 x0)), .val (.ref s_VECTOR), .unset, .unset] []))
        obtain ⟨T10, X10, e10, st10⟩ := getS2 X9 hx hZ hown (host := "") (Or.inl (hw _ own_t13)) Via.refl e9 S_s_VECTOR (g := (mkF m 31 #[.val (.int x0), .val (.int (own_v0_1 x0)), .val (.ref s_VECTOR), .unset, .unset] [])) rfl (hb hby at_31)
        refine own_go st10 ?_
        show own_Goes p e below _ (T10.setTop (mkF m 34 #[.val (.int x0), .val (.int (own_v0_1 x0)), .val (.ref s_VECTOR), .unset, .unset] [(.ref s_VECTOR)]))
        refine own_go (fun t k => XS.astoreN X10.here hx rfl (hb hby at_34) rfl rfl (l' := #[.val (.int x0), .val (.int (own_v0_1 x0)), .val (.ref s_VECTOR), .val (.ref s_VECTOR), .unset]) rfl k) ?_
        show own_Goes p e below _ (T10.setTop (mkF m 35 #[.val (.int x0), .val (.int (own_v0_1 x0)), .val (.ref s_VECTOR), .val (.ref s_VECTOR), .unset] []))
        refine own_go (fun t k => XS.goto X10.here hx rfl (pc0 := 35) (pc' := 78) rfl (hb hby at_35) (by decide) (by decide) k) ?_
        rw [show (own_j0_1 x0 s_LIST s_VECTOR s_ARRAY_SEQ s_ITERABLE s_ITERATOR) = s_VECTOR from by rw [own_j0_1, if_neg hc5, if_pos hc8]] at HH19
        rw [show (own_j0_2 x0 s_LIST s_VECTOR s_ARRAY_SEQ s_ITERATOR) = s_VECTOR from by rw [own_j0_2, if_neg hc5, if_pos hc8]] at HH19
        exact HH19 _ _ X10 e10 N0
      · refine own_go (fun t k => XS.icmpYes X0.here hx rfl (pc0 := 24) (pc' := 38) rfl (hb hby at_24) rfl (feq hc8).2 (by decide) (by decide) k) ?_
        show own_Goes p e below _ (s₁.setTop (mkF m 38 #[.val (.int x0), .val (.int (own_v0_1 x0)), .unset, .unset, .unset] []))
        refine own_go (fun t k => XS.iloadN X0.here hx rfl (hb hby at_38) rfl k) ?_
        show own_Goes p e below _ (s₁.setTop (mkF m 39 #[.val (.int x0), .val (.int (own_v0_1 x0)), .unset, .unset, .unset] [(.int (own_v0_1 x0))]))
        refine own_go (fun t k => XS.iconst X0.here hx rfl (hb hby at_39) k) ?_
        show own_Goes p e below _ (s₁.setTop (mkF m 40 #[.val (.int x0), .val (.int (own_v0_1 x0)), .unset, .unset, .unset] [(.int (2 : Int32)), (.int (own_v0_1 x0))]))
        by_cases hc11 : (own_v0_1 x0) = (2 : Int32)
        · refine own_go (fun t k => XS.icmpNo X0.here hx rfl (hb hby at_40) rfl (teq hc11).2 k) ?_
          show own_Goes p e below _ (s₁.setTop (mkF m 43 #[.val (.int x0), .val (.int (own_v0_1 x0)), .unset, .unset, .unset] []))
          obtain ⟨T12, X12, e12, st12⟩ := getS2 X0 hx hZ hown (host := "") (Or.inl (hw _ own_t17)) Via.refl e0 S_s_ARRAY_SEQ (g := (mkF m 43 #[.val (.int x0), .val (.int (own_v0_1 x0)), .unset, .unset, .unset] [])) rfl (hb hby at_43)
          refine own_go st12 ?_
          show own_Goes p e below _ (T12.setTop (mkF m 46 #[.val (.int x0), .val (.int (own_v0_1 x0)), .unset, .unset, .unset] [(.ref s_ARRAY_SEQ)]))
          refine own_go (fun t k => XS.astoreN X12.here hx rfl (hb hby at_46) rfl rfl (l' := #[.val (.int x0), .val (.int (own_v0_1 x0)), .val (.ref s_ARRAY_SEQ), .unset, .unset]) rfl k) ?_
          show own_Goes p e below _ (T12.setTop (mkF m 47 #[.val (.int x0), .val (.int (own_v0_1 x0)), .val (.ref s_ARRAY_SEQ), .unset, .unset] []))
          obtain ⟨T13, X13, e13, st13⟩ := getS2 X12 hx hZ hown (host := "") (Or.inl (hw _ own_t17)) Via.refl e12 S_s_ARRAY_SEQ (g := (mkF m 47 #[.val (.int x0), .val (.int (own_v0_1 x0)), .val (.ref s_ARRAY_SEQ), .unset, .unset] [])) rfl (hb hby at_47)
          refine own_go st13 ?_
          show own_Goes p e below _ (T13.setTop (mkF m 50 #[.val (.int x0), .val (.int (own_v0_1 x0)), .val (.ref s_ARRAY_SEQ), .unset, .unset] [(.ref s_ARRAY_SEQ)]))
          refine own_go (fun t k => XS.astoreN X13.here hx rfl (hb hby at_50) rfl rfl (l' := #[.val (.int x0), .val (.int (own_v0_1 x0)), .val (.ref s_ARRAY_SEQ), .val (.ref s_ARRAY_SEQ), .unset]) rfl k) ?_
          show own_Goes p e below _ (T13.setTop (mkF m 51 #[.val (.int x0), .val (.int (own_v0_1 x0)), .val (.ref s_ARRAY_SEQ), .val (.ref s_ARRAY_SEQ), .unset] []))
          refine own_go (fun t k => XS.goto X13.here hx rfl (pc0 := 51) (pc' := 78) rfl (hb hby at_51) (by decide) (by decide) k) ?_
          rw [show (own_j0_1 x0 s_LIST s_VECTOR s_ARRAY_SEQ s_ITERABLE s_ITERATOR) = s_ARRAY_SEQ from by rw [own_j0_1, if_neg hc5, if_neg hc8, if_pos hc11]] at HH19
          rw [show (own_j0_2 x0 s_LIST s_VECTOR s_ARRAY_SEQ s_ITERATOR) = s_ARRAY_SEQ from by rw [own_j0_2, if_neg hc5, if_neg hc8, if_pos hc11]] at HH19
          exact HH19 _ _ X13 e13 N0
        · refine own_go (fun t k => XS.icmpYes X0.here hx rfl (pc0 := 40) (pc' := 54) rfl (hb hby at_40) rfl (feq hc11).2 (by decide) (by decide) k) ?_
          show own_Goes p e below _ (s₁.setTop (mkF m 54 #[.val (.int x0), .val (.int (own_v0_1 x0)), .unset, .unset, .unset] []))
          refine own_go (fun t k => XS.iloadN X0.here hx rfl (hb hby at_54) rfl k) ?_
          show own_Goes p e below _ (s₁.setTop (mkF m 55 #[.val (.int x0), .val (.int (own_v0_1 x0)), .unset, .unset, .unset] [(.int (own_v0_1 x0))]))
          refine own_go (fun t k => XS.iconst X0.here hx rfl (hb hby at_55) k) ?_
          show own_Goes p e below _ (s₁.setTop (mkF m 56 #[.val (.int x0), .val (.int (own_v0_1 x0)), .unset, .unset, .unset] [(.int (3 : Int32)), (.int (own_v0_1 x0))]))
          by_cases hc14 : (own_v0_1 x0) = (3 : Int32)
          · refine own_go (fun t k => XS.icmpNo X0.here hx rfl (hb hby at_56) rfl (teq hc14).2 k) ?_
            show own_Goes p e below _ (s₁.setTop (mkF m 59 #[.val (.int x0), .val (.int (own_v0_1 x0)), .unset, .unset, .unset] []))
            obtain ⟨T15, X15, e15, st15⟩ := getS2 X0 hx hZ hown (host := "") (Or.inl (hw _ own_t11)) Via.refl e0 S_s_ITERABLE (g := (mkF m 59 #[.val (.int x0), .val (.int (own_v0_1 x0)), .unset, .unset, .unset] [])) rfl (hb hby at_59)
            refine own_go st15 ?_
            show own_Goes p e below _ (T15.setTop (mkF m 62 #[.val (.int x0), .val (.int (own_v0_1 x0)), .unset, .unset, .unset] [(.ref s_ITERABLE)]))
            refine own_go (fun t k => XS.astoreN X15.here hx rfl (hb hby at_62) rfl rfl (l' := #[.val (.int x0), .val (.int (own_v0_1 x0)), .val (.ref s_ITERABLE), .unset, .unset]) rfl k) ?_
            show own_Goes p e below _ (T15.setTop (mkF m 63 #[.val (.int x0), .val (.int (own_v0_1 x0)), .val (.ref s_ITERABLE), .unset, .unset] []))
            obtain ⟨T16, X16, e16, st16⟩ := getS2 X15 hx hZ hown (host := "") (Or.inl (hw _ own_t1)) Via.refl e15 S_s_LIST (g := (mkF m 63 #[.val (.int x0), .val (.int (own_v0_1 x0)), .val (.ref s_ITERABLE), .unset, .unset] [])) rfl (hb hby at_63)
            refine own_go st16 ?_
            show own_Goes p e below _ (T16.setTop (mkF m 66 #[.val (.int x0), .val (.int (own_v0_1 x0)), .val (.ref s_ITERABLE), .unset, .unset] [(.ref s_LIST)]))
            refine own_go (fun t k => XS.astoreN X16.here hx rfl (hb hby at_66) rfl rfl (l' := #[.val (.int x0), .val (.int (own_v0_1 x0)), .val (.ref s_ITERABLE), .val (.ref s_LIST), .unset]) rfl k) ?_
            show own_Goes p e below _ (T16.setTop (mkF m 67 #[.val (.int x0), .val (.int (own_v0_1 x0)), .val (.ref s_ITERABLE), .val (.ref s_LIST), .unset] []))
            refine own_go (fun t k => XS.goto X16.here hx rfl (pc0 := 67) (pc' := 78) rfl (hb hby at_67) (by decide) (by decide) k) ?_
            rw [show (own_j0_1 x0 s_LIST s_VECTOR s_ARRAY_SEQ s_ITERABLE s_ITERATOR) = s_ITERABLE from by rw [own_j0_1, if_neg hc5, if_neg hc8, if_neg hc11, if_pos hc14]] at HH19
            rw [show (own_j0_2 x0 s_LIST s_VECTOR s_ARRAY_SEQ s_ITERATOR) = s_LIST from by rw [own_j0_2, if_neg hc5, if_neg hc8, if_neg hc11, if_pos hc14]] at HH19
            exact HH19 _ _ X16 e16 N0
          · refine own_go (fun t k => XS.icmpYes X0.here hx rfl (pc0 := 56) (pc' := 70) rfl (hb hby at_56) rfl (feq hc14).2 (by decide) (by decide) k) ?_
            show own_Goes p e below _ (s₁.setTop (mkF m 70 #[.val (.int x0), .val (.int (own_v0_1 x0)), .unset, .unset, .unset] []))
            obtain ⟨T17, X17, e17, st17⟩ := getS2 X0 hx hZ hown (host := "") (Or.inl (hw _ own_t15)) Via.refl e0 S_s_ITERATOR (g := (mkF m 70 #[.val (.int x0), .val (.int (own_v0_1 x0)), .unset, .unset, .unset] [])) rfl (hb hby at_70)
            refine own_go st17 ?_
            show own_Goes p e below _ (T17.setTop (mkF m 73 #[.val (.int x0), .val (.int (own_v0_1 x0)), .unset, .unset, .unset] [(.ref s_ITERATOR)]))
            refine own_go (fun t k => XS.astoreN X17.here hx rfl (hb hby at_73) rfl rfl (l' := #[.val (.int x0), .val (.int (own_v0_1 x0)), .val (.ref s_ITERATOR), .unset, .unset]) rfl k) ?_
            show own_Goes p e below _ (T17.setTop (mkF m 74 #[.val (.int x0), .val (.int (own_v0_1 x0)), .val (.ref s_ITERATOR), .unset, .unset] []))
            obtain ⟨T18, X18, e18, st18⟩ := getS2 X17 hx hZ hown (host := "") (Or.inl (hw _ own_t15)) Via.refl e17 S_s_ITERATOR (g := (mkF m 74 #[.val (.int x0), .val (.int (own_v0_1 x0)), .val (.ref s_ITERATOR), .unset, .unset] [])) rfl (hb hby at_74)
            refine own_go st18 ?_
            show own_Goes p e below _ (T18.setTop (mkF m 77 #[.val (.int x0), .val (.int (own_v0_1 x0)), .val (.ref s_ITERATOR), .unset, .unset] [(.ref s_ITERATOR)]))
            refine own_go (fun t k => XS.astoreN X18.here hx rfl (hb hby at_77) rfl rfl (l' := #[.val (.int x0), .val (.int (own_v0_1 x0)), .val (.ref s_ITERATOR), .val (.ref s_ITERATOR), .unset]) rfl k) ?_
            rw [show (own_j0_1 x0 s_LIST s_VECTOR s_ARRAY_SEQ s_ITERABLE s_ITERATOR) = s_ITERATOR from by rw [own_j0_1, if_neg hc5, if_neg hc8, if_neg hc11, if_neg hc14]] at HH19
            rw [show (own_j0_2 x0 s_LIST s_VECTOR s_ARRAY_SEQ s_ITERATOR) = s_ITERATOR from by rw [own_j0_2, if_neg hc5, if_neg hc8, if_neg hc11, if_neg hc14]] at HH19
            exact HH19 _ _ X18 e18 N0
  intro T19 L19 X19 e19 N19
  show own_Goes p e below _ (T19.setTop (mkF m 78 #[.val (.int x0), .val (.int (own_v0_1 x0)), .val (.ref (own_j0_1 x0 s_LIST s_VECTOR s_ARRAY_SEQ s_ITERABLE s_ITERATOR)), .val (.ref (own_j0_2 x0 s_LIST s_VECTOR s_ARRAY_SEQ s_ITERATOR)), .unset] []))
  refine own_go (fun t k => XS.aloadN X19.here hx rfl (hb hby at_78) rfl rfl k) ?_
  show own_Goes p e below _ (T19.setTop (mkF m 79 #[.val (.int x0), .val (.int (own_v0_1 x0)), .val (.ref (own_j0_1 x0 s_LIST s_VECTOR s_ARRAY_SEQ s_ITERABLE s_ITERATOR)), .val (.ref (own_j0_2 x0 s_LIST s_VECTOR s_ARRAY_SEQ s_ITERATOR)), .unset] [(.ref (own_j0_1 x0 s_LIST s_VECTOR s_ARRAY_SEQ s_ITERABLE s_ITERATOR))]))
  obtain ⟨_, T20, L20, X20, ⟨rfl, N20q, e20⟩, st20⟩ := own_callV X19 hx hZ hown (hw _ own_t4) (hw _ own_t5) (hw _ own_t7) (hw _ own_t6) (hw _ own_t2) (hw _ own_t8) (by decide) (b := (own_j0_1 x0 s_LIST s_VECTOR s_ARRAY_SEQ s_ITERABLE s_ITERATOR)) (as := []) (rm1 l Z a0 hw [] (own_j0_1 x0 s_LIST s_VECTOR s_ARRAY_SEQ s_ITERABLE s_ITERATOR) s_ITERABLE s_LIST h0 n0 S_s_ITERABLE S_s_LIST) e19 (own_kE E_LIST E_VECTOR E_ARRAY_SEQ E_ITERABLE E_ITERATOR) own_pd0 rfl (pc := 79) (Ls := #[.val (.int x0), .val (.int (own_v0_1 x0)), .val (.ref (own_j0_1 x0 s_LIST s_VECTOR s_ARRAY_SEQ s_ITERABLE s_ITERATOR)), .val (.ref (own_j0_2 x0 s_LIST s_VECTOR s_ARRAY_SEQ s_ITERATOR)), .unset]) (rest := []) (W := 0) (by rw [hml]; rfl) (Nat.le_of_eq rfl) (by decide) (by decide) (hb hby at_79) (by decide) (by decide)
  have N20 := Fr.app N19 N20q
  refine own_go st20 ?_
  show own_Goes p e below _ (T20.setTop (mkF m 82 #[.val (.int x0), .val (.int (own_v0_1 x0)), .val (.ref (own_j0_1 x0 s_LIST s_VECTOR s_ARRAY_SEQ s_ITERABLE s_ITERATOR)), .val (.ref (own_j0_2 x0 s_LIST s_VECTOR s_ARRAY_SEQ s_ITERATOR)), .unset] [(.ref (own_f1 (own_j0_1 x0 s_LIST s_VECTOR s_ARRAY_SEQ s_ITERABLE s_ITERATOR) s_ITERABLE s_LIST))]))
  refine own_go (fun t k => XS.astore X20.here hx rfl (hb hby at_82) rfl rfl (l' := #[.val (.int x0), .val (.int (own_v0_1 x0)), .val (.ref (own_j0_1 x0 s_LIST s_VECTOR s_ARRAY_SEQ s_ITERABLE s_ITERATOR)), .val (.ref (own_j0_2 x0 s_LIST s_VECTOR s_ARRAY_SEQ s_ITERATOR)), .val (.ref (own_f1 (own_j0_1 x0 s_LIST s_VECTOR s_ARRAY_SEQ s_ITERABLE s_ITERATOR) s_ITERABLE s_LIST))]) rfl k) ?_
  show own_Goes p e below _ (T20.setTop (mkF m 84 #[.val (.int x0), .val (.int (own_v0_1 x0)), .val (.ref (own_j0_1 x0 s_LIST s_VECTOR s_ARRAY_SEQ s_ITERABLE s_ITERATOR)), .val (.ref (own_j0_2 x0 s_LIST s_VECTOR s_ARRAY_SEQ s_ITERATOR)), .val (.ref (own_f1 (own_j0_1 x0 s_LIST s_VECTOR s_ARRAY_SEQ s_ITERABLE s_ITERATOR) s_ITERABLE s_LIST))] []))
  refine own_go (fun t k => XS.aload X20.here hx rfl (hb hby at_84) rfl rfl k) ?_
  show own_Goes p e below _ (T20.setTop (mkF m 86 #[.val (.int x0), .val (.int (own_v0_1 x0)), .val (.ref (own_j0_1 x0 s_LIST s_VECTOR s_ARRAY_SEQ s_ITERABLE s_ITERATOR)), .val (.ref (own_j0_2 x0 s_LIST s_VECTOR s_ARRAY_SEQ s_ITERATOR)), .val (.ref (own_f1 (own_j0_1 x0 s_LIST s_VECTOR s_ARRAY_SEQ s_ITERABLE s_ITERATOR) s_ITERABLE s_LIST))] [(.ref (own_f1 (own_j0_1 x0 s_LIST s_VECTOR s_ARRAY_SEQ s_ITERABLE s_ITERATOR) s_ITERABLE s_LIST))]))
  refine own_go (fun t k => XS.aloadN X20.here hx rfl (hb hby at_86) rfl rfl k) ?_
  show own_Goes p e below _ (T20.setTop (mkF m 87 #[.val (.int x0), .val (.int (own_v0_1 x0)), .val (.ref (own_j0_1 x0 s_LIST s_VECTOR s_ARRAY_SEQ s_ITERABLE s_ITERATOR)), .val (.ref (own_j0_2 x0 s_LIST s_VECTOR s_ARRAY_SEQ s_ITERATOR)), .val (.ref (own_f1 (own_j0_1 x0 s_LIST s_VECTOR s_ARRAY_SEQ s_ITERABLE s_ITERATOR) s_ITERABLE s_LIST))] [(.ref (own_j0_2 x0 s_LIST s_VECTOR s_ARRAY_SEQ s_ITERATOR)), (.ref (own_f1 (own_j0_1 x0 s_LIST s_VECTOR s_ARRAY_SEQ s_ITERABLE s_ITERATOR) s_ITERABLE s_LIST))]))
  suffices HH24 : ∀ (T24 : State) (L24 : List Loc) (X24 : Stand p l e room_1 s m #[(.int x0)] below meth c T24 L24 0 0) (e24 : T24.heap = h0) (N24 : Fr n0 L24), own_Goes p e below (own_End s room_1 (own_Q0 x0 s_LIST s_VECTOR s_ARRAY_SEQ s_ITERABLE s_ITERATOR h0 n0)) (T24.setTop (mkF m 105 #[.val (.int x0), .val (.int (own_v0_1 x0)), .val (.ref (own_j0_1 x0 s_LIST s_VECTOR s_ARRAY_SEQ s_ITERABLE s_ITERATOR)), .val (.ref (own_j0_2 x0 s_LIST s_VECTOR s_ARRAY_SEQ s_ITERATOR)), .val (.ref (own_f1 (own_j0_1 x0 s_LIST s_VECTOR s_ARRAY_SEQ s_ITERABLE s_ITERATOR) s_ITERABLE s_LIST))] [(.int (own_j0_3 x0 s_LIST s_VECTOR s_ARRAY_SEQ s_ITERABLE s_ITERATOR))])) by
    by_cases hc21 : (own_f1 (own_j0_1 x0 s_LIST s_VECTOR s_ARRAY_SEQ s_ITERABLE s_ITERATOR) s_ITERABLE s_LIST) = (own_j0_2 x0 s_LIST s_VECTOR s_ARRAY_SEQ s_ITERATOR)
    · refine own_go (fun t k => Jvm.RoadKit.acmp (g := (mkF m 87 #[.val (.int x0), .val (.int (own_v0_1 x0)), .val (.ref (own_j0_1 x0 s_LIST s_VECTOR s_ARRAY_SEQ s_ITERABLE s_ITERATOR)), .val (.ref (own_j0_2 x0 s_LIST s_VECTOR s_ARRAY_SEQ s_ITERATOR)), .val (.ref (own_f1 (own_j0_1 x0 s_LIST s_VECTOR s_ARRAY_SEQ s_ITERABLE s_ITERATOR) s_ITERABLE s_LIST))] [(.ref (own_j0_2 x0 s_LIST s_VECTOR s_ARRAY_SEQ s_ITERATOR)), (.ref (own_f1 (own_j0_1 x0 s_LIST s_VECTOR s_ARRAY_SEQ s_ITERABLE s_ITERATOR) s_ITERABLE s_LIST))])) X20 hx rfl rfl rfl (pc0 := 87) (pc' := 90) (same := true) rfl (hb hby at_87) rfl (decide_eq_true (congrArg Value.ref hc21)) (by decide) (by decide) k) ?_
      show own_Goes p e below _ (T20.setTop (mkF m 90 #[.val (.int x0), .val (.int (own_v0_1 x0)), .val (.ref (own_j0_1 x0 s_LIST s_VECTOR s_ARRAY_SEQ s_ITERABLE s_ITERATOR)), .val (.ref (own_j0_2 x0 s_LIST s_VECTOR s_ARRAY_SEQ s_ITERATOR)), .val (.ref (own_f1 (own_j0_1 x0 s_LIST s_VECTOR s_ARRAY_SEQ s_ITERABLE s_ITERATOR) s_ITERABLE s_LIST))] []))
      refine own_go (fun t k => XS.aload X20.here hx rfl (hb hby at_90) rfl rfl k) ?_
      show own_Goes p e below _ (T20.setTop (mkF m 92 #[.val (.int x0), .val (.int (own_v0_1 x0)), .val (.ref (own_j0_1 x0 s_LIST s_VECTOR s_ARRAY_SEQ s_ITERABLE s_ITERATOR)), .val (.ref (own_j0_2 x0 s_LIST s_VECTOR s_ARRAY_SEQ s_ITERATOR)), .val (.ref (own_f1 (own_j0_1 x0 s_LIST s_VECTOR s_ARRAY_SEQ s_ITERABLE s_ITERATOR) s_ITERABLE s_LIST))] [(.ref (own_f1 (own_j0_1 x0 s_LIST s_VECTOR s_ARRAY_SEQ s_ITERABLE s_ITERATOR) s_ITERABLE s_LIST))]))
      obtain ⟨_, T22, L22, X22, ⟨rfl, N22q, e22⟩, st22⟩ := own_callV X20 hx hZ hown (hw _ own_t4) (hw _ own_t5) (hw _ own_t7) (hw _ own_t6) (hw _ own_t2) (hw _ own_t8) (by decide) (b := (own_f1 (own_j0_1 x0 s_LIST s_VECTOR s_ARRAY_SEQ s_ITERABLE s_ITERATOR) s_ITERABLE s_LIST)) (as := []) (rm1 l Z a0 hw [] (own_f1 (own_j0_1 x0 s_LIST s_VECTOR s_ARRAY_SEQ s_ITERABLE s_ITERATOR) s_ITERABLE s_LIST) s_ITERABLE s_LIST h0 n0 S_s_ITERABLE S_s_LIST) e20 (own_rE (own_kE E_LIST E_VECTOR E_ARRAY_SEQ E_ITERABLE E_ITERATOR) E_LIST) own_pd0 rfl (pc := 92) (Ls := #[.val (.int x0), .val (.int (own_v0_1 x0)), .val (.ref (own_j0_1 x0 s_LIST s_VECTOR s_ARRAY_SEQ s_ITERABLE s_ITERATOR)), .val (.ref (own_j0_2 x0 s_LIST s_VECTOR s_ARRAY_SEQ s_ITERATOR)), .val (.ref (own_f1 (own_j0_1 x0 s_LIST s_VECTOR s_ARRAY_SEQ s_ITERABLE s_ITERATOR) s_ITERABLE s_LIST))]) (rest := []) (W := 0) (by rw [hml]; rfl) (Nat.le_of_eq rfl) (by decide) (by decide) (hb hby at_92) (by decide) (by decide)
      have N22 := Fr.app N20 N22q
      refine own_go st22 ?_
      show own_Goes p e below _ (T22.setTop (mkF m 95 #[.val (.int x0), .val (.int (own_v0_1 x0)), .val (.ref (own_j0_1 x0 s_LIST s_VECTOR s_ARRAY_SEQ s_ITERABLE s_ITERATOR)), .val (.ref (own_j0_2 x0 s_LIST s_VECTOR s_ARRAY_SEQ s_ITERATOR)), .val (.ref (own_f1 (own_j0_1 x0 s_LIST s_VECTOR s_ARRAY_SEQ s_ITERABLE s_ITERATOR) s_ITERABLE s_LIST))] [(.ref (own_f1 (own_f1 (own_j0_1 x0 s_LIST s_VECTOR s_ARRAY_SEQ s_ITERABLE s_ITERATOR) s_ITERABLE s_LIST) s_ITERABLE s_LIST))]))
      refine own_go (fun t k => XS.aload X22.here hx rfl (hb hby at_95) rfl rfl k) ?_
      show own_Goes p e below _ (T22.setTop (mkF m 97 #[.val (.int x0), .val (.int (own_v0_1 x0)), .val (.ref (own_j0_1 x0 s_LIST s_VECTOR s_ARRAY_SEQ s_ITERABLE s_ITERATOR)), .val (.ref (own_j0_2 x0 s_LIST s_VECTOR s_ARRAY_SEQ s_ITERATOR)), .val (.ref (own_f1 (own_j0_1 x0 s_LIST s_VECTOR s_ARRAY_SEQ s_ITERABLE s_ITERATOR) s_ITERABLE s_LIST))] [(.ref (own_f1 (own_j0_1 x0 s_LIST s_VECTOR s_ARRAY_SEQ s_ITERABLE s_ITERATOR) s_ITERABLE s_LIST)), (.ref (own_f1 (own_f1 (own_j0_1 x0 s_LIST s_VECTOR s_ARRAY_SEQ s_ITERABLE s_ITERATOR) s_ITERABLE s_LIST) s_ITERABLE s_LIST))]))
      by_cases hc23 : (own_f1 (own_f1 (own_j0_1 x0 s_LIST s_VECTOR s_ARRAY_SEQ s_ITERABLE s_ITERATOR) s_ITERABLE s_LIST) s_ITERABLE s_LIST) = (own_f1 (own_j0_1 x0 s_LIST s_VECTOR s_ARRAY_SEQ s_ITERABLE s_ITERATOR) s_ITERABLE s_LIST)
      · refine own_go (fun t k => Jvm.RoadKit.acmp (g := (mkF m 97 #[.val (.int x0), .val (.int (own_v0_1 x0)), .val (.ref (own_j0_1 x0 s_LIST s_VECTOR s_ARRAY_SEQ s_ITERABLE s_ITERATOR)), .val (.ref (own_j0_2 x0 s_LIST s_VECTOR s_ARRAY_SEQ s_ITERATOR)), .val (.ref (own_f1 (own_j0_1 x0 s_LIST s_VECTOR s_ARRAY_SEQ s_ITERABLE s_ITERATOR) s_ITERABLE s_LIST))] [(.ref (own_f1 (own_j0_1 x0 s_LIST s_VECTOR s_ARRAY_SEQ s_ITERABLE s_ITERATOR) s_ITERABLE s_LIST)), (.ref (own_f1 (own_f1 (own_j0_1 x0 s_LIST s_VECTOR s_ARRAY_SEQ s_ITERABLE s_ITERATOR) s_ITERABLE s_LIST) s_ITERABLE s_LIST))])) X22 hx rfl rfl rfl (pc0 := 97) (pc' := 100) (same := true) rfl (hb hby at_97) rfl (decide_eq_true (congrArg Value.ref hc23)) (by decide) (by decide) k) ?_
        show own_Goes p e below _ (T22.setTop (mkF m 100 #[.val (.int x0), .val (.int (own_v0_1 x0)), .val (.ref (own_j0_1 x0 s_LIST s_VECTOR s_ARRAY_SEQ s_ITERABLE s_ITERATOR)), .val (.ref (own_j0_2 x0 s_LIST s_VECTOR s_ARRAY_SEQ s_ITERATOR)), .val (.ref (own_f1 (own_j0_1 x0 s_LIST s_VECTOR s_ARRAY_SEQ s_ITERABLE s_ITERATOR) s_ITERABLE s_LIST))] []))
        refine own_go (fun t k => XS.iconst X22.here hx rfl (hb hby at_100) k) ?_
        show own_Goes p e below _ (T22.setTop (mkF m 101 #[.val (.int x0), .val (.int (own_v0_1 x0)), .val (.ref (own_j0_1 x0 s_LIST s_VECTOR s_ARRAY_SEQ s_ITERABLE s_ITERATOR)), .val (.ref (own_j0_2 x0 s_LIST s_VECTOR s_ARRAY_SEQ s_ITERATOR)), .val (.ref (own_f1 (own_j0_1 x0 s_LIST s_VECTOR s_ARRAY_SEQ s_ITERABLE s_ITERATOR) s_ITERABLE s_LIST))] [(.int (1 : Int32))]))
        refine own_go (fun t k => XS.goto X22.here hx rfl (pc0 := 101) (pc' := 105) rfl (hb hby at_101) (by decide) (by decide) k) ?_
        rw [show (own_j0_3 x0 s_LIST s_VECTOR s_ARRAY_SEQ s_ITERABLE s_ITERATOR) = (1 : Int32) from by rw [own_j0_3, if_pos hc21, if_pos hc23]] at HH24
        exact HH24 _ _ X22 e22 N22
      · refine own_go (fun t k => Jvm.RoadKit.acmp (g := (mkF m 97 #[.val (.int x0), .val (.int (own_v0_1 x0)), .val (.ref (own_j0_1 x0 s_LIST s_VECTOR s_ARRAY_SEQ s_ITERABLE s_ITERATOR)), .val (.ref (own_j0_2 x0 s_LIST s_VECTOR s_ARRAY_SEQ s_ITERATOR)), .val (.ref (own_f1 (own_j0_1 x0 s_LIST s_VECTOR s_ARRAY_SEQ s_ITERABLE s_ITERATOR) s_ITERABLE s_LIST))] [(.ref (own_f1 (own_j0_1 x0 s_LIST s_VECTOR s_ARRAY_SEQ s_ITERABLE s_ITERATOR) s_ITERABLE s_LIST)), (.ref (own_f1 (own_f1 (own_j0_1 x0 s_LIST s_VECTOR s_ARRAY_SEQ s_ITERABLE s_ITERATOR) s_ITERABLE s_LIST) s_ITERABLE s_LIST))])) X22 hx rfl rfl rfl (pc0 := 97) (pc' := 104) (same := false) rfl (hb hby at_97) rfl (decide_eq_false (fun q => hc23 (Value.ref.inj q))) (by decide) (by decide) k) ?_
        show own_Goes p e below _ (T22.setTop (mkF m 104 #[.val (.int x0), .val (.int (own_v0_1 x0)), .val (.ref (own_j0_1 x0 s_LIST s_VECTOR s_ARRAY_SEQ s_ITERABLE s_ITERATOR)), .val (.ref (own_j0_2 x0 s_LIST s_VECTOR s_ARRAY_SEQ s_ITERATOR)), .val (.ref (own_f1 (own_j0_1 x0 s_LIST s_VECTOR s_ARRAY_SEQ s_ITERABLE s_ITERATOR) s_ITERABLE s_LIST))] []))
        refine own_go (fun t k => XS.iconst X22.here hx rfl (hb hby at_104) k) ?_
        rw [show (own_j0_3 x0 s_LIST s_VECTOR s_ARRAY_SEQ s_ITERABLE s_ITERATOR) = (0 : Int32) from by rw [own_j0_3, if_pos hc21, if_neg hc23]] at HH24
        exact HH24 _ _ X22 e22 N22
    · refine own_go (fun t k => Jvm.RoadKit.acmp (g := (mkF m 87 #[.val (.int x0), .val (.int (own_v0_1 x0)), .val (.ref (own_j0_1 x0 s_LIST s_VECTOR s_ARRAY_SEQ s_ITERABLE s_ITERATOR)), .val (.ref (own_j0_2 x0 s_LIST s_VECTOR s_ARRAY_SEQ s_ITERATOR)), .val (.ref (own_f1 (own_j0_1 x0 s_LIST s_VECTOR s_ARRAY_SEQ s_ITERABLE s_ITERATOR) s_ITERABLE s_LIST))] [(.ref (own_j0_2 x0 s_LIST s_VECTOR s_ARRAY_SEQ s_ITERATOR)), (.ref (own_f1 (own_j0_1 x0 s_LIST s_VECTOR s_ARRAY_SEQ s_ITERABLE s_ITERATOR) s_ITERABLE s_LIST))])) X20 hx rfl rfl rfl (pc0 := 87) (pc' := 104) (same := false) rfl (hb hby at_87) rfl (decide_eq_false (fun q => hc21 (Value.ref.inj q))) (by decide) (by decide) k) ?_
      show own_Goes p e below _ (T20.setTop (mkF m 104 #[.val (.int x0), .val (.int (own_v0_1 x0)), .val (.ref (own_j0_1 x0 s_LIST s_VECTOR s_ARRAY_SEQ s_ITERABLE s_ITERATOR)), .val (.ref (own_j0_2 x0 s_LIST s_VECTOR s_ARRAY_SEQ s_ITERATOR)), .val (.ref (own_f1 (own_j0_1 x0 s_LIST s_VECTOR s_ARRAY_SEQ s_ITERABLE s_ITERATOR) s_ITERABLE s_LIST))] []))
      refine own_go (fun t k => XS.iconst X20.here hx rfl (hb hby at_104) k) ?_
      rw [show (own_j0_3 x0 s_LIST s_VECTOR s_ARRAY_SEQ s_ITERABLE s_ITERATOR) = (0 : Int32) from by rw [own_j0_3, if_neg hc21]] at HH24
      exact HH24 _ _ X20 e20 N20
  intro T24 L24 X24 e24 N24
  show own_Goes p e below _ (T24.setTop (mkF m 105 #[.val (.int x0), .val (.int (own_v0_1 x0)), .val (.ref (own_j0_1 x0 s_LIST s_VECTOR s_ARRAY_SEQ s_ITERABLE s_ITERATOR)), .val (.ref (own_j0_2 x0 s_LIST s_VECTOR s_ARRAY_SEQ s_ITERATOR)), .val (.ref (own_f1 (own_j0_1 x0 s_LIST s_VECTOR s_ARRAY_SEQ s_ITERABLE s_ITERATOR) s_ITERABLE s_LIST))] [(.int (own_j0_3 x0 s_LIST s_VECTOR s_ARRAY_SEQ s_ITERABLE s_ITERATOR))]))
  exact own_retN X24 hx hlk hret (by simp) (z' := ((own_j0_3 x0 s_LIST s_VECTOR s_ARRAY_SEQ s_ITERABLE s_ITERATOR) &&& 1)) rfl (hb hby at_105) (by decide) (by decide) ⟨by rw [own_f0], N24, trivial⟩
theorem own_law {Z : State} {h : Heap} {C n d : String} {s_LIST s_VECTOR s_ARRAY_SEQ s_ITERABLE s_ITERATOR : Addr} (x : Int32)
    (F0 : Fld Z h s_LIST C n d (.int 0)) (F1 : Fld Z h s_VECTOR C n d (.int 1)) (F2 : Fld Z h s_ARRAY_SEQ C n d (.int 2)) (F3 : Fld Z h s_ITERABLE C n d (.int 3)) (F4 : Fld Z h s_ITERATOR C n d (.int 4)) :
    own_f0 x s_LIST s_VECTOR s_ARRAY_SEQ s_ITERABLE s_ITERATOR = 1 := by
  have n0 : ¬ s_LIST = s_ITERABLE := F0.ne F3 (by decide)
  have n1 : ¬ s_VECTOR = s_ITERABLE := F1.ne F3 (by decide)
  have n2 : ¬ s_ARRAY_SEQ = s_ITERABLE := F2.ne F3 (by decide)
  have n4 : ¬ s_ITERATOR = s_ITERABLE := F4.ne F3 (by decide)
  unfold own_f0 own_j0_3 own_j0_1 own_j0_2 own_f1 own_j1_1
  generalize own_v0_1 x = k
  by_cases h0 : k = 0
  · simp only [if_pos h0, if_neg n0, if_true]; rfl
  · by_cases h1 : k = 1
    · simp only [if_neg h0, if_pos h1, if_neg n1, if_true]; rfl
    · by_cases h2 : k = 2
      · simp only [if_neg h0, if_neg h1, if_pos h2, if_neg n2, if_true]; rfl
      · by_cases h3 : k = 3
        · simp only [if_neg h0, if_neg h1, if_neg h2, if_pos h3, if_neg n0, if_true]; rfl
        · simp only [if_neg h0, if_neg h1, if_neg h2, if_neg h3, if_neg n4, if_true]; rfl
theorem own_t3 : (Jvm.Cond.laysStatic "com/example/foothold/foothold/Sequence$Kind" "LIST" "Lcom/example/foothold/foothold/Sequence$Kind;") ∈ tables_1 := List.mem_of_getElem? (i := 3) rfl
theorem own_t14 : (Jvm.Cond.laysStatic "com/example/foothold/foothold/Sequence$Kind" "VECTOR" "Lcom/example/foothold/foothold/Sequence$Kind;") ∈ tables_1 := List.mem_of_getElem? (i := 14) rfl
theorem own_t18 : (Jvm.Cond.laysStatic "com/example/foothold/foothold/Sequence$Kind" "ARRAY_SEQ" "Lcom/example/foothold/foothold/Sequence$Kind;") ∈ tables_1 := List.mem_of_getElem? (i := 18) rfl
theorem own_t10 : (Jvm.Cond.laysStatic "com/example/foothold/foothold/Sequence$Kind" "ITERABLE" "Lcom/example/foothold/foothold/Sequence$Kind;") ∈ tables_1 := List.mem_of_getElem? (i := 10) rfl
theorem own_t16 : (Jvm.Cond.laysStatic "com/example/foothold/foothold/Sequence$Kind" "ITERATOR" "Lcom/example/foothold/foothold/Sequence$Kind;") ∈ tables_1 := List.mem_of_getElem? (i := 16) rfl
set_option maxRecDepth 65536 in
set_option maxHeartbeats 40000000 in
theorem comes_1 {Post : Tables → Env → Array Value → State → Outcome → State → Prop} (hpost : ∀ tb e args s v u, (limb_1_1.after args s (.returned v) u = true ∧ limb_1_2.after args s (.returned v) u = true) → FrameEnd s (.returned v) u (Jvm.fieldLocs frame_1_writes args s ++ Jvm.arrayLocs frame_1_arrays args s ++ Jvm.staticLocs frame_1_statics s) 0 0 → Post tb e args s (.returned v) u) :
    ArmFor flags0 classFile x code maxLocals ret World_1 tables_1 room_1 Calls_1 rest_1 Pre_1 Post := by
  intro l hfl _ _ p e ha hc hk s m args below hf hA hF happ hP
  obtain ⟨hcalls, hrest, hpre⟩ := hP
  obtain ⟨-, -, -, hnamed, -, -, -, hat⟩ := (Spec.applies_iff hf).mp happ
  obtain ⟨hg, hn⟩ := and_e (Cond.before_iff.mp (show (Jvm.Cond.and given_1 narrow_1).before args s = true from hpre))
  obtain ⟨gg1, gg2⟩ := and_e hg
  obtain ⟨w0, rfl⟩ : ∃ w0 : Value, args = #[w0] := by
    have hs : args.size = 1 := by simpa [Cond.value, given_1] using gg1
    obtain ⟨L⟩ := args
    match L, hs with
    | [w0], _ => exact ⟨w0, rfl⟩
  have hw := fun d (hd : d ∈ tables_1) => atoms_spec (ws := Jvm.Cond.code x code maxLocals ret :: tables_1) hat d (List.mem_cons_of_mem _ hd)
  have hfit : Fit s := fun {y c} hc i hi => by
    obtain ⟨ha, rfl⟩ := Array.getElem?_eq_some_iff.mp hc
    have q := List.all_eq_true.mp ((Array.all_eq_true_iff_forall_mem.mp hF) _ (Array.getElem_mem ha)) i (List.mem_range.mpr hi)
    simpa [Array.getElem?_eq_getElem hi] using q
  obtain ⟨i0, ei0⟩ := is_v gg2
  obtain rfl : w0 = (.int i0) := Option.some.inj ei0
  obtain ⟨n1, m1⟩ := and_e hn
  obtain ⟨n2, m2⟩ := and_e m1
  obtain ⟨n3, m3⟩ := and_e m2
  obtain ⟨n4, m4⟩ := and_e m3
  obtain ⟨n5, m5⟩ := and_e m4
  obtain ⟨n6, m6⟩ := and_e m5
  obtain ⟨n7, m7⟩ := and_e m6
  obtain ⟨n8, m8⟩ := and_e m7
  obtain ⟨n9, m9⟩ := and_e m8
  have n10 := m9
  obtain ⟨s_LIST, v_LIST⟩ := exa_v n1
  have E_LIST := Exa.start v_LIST n1
  have S_LIST := Sta.start v_LIST (Or.inr ⟨(hw _ own_t2), (hw _ own_t3)⟩)
  have F_LIST := own_fldI v_LIST n3
  obtain ⟨s_VECTOR, v_VECTOR⟩ := exa_v n5
  have E_VECTOR := Exa.start v_VECTOR n5
  have S_VECTOR := Sta.start v_VECTOR (Or.inr ⟨(hw _ own_t2), (hw _ own_t14)⟩)
  have F_VECTOR := own_fldI v_VECTOR n6
  obtain ⟨s_ARRAY_SEQ, v_ARRAY_SEQ⟩ := exa_v n9
  have E_ARRAY_SEQ := Exa.start v_ARRAY_SEQ n9
  have S_ARRAY_SEQ := Sta.start v_ARRAY_SEQ (Or.inr ⟨(hw _ own_t2), (hw _ own_t18)⟩)
  have F_ARRAY_SEQ := own_fldI v_ARRAY_SEQ n10
  obtain ⟨s_ITERABLE, v_ITERABLE⟩ := exa_v n2
  have E_ITERABLE := Exa.start v_ITERABLE n2
  have S_ITERABLE := Sta.start v_ITERABLE (Or.inr ⟨(hw _ own_t2), (hw _ own_t10)⟩)
  have F_ITERABLE := own_fldI v_ITERABLE n4
  obtain ⟨s_ITERATOR, v_ITERATOR⟩ := exa_v n7
  have E_ITERATOR := Exa.start v_ITERATOR n7
  have S_ITERATOR := Sta.start v_ITERATOR (Or.inr ⟨(hw _ own_t2), (hw _ own_t16)⟩)
  have F_ITERATOR := own_fldI v_ITERATOR n8
  obtain ⟨n, o, h1, h2, h3, v, L, rfl, hQ, hq⟩ := rm0 l s _ hw tables_1 i0 s_LIST s_VECTOR s_ARRAY_SEQ s_ITERABLE s_ITERATOR s.heap s.heap.size E_LIST E_VECTOR E_ARRAY_SEQ E_ITERABLE E_ITERATOR S_LIST S_VECTOR S_ARRAY_SEQ S_ITERABLE S_ITERATOR p e ha hc hk s m _ below hf ((Spec.applies_iff_loose hf).mp happ).1 ⟨rfl, State.Warmed39.refl s, rfl⟩ trivial
  obtain ⟨hv, N, -⟩ := hQ
  rw [show (own_f0 i0 s_LIST s_VECTOR s_ARRAY_SEQ s_ITERABLE s_ITERATOR : Int32) = 1 from own_law i0 F_LIST F_VECTOR F_ARRAY_SEQ F_ITERABLE F_ITERATOR] at hv
  subst hv
  refine ⟨n, _, h1, h2, h3, hpost _ _ _ _ _ _ ⟨Cond.after_iff.mpr rfl, Cond.after_iff.mpr (eq_i res_at (Term.int_eval (1)) rfl)⟩ ⟨hq.1, hq.2.1, (hq.2.2.sift fun y hy => Or.inr (N y hy)).mono (by decide) (by decide)⟩⟩
theorem main_1_1 : Claimed_1_1 := comes_1 fun _ _ _ _ _ _ h hF => ⟨h.1, hF⟩
theorem main_1_2 : Claimed_1_2 := comes_1 fun _ _ _ _ _ _ h hF => ⟨h.2, hF⟩
end Jvm.Pilot.@@N@@
namespace Jvm.Pilot.@@N@@
open Jvm Jvm.ClassFile Sem Op Lib Jvm.Free Jvm.Stand Jvm.Pilot.@@N@@.Jvm.D
/-! MADE BY PROGRAM (witnessworld.py) out of the Statement's table words and the real class files: 12 classes; the members and pool entries that the words name. The judged class is class 1, her method 1. -/
namespace start1
open Jvm.ClassFile
def u (s : String) : CpInfo := .utf8 (stringToUtf16 s)
/-- a pool by its gaps: so many unusable entries, then the entry; so many at the end -/
def gap : Nat → List CpInfo → List CpInfo
  | 0, r => r
  | n + 1, r => .unusable :: gap n r
def poolList (es : List (Nat × CpInfo)) (last : Nat) : List CpInfo := es.foldr (fun e r => gap e.1 (e.2 :: r)) (gap last [])
def pool (es : List (Nat × CpInfo)) (last : Nat) : Array CpInfo := ⟨poolList es last⟩
def fileOf (pool : Array CpInfo) (this : Nat) (attrs : Array Attribute := #[]) (ms : Array MethodInfo := #[]) (fl : Nat := 33) (sup : Nat := 0) (ifs : Array Nat := #[]) (fds : Array FieldInfo := #[]) : ClassFile where
  minorVersion := 0
  majorVersion := 65
  constantPool := pool
  accessFlags := fl
  thisClass := this
  superClass := sup
  interfaces := ifs
  fields := fds
  methods := ms
  attributes := attrs
def plain (name : String) (sup : Option ClassId) : Class where
  name := name
  kind := .ordinary
  loader := none
  accessFlags := 33
  super := sup
  interfaces := #[]
  cf := none
  fields := #[]
  methods := #[]
  instanceTypes := #[]
  staticTypes := #[]
  resolved := #[]
  callSites := []
  init := .initialized
  statics := none
  mirror := none

def pool0 : Array CpInfo := pool [(5, u "<init>"), (0, u "()V"), (1, .class_ 10), (1, u "java/lang/Object")] 113

def k0m0 : Method := { name := "<init>", desc := "()V", sig := { parameters := [], returnType := none }, accessFlags := 1, code := none }
/-- java/lang/Object -/
def k0 : Class := { plain "java/lang/Object" none with
  accessFlags := 33
  interfaces := #[]
  cf := some (fileOf pool0 8 #[] #[{ accessFlags := 1, nameIndex := 5, descriptorIndex := 6, attributes := #[] }] 33 0 #[] #[])
  fields := #[]
  methods := #[k0m0]
  instanceTypes := #[]
  staticTypes := #[]
  resolved := Array.replicate 124 none
  statics := none }

def pool1 : Array CpInfo := pool [(2, .class_ 4), (1, u "java/lang/Object"), (0, u "<init>"), (0, u "()V"), (0, .integer 2147483647), (0, .fieldref 9 10), (0, .class_ 11), (0, .nameAndType 12 13), (0, u "com/example/foothold/foothold/Sequence$Kind"), (0, u "LIST"), (0, u "Lcom/example/foothold/foothold/Sequence$Kind;"), (0, .fieldref 9 15), (0, .nameAndType 16 13), (0, u "VECTOR"), (0, .fieldref 9 18), (0, .nameAndType 19 13), (0, u "ARRAY_SEQ"), (0, .fieldref 9 21), (0, .nameAndType 22 13), (0, u "ITERABLE"), (0, .fieldref 9 24), (0, .nameAndType 25 13), (0, u "ITERATOR"), (0, .methodref 9 27), (0, .nameAndType 28 29), (0, u "resultKind"), (0, u "()Lcom/example/foothold/foothold/Sequence$Kind;"), (0, .class_ 31), (0, u "com/example/foothold/foothold/KindResultKindPinLaw"), (2, u "law"), (0, u "(I)Z")] 7

def k1m0 : Method := { name := "<init>", desc := "()V", sig := { parameters := [], returnType := none }, accessFlags := 1, code := none }
def k1c1 : Code := { maxStack := 2, maxLocals := 5, code := code, exceptionTable := #[], attributes := #[] }
def k1m1 : Method := { name := "law", desc := "(I)Z", sig := { parameters := [.int], returnType := some .boolean }, accessFlags := 9, code := some k1c1 }
/-- com/example/foothold/foothold/KindResultKindPinLaw -/
def k1 : Class := { plain "com/example/foothold/foothold/KindResultKindPinLaw" (some 0) with
  accessFlags := 49
  interfaces := #[]
  cf := some (fileOf pool1 30 #[] #[{ accessFlags := 1, nameIndex := 5, descriptorIndex := 6, attributes := #[] }, { accessFlags := 9, nameIndex := 34, descriptorIndex := 35, attributes := #[] }] 49 2 #[] #[])
  fields := #[]
  methods := #[k1m0, k1m1]
  instanceTypes := #[]
  staticTypes := #[]
  resolved := Array.replicate 43 none
  statics := none }

def pool2 : Array CpInfo := pool [(1, .class_ 2), (0, u "java/lang/constant/Constable"), (0, .class_ 4), (0, u "java/lang/Object")] 6

/-- java/lang/constant/Constable -/
def k2 : Class := { plain "java/lang/constant/Constable" (some 0) with
  accessFlags := 1537
  interfaces := #[]
  cf := some (fileOf pool2 1 #[] #[] 1537 3 #[] #[])
  fields := #[]
  methods := #[]
  instanceTypes := #[]
  staticTypes := #[]
  resolved := Array.replicate 11 none
  statics := none }

def pool3 : Array CpInfo := pool [(1, .class_ 2), (0, u "java/lang/Comparable"), (0, .class_ 4), (0, u "java/lang/Object")] 7

/-- java/lang/Comparable -/
def k3 : Class := { plain "java/lang/Comparable" (some 0) with
  accessFlags := 1537
  interfaces := #[]
  cf := some (fileOf pool3 1 #[] #[] 1537 3 #[] #[])
  fields := #[]
  methods := #[]
  instanceTypes := #[]
  staticTypes := #[]
  resolved := Array.replicate 12 none
  statics := none }

def pool4 : Array CpInfo := pool [(1, .class_ 2), (0, u "java/io/Serializable"), (0, .class_ 4), (0, u "java/lang/Object")] 2

/-- java/io/Serializable -/
def k4 : Class := { plain "java/io/Serializable" (some 0) with
  accessFlags := 1537
  interfaces := #[]
  cf := some (fileOf pool4 1 #[] #[] 1537 3 #[] #[])
  fields := #[]
  methods := #[]
  instanceTypes := #[]
  staticTypes := #[]
  resolved := Array.replicate 7 none
  statics := none }

def pool5 : Array CpInfo := pool [(2, .class_ 4), (1, u "java/lang/Enum"), (0, u "name"), (0, u "Ljava/lang/String;"), (2, u "ordinal"), (0, u "I"), (1, .class_ 14), (1, u "java/lang/Object"), (4, u "hash"), (86, .class_ 108), (1, u "java/lang/Enum$EnumDesc"), (2, .class_ 112), (0, u "java/lang/constant/Constable"), (0, .class_ 114), (0, u "java/lang/Comparable"), (0, .class_ 116), (0, u "java/io/Serializable")] 87

/-- java/lang/Enum -/
def k5 : Class := { plain "java/lang/Enum" (some 0) with
  accessFlags := 1057
  interfaces := #[2, 3, 4]
  cf := some (fileOf pool5 2 #[.nestMembers #[106]] #[] 1057 12 #[111, 113, 115] #[{ accessFlags := 18, nameIndex := 5, descriptorIndex := 6, attributes := #[] }, { accessFlags := 18, nameIndex := 9, descriptorIndex := 10, attributes := #[] }, { accessFlags := 2, nameIndex := 19, descriptorIndex := 10, attributes := #[] }])
  fields := #[{ name := "name", type := (.object "java/lang/String"), accessFlags := 18, slot := 0, constantValue := 0 }, { name := "ordinal", type := .int, accessFlags := 18, slot := 1, constantValue := 0 }, { name := "hash", type := .int, accessFlags := 2, slot := 2, constantValue := 0 }]
  methods := #[]
  instanceTypes := #[(.object "java/lang/String"), .int, .int]
  staticTypes := #[]
  resolved := Array.replicate 204 none
  statics := none }

def pool6 : Array CpInfo := pool [(1, .class_ 2), (0, u "com/example/foothold/foothold/Sequence$Kind"), (0, .fieldref 1 4), (0, .nameAndType 5 6), (0, u "LIST"), (0, u "Lcom/example/foothold/foothold/Sequence$Kind;"), (2, u "VECTOR"), (2, u "ARRAY_SEQ"), (0, .fieldref 1 14), (0, .nameAndType 15 6), (0, u "ITERABLE"), (2, u "ITERATOR"), (2, u "$VALUES"), (0, u "[Lcom/example/foothold/foothold/Sequence$Kind;"), (6, .class_ 31), (1, u "java/lang/Enum"), (8, u "scalaName"), (0, u "Ljava/lang/String;"), (2, u "seq"), (0, u "Z"), (32, u "resultKind"), (0, u "()Lcom/example/foothold/foothold/Sequence$Kind;"), (7, .class_ 88), (0, u "com/example/foothold/foothold/Sequence")] 2

def k6c0 : Code := { maxStack := 2, maxLocals := 1, code := prog_91_method_6_code, exceptionTable := #[], attributes := #[] }
def k6m0 : Method := { name := "resultKind", desc := "()Lcom/example/foothold/foothold/Sequence$Kind;", sig := { parameters := [], returnType := some (.object "com/example/foothold/foothold/Sequence$Kind") }, accessFlags := 0, code := some k6c0 }
/-- com/example/foothold/foothold/Sequence$Kind -/
def k6 : Class := { plain "com/example/foothold/foothold/Sequence$Kind" (some 5) with
  accessFlags := 16432
  interfaces := #[]
  cf := some (fileOf pool6 1 #[.nestHost 87] #[{ accessFlags := 0, nameIndex := 78, descriptorIndex := 79, attributes := #[] }] 16432 29 #[] #[{ accessFlags := 16409, nameIndex := 5, descriptorIndex := 6, attributes := #[] }, { accessFlags := 16409, nameIndex := 9, descriptorIndex := 6, attributes := #[] }, { accessFlags := 16409, nameIndex := 12, descriptorIndex := 6, attributes := #[] }, { accessFlags := 16409, nameIndex := 15, descriptorIndex := 6, attributes := #[] }, { accessFlags := 16409, nameIndex := 18, descriptorIndex := 6, attributes := #[] }, { accessFlags := 18, nameIndex := 40, descriptorIndex := 41, attributes := #[] }, { accessFlags := 18, nameIndex := 44, descriptorIndex := 45, attributes := #[] }, { accessFlags := 4122, nameIndex := 21, descriptorIndex := 22, attributes := #[] }])
  fields := #[{ name := "LIST", type := (.object "com/example/foothold/foothold/Sequence$Kind"), accessFlags := 16409, slot := 0, constantValue := 0 }, { name := "VECTOR", type := (.object "com/example/foothold/foothold/Sequence$Kind"), accessFlags := 16409, slot := 1, constantValue := 0 }, { name := "ARRAY_SEQ", type := (.object "com/example/foothold/foothold/Sequence$Kind"), accessFlags := 16409, slot := 2, constantValue := 0 }, { name := "ITERABLE", type := (.object "com/example/foothold/foothold/Sequence$Kind"), accessFlags := 16409, slot := 3, constantValue := 0 }, { name := "ITERATOR", type := (.object "com/example/foothold/foothold/Sequence$Kind"), accessFlags := 16409, slot := 4, constantValue := 0 }, { name := "scalaName", type := (.object "java/lang/String"), accessFlags := 18, slot := 3, constantValue := 0 }, { name := "seq", type := .boolean, accessFlags := 18, slot := 4, constantValue := 0 }, { name := "$VALUES", type := (.array (.object "com/example/foothold/foothold/Sequence$Kind")), accessFlags := 4122, slot := 5, constantValue := 0 }]
  methods := #[k6m0]
  instanceTypes := #[(.object "java/lang/String"), .int, .int, (.object "java/lang/String"), .boolean]
  staticTypes := #[(.object "com/example/foothold/foothold/Sequence$Kind"), (.object "com/example/foothold/foothold/Sequence$Kind"), (.object "com/example/foothold/foothold/Sequence$Kind"), (.object "com/example/foothold/foothold/Sequence$Kind"), (.object "com/example/foothold/foothold/Sequence$Kind"), (.array (.object "com/example/foothold/foothold/Sequence$Kind"))]
  resolved := Array.replicate 91 none
  statics := some 0 }

def pool7 : Array CpInfo := pool [(1, u "java/lang/Cloneable"), (0, .class_ 1), (0, u "java/lang/Object"), (0, .class_ 3)] 3

/-- java/lang/Cloneable -/
def k7 : Class := { plain "java/lang/Cloneable" (some 0) with
  accessFlags := 1537
  interfaces := #[]
  cf := some (fileOf pool7 2 #[] #[] 1537 4 #[] #[])
  fields := #[]
  methods := #[]
  instanceTypes := #[]
  staticTypes := #[]
  resolved := Array.replicate 8 none
  statics := none }

/-- the primitive byte -/
def k8 : Class := { plain "byte" none with kind := .primitive 'B', accessFlags := 0x411 }
/-- [B -/
def k9 : Class := { plain "[B" (some 0) with kind := .array 8 .byte, interfaces := #[7, 4], accessFlags := 1041 }

/-- the primitive int -/
def k10 : Class := { plain "int" none with kind := .primitive 'I', accessFlags := 0x411 }
/-- [I -/
def k11 : Class := { plain "[I" (some 0) with kind := .array 10 .int, interfaces := #[7, 4], accessFlags := 1041 }

def heap : Heap := #[{ cls := 6, slots := #[.ref 1, .ref 2, .ref 3, .ref 4, .ref 5, .null], vm := .statics 6 },
  { cls := 6, slots := #[.null, .int 0, .int 0, .null, .int 1], vm := .none },
  { cls := 6, slots := #[.null, .int 1, .int 0, .null, .int 1], vm := .none },
  { cls := 6, slots := #[.null, .int 2, .int 0, .null, .int 1], vm := .none },
  { cls := 6, slots := #[.null, .int 3, .int 0, .null, .int 1], vm := .none },
  { cls := 6, slots := #[.null, .int 4, .int 0, .null, .int 1], vm := .none }]
def classes : Array Class := #[k0, k1, k2, k3, k4, k5, k6, k7, k8, k9, k10, k11]
def interned : List (Array UInt16 × Addr) := []
def slotsUsed : Nat := 31
def theMethod : MethodId := ⟨1, 1⟩
def args0 : Array Value := #[.int 5]
def aboutOver (below : List Frame) : State where
  vm := { classes := classes, interned := interned.toArray }
  heap := heap
  slotsUsed := slotsUsed
  threads := #[{ frames := .invoking theMethod args0 :: below }]
def below0 : List Frame := [.native { method := ⟨0, 0⟩, args := #[] }]
def about1 : State := aboutOver below0
def p0 : Program := .bare "" "" ""
def e0 : Env := launch0.env 0 0 0
theorem w_frames : about1.frames = Frame.invoking theMethod args0 :: below0 := rfl
set_option maxRecDepth 65536 in
theorem w_args : argsFit about1.vm theMethod args0 = true := by decide +kernel
set_option maxRecDepth 65536 in
theorem w_heap : heapFits about1 = true := by decide +kernel
set_option maxRecDepth 65536 in
theorem w_runnable : about1.curStatus? = some .runnable := by decide +kernel
set_option maxRecDepth 65536 in
theorem w_alone : about1.alone = true := by decide +kernel
set_option maxRecDepth 65536 in
theorem w_named : about1.methodNamed? x = some theMethod := by decide +kernel
set_option maxRecDepth 65536 in
theorem w_hears : about1.hears theMethod below0 = true := by decide +kernel
set_option maxRecDepth 65536 in
theorem w_ripe : about1.ripe theMethod args0 below0 = true := by decide +kernel
theorem w_running : about1.status = .running := rfl
set_option maxRecDepth 65536 in
theorem w_room : about1.hasRoom e0.platform room_1 = true :=
  launch0.hasRoom_least _ room_1 (by decide +kernel) (by decide +kernel) (by decide +kernel) (by decide +kernel) (by decide +kernel) (by decide +kernel)
theorem allAtoms_all (ts : List Jvm.Cond) (a : Array Jvm.Value) (st : Jvm.State) : (allAtoms ts).before a st = ts.all (fun c => c.before a st) := by
  induction ts with
  | nil => rfl
  | cons c t ih =>
    show (Jvm.Cond.and c (allAtoms t)).before a st = _
    rw [Jvm.Cond.before_and, ih, List.all_cons]
def words1 : List Jvm.Cond := Jvm.Cond.code x code maxLocals ret :: tables_1
/-- a 'code' word, met by the world's own term for the bytes: nothing is compared byte by byte -/
theorem code_word {y : MethodName} {bytes : ByteArray} {mx : Nat} {rt : Option FieldType} {a : Array Value} {s : State} {m : MethodId} {meth : Method} {c : Code} (h1 : s.methodNamed? y = some m) (h2 : s.vm.method? m = some meth) (h3 : meth.code = some c) (h4 : c.code = bytes)
    (h5 : (c.maxLocals == mx && c.exceptionTable.isEmpty && decide (c.maxStack ≤ mostOperands) && decide (meth.sig.returnType = rt) && !meth.locks && decide (parseMethodDescriptor y.desc = some meth.sig)) = true) : (Jvm.Cond.code y bytes mx rt).before a s = true := by
  simp only [Bool.and_eq_true, beq_iff_eq, Bool.not_eq_true', decide_eq_true_eq] at h5
  obtain ⟨⟨⟨⟨⟨g1, g2⟩, g3⟩, g4⟩, g5⟩, g6⟩ := h5
  simp [Cond.before, Cond.holds, Cond.value, h1, h2, h3, h4, g1, g2, g3, g4, g5, g6]
def isCode : Jvm.Cond → Bool
  | .code _ _ _ _ => true
  | _ => false
theorem all_split {L : List Jvm.Cond} {P : Jvm.Cond → Bool} (h1 : L.all (fun c => isCode c || P c) = true) (h2 : ∀ c ∈ L.filter isCode, P c = true) : L.all P = true := by
  refine List.all_eq_true.mpr fun c hc => ?_
  have h := List.all_eq_true.mp h1 c hc
  rcases Bool.eq_false_or_eq_true (isCode c) with hi | hi
  · exact h2 c (List.mem_filter.mpr ⟨hc, hi⟩)
  · simpa [hi] using h
set_option maxRecDepth 65536 in
theorem w_c0 : (Jvm.Cond.code x code maxLocals ret).before args0 about1 = true := code_word (m := ⟨1, 1⟩) (meth := k1m1) (c := k1c1) (by decide +kernel) rfl rfl rfl (by decide +kernel)
set_option maxRecDepth 65536 in
theorem w_c1 : (Jvm.Cond.code ({ cls := "com/example/foothold/foothold/Sequence$Kind", name := "resultKind", desc := "()Lcom/example/foothold/foothold/Sequence$Kind;" } : Jvm.MethodName) prog_91_method_6_code (1 : Nat) (Option.some (Jvm.ClassFile.FieldType.object "com/example/foothold/foothold/Sequence$Kind"))).before args0 about1 = true := code_word (m := ⟨6, 0⟩) (meth := k6m0) (c := k6c0) (by decide +kernel) rfl rfl rfl (by decide +kernel)
def codes1 : List Jvm.Cond := [Jvm.Cond.code x code maxLocals ret, Jvm.Cond.code ({ cls := "com/example/foothold/foothold/Sequence$Kind", name := "resultKind", desc := "()Lcom/example/foothold/foothold/Sequence$Kind;" } : Jvm.MethodName) prog_91_method_6_code (1 : Nat) (Option.some (Jvm.ClassFile.FieldType.object "com/example/foothold/foothold/Sequence$Kind"))]
set_option maxRecDepth 65536 in
theorem codes_eq : words1.filter isCode = codes1 := rfl
theorem w_codes : ∀ c ∈ words1.filter isCode, c.before args0 about1 = true := by
  rw [codes_eq]
  intro c hc
  simp only [codes1, List.mem_cons, List.not_mem_nil, or_false] at hc
  rcases hc with rfl | rfl
  · exact w_c0
  · exact w_c1
set_option maxRecDepth 65536 in
theorem w_t1 : words1.all (fun c => isCode c || c.before args0 about1) = true := by decide +kernel
theorem w_tables : (allAtoms (Jvm.Cond.code x code maxLocals ret :: tables_1)).before args0 about1 = true := by
  rw [allAtoms_all]
  show words1.all (fun c => c.before args0 about1) = true
  refine all_split ?_ w_codes
  rw [w_t1]
set_option maxRecDepth 65536 in
theorem w_case : (Jvm.Cond.and given_1 narrow_1).before args0 about1 = true := by decide +kernel
theorem w_applies : (headSpec (Jvm.Cond.code x code maxLocals ret :: tables_1) room_1).applies x e0.platform about1 = true :=
  (Spec.applies_iff w_frames).mpr ⟨w_running, w_runnable, w_alone, w_named, w_hears, w_ripe, w_room, w_tables⟩
theorem atStart : AtStart classFile x code maxLocals ret World_1 tables_1 room_1 Calls_1 rest_1 Pre_1 launch0 p0 e0 about1 theMethod args0 below0 :=
  ⟨lists_1, trivial, launch0.admits_env _ _ _, launch0.least_env, fairChoices_fair.cas, fairChoices_fair.clock, w_frames, w_args, w_heap, w_applies, trivial, trivial, w_case⟩
end start1
theorem witness_1 : WitnessClaimed_1 := ⟨start1.p0, start1.e0, start1.about1, start1.theMethod, start1.args0, start1.below0, start1.atStart⟩
end Jvm.Pilot.@@N@@
