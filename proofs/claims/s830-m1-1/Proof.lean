import JvmDerived
import JvmDerived.Pilot.@@N@@Statement
import JvmDerived.Pilot.@@N@@Code
set_option linter.unusedVariables false
set_option linter.unusedSimpArgs false
@@BLOCK:NumsL.lean.txt@@
namespace Jvm.Pilot.@@N@@
open Jvm Jvm.ClassFile Sem Op Lib Jvm.Free Jvm.Stand Jvm.LawKit Jvm.RoadKit Bundle Jvm.Pilot.@@N@@.Jvm.D
section Own
variable {p : Program} {l : Launch} {e : Env} {R rm : Room} {s : State} {m : MethodId} {args : Array Value} {below : List Frame} {meth : Method} {c : Code} {T : State} {locs : List Loc} {cells slots : Nat} {Z : State} {a0 : Array Value} {h : Heap}
/-- the run comes to the end of the invocation, and what is asked holds there -/
def own_Goes (p : Program) (e : Env) (below : List Frame) (G : Outcome → State → Prop) (S : State) : Prop := ∃ s₂ o, Steps p.tables e below S s₂ ∧ s₂.status = .running ∧ Ended s₂ below o ∧ G o s₂
theorem own_go {G : Outcome → State → Prop} {S S' : State} (h : ∀ t, Steps p.tables e below S' t → Steps p.tables e below S t) (k : own_Goes p e below G S') : own_Goes p e below G S := by
  obtain ⟨s₂, o, h1, h2⟩ := k
  exact ⟨s₂, o, h _ h1, h2⟩
theorem own_tr {G : Outcome → State → Prop} {S S' : State} (h : Steps p.tables e below S S') (k : own_Goes p e below G S') : own_Goes p e below G S := own_go (fun _ q => h.trans q) k
abbrev own_End (s : State) (rm : Room) (Q : Option Value → Heap → List Loc → Prop) : Outcome → State → Prop := fun o U' => ∃ v L, o = .returned v ∧ Q v U'.heap L ∧ FrameEnd s o U' L rm.cells rm.slots
/-- a body's contract: with these arguments, over this heap, it returns and leaves what Q says -/
def own_Met (l : Launch) (Z : State) (y : MethodName) (bytes : ByteArray) (maxL : Nat) (ret : Option FieldType) (ws : List Jvm.Cond) (rm : Room) (as : Array Value) (h0 : Heap) (Q : Option Value → Heap → List Loc → Prop) : Prop :=
  MetFree l y (head1 (Jvm.Cond.code y bytes maxL ret :: ws) rm) (fun a U => a = as ∧ Z.Warmed39 U.vm ∧ U.heap = h0) (fun _ _ _ _ _ => True) (fun _ U o U' => ∃ v L, o = .returned v ∧ Q v U'.heap L ∧ FrameEnd U o U' L rm.cells rm.slots)
theorem own_met {y : MethodName} {bytes : ByteArray} {maxL : Nat} {ret : Option FieldType} {ws : List Jvm.Cond} {as : Array Value} {h0 : Heap} {Q : Option Value → Heap → List Loc → Prop} (hp : plainFor y = true)
    (body : ∀ (p : Program) (e : Env) (s : State) (m : MethodId) (below : List Frame) (meth : Method) (c : Code) (s₁ : State), p.tables.exec = Jvm.exec → c.code = bytes → c.maxLocals = maxL → s.vm.findClass y.cls = some m.cls → meth.name = y.name → meth.sig.returnType = ret → meth.locks = false → Z.Warmed39 s.vm → s₁.heap = h0 →
      Stand p l e rm s m as below meth c s₁ [] 0 0 → own_Goes p e below (own_End s rm Q) (s₁.setTop (entryFrame m as maxL))) : own_Met l Z y bytes maxL ret ws rm as h0 Q := by
  refine MetFree.of_bodySF hp hisR ?_
  intro p e s m args below meth c s₁ Bd hml hP hK
  obtain ⟨rfl, hZ, hh⟩ := hP
  exact body p e s m below meth c s₁ Bd.exec Bd.bytes hml (findClass_of_methodNamed Bd.named) (name_of_methodNamed Bd.named Bd.method).1 Bd.returns Bd.notSynchronized hZ (by rw [← hh, Bd.state]; rfl) (Stand.of_body Bd)
/-- the returns -/
theorem own_retV {Q : Option Value → Heap → List Loc → Prop} (X : Stand p l e rm s m args below meth c T locs cells slots) (hx : p.tables.exec = Jvm.exec) (hlk : meth.locks = false) {pc : Nat} {Ls : Array Slot} {w : Value} {t : FieldType} {i : Instr} {rest : List Value} (hret : meth.sig.returnType = some t) (hn : narrow t w = w)
    (hi : (i = .ireturn ∧ (t = .int ∨ t = .boolean ∨ t = .byte ∨ t = .char ∨ t = .short) ∧ ∃ z, w = .int z) ∨ (i = .lreturn ∧ t = .long ∧ ∃ z, w = .long z) ∨ (i = .dreturn ∧ t = .double ∧ ∃ z, w = .double z) ∨ (i = .freturn ∧ t = .float ∧ ∃ z, w = .float z) ∨ (i = .areturn ∧ t.isReference = true ∧ w.isRef = true))
    (hd : decode c.code pc = .ok (i, 1)) (hc : cells ≤ rm.cells) (hs : slots ≤ rm.slots) (hq : Q (some w) T.heap locs) : own_Goes p e below (own_End s rm Q) (T.setTop (mkF m pc Ls (w :: rest))) := by
  obtain ⟨fs, hr, hrun, hended, hW, hsame⟩ := X.leave (v := some w) (fun h => by rw [hret] at h; cases h) hlk
  exact ⟨_, _, retOut X hx hret hn hi hd hr, hrun, hended, _, _, rfl, hq, ⟨_, rfl⟩, hW, hsame.mono hc hs⟩
theorem own_retI {Q : Option Value → Heap → List Loc → Prop} (X : Stand p l e rm s m args below meth c T locs cells slots) (hx : p.tables.exec = Jvm.exec) (hlk : meth.locks = false) {pc : Nat} {Ls : Array Slot} {z : Int32} {rest : List Value} (hret : meth.sig.returnType = some .int)
    (hd : decode c.code pc = .ok (.ireturn, 1)) (hc : cells ≤ rm.cells) (hs : slots ≤ rm.slots) (hq : Q (some (.int z)) T.heap locs) : own_Goes p e below (own_End s rm Q) (T.setTop (mkF m pc Ls (.int z :: rest))) :=
  own_retV X hx hlk hret rfl (Or.inl ⟨rfl, Or.inl rfl, z, rfl⟩) hd hc hs hq
theorem own_retJ {Q : Option Value → Heap → List Loc → Prop} (X : Stand p l e rm s m args below meth c T locs cells slots) (hx : p.tables.exec = Jvm.exec) (hlk : meth.locks = false) {pc : Nat} {Ls : Array Slot} {z : Int64} {rest : List Value} (hret : meth.sig.returnType = some .long)
    (hd : decode c.code pc = .ok (.lreturn, 1)) (hc : cells ≤ rm.cells) (hs : slots ≤ rm.slots) (hq : Q (some (.long z)) T.heap locs) : own_Goes p e below (own_End s rm Q) (T.setTop (mkF m pc Ls (.long z :: rest))) :=
  own_retV X hx hlk hret rfl (Or.inr (Or.inl ⟨rfl, rfl, z, rfl⟩)) hd hc hs hq
theorem own_retR {Q : Option Value → Heap → List Loc → Prop} (X : Stand p l e rm s m args below meth c T locs cells slots) (hx : p.tables.exec = Jvm.exec) (hlk : meth.locks = false) {pc : Nat} {Ls : Array Slot} {w : Value} {t : FieldType} {rest : List Value} (hret : meth.sig.returnType = some t) (ht : t.isReference = true) (hw : w.isRef = true)
    (hd : decode c.code pc = .ok (.areturn, 1)) (hc : cells ≤ rm.cells) (hs : slots ≤ rm.slots) (hq : Q (some w) T.heap locs) : own_Goes p e below (own_End s rm Q) (T.setTop (mkF m pc Ls (w :: rest))) :=
  own_retV X hx hlk hret (by cases t <;> first | rfl | cases ht) (Or.inr (Or.inr (Or.inr (Or.inr ⟨rfl, ht, hw⟩)))) hd hc hs hq
theorem own_retN {Q : Option Value → Heap → List Loc → Prop} (X : Stand p l e rm s m args below meth c T locs cells slots) (hx : p.tables.exec = Jvm.exec) (hlk : meth.locks = false) {pc : Nat} {Ls : Array Slot} {z z' : Int32} {t : FieldType} {rest : List Value} (hret : meth.sig.returnType = some t) (ht : t = .boolean ∨ t = .byte ∨ t = .char ∨ t = .short) (hz : nar t z = z')
    (hd : decode c.code pc = .ok (.ireturn, 1)) (hc : cells ≤ rm.cells) (hs : slots ≤ rm.slots) (hq : Q (some (.int z')) T.heap locs) : own_Goes p e below (own_End s rm Q) (T.setTop (mkF m pc Ls (.int z :: rest))) := by
  subst hz
  obtain ⟨fs, hr, hrun, hended, hW, hsame⟩ := X.leave (v := some (.int (nar t z))) (fun h => by rw [hret] at h; cases h) hlk
  exact ⟨_, _, retN X hx hret ht hd hr, hrun, hended, _, _, rfl, hq, ⟨_, rfl⟩, hW, hsame.mono hc hs⟩
theorem own_ret0 {Q : Option Value → Heap → List Loc → Prop} (X : Stand p l e rm s m args below meth c T locs cells slots) (hx : p.tables.exec = Jvm.exec) (hlk : meth.locks = false) {pc : Nat} {Ls : Array Slot} (hret : meth.sig.returnType = none)
    (hd : decode c.code pc = .ok (.return_, 1)) (hc : cells ≤ rm.cells) (hs : slots ≤ rm.slots) (hq : Q none T.heap locs) : own_Goes p e below (own_End s rm Q) (T.setTop (mkF m pc Ls [])) := by
  obtain ⟨fs, hr, hrun, hended, hW, hsame⟩ := X.leave (v := none) (fun _ => rfl) hlk
  exact ⟨_, _, X.returnOut hx hret hd hr, hrun, hended, _, _, rfl, hq, ⟨_, rfl⟩, hW, hsame.mono hc hs⟩
/-- a static call by the callee's contract -/
theorem own_callS (X : Stand p l e R s m args below meth c T locs cells slots) (hx : p.tables.exec = Jvm.exec) (hZ : Z.Warmed39 s.vm) {own : String} {index : Nat} {y : MethodName} {bytes : ByteArray} {maxL : Nat} {ret : Option FieldType} (hown : s.vm.findClass own = some m.cls)
    (w1 : (Jvm.Cond.methodLink own index y).before a0 Z = true) (w2 : (Jvm.Cond.static y).before a0 Z = true) (w3 : (Jvm.Cond.initialized y.cls).before a0 Z = true) (w4 : (Jvm.Cond.code y bytes maxL ret).before a0 Z = true) (hy : y.cls ≠ "java/lang/invoke/MethodHandle" ∧ y.cls ≠ "java/lang/invoke/VarHandle")
    {as : List Value} {Q : Option Value → Heap → List Loc → Prop} (hM : own_Met l Z y bytes maxL ret [] rm as.toArray h Q) (eT : T.heap = h) {ps : List FieldType} {rt : Option FieldType} (hpd : parseMethodDescriptor y.desc = some ⟨ps, rt⟩) (hlen : as.length = ps.length)
    {pc : Nat} {Ls : Array Slot} {rest : List Value} {W : Nat} (hsize : Ls.size = c.maxLocals) (hW : (rest.map fun v => v.category).sum ≤ W) (hf : rm.frames + 1 ≤ R.frames) (hl : W + (maxL + 11) + rm.locals ≤ R.locals) (hd : decode c.code pc = .ok (.invokestatic index, 3)) (hc : cells + rm.cells ≤ R.cells) (hs : slots + rm.slots ≤ R.slots) :
    ∃ (v : Option Value) (T' : State) (L' : List Loc), Stand p l e R s m args below meth c T' (locs ++ L') (cells + rm.cells) (slots + rm.slots) ∧ Q v T'.heap L' ∧ ∀ target, Steps p.tables e below (T'.setTop (mkF m (pc + 3) Ls (v.toList ++ rest))) target → Steps p.tables e below (T.setTop (mkF m pc Ls (as.reverse ++ rest))) target := by
  obtain ⟨v, _, ⟨T', L', k', n'⟩, -, X', ⟨Lc, hQ, hl', hk', hn'⟩, st⟩ := Jvm.LawKit.callS X hx (y := y) hown (mvT hZ w1) (mvT hZ w2) (mvT hZ w3) (mvT hZ w4) hy (backOf (W := W) hM hZ w4 w3 hf hl) (g := mkF m pc Ls (as.reverse ++ rest)) rfl hsize (argsL := as) (rest := rest) (lenOf hpd hlen) rfl (by show 2 * 0 + _ ≤ _; omega) hd (fun _ _ => ⟨rfl, eT, hc, hs⟩)
  dsimp only [Pt.U, Pt.locs, Pt.cells, Pt.slots] at X' hl' hk' hn' st hQ
  subst hl' hk' hn'
  exact ⟨v, T', Lc, X', hQ, st⟩
/-- an instance method by the contract of the body that the receiver's class selects -/
theorem own_callV (X : Stand p l e R s m args below meth c T locs cells slots) (hx : p.tables.exec = Jvm.exec) (hZ : Z.Warmed39 s.vm) {own C : String} {index : Nat} {y : MethodName} {bytes : ByteArray} {maxL : Nat} {ret : Option FieldType} (hown : s.vm.findClass own = some m.cls)
    (w1 : (Jvm.Cond.methodLink own index y).before a0 Z = true) (w2 : (Jvm.Cond.declares y).before a0 Z = true) (w3 : (Jvm.Cond.selects C y y).before a0 Z = true) (w4 : (Jvm.Cond.instanceMethod y).before a0 Z = true) (w5 : (Jvm.Cond.initialized y.cls).before a0 Z = true) (w6 : (Jvm.Cond.code y bytes maxL ret).before a0 Z = true) (hy : y.cls ≠ "java/lang/invoke/MethodHandle" ∧ y.cls ≠ "java/lang/invoke/VarHandle")
    {b : Addr} {as : List Value} {Q : Option Value → Heap → List Loc → Prop} (hM : own_Met l Z y bytes maxL ret [] rm (Value.ref b :: as).toArray h Q) (eT : T.heap = h) (E : Exa Z h b C) {ps : List FieldType} {rt : Option FieldType} (hpd : parseMethodDescriptor y.desc = some ⟨ps, rt⟩) (hlen : as.length = ps.length)
    {pc : Nat} {Ls : Array Slot} {rest : List Value} {W : Nat} (hsize : Ls.size = c.maxLocals) (hW : (rest.map fun v => v.category).sum ≤ W) (hf : rm.frames + 1 ≤ R.frames) (hl : W + (maxL + 11) + rm.locals ≤ R.locals) (hd : decode c.code pc = .ok (.invokevirtual index, 3)) (hc : cells + rm.cells ≤ R.cells) (hs : slots + rm.slots ≤ R.slots) :
    ∃ (v : Option Value) (T' : State) (L' : List Loc), Stand p l e R s m args below meth c T' (locs ++ L') (cells + rm.cells) (slots + rm.slots) ∧ Q v T'.heap L' ∧ ∀ target, Steps p.tables e below (T'.setTop (mkF m (pc + 3) Ls (v.toList ++ rest))) target → Steps p.tables e below (T.setTop (mkF m pc Ls (as.reverse ++ Value.ref b :: rest))) target := by
  obtain ⟨cq, kq, qa, qb, qc⟩ := isOf hZ eT E
  obtain ⟨v, _, ⟨T', L', k', n'⟩, -, X', ⟨Lc, hQ, hl', hk', hn'⟩, st⟩ := X.virtualBack hx (y := y) (z := y) hown (mvT hZ w1) (mvT hZ w2) (notFace_of_selects (args := #[]) (mvT hZ w3)) (mvT hZ w3) (mvT hZ w4) hy (backOf (W := W) hM hZ w6 w5 hf hl) qa qc (g := mkF m pc Ls (as.reverse ++ Value.ref b :: rest)) rfl hsize (Steps.refl _) (argsL := as) (rest := rest) (lenOf hpd hlen) rfl (by show 2 * 0 + _ ≤ _; omega) hd (fun _ _ => ⟨rfl, eT, hc, hs⟩)
  dsimp only [Pt.U, Pt.locs, Pt.cells, Pt.slots] at X' hl' hk' hn' st hQ
  subst hl' hk' hn'
  exact ⟨v, T', Lc, X', hQ, fun _ q => st.trans q⟩
/-- a constructor by its contract -/
theorem own_callI (X : Stand p l e R s m args below meth c T locs cells slots) (hx : p.tables.exec = Jvm.exec) (hZ : Z.Warmed39 s.vm) {own : String} {index : Nat} {y : MethodName} {bytes : ByteArray} {maxL : Nat} (hy1 : y.name = "<init>") (hown : s.vm.findClass own = some m.cls)
    (w1 : (Jvm.Cond.methodLink own index y).before a0 Z = true) (w4 : (Jvm.Cond.instanceMethod y).before a0 Z = true) (w5 : (Jvm.Cond.initialized y.cls).before a0 Z = true) (w6 : (Jvm.Cond.code y bytes maxL none).before a0 Z = true) (hy : y.cls ≠ "java/lang/invoke/MethodHandle" ∧ y.cls ≠ "java/lang/invoke/VarHandle")
    {b : Addr} {as : List Value} {Q : Option Value → Heap → List Loc → Prop} (hM : own_Met l Z y bytes maxL none [] rm (Value.ref b :: as).toArray h Q) (eT : T.heap = h) {ps : List FieldType} {rt : Option FieldType} (hpd : parseMethodDescriptor y.desc = some ⟨ps, rt⟩) (hlen : as.length = ps.length)
    {pc : Nat} {Ls : Array Slot} {rest : List Value} {W : Nat} (hsize : Ls.size = c.maxLocals) (hW : (rest.map fun v => v.category).sum ≤ W) (hf : rm.frames + 1 ≤ R.frames) (hl : W + (maxL + 11) + rm.locals ≤ R.locals) (hd : decode c.code pc = .ok (.invokespecial index, 3)) (hc : cells + rm.cells ≤ R.cells) (hs : slots + rm.slots ≤ R.slots) :
    ∃ (v : Option Value) (T' : State) (L' : List Loc), Stand p l e R s m args below meth c T' (locs ++ L') (cells + rm.cells) (slots + rm.slots) ∧ Q v T'.heap L' ∧ ∀ target, Steps p.tables e below (T'.setTop (mkF m (pc + 3) Ls (v.toList ++ rest))) target → Steps p.tables e below (T.setTop (mkF m pc Ls (as.reverse ++ Value.ref b :: rest))) target := by
  obtain ⟨v, _, ⟨T', L', k', n'⟩, -, X', ⟨Lc, hQ, hl', hk', hn'⟩, st⟩ := X.specialBack hx (y := y) hy1 hown (mvT hZ w1) (mvT hZ w4) (mvT hZ w6) hy (backOf (W := W) hM hZ w6 w5 hf hl) (g := mkF m pc Ls (as.reverse ++ Value.ref b :: rest)) rfl hsize (Steps.refl _) (a := b) (argsL := as) (rest := rest) (lenOf hpd hlen) rfl (by show 2 * 0 + _ ≤ _; omega) hd (fun _ _ => ⟨rfl, eT, hc, hs⟩)
  dsimp only [Pt.U, Pt.locs, Pt.cells, Pt.slots] at X' hl' hk' hn' st hQ
  subst hl' hk' hn'
  exact ⟨v, T', Lc, X', hQ, fun _ q => st.trans q⟩
end Own
section OwnWords
variable {args : Array Value} {first s : State} {o : Option Outcome} {idx : List Nat} {a b t : Term} {G Y : Jvm.Cond}
theorem own_eqI {k : Int32} (h : (Jvm.Cond.eq a b).value args first o s idx = some true) (hb : b.eval args first o idx s = some (.int k)) : a.eval args first o idx s = some (.int k) := by
  obtain ⟨x, y, h1, h2, h3, h4⟩ := cmp_v (Or.inl h)
  cases hb.symm.trans h2
  obtain ⟨z, rfl⟩ := h4
  simp only [Jvm.Cond.value, h1, hb] at h
  rw [h1]
  simpa using h
theorem own_eqJ {k : Int64} (h : (Jvm.Cond.eq a b).value args first o s idx = some true) (hb : b.eval args first o idx s = some (.long k)) : a.eval args first o idx s = some (.long k) := by
  obtain ⟨x, y, h1, h2, h3, h4⟩ := cmp_v (Or.inl h)
  cases hb.symm.trans h2
  obtain ⟨z, rfl⟩ := h4
  simp only [Jvm.Cond.value, h1, hb] at h
  rw [h1]
  simpa using h
theorem own_or (h : (Jvm.Cond.or G Y).value args first o s idx = some true) (h1 : G.value args first o s idx = some false) : Y.value args first o s idx = some true := by
  simpa [Jvm.Cond.value, h1] using h
theorem own_ixlt {j k : Int32} (hj : ¬ j < 0) (hk : ¬ j < k) : (Jvm.Cond.lt (Jvm.Term.index 0) (Jvm.Term.int k)).value args first o s [j.toNatClampNeg] = some false := by
  have e := idx_at (args := args) (first := first) (o := o) (s := s) hj
  have f : (Jvm.Term.int k).eval args first o [j.toNatClampNeg] s = some (.int k) := Term.int_eval _
  rw [Cond.lt_ints e f]
  simp [hk]
theorem own_ixle {j k : Int32} (hj : ¬ j < 0) (hk : j < k) : (Jvm.Cond.le (Jvm.Term.int k) (Jvm.Term.index 0)).value args first o s [j.toNatClampNeg] = some false := by
  have e := idx_at (args := args) (first := first) (o := o) (s := s) hj
  have f : (Jvm.Term.int k).eval args first o [j.toNatClampNeg] s = some (.int k) := Term.int_eval _
  rw [Cond.le_ints f e]
  simp [Int32.not_le.mpr hk]
theorem own_ixsub {j k : Int32} (hj : ¬ j < 0) : (Jvm.Term.sub (Jvm.Term.index 0) (Jvm.Term.int k)).eval args first o [j.toNatClampNeg] s = some (.int (j - k)) := by
  have e := idx_at (args := args) (first := first) (o := o) (s := s) hj
  have f : (Jvm.Term.int k).eval args first o [j.toNatClampNeg] s = some (.int k) := Term.int_eval _
  rw [Term.eval, e, f]
  rfl
/-- a field that the case says to hold a number -/
theorem own_fldI {C n d : String} {x : Addr} {k : Int32} (ht : t.eval args s none [] s = some (.ref x)) (h : (Jvm.Cond.eq (Term.field t C n d) (Term.int k)).value args s none s [] = some true) : Fld s s.heap x C n d (.int k) := by
  have e := own_eqI h (Term.int_eval _)
  rw [fld_at ht] at e
  exact Fld.start e
theorem own_fldJ {C n d : String} {x : Addr} {k : Int64} (ht : t.eval args s none [] s = some (.ref x)) (h : (Jvm.Cond.eq (Term.field t C n d) (Term.long k)).value args s none s [] = some true) : Fld s s.heap x C n d (.long k) := by
  have e := own_eqJ h (show (Term.long k).eval args s none [] s = some (.long k) by simp [Term.eval])
  rw [fld_at ht] at e
  exact Fld.start e
end OwnWords

theorem own_d1_0 : decode method_3_code 0 = .ok (.iload_n 2, 1) := by decide +kernel
theorem own_d1_1 : decode method_3_code 1 = .ok (.ifCond .ne 5, 3) := by decide +kernel
theorem own_d1_4 : decode method_3_code 4 = .ok (.lload_n 0, 1) := by decide +kernel
theorem own_d1_6 : decode method_3_code 6 = .ok (.iload_n 2, 1) := by decide +kernel
theorem own_d1_7 : decode method_3_code 7 = .ok (.iconst 1, 1) := by decide +kernel
theorem own_d1_8 : decode method_3_code 8 = .ok (.if_icmp .ne 9, 3) := by decide +kernel
theorem own_d1_11 : decode method_3_code 11 = .ok (.lload_n 0, 1) := by decide +kernel
theorem own_d1_12 : decode method_3_code 12 = .ok (.ldc2_w 22, 3) := by decide +kernel
theorem own_t8 : (Jvm.Cond.constantLong "khoplenh/RuleSetAllowsQuantityPinLaw" (22 : Nat) (100 : Int64)) ∈ tables_1 := List.mem_of_getElem? (i := 8) rfl
theorem own_d1_15 : decode method_3_code 15 = .ok (.lmul, 1) := by decide +kernel
theorem own_d1_17 : decode method_3_code 17 = .ok (.iload_n 2, 1) := by decide +kernel
theorem own_d1_18 : decode method_3_code 18 = .ok (.iconst 2, 1) := by decide +kernel
theorem own_d1_19 : decode method_3_code 19 = .ok (.if_icmp .ne 14, 3) := by decide +kernel
theorem own_d1_22 : decode method_3_code 22 = .ok (.ldc2_w 24, 3) := by decide +kernel
theorem own_t7 : (Jvm.Cond.constantLong "khoplenh/RuleSetAllowsQuantityPinLaw" (24 : Nat) (500000 : Int64)) ∈ tables_1 := List.mem_of_getElem? (i := 7) rfl
theorem own_d1_25 : decode method_3_code 25 = .ok (.iload_n 3, 1) := by decide +kernel
theorem own_d1_26 : decode method_3_code 26 = .ok (.sipush 201, 3) := by decide +kernel
theorem own_d1_29 : decode method_3_code 29 = .ok (.irem, 1) := by decide +kernel
theorem own_d1_30 : decode method_3_code 30 = .ok (.i2l, 1) := by decide +kernel
theorem own_d1_31 : decode method_3_code 31 = .ok (.ladd, 1) := by decide +kernel
theorem own_d1_33 : decode method_3_code 33 = .ok (.iload_n 2, 1) := by decide +kernel
theorem own_d1_34 : decode method_3_code 34 = .ok (.iconst 3, 1) := by decide +kernel
theorem own_d1_35 : decode method_3_code 35 = .ok (.if_icmp .ne 14, 3) := by decide +kernel
theorem own_d1_38 : decode method_3_code 38 = .ok (.iload_n 3, 1) := by decide +kernel
theorem own_d1_39 : decode method_3_code 39 = .ok (.sipush 8191, 3) := by decide +kernel
theorem own_d1_42 : decode method_3_code 42 = .ok (.iand, 1) := by decide +kernel
theorem own_d1_43 : decode method_3_code 43 = .ok (.i2l, 1) := by decide +kernel
theorem own_d1_44 : decode method_3_code 44 = .ok (.ldc2_w 22, 3) := by decide +kernel
theorem own_d1_47 : decode method_3_code 47 = .ok (.lmul, 1) := by decide +kernel
theorem own_d1_49 : decode method_3_code 49 = .ok (.iload_n 2, 1) := by decide +kernel
theorem own_d1_50 : decode method_3_code 50 = .ok (.iconst 4, 1) := by decide +kernel
theorem own_d1_51 : decode method_3_code 51 = .ok (.if_icmp .ne 14, 3) := by decide +kernel
theorem own_d1_54 : decode method_3_code 54 = .ok (.ldc2_w 32, 3) := by decide +kernel
theorem own_t21 : (Jvm.Cond.constantLong "khoplenh/RuleSetAllowsQuantityPinLaw" (32 : Nat) (9223372036854775807 : Int64)) ∈ tables_1 := List.mem_of_getElem? (i := 21) rfl
theorem own_d1_57 : decode method_3_code 57 = .ok (.iload_n 3, 1) := by decide +kernel
theorem own_d1_58 : decode method_3_code 58 = .ok (.sipush 255, 3) := by decide +kernel
theorem own_d1_61 : decode method_3_code 61 = .ok (.iand, 1) := by decide +kernel
theorem own_d1_62 : decode method_3_code 62 = .ok (.i2l, 1) := by decide +kernel
theorem own_d1_63 : decode method_3_code 63 = .ok (.lsub, 1) := by decide +kernel
theorem own_d1_65 : decode method_3_code 65 = .ok (.iload_n 2, 1) := by decide +kernel
theorem own_d1_66 : decode method_3_code 66 = .ok (.iconst 5, 1) := by decide +kernel
theorem own_d1_67 : decode method_3_code 67 = .ok (.if_icmp .ne 14, 3) := by decide +kernel
theorem own_d1_70 : decode method_3_code 70 = .ok (.ldc2_w 34, 3) := by decide +kernel
theorem own_t18 : (Jvm.Cond.constantLong "khoplenh/RuleSetAllowsQuantityPinLaw" (34 : Nat) (-9223372036854775808 : Int64)) ∈ tables_1 := List.mem_of_getElem? (i := 18) rfl
theorem own_d1_73 : decode method_3_code 73 = .ok (.iload_n 3, 1) := by decide +kernel
theorem own_d1_74 : decode method_3_code 74 = .ok (.sipush 255, 3) := by decide +kernel
theorem own_d1_77 : decode method_3_code 77 = .ok (.iand, 1) := by decide +kernel
theorem own_d1_78 : decode method_3_code 78 = .ok (.i2l, 1) := by decide +kernel
theorem own_d1_79 : decode method_3_code 79 = .ok (.ladd, 1) := by decide +kernel
theorem own_d1_81 : decode method_3_code 81 = .ok (.iload_n 2, 1) := by decide +kernel
theorem own_d1_82 : decode method_3_code 82 = .ok (.bipush 6, 2) := by decide +kernel
theorem own_d1_84 : decode method_3_code 84 = .ok (.if_icmp .ne 6, 3) := by decide +kernel
theorem own_d1_87 : decode method_3_code 87 = .ok (.iload_n 3, 1) := by decide +kernel
theorem own_d1_88 : decode method_3_code 88 = .ok (.i2l, 1) := by decide +kernel
theorem own_d1_90 : decode method_3_code 90 = .ok (.iload_n 3, 1) := by decide +kernel
theorem own_d1_91 : decode method_3_code 91 = .ok (.i2l, 1) := by decide +kernel
theorem own_d1_92 : decode method_3_code 92 = .ok (.ldc2_w 22, 3) := by decide +kernel
theorem own_d1_95 : decode method_3_code 95 = .ok (.lmul, 1) := by decide +kernel
theorem own_pn0 : plainName "khoplenh/RuleSetAllowsQuantityPinLaw" = true := by first | (simp [plainName, overriddenIn]; done) | decide +kernel
theorem own_d1_5 : decode method_3_code 5 = .ok (.lreturn, 1) := by decide +kernel
theorem own_d1_16 : decode method_3_code 16 = .ok (.lreturn, 1) := by decide +kernel
theorem own_d1_32 : decode method_3_code 32 = .ok (.lreturn, 1) := by decide +kernel
theorem own_d1_48 : decode method_3_code 48 = .ok (.lreturn, 1) := by decide +kernel
theorem own_d1_64 : decode method_3_code 64 = .ok (.lreturn, 1) := by decide +kernel
theorem own_d1_80 : decode method_3_code 80 = .ok (.lreturn, 1) := by decide +kernel
theorem own_d1_89 : decode method_3_code 89 = .ok (.lreturn, 1) := by decide +kernel
theorem own_d1_96 : decode method_3_code 96 = .ok (.lreturn, 1) := by decide +kernel
def own_f1 (y0 : Int64) (x1 : Int32) (x2 : Int32) : Int64 := (if x1 = (0 : Int32) then y0 else (if x1 = (1 : Int32) then (y0 * (100 : Int64)) else (if x1 = (2 : Int32) then ((500000 : Int64) + ((x2 % (201 : Int32)).toInt64)) else (if x1 = (3 : Int32) then (((x2 &&& (8191 : Int32)).toInt64) * (100 : Int64)) else (if x1 = (4 : Int32) then ((9223372036854775807 : Int64) - ((x2 &&& (255 : Int32)).toInt64)) else (if x1 = (5 : Int32) then ((-9223372036854775808 : Int64) + ((x2 &&& (255 : Int32)).toInt64)) else (if x1 = (6 : Int32) then (x2.toInt64) else ((x2.toInt64) * (100 : Int64)))))))))
def own_Q1 (y0 : Int64) (x1 : Int32) (x2 : Int32) (h0 : Heap) (n0 : Nat) (v : Option Value) (h : Heap) (L : List Loc) : Prop := v = some (.long (own_f1 y0 x1 x2)) ∧ Fr n0 L ∧ h = h0
abbrev own_R1 : Room := { frames := 0, cells := 0, slots := 0, locals := 0 }
theorem own_ef1 (m : MethodId) (z0 : Int64) (z1 : Int32) (z2 : Int32) : entryFrame m #[(.long z0), (.int z1), (.int z2)] 4 = mkF m 0 #[.val (.long z0), .second, .val (.int z1), .val (.int z2)] [] := by first | (simp [entryFrame, mkF, argsToLocals, Value.category]; done) | rfl
set_option maxRecDepth 65536 in
set_option maxHeartbeats 40000000 in
theorem rm1 (l : Launch) (Z : State) (a0 : Array Value) (hw : ∀ d ∈ tables_1, d.before a0 Z = true) (ws : List Jvm.Cond) (y0 : Int64) (x1 : Int32) (x2 : Int32) (h0 : Heap) (n0 : Nat) : own_Met l Z (⟨"khoplenh/RuleSetAllowsQuantityPinLaw", "quantityOf", "(JII)J"⟩ : MethodName) method_3_code 4 (some .long) ws own_R1 #[(.long y0), (.int x1), (.int x2)] h0 (own_Q1 y0 x1 x2 h0 n0) := by
  refine own_met (plainFor_of_name own_pn0) ?_
  intro p e s m below meth c s₁ hx hby hml hown hnm hret hlk hZ e0 X0
  have N0 := Fr.nil n0
  have hml : c.maxLocals = 4 := hml
  have hown : s.vm.findClass "khoplenh/RuleSetAllowsQuantityPinLaw" = some m.cls := hown
  have hret : meth.sig.returnType = (some .long) := hret
  have hby : c.code = method_3_code := hby
  have hnm : meth.name = "quantityOf" := hnm
  rw [own_ef1]
  show own_Goes p e below _ (s₁.setTop (mkF m 0 #[.val (.long y0), .second, .val (.int x1), .val (.int x2)] []))
  refine own_go (fun t k => XS.iloadN X0.here hx rfl (hb hby own_d1_0) rfl k) ?_
  show own_Goes p e below _ (s₁.setTop (mkF m 1 #[.val (.long y0), .second, .val (.int x1), .val (.int x2)] [(.int x1)]))
  by_cases hc1 : x1 = (0 : Int32)
  · refine own_go (fun t k => XS.ifNo X0.here hx rfl (hb hby own_d1_1) rfl ((if0 _ _).trans (teq hc1).2) k) ?_
    show own_Goes p e below _ (s₁.setTop (mkF m 4 #[.val (.long y0), .second, .val (.int x1), .val (.int x2)] []))
    refine own_go (fun t k => XS.lloadN X0.here hx rfl (hb hby own_d1_4) rfl k) ?_
    show own_Goes p e below _ (s₁.setTop (mkF m 5 #[.val (.long y0), .second, .val (.int x1), .val (.int x2)] [(.long y0)]))
    exact own_retJ X0 hx hlk hret (hb hby own_d1_5) (by decide) (by decide) ⟨by rw [own_f1, if_pos hc1], N0, e0⟩
  · refine own_go (fun t k => XS.ifYes X0.here hx rfl (pc0 := 1) (pc' := 6) rfl (hb hby own_d1_1) rfl ((if0 _ _).trans (feq hc1).2) (by decide) (by decide) k) ?_
    show own_Goes p e below _ (s₁.setTop (mkF m 6 #[.val (.long y0), .second, .val (.int x1), .val (.int x2)] []))
    refine own_go (fun t k => XS.iloadN X0.here hx rfl (hb hby own_d1_6) rfl k) ?_
    show own_Goes p e below _ (s₁.setTop (mkF m 7 #[.val (.long y0), .second, .val (.int x1), .val (.int x2)] [(.int x1)]))
    refine own_go (fun t k => XS.iconst X0.here hx rfl (hb hby own_d1_7) k) ?_
    show own_Goes p e below _ (s₁.setTop (mkF m 8 #[.val (.long y0), .second, .val (.int x1), .val (.int x2)] [(.int (1 : Int32)), (.int x1)]))
    by_cases hc2 : x1 = (1 : Int32)
    · refine own_go (fun t k => XS.icmpNo X0.here hx rfl (hb hby own_d1_8) rfl (teq hc2).2 k) ?_
      show own_Goes p e below _ (s₁.setTop (mkF m 11 #[.val (.long y0), .second, .val (.int x1), .val (.int x2)] []))
      refine own_go (fun t k => XS.lloadN X0.here hx rfl (hb hby own_d1_11) rfl k) ?_
      show own_Goes p e below _ (s₁.setTop (mkF m 12 #[.val (.long y0), .second, .val (.int x1), .val (.int x2)] [(.long y0)]))
      refine own_go (fun t k => X0.ldc2Long hx hown (mvT hZ (hw _ own_t8)) (g := (mkF m 12 #[.val (.long y0), .second, .val (.int x1), .val (.int x2)] [(.long y0)])) rfl (hb hby own_d1_12) t k) ?_
      show own_Goes p e below _ (s₁.setTop (mkF m 15 #[.val (.long y0), .second, .val (.int x1), .val (.int x2)] [(.long (100 : Int64)), (.long y0)]))
      refine own_go (fun t k => XS.lmul X0.here hx rfl (hb hby own_d1_15) rfl k) ?_
      show own_Goes p e below _ (s₁.setTop (mkF m 16 #[.val (.long y0), .second, .val (.int x1), .val (.int x2)] [(.long (y0 * (100 : Int64)))]))
      exact own_retJ X0 hx hlk hret (hb hby own_d1_16) (by decide) (by decide) ⟨by rw [own_f1, if_neg hc1, if_pos hc2], N0, e0⟩
    · refine own_go (fun t k => XS.icmpYes X0.here hx rfl (pc0 := 8) (pc' := 17) rfl (hb hby own_d1_8) rfl (feq hc2).2 (by decide) (by decide) k) ?_
      show own_Goes p e below _ (s₁.setTop (mkF m 17 #[.val (.long y0), .second, .val (.int x1), .val (.int x2)] []))
      refine own_go (fun t k => XS.iloadN X0.here hx rfl (hb hby own_d1_17) rfl k) ?_
      show own_Goes p e below _ (s₁.setTop (mkF m 18 #[.val (.long y0), .second, .val (.int x1), .val (.int x2)] [(.int x1)]))
      refine own_go (fun t k => XS.iconst X0.here hx rfl (hb hby own_d1_18) k) ?_
      show own_Goes p e below _ (s₁.setTop (mkF m 19 #[.val (.long y0), .second, .val (.int x1), .val (.int x2)] [(.int (2 : Int32)), (.int x1)]))
      by_cases hc3 : x1 = (2 : Int32)
      · refine own_go (fun t k => XS.icmpNo X0.here hx rfl (hb hby own_d1_19) rfl (teq hc3).2 k) ?_
        show own_Goes p e below _ (s₁.setTop (mkF m 22 #[.val (.long y0), .second, .val (.int x1), .val (.int x2)] []))
        refine own_go (fun t k => X0.ldc2Long hx hown (mvT hZ (hw _ own_t7)) (g := (mkF m 22 #[.val (.long y0), .second, .val (.int x1), .val (.int x2)] [])) rfl (hb hby own_d1_22) t k) ?_
        show own_Goes p e below _ (s₁.setTop (mkF m 25 #[.val (.long y0), .second, .val (.int x1), .val (.int x2)] [(.long (500000 : Int64))]))
        refine own_go (fun t k => XS.iloadN X0.here hx rfl (hb hby own_d1_25) rfl k) ?_
        show own_Goes p e below _ (s₁.setTop (mkF m 26 #[.val (.long y0), .second, .val (.int x1), .val (.int x2)] [(.int x2), (.long (500000 : Int64))]))
        refine own_go (fun t k => XS.sipush X0.here hx rfl (hb hby own_d1_26) k) ?_
        show own_Goes p e below _ (s₁.setTop (mkF m 29 #[.val (.long y0), .second, .val (.int x1), .val (.int x2)] [(.int (201 : Int32)), (.int x2), (.long (500000 : Int64))]))
        refine own_go (fun t k => iremM X0 hx rfl (hb hby own_d1_29) rfl (by decide) k) ?_
        show own_Goes p e below _ (s₁.setTop (mkF m 30 #[.val (.long y0), .second, .val (.int x1), .val (.int x2)] [(.int (x2 % (201 : Int32))), (.long (500000 : Int64))]))
        refine own_go (fun t k => XS.i2l X0.here hx rfl (hb hby own_d1_30) rfl k) ?_
        show own_Goes p e below _ (s₁.setTop (mkF m 31 #[.val (.long y0), .second, .val (.int x1), .val (.int x2)] [(.long ((x2 % (201 : Int32)).toInt64)), (.long (500000 : Int64))]))
        refine own_go (fun t k => XS.ladd X0.here hx rfl (hb hby own_d1_31) rfl k) ?_
        show own_Goes p e below _ (s₁.setTop (mkF m 32 #[.val (.long y0), .second, .val (.int x1), .val (.int x2)] [(.long ((500000 : Int64) + ((x2 % (201 : Int32)).toInt64)))]))
        exact own_retJ X0 hx hlk hret (hb hby own_d1_32) (by decide) (by decide) ⟨by rw [own_f1, if_neg hc1, if_neg hc2, if_pos hc3], N0, e0⟩
      · refine own_go (fun t k => XS.icmpYes X0.here hx rfl (pc0 := 19) (pc' := 33) rfl (hb hby own_d1_19) rfl (feq hc3).2 (by decide) (by decide) k) ?_
        show own_Goes p e below _ (s₁.setTop (mkF m 33 #[.val (.long y0), .second, .val (.int x1), .val (.int x2)] []))
        refine own_go (fun t k => XS.iloadN X0.here hx rfl (hb hby own_d1_33) rfl k) ?_
        show own_Goes p e below _ (s₁.setTop (mkF m 34 #[.val (.long y0), .second, .val (.int x1), .val (.int x2)] [(.int x1)]))
        refine own_go (fun t k => XS.iconst X0.here hx rfl (hb hby own_d1_34) k) ?_
        show own_Goes p e below _ (s₁.setTop (mkF m 35 #[.val (.long y0), .second, .val (.int x1), .val (.int x2)] [(.int (3 : Int32)), (.int x1)]))
        by_cases hc4 : x1 = (3 : Int32)
        · refine own_go (fun t k => XS.icmpNo X0.here hx rfl (hb hby own_d1_35) rfl (teq hc4).2 k) ?_
          show own_Goes p e below _ (s₁.setTop (mkF m 38 #[.val (.long y0), .second, .val (.int x1), .val (.int x2)] []))
          refine own_go (fun t k => XS.iloadN X0.here hx rfl (hb hby own_d1_38) rfl k) ?_
          show own_Goes p e below _ (s₁.setTop (mkF m 39 #[.val (.long y0), .second, .val (.int x1), .val (.int x2)] [(.int x2)]))
          refine own_go (fun t k => XS.sipush X0.here hx rfl (hb hby own_d1_39) k) ?_
          show own_Goes p e below _ (s₁.setTop (mkF m 42 #[.val (.long y0), .second, .val (.int x1), .val (.int x2)] [(.int (8191 : Int32)), (.int x2)]))
          refine own_go (fun t k => XS.iand X0.here hx rfl (hb hby own_d1_42) rfl k) ?_
          show own_Goes p e below _ (s₁.setTop (mkF m 43 #[.val (.long y0), .second, .val (.int x1), .val (.int x2)] [(.int (x2 &&& (8191 : Int32)))]))
          refine own_go (fun t k => XS.i2l X0.here hx rfl (hb hby own_d1_43) rfl k) ?_
          show own_Goes p e below _ (s₁.setTop (mkF m 44 #[.val (.long y0), .second, .val (.int x1), .val (.int x2)] [(.long ((x2 &&& (8191 : Int32)).toInt64))]))
          refine own_go (fun t k => X0.ldc2Long hx hown (mvT hZ (hw _ own_t8)) (g := (mkF m 44 #[.val (.long y0), .second, .val (.int x1), .val (.int x2)] [(.long ((x2 &&& (8191 : Int32)).toInt64))])) rfl (hb hby own_d1_44) t k) ?_
          show own_Goes p e below _ (s₁.setTop (mkF m 47 #[.val (.long y0), .second, .val (.int x1), .val (.int x2)] [(.long (100 : Int64)), (.long ((x2 &&& (8191 : Int32)).toInt64))]))
          refine own_go (fun t k => XS.lmul X0.here hx rfl (hb hby own_d1_47) rfl k) ?_
          show own_Goes p e below _ (s₁.setTop (mkF m 48 #[.val (.long y0), .second, .val (.int x1), .val (.int x2)] [(.long (((x2 &&& (8191 : Int32)).toInt64) * (100 : Int64)))]))
          exact own_retJ X0 hx hlk hret (hb hby own_d1_48) (by decide) (by decide) ⟨by rw [own_f1, if_neg hc1, if_neg hc2, if_neg hc3, if_pos hc4], N0, e0⟩
        · refine own_go (fun t k => XS.icmpYes X0.here hx rfl (pc0 := 35) (pc' := 49) rfl (hb hby own_d1_35) rfl (feq hc4).2 (by decide) (by decide) k) ?_
          show own_Goes p e below _ (s₁.setTop (mkF m 49 #[.val (.long y0), .second, .val (.int x1), .val (.int x2)] []))
          refine own_go (fun t k => XS.iloadN X0.here hx rfl (hb hby own_d1_49) rfl k) ?_
          show own_Goes p e below _ (s₁.setTop (mkF m 50 #[.val (.long y0), .second, .val (.int x1), .val (.int x2)] [(.int x1)]))
          refine own_go (fun t k => XS.iconst X0.here hx rfl (hb hby own_d1_50) k) ?_
          show own_Goes p e below _ (s₁.setTop (mkF m 51 #[.val (.long y0), .second, .val (.int x1), .val (.int x2)] [(.int (4 : Int32)), (.int x1)]))
          by_cases hc5 : x1 = (4 : Int32)
          · refine own_go (fun t k => XS.icmpNo X0.here hx rfl (hb hby own_d1_51) rfl (teq hc5).2 k) ?_
            show own_Goes p e below _ (s₁.setTop (mkF m 54 #[.val (.long y0), .second, .val (.int x1), .val (.int x2)] []))
            refine own_go (fun t k => X0.ldc2Long hx hown (mvT hZ (hw _ own_t21)) (g := (mkF m 54 #[.val (.long y0), .second, .val (.int x1), .val (.int x2)] [])) rfl (hb hby own_d1_54) t k) ?_
            show own_Goes p e below _ (s₁.setTop (mkF m 57 #[.val (.long y0), .second, .val (.int x1), .val (.int x2)] [(.long (9223372036854775807 : Int64))]))
            refine own_go (fun t k => XS.iloadN X0.here hx rfl (hb hby own_d1_57) rfl k) ?_
            show own_Goes p e below _ (s₁.setTop (mkF m 58 #[.val (.long y0), .second, .val (.int x1), .val (.int x2)] [(.int x2), (.long (9223372036854775807 : Int64))]))
            refine own_go (fun t k => XS.sipush X0.here hx rfl (hb hby own_d1_58) k) ?_
            show own_Goes p e below _ (s₁.setTop (mkF m 61 #[.val (.long y0), .second, .val (.int x1), .val (.int x2)] [(.int (255 : Int32)), (.int x2), (.long (9223372036854775807 : Int64))]))
            refine own_go (fun t k => XS.iand X0.here hx rfl (hb hby own_d1_61) rfl k) ?_
            show own_Goes p e below _ (s₁.setTop (mkF m 62 #[.val (.long y0), .second, .val (.int x1), .val (.int x2)] [(.int (x2 &&& (255 : Int32))), (.long (9223372036854775807 : Int64))]))
            refine own_go (fun t k => XS.i2l X0.here hx rfl (hb hby own_d1_62) rfl k) ?_
            show own_Goes p e below _ (s₁.setTop (mkF m 63 #[.val (.long y0), .second, .val (.int x1), .val (.int x2)] [(.long ((x2 &&& (255 : Int32)).toInt64)), (.long (9223372036854775807 : Int64))]))
            refine own_go (fun t k => XS.lsub X0.here hx rfl (hb hby own_d1_63) rfl k) ?_
            show own_Goes p e below _ (s₁.setTop (mkF m 64 #[.val (.long y0), .second, .val (.int x1), .val (.int x2)] [(.long ((9223372036854775807 : Int64) - ((x2 &&& (255 : Int32)).toInt64)))]))
            exact own_retJ X0 hx hlk hret (hb hby own_d1_64) (by decide) (by decide) ⟨by rw [own_f1, if_neg hc1, if_neg hc2, if_neg hc3, if_neg hc4, if_pos hc5], N0, e0⟩
          · refine own_go (fun t k => XS.icmpYes X0.here hx rfl (pc0 := 51) (pc' := 65) rfl (hb hby own_d1_51) rfl (feq hc5).2 (by decide) (by decide) k) ?_
            show own_Goes p e below _ (s₁.setTop (mkF m 65 #[.val (.long y0), .second, .val (.int x1), .val (.int x2)] []))
            refine own_go (fun t k => XS.iloadN X0.here hx rfl (hb hby own_d1_65) rfl k) ?_
            show own_Goes p e below _ (s₁.setTop (mkF m 66 #[.val (.long y0), .second, .val (.int x1), .val (.int x2)] [(.int x1)]))
            refine own_go (fun t k => XS.iconst X0.here hx rfl (hb hby own_d1_66) k) ?_
            show own_Goes p e below _ (s₁.setTop (mkF m 67 #[.val (.long y0), .second, .val (.int x1), .val (.int x2)] [(.int (5 : Int32)), (.int x1)]))
            by_cases hc6 : x1 = (5 : Int32)
            · refine own_go (fun t k => XS.icmpNo X0.here hx rfl (hb hby own_d1_67) rfl (teq hc6).2 k) ?_
              show own_Goes p e below _ (s₁.setTop (mkF m 70 #[.val (.long y0), .second, .val (.int x1), .val (.int x2)] []))
              refine own_go (fun t k => X0.ldc2Long hx hown (mvT hZ (hw _ own_t18)) (g := (mkF m 70 #[.val (.long y0), .second, .val (.int x1), .val (.int x2)] [])) rfl (hb hby own_d1_70) t k) ?_
              show own_Goes p e below _ (s₁.setTop (mkF m 73 #[.val (.long y0), .second, .val (.int x1), .val (.int x2)] [(.long (-9223372036854775808 : Int64))]))
              refine own_go (fun t k => XS.iloadN X0.here hx rfl (hb hby own_d1_73) rfl k) ?_
              show own_Goes p e below _ (s₁.setTop (mkF m 74 #[.val (.long y0), .second, .val (.int x1), .val (.int x2)] [(.int x2), (.long (-9223372036854775808 : Int64))]))
              refine own_go (fun t k => XS.sipush X0.here hx rfl (hb hby own_d1_74) k) ?_
              show own_Goes p e below _ (s₁.setTop (mkF m 77 #[.val (.long y0), .second, .val (.int x1), .val (.int x2)] [(.int (255 : Int32)), (.int x2), (.long (-9223372036854775808 : Int64))]))
              refine own_go (fun t k => XS.iand X0.here hx rfl (hb hby own_d1_77) rfl k) ?_
              show own_Goes p e below _ (s₁.setTop (mkF m 78 #[.val (.long y0), .second, .val (.int x1), .val (.int x2)] [(.int (x2 &&& (255 : Int32))), (.long (-9223372036854775808 : Int64))]))
              refine own_go (fun t k => XS.i2l X0.here hx rfl (hb hby own_d1_78) rfl k) ?_
              show own_Goes p e below _ (s₁.setTop (mkF m 79 #[.val (.long y0), .second, .val (.int x1), .val (.int x2)] [(.long ((x2 &&& (255 : Int32)).toInt64)), (.long (-9223372036854775808 : Int64))]))
              refine own_go (fun t k => XS.ladd X0.here hx rfl (hb hby own_d1_79) rfl k) ?_
              show own_Goes p e below _ (s₁.setTop (mkF m 80 #[.val (.long y0), .second, .val (.int x1), .val (.int x2)] [(.long ((-9223372036854775808 : Int64) + ((x2 &&& (255 : Int32)).toInt64)))]))
              exact own_retJ X0 hx hlk hret (hb hby own_d1_80) (by decide) (by decide) ⟨by rw [own_f1, if_neg hc1, if_neg hc2, if_neg hc3, if_neg hc4, if_neg hc5, if_pos hc6], N0, e0⟩
            · refine own_go (fun t k => XS.icmpYes X0.here hx rfl (pc0 := 67) (pc' := 81) rfl (hb hby own_d1_67) rfl (feq hc6).2 (by decide) (by decide) k) ?_
              show own_Goes p e below _ (s₁.setTop (mkF m 81 #[.val (.long y0), .second, .val (.int x1), .val (.int x2)] []))
              refine own_go (fun t k => XS.iloadN X0.here hx rfl (hb hby own_d1_81) rfl k) ?_
              show own_Goes p e below _ (s₁.setTop (mkF m 82 #[.val (.long y0), .second, .val (.int x1), .val (.int x2)] [(.int x1)]))
              refine own_go (fun t k => XS.bipush X0.here hx rfl (hb hby own_d1_82) k) ?_
              show own_Goes p e below _ (s₁.setTop (mkF m 84 #[.val (.long y0), .second, .val (.int x1), .val (.int x2)] [(.int (6 : Int32)), (.int x1)]))
              by_cases hc7 : x1 = (6 : Int32)
              · refine own_go (fun t k => XS.icmpNo X0.here hx rfl (hb hby own_d1_84) rfl (teq hc7).2 k) ?_
                show own_Goes p e below _ (s₁.setTop (mkF m 87 #[.val (.long y0), .second, .val (.int x1), .val (.int x2)] []))
                refine own_go (fun t k => XS.iloadN X0.here hx rfl (hb hby own_d1_87) rfl k) ?_
                show own_Goes p e below _ (s₁.setTop (mkF m 88 #[.val (.long y0), .second, .val (.int x1), .val (.int x2)] [(.int x2)]))
                refine own_go (fun t k => XS.i2l X0.here hx rfl (hb hby own_d1_88) rfl k) ?_
                show own_Goes p e below _ (s₁.setTop (mkF m 89 #[.val (.long y0), .second, .val (.int x1), .val (.int x2)] [(.long (x2.toInt64))]))
                exact own_retJ X0 hx hlk hret (hb hby own_d1_89) (by decide) (by decide) ⟨by rw [own_f1, if_neg hc1, if_neg hc2, if_neg hc3, if_neg hc4, if_neg hc5, if_neg hc6, if_pos hc7], N0, e0⟩
              · refine own_go (fun t k => XS.icmpYes X0.here hx rfl (pc0 := 84) (pc' := 90) rfl (hb hby own_d1_84) rfl (feq hc7).2 (by decide) (by decide) k) ?_
                show own_Goes p e below _ (s₁.setTop (mkF m 90 #[.val (.long y0), .second, .val (.int x1), .val (.int x2)] []))
                refine own_go (fun t k => XS.iloadN X0.here hx rfl (hb hby own_d1_90) rfl k) ?_
                show own_Goes p e below _ (s₁.setTop (mkF m 91 #[.val (.long y0), .second, .val (.int x1), .val (.int x2)] [(.int x2)]))
                refine own_go (fun t k => XS.i2l X0.here hx rfl (hb hby own_d1_91) rfl k) ?_
                show own_Goes p e below _ (s₁.setTop (mkF m 92 #[.val (.long y0), .second, .val (.int x1), .val (.int x2)] [(.long (x2.toInt64))]))
                refine own_go (fun t k => X0.ldc2Long hx hown (mvT hZ (hw _ own_t8)) (g := (mkF m 92 #[.val (.long y0), .second, .val (.int x1), .val (.int x2)] [(.long (x2.toInt64))])) rfl (hb hby own_d1_92) t k) ?_
                show own_Goes p e below _ (s₁.setTop (mkF m 95 #[.val (.long y0), .second, .val (.int x1), .val (.int x2)] [(.long (100 : Int64)), (.long (x2.toInt64))]))
                refine own_go (fun t k => XS.lmul X0.here hx rfl (hb hby own_d1_95) rfl k) ?_
                show own_Goes p e below _ (s₁.setTop (mkF m 96 #[.val (.long y0), .second, .val (.int x1), .val (.int x2)] [(.long ((x2.toInt64) * (100 : Int64)))]))
                exact own_retJ X0 hx hlk hret (hb hby own_d1_96) (by decide) (by decide) ⟨by rw [own_f1, if_neg hc1, if_neg hc2, if_neg hc3, if_neg hc4, if_neg hc5, if_neg hc6, if_neg hc7], N0, e0⟩
theorem own_d2_0 : decode prog_23_method_7_code 0 = .ok (.lload_n 1, 1) := by decide +kernel
theorem own_d2_1 : decode prog_23_method_7_code 1 = .ok (.lconst 0, 1) := by decide +kernel
theorem own_d2_2 : decode prog_23_method_7_code 2 = .ok (.lcmp, 1) := by decide +kernel
theorem own_d2_3 : decode prog_23_method_7_code 3 = .ok (.ifCond .le 27, 3) := by decide +kernel
theorem own_d2_6 : decode prog_23_method_7_code 6 = .ok (.lload_n 1, 1) := by decide +kernel
theorem own_d2_7 : decode prog_23_method_7_code 7 = .ok (.aload_n 0, 1) := by decide +kernel
theorem own_d2_8 : decode prog_23_method_7_code 8 = .ok (.getfield 37, 3) := by decide +kernel
theorem own_t14 : (Jvm.Cond.fieldLink "khoplenh/RuleSet" (37 : Nat) "khoplenh/RuleSet" "lot" "J") ∈ tables_1 := List.mem_of_getElem? (i := 14) rfl
theorem own_d2_11 : decode prog_23_method_7_code 11 = .ok (.lrem, 1) := by decide +kernel
theorem own_d2_12 : decode prog_23_method_7_code 12 = .ok (.lconst 0, 1) := by decide +kernel
theorem own_d2_13 : decode prog_23_method_7_code 13 = .ok (.lcmp, 1) := by decide +kernel
theorem own_d2_14 : decode prog_23_method_7_code 14 = .ok (.ifCond .ne 16, 3) := by decide +kernel
theorem own_d2_17 : decode prog_23_method_7_code 17 = .ok (.lload_n 1, 1) := by decide +kernel
theorem own_d2_18 : decode prog_23_method_7_code 18 = .ok (.aload_n 0, 1) := by decide +kernel
theorem own_d2_19 : decode prog_23_method_7_code 19 = .ok (.getfield 40, 3) := by decide +kernel
theorem own_t19 : (Jvm.Cond.fieldLink "khoplenh/RuleSet" (40 : Nat) "khoplenh/RuleSet" "maxQuantity" "J") ∈ tables_1 := List.mem_of_getElem? (i := 19) rfl
theorem own_d2_22 : decode prog_23_method_7_code 22 = .ok (.lcmp, 1) := by decide +kernel
theorem own_d2_23 : decode prog_23_method_7_code 23 = .ok (.ifCond .gt 7, 3) := by decide +kernel
theorem own_d2_30 : decode prog_23_method_7_code 30 = .ok (.iconst 0, 1) := by decide +kernel
theorem own_d2_26 : decode prog_23_method_7_code 26 = .ok (.iconst 1, 1) := by decide +kernel
theorem own_d2_27 : decode prog_23_method_7_code 27 = .ok (.goto 4, 3) := by decide +kernel
theorem own_pn1 : plainName "khoplenh/RuleSet" = true := by first | (simp [plainName, overriddenIn]; done) | decide +kernel
theorem own_d2_31 : decode prog_23_method_7_code 31 = .ok (.ireturn, 1) := by decide +kernel
def own_j2_1 (y1 : Int64) (q_lot : Int64) (q_max : Int64) : Int32 := (if (0 : Int64) < y1 then (if (y1 - (y1 / q_lot) * q_lot) = (0 : Int64) then (if q_max < y1 then (0 : Int32) else (1 : Int32)) else (0 : Int32)) else (0 : Int32))
def own_f2 (y1 : Int64) (q_lot : Int64) (q_max : Int64) : Int32 := ((own_j2_1 y1 q_lot q_max) &&& 1)
def own_Q2 (r0 : Addr) (y1 : Int64) (q_lot : Int64) (q_max : Int64) (h0 : Heap) (n0 : Nat) (v : Option Value) (h : Heap) (L : List Loc) : Prop := v = some (.int (own_f2 y1 q_lot q_max)) ∧ Fr n0 L ∧ h = h0
abbrev own_R2 : Room := { frames := 0, cells := 0, slots := 0, locals := 0 }
theorem own_ef2 (m : MethodId) (z0 : Addr) (z1 : Int64) : entryFrame m #[(.ref z0), (.long z1)] 3 = mkF m 0 #[.val (.ref z0), .val (.long z1), .second] [] := by first | (simp [entryFrame, mkF, argsToLocals, Value.category]; done) | rfl
set_option maxRecDepth 65536 in
set_option maxHeartbeats 40000000 in
theorem rm2 (l : Launch) (Z : State) (a0 : Array Value) (hw : ∀ d ∈ tables_1, d.before a0 Z = true) (ws : List Jvm.Cond) (r0 : Addr) (y1 : Int64) (q_lot : Int64) (q_max : Int64) (h0 : Heap) (n0 : Nat) (F_lot : Fld Z h0 r0 "khoplenh/RuleSet" "lot" "J" (.long q_lot)) (F_max : Fld Z h0 r0 "khoplenh/RuleSet" "maxQuantity" "J" (.long q_max)) (hz : q_lot ≠ 0) : own_Met l Z (⟨"khoplenh/RuleSet", "allowsQuantity", "(J)Z"⟩ : MethodName) prog_23_method_7_code 3 (some .boolean) ws own_R2 #[(.ref r0), (.long y1)] h0 (own_Q2 r0 y1 q_lot q_max h0 n0) := by
  refine own_met (plainFor_of_name own_pn1) ?_
  intro p e s m below meth c s₁ hx hby hml hown hnm hret hlk hZ e0 X0
  have N0 := Fr.nil n0
  have hml : c.maxLocals = 3 := hml
  have hown : s.vm.findClass "khoplenh/RuleSet" = some m.cls := hown
  have hret : meth.sig.returnType = (some .boolean) := hret
  have hby : c.code = prog_23_method_7_code := hby
  have hnm : meth.name = "allowsQuantity" := hnm
  rw [own_ef2]
  show own_Goes p e below _ (s₁.setTop (mkF m 0 #[.val (.ref r0), .val (.long y1), .second] []))
  refine own_go (fun t k => XS.lloadN X0.here hx rfl (hb hby own_d2_0) rfl k) ?_
  show own_Goes p e below _ (s₁.setTop (mkF m 1 #[.val (.ref r0), .val (.long y1), .second] [(.long y1)]))
  refine own_go (fun t k => XS.lconst X0.here hx rfl (hb hby own_d2_1) k) ?_
  show own_Goes p e below _ (s₁.setTop (mkF m 2 #[.val (.ref r0), .val (.long y1), .second] [(.long (0 : Int64)), (.long y1)]))
  refine own_go (fun t k => XS.lcmp X0.here hx rfl (hb hby own_d2_2) rfl k) ?_
  show own_Goes p e below _ (s₁.setTop (mkF m 3 #[.val (.ref r0), .val (.long y1), .second] [(.int (lcmpW y1 (0 : Int64)))]))
  suffices HH13 : ∀ (T13 : State) (L13 : List Loc) (X13 : Stand p l e own_R2 s m #[(.ref r0), (.long y1)] below meth c T13 L13 0 0) (e13 : T13.heap = h0) (N13 : Fr n0 L13), own_Goes p e below (own_End s own_R2 (own_Q2 r0 y1 q_lot q_max h0 n0)) (T13.setTop (mkF m 31 #[.val (.ref r0), .val (.long y1), .second] [(.int (own_j2_1 y1 q_lot q_max))])) by
    by_cases hc8 : (0 : Int64) < y1
    · refine own_go (fun t k => XS.ifNo X0.here hx rfl (hb hby own_d2_3) rfl ((if0 _ _).trans (tlt ((lw_gt _ _).mpr hc8)).2.2.2) k) ?_
      show own_Goes p e below _ (s₁.setTop (mkF m 6 #[.val (.ref r0), .val (.long y1), .second] []))
      refine own_go (fun t k => XS.lloadN X0.here hx rfl (hb hby own_d2_6) rfl k) ?_
      show own_Goes p e below _ (s₁.setTop (mkF m 7 #[.val (.ref r0), .val (.long y1), .second] [(.long y1)]))
      refine own_go (fun t k => XS.aloadN X0.here hx rfl (hb hby own_d2_7) rfl rfl k) ?_
      show own_Goes p e below _ (s₁.setTop (mkF m 8 #[.val (.ref r0), .val (.long y1), .second] [(.ref r0), (.long y1)]))
      obtain ⟨T9, X9, e9, st9⟩ := getF X0 hx hZ hown (host := "") (Or.inl (hw _ own_t14)) Via.refl e0 F_lot (g := (mkF m 8 #[.val (.ref r0), .val (.long y1), .second] [(.ref r0), (.long y1)])) rfl rfl (hb hby own_d2_8)
      refine own_go st9 ?_
      show own_Goes p e below _ (T9.setTop (mkF m 11 #[.val (.ref r0), .val (.long y1), .second] [(.long q_lot), (.long y1)]))
      refine own_go (fun t k => XS.lrem X9.here hx rfl (hb hby own_d2_11) rfl hz k) ?_
      show own_Goes p e below _ (T9.setTop (mkF m 12 #[.val (.ref r0), .val (.long y1), .second] [(.long (y1 - (y1 / q_lot) * q_lot))]))
      refine own_go (fun t k => XS.lconst X9.here hx rfl (hb hby own_d2_12) k) ?_
      show own_Goes p e below _ (T9.setTop (mkF m 13 #[.val (.ref r0), .val (.long y1), .second] [(.long (0 : Int64)), (.long (y1 - (y1 / q_lot) * q_lot))]))
      refine own_go (fun t k => XS.lcmp X9.here hx rfl (hb hby own_d2_13) rfl k) ?_
      show own_Goes p e below _ (T9.setTop (mkF m 14 #[.val (.ref r0), .val (.long y1), .second] [(.int (lcmpW (y1 - (y1 / q_lot) * q_lot) (0 : Int64)))]))
      by_cases hc10 : (y1 - (y1 / q_lot) * q_lot) = (0 : Int64)
      · refine own_go (fun t k => XS.ifNo X9.here hx rfl (hb hby own_d2_14) rfl ((if0 _ _).trans (teq ((lw_eq _ _).mpr hc10)).2) k) ?_
        show own_Goes p e below _ (T9.setTop (mkF m 17 #[.val (.ref r0), .val (.long y1), .second] []))
        refine own_go (fun t k => XS.lloadN X9.here hx rfl (hb hby own_d2_17) rfl k) ?_
        show own_Goes p e below _ (T9.setTop (mkF m 18 #[.val (.ref r0), .val (.long y1), .second] [(.long y1)]))
        refine own_go (fun t k => XS.aloadN X9.here hx rfl (hb hby own_d2_18) rfl rfl k) ?_
        show own_Goes p e below _ (T9.setTop (mkF m 19 #[.val (.ref r0), .val (.long y1), .second] [(.ref r0), (.long y1)]))
        obtain ⟨T11, X11, e11, st11⟩ := getF X9 hx hZ hown (host := "") (Or.inl (hw _ own_t19)) Via.refl e9 F_max (g := (mkF m 19 #[.val (.ref r0), .val (.long y1), .second] [(.ref r0), (.long y1)])) rfl rfl (hb hby own_d2_19)
        refine own_go st11 ?_
        show own_Goes p e below _ (T11.setTop (mkF m 22 #[.val (.ref r0), .val (.long y1), .second] [(.long q_max), (.long y1)]))
        refine own_go (fun t k => XS.lcmp X11.here hx rfl (hb hby own_d2_22) rfl k) ?_
        show own_Goes p e below _ (T11.setTop (mkF m 23 #[.val (.ref r0), .val (.long y1), .second] [(.int (lcmpW y1 q_max))]))
        by_cases hc12 : q_max < y1
        · refine own_go (fun t k => XS.ifYes X11.here hx rfl (pc0 := 23) (pc' := 30) rfl (hb hby own_d2_23) rfl ((if0 _ _).trans (tlt ((lw_gt _ _).mpr hc12)).2.2.1) (by decide) (by decide) k) ?_
          show own_Goes p e below _ (T11.setTop (mkF m 30 #[.val (.ref r0), .val (.long y1), .second] []))
          refine own_go (fun t k => XS.iconst X11.here hx rfl (hb hby own_d2_30) k) ?_
          rw [show (own_j2_1 y1 q_lot q_max) = (0 : Int32) from by rw [own_j2_1, if_pos hc8, if_pos hc10, if_pos hc12]] at HH13
          exact HH13 _ _ X11 e11 N0
        · refine own_go (fun t k => XS.ifNo X11.here hx rfl (hb hby own_d2_23) rfl ((if0 _ _).trans (flt (fun q => hc12 ((lw_gt _ _).mp q))).2.2.1) k) ?_
          show own_Goes p e below _ (T11.setTop (mkF m 26 #[.val (.ref r0), .val (.long y1), .second] []))
          refine own_go (fun t k => XS.iconst X11.here hx rfl (hb hby own_d2_26) k) ?_
          show own_Goes p e below _ (T11.setTop (mkF m 27 #[.val (.ref r0), .val (.long y1), .second] [(.int (1 : Int32))]))
          refine own_go (fun t k => XS.goto X11.here hx rfl (pc0 := 27) (pc' := 31) rfl (hb hby own_d2_27) (by decide) (by decide) k) ?_
          rw [show (own_j2_1 y1 q_lot q_max) = (1 : Int32) from by rw [own_j2_1, if_pos hc8, if_pos hc10, if_neg hc12]] at HH13
          exact HH13 _ _ X11 e11 N0
      · refine own_go (fun t k => XS.ifYes X9.here hx rfl (pc0 := 14) (pc' := 30) rfl (hb hby own_d2_14) rfl ((if0 _ _).trans (feq (fun q => hc10 ((lw_eq _ _).mp q))).2) (by decide) (by decide) k) ?_
        show own_Goes p e below _ (T9.setTop (mkF m 30 #[.val (.ref r0), .val (.long y1), .second] []))
        refine own_go (fun t k => XS.iconst X9.here hx rfl (hb hby own_d2_30) k) ?_
        rw [show (own_j2_1 y1 q_lot q_max) = (0 : Int32) from by rw [own_j2_1, if_pos hc8, if_neg hc10]] at HH13
        exact HH13 _ _ X9 e9 N0
    · refine own_go (fun t k => XS.ifYes X0.here hx rfl (pc0 := 3) (pc' := 30) rfl (hb hby own_d2_3) rfl ((if0 _ _).trans (flt (fun q => hc8 ((lw_gt _ _).mp q))).2.2.2) (by decide) (by decide) k) ?_
      show own_Goes p e below _ (s₁.setTop (mkF m 30 #[.val (.ref r0), .val (.long y1), .second] []))
      refine own_go (fun t k => XS.iconst X0.here hx rfl (hb hby own_d2_30) k) ?_
      rw [show (own_j2_1 y1 q_lot q_max) = (0 : Int32) from by rw [own_j2_1, if_neg hc8]] at HH13
      exact HH13 _ _ X0 e0 N0
  intro T13 L13 X13 e13 N13
  show own_Goes p e below _ (T13.setTop (mkF m 31 #[.val (.ref r0), .val (.long y1), .second] [(.int (own_j2_1 y1 q_lot q_max))]))
  exact own_retN X13 hx hlk hret (by simp) (z' := ((own_j2_1 y1 q_lot q_max) &&& 1)) rfl (hb hby own_d2_31) (by decide) (by decide) ⟨by rw [own_f2], N13, e13⟩
theorem own_t16 : (Jvm.Cond.fieldLink "khoplenh/RuleSetAllowsQuantityPinLaw" (13 : Nat) "khoplenh/RuleSet" "HNX" "Lkhoplenh/RuleSet;") ∈ tables_1 := List.mem_of_getElem? (i := 16) rfl
theorem own_t3 : (Jvm.Cond.methodLink "khoplenh/RuleSetAllowsQuantityPinLaw" (16 : Nat) ({ cls := "khoplenh/RuleSetAllowsQuantityPinLaw", name := "quantityOf", desc := "(JII)J" } : Jvm.MethodName)) ∈ tables_1 := List.mem_of_getElem? (i := 3) rfl
theorem own_pd0 : parseMethodDescriptor "(JII)J" = some ⟨[.long, .int, .int], some .long⟩ := by decide +kernel
theorem own_t4 : (Jvm.Cond.static ({ cls := "khoplenh/RuleSetAllowsQuantityPinLaw", name := "quantityOf", desc := "(JII)J" } : Jvm.MethodName)) ∈ tables_1 := List.mem_of_getElem? (i := 4) rfl
theorem own_t5 : (Jvm.Cond.initialized "khoplenh/RuleSetAllowsQuantityPinLaw") ∈ tables_1 := List.mem_of_getElem? (i := 5) rfl
theorem own_t6 : (Jvm.Cond.code ({ cls := "khoplenh/RuleSetAllowsQuantityPinLaw", name := "quantityOf", desc := "(JII)J" } : Jvm.MethodName) method_3_code (4 : Nat) (Option.some Jvm.ClassFile.FieldType.long)) ∈ tables_1 := List.mem_of_getElem? (i := 6) rfl
theorem own_t9 : (Jvm.Cond.methodLink "khoplenh/RuleSetAllowsQuantityPinLaw" (26 : Nat) ({ cls := "khoplenh/RuleSet", name := "allowsQuantity", desc := "(J)Z" } : Jvm.MethodName)) ∈ tables_1 := List.mem_of_getElem? (i := 9) rfl
theorem own_pd1 : parseMethodDescriptor "(J)Z" = some ⟨[.long], some .boolean⟩ := by decide +kernel
theorem own_t10 : (Jvm.Cond.declares ({ cls := "khoplenh/RuleSet", name := "allowsQuantity", desc := "(J)Z" } : Jvm.MethodName)) ∈ tables_1 := List.mem_of_getElem? (i := 10) rfl
theorem own_t12 : (Jvm.Cond.selects "khoplenh/RuleSet" ({ cls := "khoplenh/RuleSet", name := "allowsQuantity", desc := "(J)Z" } : Jvm.MethodName) ({ cls := "khoplenh/RuleSet", name := "allowsQuantity", desc := "(J)Z" } : Jvm.MethodName)) ∈ tables_1 := List.mem_of_getElem? (i := 12) rfl
theorem own_t11 : (Jvm.Cond.instanceMethod ({ cls := "khoplenh/RuleSet", name := "allowsQuantity", desc := "(J)Z" } : Jvm.MethodName)) ∈ tables_1 := List.mem_of_getElem? (i := 11) rfl
theorem own_t1 : (Jvm.Cond.initialized "khoplenh/RuleSet") ∈ tables_1 := List.mem_of_getElem? (i := 1) rfl
theorem own_t13 : (Jvm.Cond.code ({ cls := "khoplenh/RuleSet", name := "allowsQuantity", desc := "(J)Z" } : Jvm.MethodName) prog_23_method_7_code (3 : Nat) (Option.some Jvm.ClassFile.FieldType.boolean)) ∈ tables_1 := List.mem_of_getElem? (i := 13) rfl
theorem own_t0 : (Jvm.Cond.fieldLink "khoplenh/RuleSetAllowsQuantityPinLaw" (7 : Nat) "khoplenh/RuleSet" "HOSE" "Lkhoplenh/RuleSet;") ∈ tables_1 := List.mem_of_getElem? (i := 0) rfl
def own_j0_1 (x1 : Int32) : Int32 := (if (((x1.toUInt32 >>> ((3 : Int32) &&& 31).toUInt32).toInt32) &&& (1 : Int32)) = (0 : Int32) then (1 : Int32) else (0 : Int32))
def own_j0_2 (y0 : Int64) (x1 : Int32) (x2 : Int32) : Int32 := (if (own_f1 y0 (x1 &&& (7 : Int32)) x2) < (1 : Int64) then (0 : Int32) else (1 : Int32))
def own_j0_3 (y0 : Int64) (x1 : Int32) (x2 : Int32) : Int32 := (if (((own_f1 y0 (x1 &&& (7 : Int32)) x2) / (100 : Int64)) * (100 : Int64)) = (own_f1 y0 (x1 &&& (7 : Int32)) x2) then (1 : Int32) else (0 : Int32))
def own_j0_4 (y0 : Int64) (x1 : Int32) (x2 : Int32) : Int32 := (if (own_j0_1 x1) = (0 : Int32) then (1 : Int32) else (if (500000 : Int64) < (own_f1 y0 (x1 &&& (7 : Int32)) x2) then (0 : Int32) else (1 : Int32)))
def own_j0_5 (y0 : Int64) (x1 : Int32) (x2 : Int32) : Int32 := (if (own_j0_2 y0 x1 x2) = (0 : Int32) then (0 : Int32) else (if (own_j0_3 y0 x1 x2) = (0 : Int32) then (0 : Int32) else (if (own_j0_4 y0 x1 x2) = (0 : Int32) then (0 : Int32) else (1 : Int32))))
def own_j0_6 (y0 : Int64) (x1 : Int32) (x2 : Int32) : Int32 := (if (own_f2 (own_f1 y0 (x1 &&& (7 : Int32)) x2) (100 : Int64) (9223372036854775807 : Int64)) = (own_j0_5 y0 x1 x2) then (1 : Int32) else (0 : Int32))
def own_j0_7 (y0 : Int64) (x1 : Int32) (x2 : Int32) : Int32 := (if (own_f1 y0 (x1 &&& (7 : Int32)) x2) < (1 : Int64) then (0 : Int32) else (1 : Int32))
def own_j0_8 (y0 : Int64) (x1 : Int32) (x2 : Int32) : Int32 := (if (((own_f1 y0 (x1 &&& (7 : Int32)) x2) / (100 : Int64)) * (100 : Int64)) = (own_f1 y0 (x1 &&& (7 : Int32)) x2) then (1 : Int32) else (0 : Int32))
def own_j0_9 (y0 : Int64) (x1 : Int32) (x2 : Int32) : Int32 := (if (own_j0_1 x1) = (0 : Int32) then (1 : Int32) else (if (500000 : Int64) < (own_f1 y0 (x1 &&& (7 : Int32)) x2) then (0 : Int32) else (1 : Int32)))
def own_j0_10 (y0 : Int64) (x1 : Int32) (x2 : Int32) : Int32 := (if (own_j0_7 y0 x1 x2) = (0 : Int32) then (0 : Int32) else (if (own_j0_8 y0 x1 x2) = (0 : Int32) then (0 : Int32) else (if (own_j0_9 y0 x1 x2) = (0 : Int32) then (0 : Int32) else (1 : Int32))))
def own_j0_11 (y0 : Int64) (x1 : Int32) (x2 : Int32) : Int32 := (if (own_f2 (own_f1 y0 (x1 &&& (7 : Int32)) x2) (100 : Int64) (500000 : Int64)) = (own_j0_10 y0 x1 x2) then (1 : Int32) else (0 : Int32))
def own_f0 (y0 : Int64) (x1 : Int32) (x2 : Int32) : Int32 := (if (own_j0_1 x1) = (0 : Int32) then ((own_j0_6 y0 x1 x2) &&& 1) else ((own_j0_11 y0 x1 x2) &&& 1))
def own_Q0 (y0 : Int64) (x1 : Int32) (x2 : Int32) (s_HOSE : Addr) (s_HNX : Addr) (h0 : Heap) (n0 : Nat) (v : Option Value) (h : Heap) (L : List Loc) : Prop := v = some (.int (own_f0 y0 x1 x2)) ∧ Fr n0 L ∧ True
theorem own_ef0 (m : MethodId) (z0 : Int64) (z1 : Int32) (z2 : Int32) : entryFrame m #[(.long z0), (.int z1), (.int z2)] maxLocals = mkF m 0 #[.val (.long z0), .second, .val (.int z1), .val (.int z2), .unset, .unset, .unset, .unset, .unset, .unset, .unset, .unset] [] := by first | (simp [entryFrame, mkF, argsToLocals, Value.category, maxLocals]; done) | rfl
set_option maxRecDepth 65536 in
set_option maxHeartbeats 40000000 in
theorem rm0 (l : Launch) (Z : State) (a0 : Array Value) (hw : ∀ d ∈ tables_1, d.before a0 Z = true) (ws : List Jvm.Cond) (y0 : Int64) (x1 : Int32) (x2 : Int32) (s_HOSE : Addr) (s_HNX : Addr) (h0 : Heap) (n0 : Nat) (E_HOSE : Exa Z h0 s_HOSE "khoplenh/RuleSet") (L_HOSE : Fld Z h0 s_HOSE "khoplenh/RuleSet" "lot" "J" (.long (100 : Int64))) (M_HOSE : Fld Z h0 s_HOSE "khoplenh/RuleSet" "maxQuantity" "J" (.long (500000 : Int64))) (E_HNX : Exa Z h0 s_HNX "khoplenh/RuleSet") (L_HNX : Fld Z h0 s_HNX "khoplenh/RuleSet" "lot" "J" (.long (100 : Int64))) (M_HNX : Fld Z h0 s_HNX "khoplenh/RuleSet" "maxQuantity" "J" (.long (9223372036854775807 : Int64))) (S_s_HOSE : Sta Z h0 "khoplenh/RuleSet" "HOSE" "Lkhoplenh/RuleSet;" (.ref s_HOSE)) (S_s_HNX : Sta Z h0 "khoplenh/RuleSet" "HNX" "Lkhoplenh/RuleSet;" (.ref s_HNX)) : own_Met l Z x code maxLocals ret ws room_1 #[(.long y0), (.int x1), (.int x2)] h0 (own_Q0 y0 x1 x2 s_HOSE s_HNX h0 n0) := by
  refine own_met (plainFor_of_name own_pn0) ?_
  intro p e s m below meth c s₁ hx hby hml hown hnm hret hlk hZ e0 X0
  have N0 := Fr.nil n0
  have hml : c.maxLocals = 12 := hml
  have hown : s.vm.findClass "khoplenh/RuleSetAllowsQuantityPinLaw" = some m.cls := hown
  have hret : meth.sig.returnType = (some .boolean) := hret
  have hby : c.code = code := hby
  have hnm : meth.name = "law" := hnm
  rw [own_ef0]
  show own_Goes p e below _ (s₁.setTop (mkF m 0 #[.val (.long y0), .second, .val (.int x1), .val (.int x2), .unset, .unset, .unset, .unset, .unset, .unset, .unset, .unset] []))
  refine own_go (fun t k => XS.iloadN X0.here hx rfl (hb hby at_0) rfl k) ?_
  show own_Goes p e below _ (s₁.setTop (mkF m 1 #[.val (.long y0), .second, .val (.int x1), .val (.int x2), .unset, .unset, .unset, .unset, .unset, .unset, .unset, .unset] [(.int x1)]))
  refine own_go (fun t k => XS.iconst X0.here hx rfl (hb hby at_1) k) ?_
  show own_Goes p e below _ (s₁.setTop (mkF m 2 #[.val (.long y0), .second, .val (.int x1), .val (.int x2), .unset, .unset, .unset, .unset, .unset, .unset, .unset, .unset] [(.int (3 : Int32)), (.int x1)]))
  refine own_go (fun t k => XS.iushr X0.here hx rfl (hb hby at_2) rfl k) ?_
  show own_Goes p e below _ (s₁.setTop (mkF m 3 #[.val (.long y0), .second, .val (.int x1), .val (.int x2), .unset, .unset, .unset, .unset, .unset, .unset, .unset, .unset] [(.int ((x1.toUInt32 >>> ((3 : Int32) &&& 31).toUInt32).toInt32))]))
  refine own_go (fun t k => XS.iconst X0.here hx rfl (hb hby at_3) k) ?_
  show own_Goes p e below _ (s₁.setTop (mkF m 4 #[.val (.long y0), .second, .val (.int x1), .val (.int x2), .unset, .unset, .unset, .unset, .unset, .unset, .unset, .unset] [(.int (1 : Int32)), (.int ((x1.toUInt32 >>> ((3 : Int32) &&& 31).toUInt32).toInt32))]))
  refine own_go (fun t k => XS.iand X0.here hx rfl (hb hby at_4) rfl k) ?_
  show own_Goes p e below _ (s₁.setTop (mkF m 5 #[.val (.long y0), .second, .val (.int x1), .val (.int x2), .unset, .unset, .unset, .unset, .unset, .unset, .unset, .unset] [(.int (((x1.toUInt32 >>> ((3 : Int32) &&& 31).toUInt32).toInt32) &&& (1 : Int32)))]))
  suffices HH15 : own_Goes p e below (own_End s room_1 (own_Q0 y0 x1 x2 s_HOSE s_HNX h0 n0)) (s₁.setTop (mkF m 13 #[.val (.long y0), .second, .val (.int x1), .val (.int x2), .unset, .unset, .unset, .unset, .unset, .unset, .unset, .unset] [(.int (own_j0_1 x1))])) by
    by_cases hc14 : (((x1.toUInt32 >>> ((3 : Int32) &&& 31).toUInt32).toInt32) &&& (1 : Int32)) = (0 : Int32)
    · refine own_go (fun t k => XS.ifNo X0.here hx rfl (hb hby at_5) rfl ((if0 _ _).trans (teq hc14).2) k) ?_
      show own_Goes p e below _ (s₁.setTop (mkF m 8 #[.val (.long y0), .second, .val (.int x1), .val (.int x2), .unset, .unset, .unset, .unset, .unset, .unset, .unset, .unset] []))
      refine own_go (fun t k => XS.iconst X0.here hx rfl (hb hby at_8) k) ?_
      show own_Goes p e below _ (s₁.setTop (mkF m 9 #[.val (.long y0), .second, .val (.int x1), .val (.int x2), .unset, .unset, .unset, .unset, .unset, .unset, .unset, .unset] [(.int (1 : Int32))]))
      refine own_go (fun t k => XS.goto X0.here hx rfl (pc0 := 9) (pc' := 13) rfl (hb hby at_9) (by decide) (by decide) k) ?_
      rw [show (own_j0_1 x1) = (1 : Int32) from by rw [own_j0_1, if_pos hc14]] at HH15
      exact HH15
    · refine own_go (fun t k => XS.ifYes X0.here hx rfl (pc0 := 5) (pc' := 12) rfl (hb hby at_5) rfl ((if0 _ _).trans (feq hc14).2) (by decide) (by decide) k) ?_
      show own_Goes p e below _ (s₁.setTop (mkF m 12 #[.val (.long y0), .second, .val (.int x1), .val (.int x2), .unset, .unset, .unset, .unset, .unset, .unset, .unset, .unset] []))
      refine own_go (fun t k => XS.iconst X0.here hx rfl (hb hby at_12) k) ?_
      rw [show (own_j0_1 x1) = (0 : Int32) from by rw [own_j0_1, if_neg hc14]] at HH15
      exact HH15
  show own_Goes p e below _ (s₁.setTop (mkF m 13 #[.val (.long y0), .second, .val (.int x1), .val (.int x2), .unset, .unset, .unset, .unset, .unset, .unset, .unset, .unset] [(.int (own_j0_1 x1))]))
  refine own_go (fun t k => XS.istore X0.here hx rfl (hb hby at_13) rfl (l' := #[.val (.long y0), .second, .val (.int x1), .val (.int x2), .val (.int (own_j0_1 x1)), .unset, .unset, .unset, .unset, .unset, .unset, .unset]) rfl k) ?_
  show own_Goes p e below _ (s₁.setTop (mkF m 15 #[.val (.long y0), .second, .val (.int x1), .val (.int x2), .val (.int (own_j0_1 x1)), .unset, .unset, .unset, .unset, .unset, .unset, .unset] []))
  refine own_go (fun t k => XS.iload X0.here hx rfl (hb hby at_15) rfl k) ?_
  show own_Goes p e below _ (s₁.setTop (mkF m 17 #[.val (.long y0), .second, .val (.int x1), .val (.int x2), .val (.int (own_j0_1 x1)), .unset, .unset, .unset, .unset, .unset, .unset, .unset] [(.int (own_j0_1 x1))]))
  by_cases hc16 : (own_j0_1 x1) = (0 : Int32)
  · refine own_go (fun t k => XS.ifYes X0.here hx rfl (pc0 := 17) (pc' := 26) rfl (hb hby at_17) rfl ((if0 _ _).trans (teq hc16).1) (by decide) (by decide) k) ?_
    show own_Goes p e below _ (s₁.setTop (mkF m 26 #[.val (.long y0), .second, .val (.int x1), .val (.int x2), .val (.int (own_j0_1 x1)), .unset, .unset, .unset, .unset, .unset, .unset, .unset] []))
    obtain ⟨T17, X17, e17, st17⟩ := getS2 X0 hx hZ hown (host := "") (Or.inl (hw _ own_t16)) Via.refl e0 S_s_HNX (g := (mkF m 26 #[.val (.long y0), .second, .val (.int x1), .val (.int x2), .val (.int (own_j0_1 x1)), .unset, .unset, .unset, .unset, .unset, .unset, .unset] [])) rfl (hb hby at_26)
    refine own_go st17 ?_
    show own_Goes p e below _ (T17.setTop (mkF m 29 #[.val (.long y0), .second, .val (.int x1), .val (.int x2), .val (.int (own_j0_1 x1)), .unset, .unset, .unset, .unset, .unset, .unset, .unset] [(.ref s_HNX)]))
    refine own_go (fun t k => XS.astore X17.here hx rfl (hb hby at_29) rfl rfl (l' := #[.val (.long y0), .second, .val (.int x1), .val (.int x2), .val (.int (own_j0_1 x1)), .val (.ref s_HNX), .unset, .unset, .unset, .unset, .unset, .unset]) rfl k) ?_
    show own_Goes p e below _ (T17.setTop (mkF m 31 #[.val (.long y0), .second, .val (.int x1), .val (.int x2), .val (.int (own_j0_1 x1)), .val (.ref s_HNX), .unset, .unset, .unset, .unset, .unset, .unset] []))
    refine own_go (fun t k => XS.lloadN X17.here hx rfl (hb hby at_31) rfl k) ?_
    show own_Goes p e below _ (T17.setTop (mkF m 32 #[.val (.long y0), .second, .val (.int x1), .val (.int x2), .val (.int (own_j0_1 x1)), .val (.ref s_HNX), .unset, .unset, .unset, .unset, .unset, .unset] [(.long y0)]))
    refine own_go (fun t k => XS.iloadN X17.here hx rfl (hb hby at_32) rfl k) ?_
    show own_Goes p e below _ (T17.setTop (mkF m 33 #[.val (.long y0), .second, .val (.int x1), .val (.int x2), .val (.int (own_j0_1 x1)), .val (.ref s_HNX), .unset, .unset, .unset, .unset, .unset, .unset] [(.int x1), (.long y0)]))
    refine own_go (fun t k => XS.bipush X17.here hx rfl (hb hby at_33) k) ?_
    show own_Goes p e below _ (T17.setTop (mkF m 35 #[.val (.long y0), .second, .val (.int x1), .val (.int x2), .val (.int (own_j0_1 x1)), .val (.ref s_HNX), .unset, .unset, .unset, .unset, .unset, .unset] [(.int (7 : Int32)), (.int x1), (.long y0)]))
    refine own_go (fun t k => XS.iand X17.here hx rfl (hb hby at_35) rfl k) ?_
    show own_Goes p e below _ (T17.setTop (mkF m 36 #[.val (.long y0), .second, .val (.int x1), .val (.int x2), .val (.int (own_j0_1 x1)), .val (.ref s_HNX), .unset, .unset, .unset, .unset, .unset, .unset] [(.int (x1 &&& (7 : Int32))), (.long y0)]))
    refine own_go (fun t k => XS.iloadN X17.here hx rfl (hb hby at_36) rfl k) ?_
    show own_Goes p e below _ (T17.setTop (mkF m 37 #[.val (.long y0), .second, .val (.int x1), .val (.int x2), .val (.int (own_j0_1 x1)), .val (.ref s_HNX), .unset, .unset, .unset, .unset, .unset, .unset] [(.int x2), (.int (x1 &&& (7 : Int32))), (.long y0)]))
    obtain ⟨_, T18, L18, X18, ⟨rfl, N18q, e18⟩, st18⟩ := own_callS X17 hx hZ hown (hw _ own_t3) (hw _ own_t4) (hw _ own_t5) (hw _ own_t6) (by decide) (as := [(.long y0), (.int (x1 &&& (7 : Int32))), (.int x2)]) (rm1 l Z a0 hw [] y0 (x1 &&& (7 : Int32)) x2 h0 n0) e17 own_pd0 rfl (pc := 37) (Ls := #[.val (.long y0), .second, .val (.int x1), .val (.int x2), .val (.int (own_j0_1 x1)), .val (.ref s_HNX), .unset, .unset, .unset, .unset, .unset, .unset]) (rest := []) (W := 0) (by rw [hml]; rfl) (Nat.le_of_eq rfl) (by decide) (by decide) (hb hby at_37) (by decide) (by decide)
    have N18 := Fr.app N0 N18q
    refine own_go st18 ?_
    show own_Goes p e below _ (T18.setTop (mkF m 40 #[.val (.long y0), .second, .val (.int x1), .val (.int x2), .val (.int (own_j0_1 x1)), .val (.ref s_HNX), .unset, .unset, .unset, .unset, .unset, .unset] [(.long (own_f1 y0 (x1 &&& (7 : Int32)) x2))]))
    refine own_go (fun t k => XS.lstore X18.here hx rfl (hb hby at_40) rfl (l' := #[.val (.long y0), .second, .val (.int x1), .val (.int x2), .val (.int (own_j0_1 x1)), .val (.ref s_HNX), .val (.long (own_f1 y0 (x1 &&& (7 : Int32)) x2)), .second, .unset, .unset, .unset, .unset]) rfl k) ?_
    show own_Goes p e below _ (T18.setTop (mkF m 42 #[.val (.long y0), .second, .val (.int x1), .val (.int x2), .val (.int (own_j0_1 x1)), .val (.ref s_HNX), .val (.long (own_f1 y0 (x1 &&& (7 : Int32)) x2)), .second, .unset, .unset, .unset, .unset] []))
    refine own_go (fun t k => XS.lload X18.here hx rfl (hb hby at_42) rfl k) ?_
    show own_Goes p e below _ (T18.setTop (mkF m 44 #[.val (.long y0), .second, .val (.int x1), .val (.int x2), .val (.int (own_j0_1 x1)), .val (.ref s_HNX), .val (.long (own_f1 y0 (x1 &&& (7 : Int32)) x2)), .second, .unset, .unset, .unset, .unset] [(.long (own_f1 y0 (x1 &&& (7 : Int32)) x2))]))
    refine own_go (fun t k => XS.lconst X18.here hx rfl (hb hby at_44) k) ?_
    show own_Goes p e below _ (T18.setTop (mkF m 45 #[.val (.long y0), .second, .val (.int x1), .val (.int x2), .val (.int (own_j0_1 x1)), .val (.ref s_HNX), .val (.long (own_f1 y0 (x1 &&& (7 : Int32)) x2)), .second, .unset, .unset, .unset, .unset] [(.long (1 : Int64)), (.long (own_f1 y0 (x1 &&& (7 : Int32)) x2))]))
    refine own_go (fun t k => XS.lcmp X18.here hx rfl (hb hby at_45) rfl k) ?_
    show own_Goes p e below _ (T18.setTop (mkF m 46 #[.val (.long y0), .second, .val (.int x1), .val (.int x2), .val (.int (own_j0_1 x1)), .val (.ref s_HNX), .val (.long (own_f1 y0 (x1 &&& (7 : Int32)) x2)), .second, .unset, .unset, .unset, .unset] [(.int (lcmpW (own_f1 y0 (x1 &&& (7 : Int32)) x2) (1 : Int64)))]))
    suffices HH20 : own_Goes p e below (own_End s room_1 (own_Q0 y0 x1 x2 s_HOSE s_HNX h0 n0)) (T18.setTop (mkF m 54 #[.val (.long y0), .second, .val (.int x1), .val (.int x2), .val (.int (own_j0_1 x1)), .val (.ref s_HNX), .val (.long (own_f1 y0 (x1 &&& (7 : Int32)) x2)), .second, .unset, .unset, .unset, .unset] [(.int (own_j0_2 y0 x1 x2))])) by
      by_cases hc19 : (own_f1 y0 (x1 &&& (7 : Int32)) x2) < (1 : Int64)
      · refine own_go (fun t k => XS.ifYes X18.here hx rfl (pc0 := 46) (pc' := 53) rfl (hb hby at_46) rfl ((if0 _ _).trans (tlt ((lw_lt _ _).mpr hc19)).1) (by decide) (by decide) k) ?_
        show own_Goes p e below _ (T18.setTop (mkF m 53 #[.val (.long y0), .second, .val (.int x1), .val (.int x2), .val (.int (own_j0_1 x1)), .val (.ref s_HNX), .val (.long (own_f1 y0 (x1 &&& (7 : Int32)) x2)), .second, .unset, .unset, .unset, .unset] []))
        refine own_go (fun t k => XS.iconst X18.here hx rfl (hb hby at_53) k) ?_
        rw [show (own_j0_2 y0 x1 x2) = (0 : Int32) from by rw [own_j0_2, if_pos hc19]] at HH20
        exact HH20
      · refine own_go (fun t k => XS.ifNo X18.here hx rfl (hb hby at_46) rfl ((if0 _ _).trans (flt (fun q => hc19 ((lw_lt _ _).mp q))).1) k) ?_
        show own_Goes p e below _ (T18.setTop (mkF m 49 #[.val (.long y0), .second, .val (.int x1), .val (.int x2), .val (.int (own_j0_1 x1)), .val (.ref s_HNX), .val (.long (own_f1 y0 (x1 &&& (7 : Int32)) x2)), .second, .unset, .unset, .unset, .unset] []))
        refine own_go (fun t k => XS.iconst X18.here hx rfl (hb hby at_49) k) ?_
        show own_Goes p e below _ (T18.setTop (mkF m 50 #[.val (.long y0), .second, .val (.int x1), .val (.int x2), .val (.int (own_j0_1 x1)), .val (.ref s_HNX), .val (.long (own_f1 y0 (x1 &&& (7 : Int32)) x2)), .second, .unset, .unset, .unset, .unset] [(.int (1 : Int32))]))
        refine own_go (fun t k => XS.goto X18.here hx rfl (pc0 := 50) (pc' := 54) rfl (hb hby at_50) (by decide) (by decide) k) ?_
        rw [show (own_j0_2 y0 x1 x2) = (1 : Int32) from by rw [own_j0_2, if_neg hc19]] at HH20
        exact HH20
    show own_Goes p e below _ (T18.setTop (mkF m 54 #[.val (.long y0), .second, .val (.int x1), .val (.int x2), .val (.int (own_j0_1 x1)), .val (.ref s_HNX), .val (.long (own_f1 y0 (x1 &&& (7 : Int32)) x2)), .second, .unset, .unset, .unset, .unset] [(.int (own_j0_2 y0 x1 x2))]))
    refine own_go (fun t k => XS.istore X18.here hx rfl (hb hby at_54) rfl (l' := #[.val (.long y0), .second, .val (.int x1), .val (.int x2), .val (.int (own_j0_1 x1)), .val (.ref s_HNX), .val (.long (own_f1 y0 (x1 &&& (7 : Int32)) x2)), .second, .val (.int (own_j0_2 y0 x1 x2)), .unset, .unset, .unset]) rfl k) ?_
    show own_Goes p e below _ (T18.setTop (mkF m 56 #[.val (.long y0), .second, .val (.int x1), .val (.int x2), .val (.int (own_j0_1 x1)), .val (.ref s_HNX), .val (.long (own_f1 y0 (x1 &&& (7 : Int32)) x2)), .second, .val (.int (own_j0_2 y0 x1 x2)), .unset, .unset, .unset] []))
    refine own_go (fun t k => XS.lload X18.here hx rfl (hb hby at_56) rfl k) ?_
    show own_Goes p e below _ (T18.setTop (mkF m 58 #[.val (.long y0), .second, .val (.int x1), .val (.int x2), .val (.int (own_j0_1 x1)), .val (.ref s_HNX), .val (.long (own_f1 y0 (x1 &&& (7 : Int32)) x2)), .second, .val (.int (own_j0_2 y0 x1 x2)), .unset, .unset, .unset] [(.long (own_f1 y0 (x1 &&& (7 : Int32)) x2))]))
    refine own_go (fun t k => X18.ldc2Long hx hown (mvT hZ (hw _ own_t8)) (g := (mkF m 58 #[.val (.long y0), .second, .val (.int x1), .val (.int x2), .val (.int (own_j0_1 x1)), .val (.ref s_HNX), .val (.long (own_f1 y0 (x1 &&& (7 : Int32)) x2)), .second, .val (.int (own_j0_2 y0 x1 x2)), .unset, .unset, .unset] [(.long (own_f1 y0 (x1 &&& (7 : Int32)) x2))])) rfl (hb hby at_58) t k) ?_
    show own_Goes p e below _ (T18.setTop (mkF m 61 #[.val (.long y0), .second, .val (.int x1), .val (.int x2), .val (.int (own_j0_1 x1)), .val (.ref s_HNX), .val (.long (own_f1 y0 (x1 &&& (7 : Int32)) x2)), .second, .val (.int (own_j0_2 y0 x1 x2)), .unset, .unset, .unset] [(.long (100 : Int64)), (.long (own_f1 y0 (x1 &&& (7 : Int32)) x2))]))
    refine own_go (fun t k => XS.ldiv X18.here hx rfl (hb hby at_61) rfl (by decide) k) ?_
    show own_Goes p e below _ (T18.setTop (mkF m 62 #[.val (.long y0), .second, .val (.int x1), .val (.int x2), .val (.int (own_j0_1 x1)), .val (.ref s_HNX), .val (.long (own_f1 y0 (x1 &&& (7 : Int32)) x2)), .second, .val (.int (own_j0_2 y0 x1 x2)), .unset, .unset, .unset] [(.long ((own_f1 y0 (x1 &&& (7 : Int32)) x2) / (100 : Int64)))]))
    refine own_go (fun t k => X18.ldc2Long hx hown (mvT hZ (hw _ own_t8)) (g := (mkF m 62 #[.val (.long y0), .second, .val (.int x1), .val (.int x2), .val (.int (own_j0_1 x1)), .val (.ref s_HNX), .val (.long (own_f1 y0 (x1 &&& (7 : Int32)) x2)), .second, .val (.int (own_j0_2 y0 x1 x2)), .unset, .unset, .unset] [(.long ((own_f1 y0 (x1 &&& (7 : Int32)) x2) / (100 : Int64)))])) rfl (hb hby at_62) t k) ?_
    show own_Goes p e below _ (T18.setTop (mkF m 65 #[.val (.long y0), .second, .val (.int x1), .val (.int x2), .val (.int (own_j0_1 x1)), .val (.ref s_HNX), .val (.long (own_f1 y0 (x1 &&& (7 : Int32)) x2)), .second, .val (.int (own_j0_2 y0 x1 x2)), .unset, .unset, .unset] [(.long (100 : Int64)), (.long ((own_f1 y0 (x1 &&& (7 : Int32)) x2) / (100 : Int64)))]))
    refine own_go (fun t k => XS.lmul X18.here hx rfl (hb hby at_65) rfl k) ?_
    show own_Goes p e below _ (T18.setTop (mkF m 66 #[.val (.long y0), .second, .val (.int x1), .val (.int x2), .val (.int (own_j0_1 x1)), .val (.ref s_HNX), .val (.long (own_f1 y0 (x1 &&& (7 : Int32)) x2)), .second, .val (.int (own_j0_2 y0 x1 x2)), .unset, .unset, .unset] [(.long (((own_f1 y0 (x1 &&& (7 : Int32)) x2) / (100 : Int64)) * (100 : Int64)))]))
    refine own_go (fun t k => XS.lload X18.here hx rfl (hb hby at_66) rfl k) ?_
    show own_Goes p e below _ (T18.setTop (mkF m 68 #[.val (.long y0), .second, .val (.int x1), .val (.int x2), .val (.int (own_j0_1 x1)), .val (.ref s_HNX), .val (.long (own_f1 y0 (x1 &&& (7 : Int32)) x2)), .second, .val (.int (own_j0_2 y0 x1 x2)), .unset, .unset, .unset] [(.long (own_f1 y0 (x1 &&& (7 : Int32)) x2)), (.long (((own_f1 y0 (x1 &&& (7 : Int32)) x2) / (100 : Int64)) * (100 : Int64)))]))
    refine own_go (fun t k => XS.lcmp X18.here hx rfl (hb hby at_68) rfl k) ?_
    show own_Goes p e below _ (T18.setTop (mkF m 69 #[.val (.long y0), .second, .val (.int x1), .val (.int x2), .val (.int (own_j0_1 x1)), .val (.ref s_HNX), .val (.long (own_f1 y0 (x1 &&& (7 : Int32)) x2)), .second, .val (.int (own_j0_2 y0 x1 x2)), .unset, .unset, .unset] [(.int (lcmpW (((own_f1 y0 (x1 &&& (7 : Int32)) x2) / (100 : Int64)) * (100 : Int64)) (own_f1 y0 (x1 &&& (7 : Int32)) x2)))]))
    suffices HH22 : own_Goes p e below (own_End s room_1 (own_Q0 y0 x1 x2 s_HOSE s_HNX h0 n0)) (T18.setTop (mkF m 77 #[.val (.long y0), .second, .val (.int x1), .val (.int x2), .val (.int (own_j0_1 x1)), .val (.ref s_HNX), .val (.long (own_f1 y0 (x1 &&& (7 : Int32)) x2)), .second, .val (.int (own_j0_2 y0 x1 x2)), .unset, .unset, .unset] [(.int (own_j0_3 y0 x1 x2))])) by
      by_cases hc21 : (((own_f1 y0 (x1 &&& (7 : Int32)) x2) / (100 : Int64)) * (100 : Int64)) = (own_f1 y0 (x1 &&& (7 : Int32)) x2)
      · refine own_go (fun t k => XS.ifNo X18.here hx rfl (hb hby at_69) rfl ((if0 _ _).trans (teq ((lw_eq _ _).mpr hc21)).2) k) ?_
        show own_Goes p e below _ (T18.setTop (mkF m 72 #[.val (.long y0), .second, .val (.int x1), .val (.int x2), .val (.int (own_j0_1 x1)), .val (.ref s_HNX), .val (.long (own_f1 y0 (x1 &&& (7 : Int32)) x2)), .second, .val (.int (own_j0_2 y0 x1 x2)), .unset, .unset, .unset] []))
        refine own_go (fun t k => XS.iconst X18.here hx rfl (hb hby at_72) k) ?_
        show own_Goes p e below _ (T18.setTop (mkF m 73 #[.val (.long y0), .second, .val (.int x1), .val (.int x2), .val (.int (own_j0_1 x1)), .val (.ref s_HNX), .val (.long (own_f1 y0 (x1 &&& (7 : Int32)) x2)), .second, .val (.int (own_j0_2 y0 x1 x2)), .unset, .unset, .unset] [(.int (1 : Int32))]))
        refine own_go (fun t k => XS.goto X18.here hx rfl (pc0 := 73) (pc' := 77) rfl (hb hby at_73) (by decide) (by decide) k) ?_
        rw [show (own_j0_3 y0 x1 x2) = (1 : Int32) from by rw [own_j0_3, if_pos hc21]] at HH22
        exact HH22
      · refine own_go (fun t k => XS.ifYes X18.here hx rfl (pc0 := 69) (pc' := 76) rfl (hb hby at_69) rfl ((if0 _ _).trans (feq (fun q => hc21 ((lw_eq _ _).mp q))).2) (by decide) (by decide) k) ?_
        show own_Goes p e below _ (T18.setTop (mkF m 76 #[.val (.long y0), .second, .val (.int x1), .val (.int x2), .val (.int (own_j0_1 x1)), .val (.ref s_HNX), .val (.long (own_f1 y0 (x1 &&& (7 : Int32)) x2)), .second, .val (.int (own_j0_2 y0 x1 x2)), .unset, .unset, .unset] []))
        refine own_go (fun t k => XS.iconst X18.here hx rfl (hb hby at_76) k) ?_
        rw [show (own_j0_3 y0 x1 x2) = (0 : Int32) from by rw [own_j0_3, if_neg hc21]] at HH22
        exact HH22
    show own_Goes p e below _ (T18.setTop (mkF m 77 #[.val (.long y0), .second, .val (.int x1), .val (.int x2), .val (.int (own_j0_1 x1)), .val (.ref s_HNX), .val (.long (own_f1 y0 (x1 &&& (7 : Int32)) x2)), .second, .val (.int (own_j0_2 y0 x1 x2)), .unset, .unset, .unset] [(.int (own_j0_3 y0 x1 x2))]))
    refine own_go (fun t k => XS.istore X18.here hx rfl (hb hby at_77) rfl (l' := #[.val (.long y0), .second, .val (.int x1), .val (.int x2), .val (.int (own_j0_1 x1)), .val (.ref s_HNX), .val (.long (own_f1 y0 (x1 &&& (7 : Int32)) x2)), .second, .val (.int (own_j0_2 y0 x1 x2)), .val (.int (own_j0_3 y0 x1 x2)), .unset, .unset]) rfl k) ?_
    show own_Goes p e below _ (T18.setTop (mkF m 79 #[.val (.long y0), .second, .val (.int x1), .val (.int x2), .val (.int (own_j0_1 x1)), .val (.ref s_HNX), .val (.long (own_f1 y0 (x1 &&& (7 : Int32)) x2)), .second, .val (.int (own_j0_2 y0 x1 x2)), .val (.int (own_j0_3 y0 x1 x2)), .unset, .unset] []))
    refine own_go (fun t k => XS.iload X18.here hx rfl (hb hby at_79) rfl k) ?_
    show own_Goes p e below _ (T18.setTop (mkF m 81 #[.val (.long y0), .second, .val (.int x1), .val (.int x2), .val (.int (own_j0_1 x1)), .val (.ref s_HNX), .val (.long (own_f1 y0 (x1 &&& (7 : Int32)) x2)), .second, .val (.int (own_j0_2 y0 x1 x2)), .val (.int (own_j0_3 y0 x1 x2)), .unset, .unset] [(.int (own_j0_1 x1))]))
    suffices HH25 : own_Goes p e below (own_End s room_1 (own_Q0 y0 x1 x2 s_HOSE s_HNX h0 n0)) (T18.setTop (mkF m 102 #[.val (.long y0), .second, .val (.int x1), .val (.int x2), .val (.int (own_j0_1 x1)), .val (.ref s_HNX), .val (.long (own_f1 y0 (x1 &&& (7 : Int32)) x2)), .second, .val (.int (own_j0_2 y0 x1 x2)), .val (.int (own_j0_3 y0 x1 x2)), .unset, .unset] [(.int (own_j0_4 y0 x1 x2))])) by
      by_cases hc23 : (own_j0_1 x1) = (0 : Int32)
      · refine own_go (fun t k => XS.ifYes X18.here hx rfl (pc0 := 81) (pc' := 101) rfl (hb hby at_81) rfl ((if0 _ _).trans (teq hc23).1) (by decide) (by decide) k) ?_
        show own_Goes p e below _ (T18.setTop (mkF m 101 #[.val (.long y0), .second, .val (.int x1), .val (.int x2), .val (.int (own_j0_1 x1)), .val (.ref s_HNX), .val (.long (own_f1 y0 (x1 &&& (7 : Int32)) x2)), .second, .val (.int (own_j0_2 y0 x1 x2)), .val (.int (own_j0_3 y0 x1 x2)), .unset, .unset] []))
        refine own_go (fun t k => XS.iconst X18.here hx rfl (hb hby at_101) k) ?_
        rw [show (own_j0_4 y0 x1 x2) = (1 : Int32) from by rw [own_j0_4, if_pos hc23]] at HH25
        exact HH25
      · refine own_go (fun t k => XS.ifNo X18.here hx rfl (hb hby at_81) rfl ((if0 _ _).trans (feq hc23).1) k) ?_
        show own_Goes p e below _ (T18.setTop (mkF m 84 #[.val (.long y0), .second, .val (.int x1), .val (.int x2), .val (.int (own_j0_1 x1)), .val (.ref s_HNX), .val (.long (own_f1 y0 (x1 &&& (7 : Int32)) x2)), .second, .val (.int (own_j0_2 y0 x1 x2)), .val (.int (own_j0_3 y0 x1 x2)), .unset, .unset] []))
        refine own_go (fun t k => XS.lload X18.here hx rfl (hb hby at_84) rfl k) ?_
        show own_Goes p e below _ (T18.setTop (mkF m 86 #[.val (.long y0), .second, .val (.int x1), .val (.int x2), .val (.int (own_j0_1 x1)), .val (.ref s_HNX), .val (.long (own_f1 y0 (x1 &&& (7 : Int32)) x2)), .second, .val (.int (own_j0_2 y0 x1 x2)), .val (.int (own_j0_3 y0 x1 x2)), .unset, .unset] [(.long (own_f1 y0 (x1 &&& (7 : Int32)) x2))]))
        refine own_go (fun t k => X18.ldc2Long hx hown (mvT hZ (hw _ own_t7)) (g := (mkF m 86 #[.val (.long y0), .second, .val (.int x1), .val (.int x2), .val (.int (own_j0_1 x1)), .val (.ref s_HNX), .val (.long (own_f1 y0 (x1 &&& (7 : Int32)) x2)), .second, .val (.int (own_j0_2 y0 x1 x2)), .val (.int (own_j0_3 y0 x1 x2)), .unset, .unset] [(.long (own_f1 y0 (x1 &&& (7 : Int32)) x2))])) rfl (hb hby at_86) t k) ?_
        show own_Goes p e below _ (T18.setTop (mkF m 89 #[.val (.long y0), .second, .val (.int x1), .val (.int x2), .val (.int (own_j0_1 x1)), .val (.ref s_HNX), .val (.long (own_f1 y0 (x1 &&& (7 : Int32)) x2)), .second, .val (.int (own_j0_2 y0 x1 x2)), .val (.int (own_j0_3 y0 x1 x2)), .unset, .unset] [(.long (500000 : Int64)), (.long (own_f1 y0 (x1 &&& (7 : Int32)) x2))]))
        refine own_go (fun t k => XS.lcmp X18.here hx rfl (hb hby at_89) rfl k) ?_
        show own_Goes p e below _ (T18.setTop (mkF m 90 #[.val (.long y0), .second, .val (.int x1), .val (.int x2), .val (.int (own_j0_1 x1)), .val (.ref s_HNX), .val (.long (own_f1 y0 (x1 &&& (7 : Int32)) x2)), .second, .val (.int (own_j0_2 y0 x1 x2)), .val (.int (own_j0_3 y0 x1 x2)), .unset, .unset] [(.int (lcmpW (own_f1 y0 (x1 &&& (7 : Int32)) x2) (500000 : Int64)))]))
        by_cases hc24 : (500000 : Int64) < (own_f1 y0 (x1 &&& (7 : Int32)) x2)
        · refine own_go (fun t k => XS.ifYes X18.here hx rfl (pc0 := 90) (pc' := 97) rfl (hb hby at_90) rfl ((if0 _ _).trans (tlt ((lw_gt _ _).mpr hc24)).2.2.1) (by decide) (by decide) k) ?_
          show own_Goes p e below _ (T18.setTop (mkF m 97 #[.val (.long y0), .second, .val (.int x1), .val (.int x2), .val (.int (own_j0_1 x1)), .val (.ref s_HNX), .val (.long (own_f1 y0 (x1 &&& (7 : Int32)) x2)), .second, .val (.int (own_j0_2 y0 x1 x2)), .val (.int (own_j0_3 y0 x1 x2)), .unset, .unset] []))
          refine own_go (fun t k => XS.iconst X18.here hx rfl (hb hby at_97) k) ?_
          show own_Goes p e below _ (T18.setTop (mkF m 98 #[.val (.long y0), .second, .val (.int x1), .val (.int x2), .val (.int (own_j0_1 x1)), .val (.ref s_HNX), .val (.long (own_f1 y0 (x1 &&& (7 : Int32)) x2)), .second, .val (.int (own_j0_2 y0 x1 x2)), .val (.int (own_j0_3 y0 x1 x2)), .unset, .unset] [(.int (0 : Int32))]))
          refine own_go (fun t k => XS.goto X18.here hx rfl (pc0 := 98) (pc' := 102) rfl (hb hby at_98) (by decide) (by decide) k) ?_
          rw [show (own_j0_4 y0 x1 x2) = (0 : Int32) from by rw [own_j0_4, if_neg hc23, if_pos hc24]] at HH25
          exact HH25
        · refine own_go (fun t k => XS.ifNo X18.here hx rfl (hb hby at_90) rfl ((if0 _ _).trans (flt (fun q => hc24 ((lw_gt _ _).mp q))).2.2.1) k) ?_
          show own_Goes p e below _ (T18.setTop (mkF m 93 #[.val (.long y0), .second, .val (.int x1), .val (.int x2), .val (.int (own_j0_1 x1)), .val (.ref s_HNX), .val (.long (own_f1 y0 (x1 &&& (7 : Int32)) x2)), .second, .val (.int (own_j0_2 y0 x1 x2)), .val (.int (own_j0_3 y0 x1 x2)), .unset, .unset] []))
          refine own_go (fun t k => XS.iconst X18.here hx rfl (hb hby at_93) k) ?_
          show own_Goes p e below _ (T18.setTop (mkF m 94 #[.val (.long y0), .second, .val (.int x1), .val (.int x2), .val (.int (own_j0_1 x1)), .val (.ref s_HNX), .val (.long (own_f1 y0 (x1 &&& (7 : Int32)) x2)), .second, .val (.int (own_j0_2 y0 x1 x2)), .val (.int (own_j0_3 y0 x1 x2)), .unset, .unset] [(.int (1 : Int32))]))
          refine own_go (fun t k => XS.goto X18.here hx rfl (pc0 := 94) (pc' := 102) rfl (hb hby at_94) (by decide) (by decide) k) ?_
          rw [show (own_j0_4 y0 x1 x2) = (1 : Int32) from by rw [own_j0_4, if_neg hc23, if_neg hc24]] at HH25
          exact HH25
    show own_Goes p e below _ (T18.setTop (mkF m 102 #[.val (.long y0), .second, .val (.int x1), .val (.int x2), .val (.int (own_j0_1 x1)), .val (.ref s_HNX), .val (.long (own_f1 y0 (x1 &&& (7 : Int32)) x2)), .second, .val (.int (own_j0_2 y0 x1 x2)), .val (.int (own_j0_3 y0 x1 x2)), .unset, .unset] [(.int (own_j0_4 y0 x1 x2))]))
    refine own_go (fun t k => XS.istore X18.here hx rfl (hb hby at_102) rfl (l' := #[.val (.long y0), .second, .val (.int x1), .val (.int x2), .val (.int (own_j0_1 x1)), .val (.ref s_HNX), .val (.long (own_f1 y0 (x1 &&& (7 : Int32)) x2)), .second, .val (.int (own_j0_2 y0 x1 x2)), .val (.int (own_j0_3 y0 x1 x2)), .val (.int (own_j0_4 y0 x1 x2)), .unset]) rfl k) ?_
    show own_Goes p e below _ (T18.setTop (mkF m 104 #[.val (.long y0), .second, .val (.int x1), .val (.int x2), .val (.int (own_j0_1 x1)), .val (.ref s_HNX), .val (.long (own_f1 y0 (x1 &&& (7 : Int32)) x2)), .second, .val (.int (own_j0_2 y0 x1 x2)), .val (.int (own_j0_3 y0 x1 x2)), .val (.int (own_j0_4 y0 x1 x2)), .unset] []))
    refine own_go (fun t k => XS.iload X18.here hx rfl (hb hby at_104) rfl k) ?_
    show own_Goes p e below _ (T18.setTop (mkF m 106 #[.val (.long y0), .second, .val (.int x1), .val (.int x2), .val (.int (own_j0_1 x1)), .val (.ref s_HNX), .val (.long (own_f1 y0 (x1 &&& (7 : Int32)) x2)), .second, .val (.int (own_j0_2 y0 x1 x2)), .val (.int (own_j0_3 y0 x1 x2)), .val (.int (own_j0_4 y0 x1 x2)), .unset] [(.int (own_j0_2 y0 x1 x2))]))
    suffices HH29 : own_Goes p e below (own_End s room_1 (own_Q0 y0 x1 x2 s_HOSE s_HNX h0 n0)) (T18.setTop (mkF m 124 #[.val (.long y0), .second, .val (.int x1), .val (.int x2), .val (.int (own_j0_1 x1)), .val (.ref s_HNX), .val (.long (own_f1 y0 (x1 &&& (7 : Int32)) x2)), .second, .val (.int (own_j0_2 y0 x1 x2)), .val (.int (own_j0_3 y0 x1 x2)), .val (.int (own_j0_4 y0 x1 x2)), .unset] [(.int (own_j0_5 y0 x1 x2))])) by
      by_cases hc26 : (own_j0_2 y0 x1 x2) = (0 : Int32)
      · refine own_go (fun t k => XS.ifYes X18.here hx rfl (pc0 := 106) (pc' := 123) rfl (hb hby at_106) rfl ((if0 _ _).trans (teq hc26).1) (by decide) (by decide) k) ?_
        show own_Goes p e below _ (T18.setTop (mkF m 123 #[.val (.long y0), .second, .val (.int x1), .val (.int x2), .val (.int (own_j0_1 x1)), .val (.ref s_HNX), .val (.long (own_f1 y0 (x1 &&& (7 : Int32)) x2)), .second, .val (.int (own_j0_2 y0 x1 x2)), .val (.int (own_j0_3 y0 x1 x2)), .val (.int (own_j0_4 y0 x1 x2)), .unset] []))
        refine own_go (fun t k => XS.iconst X18.here hx rfl (hb hby at_123) k) ?_
        rw [show (own_j0_5 y0 x1 x2) = (0 : Int32) from by rw [own_j0_5, if_pos hc26]] at HH29
        exact HH29
      · refine own_go (fun t k => XS.ifNo X18.here hx rfl (hb hby at_106) rfl ((if0 _ _).trans (feq hc26).1) k) ?_
        show own_Goes p e below _ (T18.setTop (mkF m 109 #[.val (.long y0), .second, .val (.int x1), .val (.int x2), .val (.int (own_j0_1 x1)), .val (.ref s_HNX), .val (.long (own_f1 y0 (x1 &&& (7 : Int32)) x2)), .second, .val (.int (own_j0_2 y0 x1 x2)), .val (.int (own_j0_3 y0 x1 x2)), .val (.int (own_j0_4 y0 x1 x2)), .unset] []))
        refine own_go (fun t k => XS.iload X18.here hx rfl (hb hby at_109) rfl k) ?_
        show own_Goes p e below _ (T18.setTop (mkF m 111 #[.val (.long y0), .second, .val (.int x1), .val (.int x2), .val (.int (own_j0_1 x1)), .val (.ref s_HNX), .val (.long (own_f1 y0 (x1 &&& (7 : Int32)) x2)), .second, .val (.int (own_j0_2 y0 x1 x2)), .val (.int (own_j0_3 y0 x1 x2)), .val (.int (own_j0_4 y0 x1 x2)), .unset] [(.int (own_j0_3 y0 x1 x2))]))
        by_cases hc27 : (own_j0_3 y0 x1 x2) = (0 : Int32)
        · refine own_go (fun t k => XS.ifYes X18.here hx rfl (pc0 := 111) (pc' := 123) rfl (hb hby at_111) rfl ((if0 _ _).trans (teq hc27).1) (by decide) (by decide) k) ?_
          show own_Goes p e below _ (T18.setTop (mkF m 123 #[.val (.long y0), .second, .val (.int x1), .val (.int x2), .val (.int (own_j0_1 x1)), .val (.ref s_HNX), .val (.long (own_f1 y0 (x1 &&& (7 : Int32)) x2)), .second, .val (.int (own_j0_2 y0 x1 x2)), .val (.int (own_j0_3 y0 x1 x2)), .val (.int (own_j0_4 y0 x1 x2)), .unset] []))
          refine own_go (fun t k => XS.iconst X18.here hx rfl (hb hby at_123) k) ?_
          rw [show (own_j0_5 y0 x1 x2) = (0 : Int32) from by rw [own_j0_5, if_neg hc26, if_pos hc27]] at HH29
          exact HH29
        · refine own_go (fun t k => XS.ifNo X18.here hx rfl (hb hby at_111) rfl ((if0 _ _).trans (feq hc27).1) k) ?_
          show own_Goes p e below _ (T18.setTop (mkF m 114 #[.val (.long y0), .second, .val (.int x1), .val (.int x2), .val (.int (own_j0_1 x1)), .val (.ref s_HNX), .val (.long (own_f1 y0 (x1 &&& (7 : Int32)) x2)), .second, .val (.int (own_j0_2 y0 x1 x2)), .val (.int (own_j0_3 y0 x1 x2)), .val (.int (own_j0_4 y0 x1 x2)), .unset] []))
          refine own_go (fun t k => XS.iload X18.here hx rfl (hb hby at_114) rfl k) ?_
          show own_Goes p e below _ (T18.setTop (mkF m 116 #[.val (.long y0), .second, .val (.int x1), .val (.int x2), .val (.int (own_j0_1 x1)), .val (.ref s_HNX), .val (.long (own_f1 y0 (x1 &&& (7 : Int32)) x2)), .second, .val (.int (own_j0_2 y0 x1 x2)), .val (.int (own_j0_3 y0 x1 x2)), .val (.int (own_j0_4 y0 x1 x2)), .unset] [(.int (own_j0_4 y0 x1 x2))]))
          by_cases hc28 : (own_j0_4 y0 x1 x2) = (0 : Int32)
          · refine own_go (fun t k => XS.ifYes X18.here hx rfl (pc0 := 116) (pc' := 123) rfl (hb hby at_116) rfl ((if0 _ _).trans (teq hc28).1) (by decide) (by decide) k) ?_
            show own_Goes p e below _ (T18.setTop (mkF m 123 #[.val (.long y0), .second, .val (.int x1), .val (.int x2), .val (.int (own_j0_1 x1)), .val (.ref s_HNX), .val (.long (own_f1 y0 (x1 &&& (7 : Int32)) x2)), .second, .val (.int (own_j0_2 y0 x1 x2)), .val (.int (own_j0_3 y0 x1 x2)), .val (.int (own_j0_4 y0 x1 x2)), .unset] []))
            refine own_go (fun t k => XS.iconst X18.here hx rfl (hb hby at_123) k) ?_
            rw [show (own_j0_5 y0 x1 x2) = (0 : Int32) from by rw [own_j0_5, if_neg hc26, if_neg hc27, if_pos hc28]] at HH29
            exact HH29
          · refine own_go (fun t k => XS.ifNo X18.here hx rfl (hb hby at_116) rfl ((if0 _ _).trans (feq hc28).1) k) ?_
            show own_Goes p e below _ (T18.setTop (mkF m 119 #[.val (.long y0), .second, .val (.int x1), .val (.int x2), .val (.int (own_j0_1 x1)), .val (.ref s_HNX), .val (.long (own_f1 y0 (x1 &&& (7 : Int32)) x2)), .second, .val (.int (own_j0_2 y0 x1 x2)), .val (.int (own_j0_3 y0 x1 x2)), .val (.int (own_j0_4 y0 x1 x2)), .unset] []))
            refine own_go (fun t k => XS.iconst X18.here hx rfl (hb hby at_119) k) ?_
            show own_Goes p e below _ (T18.setTop (mkF m 120 #[.val (.long y0), .second, .val (.int x1), .val (.int x2), .val (.int (own_j0_1 x1)), .val (.ref s_HNX), .val (.long (own_f1 y0 (x1 &&& (7 : Int32)) x2)), .second, .val (.int (own_j0_2 y0 x1 x2)), .val (.int (own_j0_3 y0 x1 x2)), .val (.int (own_j0_4 y0 x1 x2)), .unset] [(.int (1 : Int32))]))
            refine own_go (fun t k => XS.goto X18.here hx rfl (pc0 := 120) (pc' := 124) rfl (hb hby at_120) (by decide) (by decide) k) ?_
            rw [show (own_j0_5 y0 x1 x2) = (1 : Int32) from by rw [own_j0_5, if_neg hc26, if_neg hc27, if_neg hc28]] at HH29
            exact HH29
    show own_Goes p e below _ (T18.setTop (mkF m 124 #[.val (.long y0), .second, .val (.int x1), .val (.int x2), .val (.int (own_j0_1 x1)), .val (.ref s_HNX), .val (.long (own_f1 y0 (x1 &&& (7 : Int32)) x2)), .second, .val (.int (own_j0_2 y0 x1 x2)), .val (.int (own_j0_3 y0 x1 x2)), .val (.int (own_j0_4 y0 x1 x2)), .unset] [(.int (own_j0_5 y0 x1 x2))]))
    refine own_go (fun t k => XS.istore X18.here hx rfl (hb hby at_124) rfl (l' := #[.val (.long y0), .second, .val (.int x1), .val (.int x2), .val (.int (own_j0_1 x1)), .val (.ref s_HNX), .val (.long (own_f1 y0 (x1 &&& (7 : Int32)) x2)), .second, .val (.int (own_j0_2 y0 x1 x2)), .val (.int (own_j0_3 y0 x1 x2)), .val (.int (own_j0_4 y0 x1 x2)), .val (.int (own_j0_5 y0 x1 x2))]) rfl k) ?_
    show own_Goes p e below _ (T18.setTop (mkF m 126 #[.val (.long y0), .second, .val (.int x1), .val (.int x2), .val (.int (own_j0_1 x1)), .val (.ref s_HNX), .val (.long (own_f1 y0 (x1 &&& (7 : Int32)) x2)), .second, .val (.int (own_j0_2 y0 x1 x2)), .val (.int (own_j0_3 y0 x1 x2)), .val (.int (own_j0_4 y0 x1 x2)), .val (.int (own_j0_5 y0 x1 x2))] []))
    refine own_go (fun t k => XS.aload X18.here hx rfl (hb hby at_126) rfl rfl k) ?_
    show own_Goes p e below _ (T18.setTop (mkF m 128 #[.val (.long y0), .second, .val (.int x1), .val (.int x2), .val (.int (own_j0_1 x1)), .val (.ref s_HNX), .val (.long (own_f1 y0 (x1 &&& (7 : Int32)) x2)), .second, .val (.int (own_j0_2 y0 x1 x2)), .val (.int (own_j0_3 y0 x1 x2)), .val (.int (own_j0_4 y0 x1 x2)), .val (.int (own_j0_5 y0 x1 x2))] [(.ref s_HNX)]))
    refine own_go (fun t k => XS.lload X18.here hx rfl (hb hby at_128) rfl k) ?_
    show own_Goes p e below _ (T18.setTop (mkF m 130 #[.val (.long y0), .second, .val (.int x1), .val (.int x2), .val (.int (own_j0_1 x1)), .val (.ref s_HNX), .val (.long (own_f1 y0 (x1 &&& (7 : Int32)) x2)), .second, .val (.int (own_j0_2 y0 x1 x2)), .val (.int (own_j0_3 y0 x1 x2)), .val (.int (own_j0_4 y0 x1 x2)), .val (.int (own_j0_5 y0 x1 x2))] [(.long (own_f1 y0 (x1 &&& (7 : Int32)) x2)), (.ref s_HNX)]))
    obtain ⟨_, T30, L30, X30, ⟨rfl, N30q, e30⟩, st30⟩ := own_callV X18 hx hZ hown (hw _ own_t9) (hw _ own_t10) (hw _ own_t12) (hw _ own_t11) (hw _ own_t1) (hw _ own_t13) (by decide) (b := s_HNX) (as := [(.long (own_f1 y0 (x1 &&& (7 : Int32)) x2))]) (rm2 l Z a0 hw [] s_HNX (own_f1 y0 (x1 &&& (7 : Int32)) x2) (100 : Int64) (9223372036854775807 : Int64) h0 n0 L_HNX M_HNX (by decide)) e18 E_HNX own_pd1 rfl (pc := 130) (Ls := #[.val (.long y0), .second, .val (.int x1), .val (.int x2), .val (.int (own_j0_1 x1)), .val (.ref s_HNX), .val (.long (own_f1 y0 (x1 &&& (7 : Int32)) x2)), .second, .val (.int (own_j0_2 y0 x1 x2)), .val (.int (own_j0_3 y0 x1 x2)), .val (.int (own_j0_4 y0 x1 x2)), .val (.int (own_j0_5 y0 x1 x2))]) (rest := []) (W := 0) (by rw [hml]; rfl) (Nat.le_of_eq rfl) (by decide) (by decide) (hb hby at_130) (by decide) (by decide)
    have N30 := Fr.app N18 N30q
    refine own_go st30 ?_
    show own_Goes p e below _ (T30.setTop (mkF m 133 #[.val (.long y0), .second, .val (.int x1), .val (.int x2), .val (.int (own_j0_1 x1)), .val (.ref s_HNX), .val (.long (own_f1 y0 (x1 &&& (7 : Int32)) x2)), .second, .val (.int (own_j0_2 y0 x1 x2)), .val (.int (own_j0_3 y0 x1 x2)), .val (.int (own_j0_4 y0 x1 x2)), .val (.int (own_j0_5 y0 x1 x2))] [(.int (own_f2 (own_f1 y0 (x1 &&& (7 : Int32)) x2) (100 : Int64) (9223372036854775807 : Int64)))]))
    refine own_go (fun t k => XS.iload X30.here hx rfl (hb hby at_133) rfl k) ?_
    show own_Goes p e below _ (T30.setTop (mkF m 135 #[.val (.long y0), .second, .val (.int x1), .val (.int x2), .val (.int (own_j0_1 x1)), .val (.ref s_HNX), .val (.long (own_f1 y0 (x1 &&& (7 : Int32)) x2)), .second, .val (.int (own_j0_2 y0 x1 x2)), .val (.int (own_j0_3 y0 x1 x2)), .val (.int (own_j0_4 y0 x1 x2)), .val (.int (own_j0_5 y0 x1 x2))] [(.int (own_j0_5 y0 x1 x2)), (.int (own_f2 (own_f1 y0 (x1 &&& (7 : Int32)) x2) (100 : Int64) (9223372036854775807 : Int64)))]))
    suffices HH32 : own_Goes p e below (own_End s room_1 (own_Q0 y0 x1 x2 s_HOSE s_HNX h0 n0)) (T30.setTop (mkF m 143 #[.val (.long y0), .second, .val (.int x1), .val (.int x2), .val (.int (own_j0_1 x1)), .val (.ref s_HNX), .val (.long (own_f1 y0 (x1 &&& (7 : Int32)) x2)), .second, .val (.int (own_j0_2 y0 x1 x2)), .val (.int (own_j0_3 y0 x1 x2)), .val (.int (own_j0_4 y0 x1 x2)), .val (.int (own_j0_5 y0 x1 x2))] [(.int (own_j0_6 y0 x1 x2))])) by
      by_cases hc31 : (own_f2 (own_f1 y0 (x1 &&& (7 : Int32)) x2) (100 : Int64) (9223372036854775807 : Int64)) = (own_j0_5 y0 x1 x2)
      · refine own_go (fun t k => XS.icmpNo X30.here hx rfl (hb hby at_135) rfl (teq hc31).2 k) ?_
        show own_Goes p e below _ (T30.setTop (mkF m 138 #[.val (.long y0), .second, .val (.int x1), .val (.int x2), .val (.int (own_j0_1 x1)), .val (.ref s_HNX), .val (.long (own_f1 y0 (x1 &&& (7 : Int32)) x2)), .second, .val (.int (own_j0_2 y0 x1 x2)), .val (.int (own_j0_3 y0 x1 x2)), .val (.int (own_j0_4 y0 x1 x2)), .val (.int (own_j0_5 y0 x1 x2))] []))
        refine own_go (fun t k => XS.iconst X30.here hx rfl (hb hby at_138) k) ?_
        show own_Goes p e below _ (T30.setTop (mkF m 139 #[.val (.long y0), .second, .val (.int x1), .val (.int x2), .val (.int (own_j0_1 x1)), .val (.ref s_HNX), .val (.long (own_f1 y0 (x1 &&& (7 : Int32)) x2)), .second, .val (.int (own_j0_2 y0 x1 x2)), .val (.int (own_j0_3 y0 x1 x2)), .val (.int (own_j0_4 y0 x1 x2)), .val (.int (own_j0_5 y0 x1 x2))] [(.int (1 : Int32))]))
        refine own_go (fun t k => XS.goto X30.here hx rfl (pc0 := 139) (pc' := 143) rfl (hb hby at_139) (by decide) (by decide) k) ?_
        rw [show (own_j0_6 y0 x1 x2) = (1 : Int32) from by rw [own_j0_6, if_pos hc31]] at HH32
        exact HH32
      · refine own_go (fun t k => XS.icmpYes X30.here hx rfl (pc0 := 135) (pc' := 142) rfl (hb hby at_135) rfl (feq hc31).2 (by decide) (by decide) k) ?_
        show own_Goes p e below _ (T30.setTop (mkF m 142 #[.val (.long y0), .second, .val (.int x1), .val (.int x2), .val (.int (own_j0_1 x1)), .val (.ref s_HNX), .val (.long (own_f1 y0 (x1 &&& (7 : Int32)) x2)), .second, .val (.int (own_j0_2 y0 x1 x2)), .val (.int (own_j0_3 y0 x1 x2)), .val (.int (own_j0_4 y0 x1 x2)), .val (.int (own_j0_5 y0 x1 x2))] []))
        refine own_go (fun t k => XS.iconst X30.here hx rfl (hb hby at_142) k) ?_
        rw [show (own_j0_6 y0 x1 x2) = (0 : Int32) from by rw [own_j0_6, if_neg hc31]] at HH32
        exact HH32
    show own_Goes p e below _ (T30.setTop (mkF m 143 #[.val (.long y0), .second, .val (.int x1), .val (.int x2), .val (.int (own_j0_1 x1)), .val (.ref s_HNX), .val (.long (own_f1 y0 (x1 &&& (7 : Int32)) x2)), .second, .val (.int (own_j0_2 y0 x1 x2)), .val (.int (own_j0_3 y0 x1 x2)), .val (.int (own_j0_4 y0 x1 x2)), .val (.int (own_j0_5 y0 x1 x2))] [(.int (own_j0_6 y0 x1 x2))]))
    exact own_retN X30 hx hlk hret (by simp) (z' := ((own_j0_6 y0 x1 x2) &&& 1)) rfl (hb hby at_143) (by decide) (by decide) ⟨by rw [own_f0, if_pos hc16], N30, trivial⟩
  · refine own_go (fun t k => XS.ifNo X0.here hx rfl (hb hby at_17) rfl ((if0 _ _).trans (feq hc16).1) k) ?_
    show own_Goes p e below _ (s₁.setTop (mkF m 20 #[.val (.long y0), .second, .val (.int x1), .val (.int x2), .val (.int (own_j0_1 x1)), .unset, .unset, .unset, .unset, .unset, .unset, .unset] []))
    obtain ⟨T33, X33, e33, st33⟩ := getS2 X0 hx hZ hown (host := "") (Or.inl (hw _ own_t0)) Via.refl e0 S_s_HOSE (g := (mkF m 20 #[.val (.long y0), .second, .val (.int x1), .val (.int x2), .val (.int (own_j0_1 x1)), .unset, .unset, .unset, .unset, .unset, .unset, .unset] [])) rfl (hb hby at_20)
    refine own_go st33 ?_
    show own_Goes p e below _ (T33.setTop (mkF m 23 #[.val (.long y0), .second, .val (.int x1), .val (.int x2), .val (.int (own_j0_1 x1)), .unset, .unset, .unset, .unset, .unset, .unset, .unset] [(.ref s_HOSE)]))
    refine own_go (fun t k => XS.goto X33.here hx rfl (pc0 := 23) (pc' := 29) rfl (hb hby at_23) (by decide) (by decide) k) ?_
    show own_Goes p e below _ (T33.setTop (mkF m 29 #[.val (.long y0), .second, .val (.int x1), .val (.int x2), .val (.int (own_j0_1 x1)), .unset, .unset, .unset, .unset, .unset, .unset, .unset] [(.ref s_HOSE)]))
    refine own_go (fun t k => XS.astore X33.here hx rfl (hb hby at_29) rfl rfl (l' := #[.val (.long y0), .second, .val (.int x1), .val (.int x2), .val (.int (own_j0_1 x1)), .val (.ref s_HOSE), .unset, .unset, .unset, .unset, .unset, .unset]) rfl k) ?_
    show own_Goes p e below _ (T33.setTop (mkF m 31 #[.val (.long y0), .second, .val (.int x1), .val (.int x2), .val (.int (own_j0_1 x1)), .val (.ref s_HOSE), .unset, .unset, .unset, .unset, .unset, .unset] []))
    refine own_go (fun t k => XS.lloadN X33.here hx rfl (hb hby at_31) rfl k) ?_
    show own_Goes p e below _ (T33.setTop (mkF m 32 #[.val (.long y0), .second, .val (.int x1), .val (.int x2), .val (.int (own_j0_1 x1)), .val (.ref s_HOSE), .unset, .unset, .unset, .unset, .unset, .unset] [(.long y0)]))
    refine own_go (fun t k => XS.iloadN X33.here hx rfl (hb hby at_32) rfl k) ?_
    show own_Goes p e below _ (T33.setTop (mkF m 33 #[.val (.long y0), .second, .val (.int x1), .val (.int x2), .val (.int (own_j0_1 x1)), .val (.ref s_HOSE), .unset, .unset, .unset, .unset, .unset, .unset] [(.int x1), (.long y0)]))
    refine own_go (fun t k => XS.bipush X33.here hx rfl (hb hby at_33) k) ?_
    show own_Goes p e below _ (T33.setTop (mkF m 35 #[.val (.long y0), .second, .val (.int x1), .val (.int x2), .val (.int (own_j0_1 x1)), .val (.ref s_HOSE), .unset, .unset, .unset, .unset, .unset, .unset] [(.int (7 : Int32)), (.int x1), (.long y0)]))
    refine own_go (fun t k => XS.iand X33.here hx rfl (hb hby at_35) rfl k) ?_
    show own_Goes p e below _ (T33.setTop (mkF m 36 #[.val (.long y0), .second, .val (.int x1), .val (.int x2), .val (.int (own_j0_1 x1)), .val (.ref s_HOSE), .unset, .unset, .unset, .unset, .unset, .unset] [(.int (x1 &&& (7 : Int32))), (.long y0)]))
    refine own_go (fun t k => XS.iloadN X33.here hx rfl (hb hby at_36) rfl k) ?_
    show own_Goes p e below _ (T33.setTop (mkF m 37 #[.val (.long y0), .second, .val (.int x1), .val (.int x2), .val (.int (own_j0_1 x1)), .val (.ref s_HOSE), .unset, .unset, .unset, .unset, .unset, .unset] [(.int x2), (.int (x1 &&& (7 : Int32))), (.long y0)]))
    obtain ⟨_, T34, L34, X34, ⟨rfl, N34q, e34⟩, st34⟩ := own_callS X33 hx hZ hown (hw _ own_t3) (hw _ own_t4) (hw _ own_t5) (hw _ own_t6) (by decide) (as := [(.long y0), (.int (x1 &&& (7 : Int32))), (.int x2)]) (rm1 l Z a0 hw [] y0 (x1 &&& (7 : Int32)) x2 h0 n0) e33 own_pd0 rfl (pc := 37) (Ls := #[.val (.long y0), .second, .val (.int x1), .val (.int x2), .val (.int (own_j0_1 x1)), .val (.ref s_HOSE), .unset, .unset, .unset, .unset, .unset, .unset]) (rest := []) (W := 0) (by rw [hml]; rfl) (Nat.le_of_eq rfl) (by decide) (by decide) (hb hby at_37) (by decide) (by decide)
    have N34 := Fr.app N0 N34q
    refine own_go st34 ?_
    show own_Goes p e below _ (T34.setTop (mkF m 40 #[.val (.long y0), .second, .val (.int x1), .val (.int x2), .val (.int (own_j0_1 x1)), .val (.ref s_HOSE), .unset, .unset, .unset, .unset, .unset, .unset] [(.long (own_f1 y0 (x1 &&& (7 : Int32)) x2))]))
    refine own_go (fun t k => XS.lstore X34.here hx rfl (hb hby at_40) rfl (l' := #[.val (.long y0), .second, .val (.int x1), .val (.int x2), .val (.int (own_j0_1 x1)), .val (.ref s_HOSE), .val (.long (own_f1 y0 (x1 &&& (7 : Int32)) x2)), .second, .unset, .unset, .unset, .unset]) rfl k) ?_
    show own_Goes p e below _ (T34.setTop (mkF m 42 #[.val (.long y0), .second, .val (.int x1), .val (.int x2), .val (.int (own_j0_1 x1)), .val (.ref s_HOSE), .val (.long (own_f1 y0 (x1 &&& (7 : Int32)) x2)), .second, .unset, .unset, .unset, .unset] []))
    refine own_go (fun t k => XS.lload X34.here hx rfl (hb hby at_42) rfl k) ?_
    show own_Goes p e below _ (T34.setTop (mkF m 44 #[.val (.long y0), .second, .val (.int x1), .val (.int x2), .val (.int (own_j0_1 x1)), .val (.ref s_HOSE), .val (.long (own_f1 y0 (x1 &&& (7 : Int32)) x2)), .second, .unset, .unset, .unset, .unset] [(.long (own_f1 y0 (x1 &&& (7 : Int32)) x2))]))
    refine own_go (fun t k => XS.lconst X34.here hx rfl (hb hby at_44) k) ?_
    show own_Goes p e below _ (T34.setTop (mkF m 45 #[.val (.long y0), .second, .val (.int x1), .val (.int x2), .val (.int (own_j0_1 x1)), .val (.ref s_HOSE), .val (.long (own_f1 y0 (x1 &&& (7 : Int32)) x2)), .second, .unset, .unset, .unset, .unset] [(.long (1 : Int64)), (.long (own_f1 y0 (x1 &&& (7 : Int32)) x2))]))
    refine own_go (fun t k => XS.lcmp X34.here hx rfl (hb hby at_45) rfl k) ?_
    show own_Goes p e below _ (T34.setTop (mkF m 46 #[.val (.long y0), .second, .val (.int x1), .val (.int x2), .val (.int (own_j0_1 x1)), .val (.ref s_HOSE), .val (.long (own_f1 y0 (x1 &&& (7 : Int32)) x2)), .second, .unset, .unset, .unset, .unset] [(.int (lcmpW (own_f1 y0 (x1 &&& (7 : Int32)) x2) (1 : Int64)))]))
    suffices HH36 : own_Goes p e below (own_End s room_1 (own_Q0 y0 x1 x2 s_HOSE s_HNX h0 n0)) (T34.setTop (mkF m 54 #[.val (.long y0), .second, .val (.int x1), .val (.int x2), .val (.int (own_j0_1 x1)), .val (.ref s_HOSE), .val (.long (own_f1 y0 (x1 &&& (7 : Int32)) x2)), .second, .unset, .unset, .unset, .unset] [(.int (own_j0_7 y0 x1 x2))])) by
      by_cases hc35 : (own_f1 y0 (x1 &&& (7 : Int32)) x2) < (1 : Int64)
      · refine own_go (fun t k => XS.ifYes X34.here hx rfl (pc0 := 46) (pc' := 53) rfl (hb hby at_46) rfl ((if0 _ _).trans (tlt ((lw_lt _ _).mpr hc35)).1) (by decide) (by decide) k) ?_
        show own_Goes p e below _ (T34.setTop (mkF m 53 #[.val (.long y0), .second, .val (.int x1), .val (.int x2), .val (.int (own_j0_1 x1)), .val (.ref s_HOSE), .val (.long (own_f1 y0 (x1 &&& (7 : Int32)) x2)), .second, .unset, .unset, .unset, .unset] []))
        refine own_go (fun t k => XS.iconst X34.here hx rfl (hb hby at_53) k) ?_
        rw [show (own_j0_7 y0 x1 x2) = (0 : Int32) from by rw [own_j0_7, if_pos hc35]] at HH36
        exact HH36
      · refine own_go (fun t k => XS.ifNo X34.here hx rfl (hb hby at_46) rfl ((if0 _ _).trans (flt (fun q => hc35 ((lw_lt _ _).mp q))).1) k) ?_
        show own_Goes p e below _ (T34.setTop (mkF m 49 #[.val (.long y0), .second, .val (.int x1), .val (.int x2), .val (.int (own_j0_1 x1)), .val (.ref s_HOSE), .val (.long (own_f1 y0 (x1 &&& (7 : Int32)) x2)), .second, .unset, .unset, .unset, .unset] []))
        refine own_go (fun t k => XS.iconst X34.here hx rfl (hb hby at_49) k) ?_
        show own_Goes p e below _ (T34.setTop (mkF m 50 #[.val (.long y0), .second, .val (.int x1), .val (.int x2), .val (.int (own_j0_1 x1)), .val (.ref s_HOSE), .val (.long (own_f1 y0 (x1 &&& (7 : Int32)) x2)), .second, .unset, .unset, .unset, .unset] [(.int (1 : Int32))]))
        refine own_go (fun t k => XS.goto X34.here hx rfl (pc0 := 50) (pc' := 54) rfl (hb hby at_50) (by decide) (by decide) k) ?_
        rw [show (own_j0_7 y0 x1 x2) = (1 : Int32) from by rw [own_j0_7, if_neg hc35]] at HH36
        exact HH36
    show own_Goes p e below _ (T34.setTop (mkF m 54 #[.val (.long y0), .second, .val (.int x1), .val (.int x2), .val (.int (own_j0_1 x1)), .val (.ref s_HOSE), .val (.long (own_f1 y0 (x1 &&& (7 : Int32)) x2)), .second, .unset, .unset, .unset, .unset] [(.int (own_j0_7 y0 x1 x2))]))
    refine own_go (fun t k => XS.istore X34.here hx rfl (hb hby at_54) rfl (l' := #[.val (.long y0), .second, .val (.int x1), .val (.int x2), .val (.int (own_j0_1 x1)), .val (.ref s_HOSE), .val (.long (own_f1 y0 (x1 &&& (7 : Int32)) x2)), .second, .val (.int (own_j0_7 y0 x1 x2)), .unset, .unset, .unset]) rfl k) ?_
    show own_Goes p e below _ (T34.setTop (mkF m 56 #[.val (.long y0), .second, .val (.int x1), .val (.int x2), .val (.int (own_j0_1 x1)), .val (.ref s_HOSE), .val (.long (own_f1 y0 (x1 &&& (7 : Int32)) x2)), .second, .val (.int (own_j0_7 y0 x1 x2)), .unset, .unset, .unset] []))
    refine own_go (fun t k => XS.lload X34.here hx rfl (hb hby at_56) rfl k) ?_
    show own_Goes p e below _ (T34.setTop (mkF m 58 #[.val (.long y0), .second, .val (.int x1), .val (.int x2), .val (.int (own_j0_1 x1)), .val (.ref s_HOSE), .val (.long (own_f1 y0 (x1 &&& (7 : Int32)) x2)), .second, .val (.int (own_j0_7 y0 x1 x2)), .unset, .unset, .unset] [(.long (own_f1 y0 (x1 &&& (7 : Int32)) x2))]))
    refine own_go (fun t k => X34.ldc2Long hx hown (mvT hZ (hw _ own_t8)) (g := (mkF m 58 #[.val (.long y0), .second, .val (.int x1), .val (.int x2), .val (.int (own_j0_1 x1)), .val (.ref s_HOSE), .val (.long (own_f1 y0 (x1 &&& (7 : Int32)) x2)), .second, .val (.int (own_j0_7 y0 x1 x2)), .unset, .unset, .unset] [(.long (own_f1 y0 (x1 &&& (7 : Int32)) x2))])) rfl (hb hby at_58) t k) ?_
    show own_Goes p e below _ (T34.setTop (mkF m 61 #[.val (.long y0), .second, .val (.int x1), .val (.int x2), .val (.int (own_j0_1 x1)), .val (.ref s_HOSE), .val (.long (own_f1 y0 (x1 &&& (7 : Int32)) x2)), .second, .val (.int (own_j0_7 y0 x1 x2)), .unset, .unset, .unset] [(.long (100 : Int64)), (.long (own_f1 y0 (x1 &&& (7 : Int32)) x2))]))
    refine own_go (fun t k => XS.ldiv X34.here hx rfl (hb hby at_61) rfl (by decide) k) ?_
    show own_Goes p e below _ (T34.setTop (mkF m 62 #[.val (.long y0), .second, .val (.int x1), .val (.int x2), .val (.int (own_j0_1 x1)), .val (.ref s_HOSE), .val (.long (own_f1 y0 (x1 &&& (7 : Int32)) x2)), .second, .val (.int (own_j0_7 y0 x1 x2)), .unset, .unset, .unset] [(.long ((own_f1 y0 (x1 &&& (7 : Int32)) x2) / (100 : Int64)))]))
    refine own_go (fun t k => X34.ldc2Long hx hown (mvT hZ (hw _ own_t8)) (g := (mkF m 62 #[.val (.long y0), .second, .val (.int x1), .val (.int x2), .val (.int (own_j0_1 x1)), .val (.ref s_HOSE), .val (.long (own_f1 y0 (x1 &&& (7 : Int32)) x2)), .second, .val (.int (own_j0_7 y0 x1 x2)), .unset, .unset, .unset] [(.long ((own_f1 y0 (x1 &&& (7 : Int32)) x2) / (100 : Int64)))])) rfl (hb hby at_62) t k) ?_
    show own_Goes p e below _ (T34.setTop (mkF m 65 #[.val (.long y0), .second, .val (.int x1), .val (.int x2), .val (.int (own_j0_1 x1)), .val (.ref s_HOSE), .val (.long (own_f1 y0 (x1 &&& (7 : Int32)) x2)), .second, .val (.int (own_j0_7 y0 x1 x2)), .unset, .unset, .unset] [(.long (100 : Int64)), (.long ((own_f1 y0 (x1 &&& (7 : Int32)) x2) / (100 : Int64)))]))
    refine own_go (fun t k => XS.lmul X34.here hx rfl (hb hby at_65) rfl k) ?_
    show own_Goes p e below _ (T34.setTop (mkF m 66 #[.val (.long y0), .second, .val (.int x1), .val (.int x2), .val (.int (own_j0_1 x1)), .val (.ref s_HOSE), .val (.long (own_f1 y0 (x1 &&& (7 : Int32)) x2)), .second, .val (.int (own_j0_7 y0 x1 x2)), .unset, .unset, .unset] [(.long (((own_f1 y0 (x1 &&& (7 : Int32)) x2) / (100 : Int64)) * (100 : Int64)))]))
    refine own_go (fun t k => XS.lload X34.here hx rfl (hb hby at_66) rfl k) ?_
    show own_Goes p e below _ (T34.setTop (mkF m 68 #[.val (.long y0), .second, .val (.int x1), .val (.int x2), .val (.int (own_j0_1 x1)), .val (.ref s_HOSE), .val (.long (own_f1 y0 (x1 &&& (7 : Int32)) x2)), .second, .val (.int (own_j0_7 y0 x1 x2)), .unset, .unset, .unset] [(.long (own_f1 y0 (x1 &&& (7 : Int32)) x2)), (.long (((own_f1 y0 (x1 &&& (7 : Int32)) x2) / (100 : Int64)) * (100 : Int64)))]))
    refine own_go (fun t k => XS.lcmp X34.here hx rfl (hb hby at_68) rfl k) ?_
    show own_Goes p e below _ (T34.setTop (mkF m 69 #[.val (.long y0), .second, .val (.int x1), .val (.int x2), .val (.int (own_j0_1 x1)), .val (.ref s_HOSE), .val (.long (own_f1 y0 (x1 &&& (7 : Int32)) x2)), .second, .val (.int (own_j0_7 y0 x1 x2)), .unset, .unset, .unset] [(.int (lcmpW (((own_f1 y0 (x1 &&& (7 : Int32)) x2) / (100 : Int64)) * (100 : Int64)) (own_f1 y0 (x1 &&& (7 : Int32)) x2)))]))
    suffices HH38 : own_Goes p e below (own_End s room_1 (own_Q0 y0 x1 x2 s_HOSE s_HNX h0 n0)) (T34.setTop (mkF m 77 #[.val (.long y0), .second, .val (.int x1), .val (.int x2), .val (.int (own_j0_1 x1)), .val (.ref s_HOSE), .val (.long (own_f1 y0 (x1 &&& (7 : Int32)) x2)), .second, .val (.int (own_j0_7 y0 x1 x2)), .unset, .unset, .unset] [(.int (own_j0_8 y0 x1 x2))])) by
      by_cases hc37 : (((own_f1 y0 (x1 &&& (7 : Int32)) x2) / (100 : Int64)) * (100 : Int64)) = (own_f1 y0 (x1 &&& (7 : Int32)) x2)
      · refine own_go (fun t k => XS.ifNo X34.here hx rfl (hb hby at_69) rfl ((if0 _ _).trans (teq ((lw_eq _ _).mpr hc37)).2) k) ?_
        show own_Goes p e below _ (T34.setTop (mkF m 72 #[.val (.long y0), .second, .val (.int x1), .val (.int x2), .val (.int (own_j0_1 x1)), .val (.ref s_HOSE), .val (.long (own_f1 y0 (x1 &&& (7 : Int32)) x2)), .second, .val (.int (own_j0_7 y0 x1 x2)), .unset, .unset, .unset] []))
        refine own_go (fun t k => XS.iconst X34.here hx rfl (hb hby at_72) k) ?_
        show own_Goes p e below _ (T34.setTop (mkF m 73 #[.val (.long y0), .second, .val (.int x1), .val (.int x2), .val (.int (own_j0_1 x1)), .val (.ref s_HOSE), .val (.long (own_f1 y0 (x1 &&& (7 : Int32)) x2)), .second, .val (.int (own_j0_7 y0 x1 x2)), .unset, .unset, .unset] [(.int (1 : Int32))]))
        refine own_go (fun t k => XS.goto X34.here hx rfl (pc0 := 73) (pc' := 77) rfl (hb hby at_73) (by decide) (by decide) k) ?_
        rw [show (own_j0_8 y0 x1 x2) = (1 : Int32) from by rw [own_j0_8, if_pos hc37]] at HH38
        exact HH38
      · refine own_go (fun t k => XS.ifYes X34.here hx rfl (pc0 := 69) (pc' := 76) rfl (hb hby at_69) rfl ((if0 _ _).trans (feq (fun q => hc37 ((lw_eq _ _).mp q))).2) (by decide) (by decide) k) ?_
        show own_Goes p e below _ (T34.setTop (mkF m 76 #[.val (.long y0), .second, .val (.int x1), .val (.int x2), .val (.int (own_j0_1 x1)), .val (.ref s_HOSE), .val (.long (own_f1 y0 (x1 &&& (7 : Int32)) x2)), .second, .val (.int (own_j0_7 y0 x1 x2)), .unset, .unset, .unset] []))
        refine own_go (fun t k => XS.iconst X34.here hx rfl (hb hby at_76) k) ?_
        rw [show (own_j0_8 y0 x1 x2) = (0 : Int32) from by rw [own_j0_8, if_neg hc37]] at HH38
        exact HH38
    show own_Goes p e below _ (T34.setTop (mkF m 77 #[.val (.long y0), .second, .val (.int x1), .val (.int x2), .val (.int (own_j0_1 x1)), .val (.ref s_HOSE), .val (.long (own_f1 y0 (x1 &&& (7 : Int32)) x2)), .second, .val (.int (own_j0_7 y0 x1 x2)), .unset, .unset, .unset] [(.int (own_j0_8 y0 x1 x2))]))
    refine own_go (fun t k => XS.istore X34.here hx rfl (hb hby at_77) rfl (l' := #[.val (.long y0), .second, .val (.int x1), .val (.int x2), .val (.int (own_j0_1 x1)), .val (.ref s_HOSE), .val (.long (own_f1 y0 (x1 &&& (7 : Int32)) x2)), .second, .val (.int (own_j0_7 y0 x1 x2)), .val (.int (own_j0_8 y0 x1 x2)), .unset, .unset]) rfl k) ?_
    show own_Goes p e below _ (T34.setTop (mkF m 79 #[.val (.long y0), .second, .val (.int x1), .val (.int x2), .val (.int (own_j0_1 x1)), .val (.ref s_HOSE), .val (.long (own_f1 y0 (x1 &&& (7 : Int32)) x2)), .second, .val (.int (own_j0_7 y0 x1 x2)), .val (.int (own_j0_8 y0 x1 x2)), .unset, .unset] []))
    refine own_go (fun t k => XS.iload X34.here hx rfl (hb hby at_79) rfl k) ?_
    show own_Goes p e below _ (T34.setTop (mkF m 81 #[.val (.long y0), .second, .val (.int x1), .val (.int x2), .val (.int (own_j0_1 x1)), .val (.ref s_HOSE), .val (.long (own_f1 y0 (x1 &&& (7 : Int32)) x2)), .second, .val (.int (own_j0_7 y0 x1 x2)), .val (.int (own_j0_8 y0 x1 x2)), .unset, .unset] [(.int (own_j0_1 x1))]))
    suffices HH41 : own_Goes p e below (own_End s room_1 (own_Q0 y0 x1 x2 s_HOSE s_HNX h0 n0)) (T34.setTop (mkF m 102 #[.val (.long y0), .second, .val (.int x1), .val (.int x2), .val (.int (own_j0_1 x1)), .val (.ref s_HOSE), .val (.long (own_f1 y0 (x1 &&& (7 : Int32)) x2)), .second, .val (.int (own_j0_7 y0 x1 x2)), .val (.int (own_j0_8 y0 x1 x2)), .unset, .unset] [(.int (own_j0_9 y0 x1 x2))])) by
      by_cases hc39 : (own_j0_1 x1) = (0 : Int32)
      · refine own_go (fun t k => XS.ifYes X34.here hx rfl (pc0 := 81) (pc' := 101) rfl (hb hby at_81) rfl ((if0 _ _).trans (teq hc39).1) (by decide) (by decide) k) ?_
        show own_Goes p e below _ (T34.setTop (mkF m 101 #[.val (.long y0), .second, .val (.int x1), .val (.int x2), .val (.int (own_j0_1 x1)), .val (.ref s_HOSE), .val (.long (own_f1 y0 (x1 &&& (7 : Int32)) x2)), .second, .val (.int (own_j0_7 y0 x1 x2)), .val (.int (own_j0_8 y0 x1 x2)), .unset, .unset] []))
        refine own_go (fun t k => XS.iconst X34.here hx rfl (hb hby at_101) k) ?_
        rw [show (own_j0_9 y0 x1 x2) = (1 : Int32) from by rw [own_j0_9, if_pos hc39]] at HH41
        exact HH41
      · refine own_go (fun t k => XS.ifNo X34.here hx rfl (hb hby at_81) rfl ((if0 _ _).trans (feq hc39).1) k) ?_
        show own_Goes p e below _ (T34.setTop (mkF m 84 #[.val (.long y0), .second, .val (.int x1), .val (.int x2), .val (.int (own_j0_1 x1)), .val (.ref s_HOSE), .val (.long (own_f1 y0 (x1 &&& (7 : Int32)) x2)), .second, .val (.int (own_j0_7 y0 x1 x2)), .val (.int (own_j0_8 y0 x1 x2)), .unset, .unset] []))
        refine own_go (fun t k => XS.lload X34.here hx rfl (hb hby at_84) rfl k) ?_
        show own_Goes p e below _ (T34.setTop (mkF m 86 #[.val (.long y0), .second, .val (.int x1), .val (.int x2), .val (.int (own_j0_1 x1)), .val (.ref s_HOSE), .val (.long (own_f1 y0 (x1 &&& (7 : Int32)) x2)), .second, .val (.int (own_j0_7 y0 x1 x2)), .val (.int (own_j0_8 y0 x1 x2)), .unset, .unset] [(.long (own_f1 y0 (x1 &&& (7 : Int32)) x2))]))
        refine own_go (fun t k => X34.ldc2Long hx hown (mvT hZ (hw _ own_t7)) (g := (mkF m 86 #[.val (.long y0), .second, .val (.int x1), .val (.int x2), .val (.int (own_j0_1 x1)), .val (.ref s_HOSE), .val (.long (own_f1 y0 (x1 &&& (7 : Int32)) x2)), .second, .val (.int (own_j0_7 y0 x1 x2)), .val (.int (own_j0_8 y0 x1 x2)), .unset, .unset] [(.long (own_f1 y0 (x1 &&& (7 : Int32)) x2))])) rfl (hb hby at_86) t k) ?_
        show own_Goes p e below _ (T34.setTop (mkF m 89 #[.val (.long y0), .second, .val (.int x1), .val (.int x2), .val (.int (own_j0_1 x1)), .val (.ref s_HOSE), .val (.long (own_f1 y0 (x1 &&& (7 : Int32)) x2)), .second, .val (.int (own_j0_7 y0 x1 x2)), .val (.int (own_j0_8 y0 x1 x2)), .unset, .unset] [(.long (500000 : Int64)), (.long (own_f1 y0 (x1 &&& (7 : Int32)) x2))]))
        refine own_go (fun t k => XS.lcmp X34.here hx rfl (hb hby at_89) rfl k) ?_
        show own_Goes p e below _ (T34.setTop (mkF m 90 #[.val (.long y0), .second, .val (.int x1), .val (.int x2), .val (.int (own_j0_1 x1)), .val (.ref s_HOSE), .val (.long (own_f1 y0 (x1 &&& (7 : Int32)) x2)), .second, .val (.int (own_j0_7 y0 x1 x2)), .val (.int (own_j0_8 y0 x1 x2)), .unset, .unset] [(.int (lcmpW (own_f1 y0 (x1 &&& (7 : Int32)) x2) (500000 : Int64)))]))
        by_cases hc40 : (500000 : Int64) < (own_f1 y0 (x1 &&& (7 : Int32)) x2)
        · refine own_go (fun t k => XS.ifYes X34.here hx rfl (pc0 := 90) (pc' := 97) rfl (hb hby at_90) rfl ((if0 _ _).trans (tlt ((lw_gt _ _).mpr hc40)).2.2.1) (by decide) (by decide) k) ?_
          show own_Goes p e below _ (T34.setTop (mkF m 97 #[.val (.long y0), .second, .val (.int x1), .val (.int x2), .val (.int (own_j0_1 x1)), .val (.ref s_HOSE), .val (.long (own_f1 y0 (x1 &&& (7 : Int32)) x2)), .second, .val (.int (own_j0_7 y0 x1 x2)), .val (.int (own_j0_8 y0 x1 x2)), .unset, .unset] []))
          refine own_go (fun t k => XS.iconst X34.here hx rfl (hb hby at_97) k) ?_
          show own_Goes p e below _ (T34.setTop (mkF m 98 #[.val (.long y0), .second, .val (.int x1), .val (.int x2), .val (.int (own_j0_1 x1)), .val (.ref s_HOSE), .val (.long (own_f1 y0 (x1 &&& (7 : Int32)) x2)), .second, .val (.int (own_j0_7 y0 x1 x2)), .val (.int (own_j0_8 y0 x1 x2)), .unset, .unset] [(.int (0 : Int32))]))
          refine own_go (fun t k => XS.goto X34.here hx rfl (pc0 := 98) (pc' := 102) rfl (hb hby at_98) (by decide) (by decide) k) ?_
          rw [show (own_j0_9 y0 x1 x2) = (0 : Int32) from by rw [own_j0_9, if_neg hc39, if_pos hc40]] at HH41
          exact HH41
        · refine own_go (fun t k => XS.ifNo X34.here hx rfl (hb hby at_90) rfl ((if0 _ _).trans (flt (fun q => hc40 ((lw_gt _ _).mp q))).2.2.1) k) ?_
          show own_Goes p e below _ (T34.setTop (mkF m 93 #[.val (.long y0), .second, .val (.int x1), .val (.int x2), .val (.int (own_j0_1 x1)), .val (.ref s_HOSE), .val (.long (own_f1 y0 (x1 &&& (7 : Int32)) x2)), .second, .val (.int (own_j0_7 y0 x1 x2)), .val (.int (own_j0_8 y0 x1 x2)), .unset, .unset] []))
          refine own_go (fun t k => XS.iconst X34.here hx rfl (hb hby at_93) k) ?_
          show own_Goes p e below _ (T34.setTop (mkF m 94 #[.val (.long y0), .second, .val (.int x1), .val (.int x2), .val (.int (own_j0_1 x1)), .val (.ref s_HOSE), .val (.long (own_f1 y0 (x1 &&& (7 : Int32)) x2)), .second, .val (.int (own_j0_7 y0 x1 x2)), .val (.int (own_j0_8 y0 x1 x2)), .unset, .unset] [(.int (1 : Int32))]))
          refine own_go (fun t k => XS.goto X34.here hx rfl (pc0 := 94) (pc' := 102) rfl (hb hby at_94) (by decide) (by decide) k) ?_
          rw [show (own_j0_9 y0 x1 x2) = (1 : Int32) from by rw [own_j0_9, if_neg hc39, if_neg hc40]] at HH41
          exact HH41
    show own_Goes p e below _ (T34.setTop (mkF m 102 #[.val (.long y0), .second, .val (.int x1), .val (.int x2), .val (.int (own_j0_1 x1)), .val (.ref s_HOSE), .val (.long (own_f1 y0 (x1 &&& (7 : Int32)) x2)), .second, .val (.int (own_j0_7 y0 x1 x2)), .val (.int (own_j0_8 y0 x1 x2)), .unset, .unset] [(.int (own_j0_9 y0 x1 x2))]))
    refine own_go (fun t k => XS.istore X34.here hx rfl (hb hby at_102) rfl (l' := #[.val (.long y0), .second, .val (.int x1), .val (.int x2), .val (.int (own_j0_1 x1)), .val (.ref s_HOSE), .val (.long (own_f1 y0 (x1 &&& (7 : Int32)) x2)), .second, .val (.int (own_j0_7 y0 x1 x2)), .val (.int (own_j0_8 y0 x1 x2)), .val (.int (own_j0_9 y0 x1 x2)), .unset]) rfl k) ?_
    show own_Goes p e below _ (T34.setTop (mkF m 104 #[.val (.long y0), .second, .val (.int x1), .val (.int x2), .val (.int (own_j0_1 x1)), .val (.ref s_HOSE), .val (.long (own_f1 y0 (x1 &&& (7 : Int32)) x2)), .second, .val (.int (own_j0_7 y0 x1 x2)), .val (.int (own_j0_8 y0 x1 x2)), .val (.int (own_j0_9 y0 x1 x2)), .unset] []))
    refine own_go (fun t k => XS.iload X34.here hx rfl (hb hby at_104) rfl k) ?_
    show own_Goes p e below _ (T34.setTop (mkF m 106 #[.val (.long y0), .second, .val (.int x1), .val (.int x2), .val (.int (own_j0_1 x1)), .val (.ref s_HOSE), .val (.long (own_f1 y0 (x1 &&& (7 : Int32)) x2)), .second, .val (.int (own_j0_7 y0 x1 x2)), .val (.int (own_j0_8 y0 x1 x2)), .val (.int (own_j0_9 y0 x1 x2)), .unset] [(.int (own_j0_7 y0 x1 x2))]))
    suffices HH45 : own_Goes p e below (own_End s room_1 (own_Q0 y0 x1 x2 s_HOSE s_HNX h0 n0)) (T34.setTop (mkF m 124 #[.val (.long y0), .second, .val (.int x1), .val (.int x2), .val (.int (own_j0_1 x1)), .val (.ref s_HOSE), .val (.long (own_f1 y0 (x1 &&& (7 : Int32)) x2)), .second, .val (.int (own_j0_7 y0 x1 x2)), .val (.int (own_j0_8 y0 x1 x2)), .val (.int (own_j0_9 y0 x1 x2)), .unset] [(.int (own_j0_10 y0 x1 x2))])) by
      by_cases hc42 : (own_j0_7 y0 x1 x2) = (0 : Int32)
      · refine own_go (fun t k => XS.ifYes X34.here hx rfl (pc0 := 106) (pc' := 123) rfl (hb hby at_106) rfl ((if0 _ _).trans (teq hc42).1) (by decide) (by decide) k) ?_
        show own_Goes p e below _ (T34.setTop (mkF m 123 #[.val (.long y0), .second, .val (.int x1), .val (.int x2), .val (.int (own_j0_1 x1)), .val (.ref s_HOSE), .val (.long (own_f1 y0 (x1 &&& (7 : Int32)) x2)), .second, .val (.int (own_j0_7 y0 x1 x2)), .val (.int (own_j0_8 y0 x1 x2)), .val (.int (own_j0_9 y0 x1 x2)), .unset] []))
        refine own_go (fun t k => XS.iconst X34.here hx rfl (hb hby at_123) k) ?_
        rw [show (own_j0_10 y0 x1 x2) = (0 : Int32) from by rw [own_j0_10, if_pos hc42]] at HH45
        exact HH45
      · refine own_go (fun t k => XS.ifNo X34.here hx rfl (hb hby at_106) rfl ((if0 _ _).trans (feq hc42).1) k) ?_
        show own_Goes p e below _ (T34.setTop (mkF m 109 #[.val (.long y0), .second, .val (.int x1), .val (.int x2), .val (.int (own_j0_1 x1)), .val (.ref s_HOSE), .val (.long (own_f1 y0 (x1 &&& (7 : Int32)) x2)), .second, .val (.int (own_j0_7 y0 x1 x2)), .val (.int (own_j0_8 y0 x1 x2)), .val (.int (own_j0_9 y0 x1 x2)), .unset] []))
        refine own_go (fun t k => XS.iload X34.here hx rfl (hb hby at_109) rfl k) ?_
        show own_Goes p e below _ (T34.setTop (mkF m 111 #[.val (.long y0), .second, .val (.int x1), .val (.int x2), .val (.int (own_j0_1 x1)), .val (.ref s_HOSE), .val (.long (own_f1 y0 (x1 &&& (7 : Int32)) x2)), .second, .val (.int (own_j0_7 y0 x1 x2)), .val (.int (own_j0_8 y0 x1 x2)), .val (.int (own_j0_9 y0 x1 x2)), .unset] [(.int (own_j0_8 y0 x1 x2))]))
        by_cases hc43 : (own_j0_8 y0 x1 x2) = (0 : Int32)
        · refine own_go (fun t k => XS.ifYes X34.here hx rfl (pc0 := 111) (pc' := 123) rfl (hb hby at_111) rfl ((if0 _ _).trans (teq hc43).1) (by decide) (by decide) k) ?_
          show own_Goes p e below _ (T34.setTop (mkF m 123 #[.val (.long y0), .second, .val (.int x1), .val (.int x2), .val (.int (own_j0_1 x1)), .val (.ref s_HOSE), .val (.long (own_f1 y0 (x1 &&& (7 : Int32)) x2)), .second, .val (.int (own_j0_7 y0 x1 x2)), .val (.int (own_j0_8 y0 x1 x2)), .val (.int (own_j0_9 y0 x1 x2)), .unset] []))
          refine own_go (fun t k => XS.iconst X34.here hx rfl (hb hby at_123) k) ?_
          rw [show (own_j0_10 y0 x1 x2) = (0 : Int32) from by rw [own_j0_10, if_neg hc42, if_pos hc43]] at HH45
          exact HH45
        · refine own_go (fun t k => XS.ifNo X34.here hx rfl (hb hby at_111) rfl ((if0 _ _).trans (feq hc43).1) k) ?_
          show own_Goes p e below _ (T34.setTop (mkF m 114 #[.val (.long y0), .second, .val (.int x1), .val (.int x2), .val (.int (own_j0_1 x1)), .val (.ref s_HOSE), .val (.long (own_f1 y0 (x1 &&& (7 : Int32)) x2)), .second, .val (.int (own_j0_7 y0 x1 x2)), .val (.int (own_j0_8 y0 x1 x2)), .val (.int (own_j0_9 y0 x1 x2)), .unset] []))
          refine own_go (fun t k => XS.iload X34.here hx rfl (hb hby at_114) rfl k) ?_
          show own_Goes p e below _ (T34.setTop (mkF m 116 #[.val (.long y0), .second, .val (.int x1), .val (.int x2), .val (.int (own_j0_1 x1)), .val (.ref s_HOSE), .val (.long (own_f1 y0 (x1 &&& (7 : Int32)) x2)), .second, .val (.int (own_j0_7 y0 x1 x2)), .val (.int (own_j0_8 y0 x1 x2)), .val (.int (own_j0_9 y0 x1 x2)), .unset] [(.int (own_j0_9 y0 x1 x2))]))
          by_cases hc44 : (own_j0_9 y0 x1 x2) = (0 : Int32)
          · refine own_go (fun t k => XS.ifYes X34.here hx rfl (pc0 := 116) (pc' := 123) rfl (hb hby at_116) rfl ((if0 _ _).trans (teq hc44).1) (by decide) (by decide) k) ?_
            show own_Goes p e below _ (T34.setTop (mkF m 123 #[.val (.long y0), .second, .val (.int x1), .val (.int x2), .val (.int (own_j0_1 x1)), .val (.ref s_HOSE), .val (.long (own_f1 y0 (x1 &&& (7 : Int32)) x2)), .second, .val (.int (own_j0_7 y0 x1 x2)), .val (.int (own_j0_8 y0 x1 x2)), .val (.int (own_j0_9 y0 x1 x2)), .unset] []))
            refine own_go (fun t k => XS.iconst X34.here hx rfl (hb hby at_123) k) ?_
            rw [show (own_j0_10 y0 x1 x2) = (0 : Int32) from by rw [own_j0_10, if_neg hc42, if_neg hc43, if_pos hc44]] at HH45
            exact HH45
          · refine own_go (fun t k => XS.ifNo X34.here hx rfl (hb hby at_116) rfl ((if0 _ _).trans (feq hc44).1) k) ?_
            show own_Goes p e below _ (T34.setTop (mkF m 119 #[.val (.long y0), .second, .val (.int x1), .val (.int x2), .val (.int (own_j0_1 x1)), .val (.ref s_HOSE), .val (.long (own_f1 y0 (x1 &&& (7 : Int32)) x2)), .second, .val (.int (own_j0_7 y0 x1 x2)), .val (.int (own_j0_8 y0 x1 x2)), .val (.int (own_j0_9 y0 x1 x2)), .unset] []))
            refine own_go (fun t k => XS.iconst X34.here hx rfl (hb hby at_119) k) ?_
            show own_Goes p e below _ (T34.setTop (mkF m 120 #[.val (.long y0), .second, .val (.int x1), .val (.int x2), .val (.int (own_j0_1 x1)), .val (.ref s_HOSE), .val (.long (own_f1 y0 (x1 &&& (7 : Int32)) x2)), .second, .val (.int (own_j0_7 y0 x1 x2)), .val (.int (own_j0_8 y0 x1 x2)), .val (.int (own_j0_9 y0 x1 x2)), .unset] [(.int (1 : Int32))]))
            refine own_go (fun t k => XS.goto X34.here hx rfl (pc0 := 120) (pc' := 124) rfl (hb hby at_120) (by decide) (by decide) k) ?_
            rw [show (own_j0_10 y0 x1 x2) = (1 : Int32) from by rw [own_j0_10, if_neg hc42, if_neg hc43, if_neg hc44]] at HH45
            exact HH45
    show own_Goes p e below _ (T34.setTop (mkF m 124 #[.val (.long y0), .second, .val (.int x1), .val (.int x2), .val (.int (own_j0_1 x1)), .val (.ref s_HOSE), .val (.long (own_f1 y0 (x1 &&& (7 : Int32)) x2)), .second, .val (.int (own_j0_7 y0 x1 x2)), .val (.int (own_j0_8 y0 x1 x2)), .val (.int (own_j0_9 y0 x1 x2)), .unset] [(.int (own_j0_10 y0 x1 x2))]))
    refine own_go (fun t k => XS.istore X34.here hx rfl (hb hby at_124) rfl (l' := #[.val (.long y0), .second, .val (.int x1), .val (.int x2), .val (.int (own_j0_1 x1)), .val (.ref s_HOSE), .val (.long (own_f1 y0 (x1 &&& (7 : Int32)) x2)), .second, .val (.int (own_j0_7 y0 x1 x2)), .val (.int (own_j0_8 y0 x1 x2)), .val (.int (own_j0_9 y0 x1 x2)), .val (.int (own_j0_10 y0 x1 x2))]) rfl k) ?_
    show own_Goes p e below _ (T34.setTop (mkF m 126 #[.val (.long y0), .second, .val (.int x1), .val (.int x2), .val (.int (own_j0_1 x1)), .val (.ref s_HOSE), .val (.long (own_f1 y0 (x1 &&& (7 : Int32)) x2)), .second, .val (.int (own_j0_7 y0 x1 x2)), .val (.int (own_j0_8 y0 x1 x2)), .val (.int (own_j0_9 y0 x1 x2)), .val (.int (own_j0_10 y0 x1 x2))] []))
    refine own_go (fun t k => XS.aload X34.here hx rfl (hb hby at_126) rfl rfl k) ?_
    show own_Goes p e below _ (T34.setTop (mkF m 128 #[.val (.long y0), .second, .val (.int x1), .val (.int x2), .val (.int (own_j0_1 x1)), .val (.ref s_HOSE), .val (.long (own_f1 y0 (x1 &&& (7 : Int32)) x2)), .second, .val (.int (own_j0_7 y0 x1 x2)), .val (.int (own_j0_8 y0 x1 x2)), .val (.int (own_j0_9 y0 x1 x2)), .val (.int (own_j0_10 y0 x1 x2))] [(.ref s_HOSE)]))
    refine own_go (fun t k => XS.lload X34.here hx rfl (hb hby at_128) rfl k) ?_
    show own_Goes p e below _ (T34.setTop (mkF m 130 #[.val (.long y0), .second, .val (.int x1), .val (.int x2), .val (.int (own_j0_1 x1)), .val (.ref s_HOSE), .val (.long (own_f1 y0 (x1 &&& (7 : Int32)) x2)), .second, .val (.int (own_j0_7 y0 x1 x2)), .val (.int (own_j0_8 y0 x1 x2)), .val (.int (own_j0_9 y0 x1 x2)), .val (.int (own_j0_10 y0 x1 x2))] [(.long (own_f1 y0 (x1 &&& (7 : Int32)) x2)), (.ref s_HOSE)]))
    obtain ⟨_, T46, L46, X46, ⟨rfl, N46q, e46⟩, st46⟩ := own_callV X34 hx hZ hown (hw _ own_t9) (hw _ own_t10) (hw _ own_t12) (hw _ own_t11) (hw _ own_t1) (hw _ own_t13) (by decide) (b := s_HOSE) (as := [(.long (own_f1 y0 (x1 &&& (7 : Int32)) x2))]) (rm2 l Z a0 hw [] s_HOSE (own_f1 y0 (x1 &&& (7 : Int32)) x2) (100 : Int64) (500000 : Int64) h0 n0 L_HOSE M_HOSE (by decide)) e34 E_HOSE own_pd1 rfl (pc := 130) (Ls := #[.val (.long y0), .second, .val (.int x1), .val (.int x2), .val (.int (own_j0_1 x1)), .val (.ref s_HOSE), .val (.long (own_f1 y0 (x1 &&& (7 : Int32)) x2)), .second, .val (.int (own_j0_7 y0 x1 x2)), .val (.int (own_j0_8 y0 x1 x2)), .val (.int (own_j0_9 y0 x1 x2)), .val (.int (own_j0_10 y0 x1 x2))]) (rest := []) (W := 0) (by rw [hml]; rfl) (Nat.le_of_eq rfl) (by decide) (by decide) (hb hby at_130) (by decide) (by decide)
    have N46 := Fr.app N34 N46q
    refine own_go st46 ?_
    show own_Goes p e below _ (T46.setTop (mkF m 133 #[.val (.long y0), .second, .val (.int x1), .val (.int x2), .val (.int (own_j0_1 x1)), .val (.ref s_HOSE), .val (.long (own_f1 y0 (x1 &&& (7 : Int32)) x2)), .second, .val (.int (own_j0_7 y0 x1 x2)), .val (.int (own_j0_8 y0 x1 x2)), .val (.int (own_j0_9 y0 x1 x2)), .val (.int (own_j0_10 y0 x1 x2))] [(.int (own_f2 (own_f1 y0 (x1 &&& (7 : Int32)) x2) (100 : Int64) (500000 : Int64)))]))
    refine own_go (fun t k => XS.iload X46.here hx rfl (hb hby at_133) rfl k) ?_
    show own_Goes p e below _ (T46.setTop (mkF m 135 #[.val (.long y0), .second, .val (.int x1), .val (.int x2), .val (.int (own_j0_1 x1)), .val (.ref s_HOSE), .val (.long (own_f1 y0 (x1 &&& (7 : Int32)) x2)), .second, .val (.int (own_j0_7 y0 x1 x2)), .val (.int (own_j0_8 y0 x1 x2)), .val (.int (own_j0_9 y0 x1 x2)), .val (.int (own_j0_10 y0 x1 x2))] [(.int (own_j0_10 y0 x1 x2)), (.int (own_f2 (own_f1 y0 (x1 &&& (7 : Int32)) x2) (100 : Int64) (500000 : Int64)))]))
    suffices HH48 : own_Goes p e below (own_End s room_1 (own_Q0 y0 x1 x2 s_HOSE s_HNX h0 n0)) (T46.setTop (mkF m 143 #[.val (.long y0), .second, .val (.int x1), .val (.int x2), .val (.int (own_j0_1 x1)), .val (.ref s_HOSE), .val (.long (own_f1 y0 (x1 &&& (7 : Int32)) x2)), .second, .val (.int (own_j0_7 y0 x1 x2)), .val (.int (own_j0_8 y0 x1 x2)), .val (.int (own_j0_9 y0 x1 x2)), .val (.int (own_j0_10 y0 x1 x2))] [(.int (own_j0_11 y0 x1 x2))])) by
      by_cases hc47 : (own_f2 (own_f1 y0 (x1 &&& (7 : Int32)) x2) (100 : Int64) (500000 : Int64)) = (own_j0_10 y0 x1 x2)
      · refine own_go (fun t k => XS.icmpNo X46.here hx rfl (hb hby at_135) rfl (teq hc47).2 k) ?_
        show own_Goes p e below _ (T46.setTop (mkF m 138 #[.val (.long y0), .second, .val (.int x1), .val (.int x2), .val (.int (own_j0_1 x1)), .val (.ref s_HOSE), .val (.long (own_f1 y0 (x1 &&& (7 : Int32)) x2)), .second, .val (.int (own_j0_7 y0 x1 x2)), .val (.int (own_j0_8 y0 x1 x2)), .val (.int (own_j0_9 y0 x1 x2)), .val (.int (own_j0_10 y0 x1 x2))] []))
        refine own_go (fun t k => XS.iconst X46.here hx rfl (hb hby at_138) k) ?_
        show own_Goes p e below _ (T46.setTop (mkF m 139 #[.val (.long y0), .second, .val (.int x1), .val (.int x2), .val (.int (own_j0_1 x1)), .val (.ref s_HOSE), .val (.long (own_f1 y0 (x1 &&& (7 : Int32)) x2)), .second, .val (.int (own_j0_7 y0 x1 x2)), .val (.int (own_j0_8 y0 x1 x2)), .val (.int (own_j0_9 y0 x1 x2)), .val (.int (own_j0_10 y0 x1 x2))] [(.int (1 : Int32))]))
        refine own_go (fun t k => XS.goto X46.here hx rfl (pc0 := 139) (pc' := 143) rfl (hb hby at_139) (by decide) (by decide) k) ?_
        rw [show (own_j0_11 y0 x1 x2) = (1 : Int32) from by rw [own_j0_11, if_pos hc47]] at HH48
        exact HH48
      · refine own_go (fun t k => XS.icmpYes X46.here hx rfl (pc0 := 135) (pc' := 142) rfl (hb hby at_135) rfl (feq hc47).2 (by decide) (by decide) k) ?_
        show own_Goes p e below _ (T46.setTop (mkF m 142 #[.val (.long y0), .second, .val (.int x1), .val (.int x2), .val (.int (own_j0_1 x1)), .val (.ref s_HOSE), .val (.long (own_f1 y0 (x1 &&& (7 : Int32)) x2)), .second, .val (.int (own_j0_7 y0 x1 x2)), .val (.int (own_j0_8 y0 x1 x2)), .val (.int (own_j0_9 y0 x1 x2)), .val (.int (own_j0_10 y0 x1 x2))] []))
        refine own_go (fun t k => XS.iconst X46.here hx rfl (hb hby at_142) k) ?_
        rw [show (own_j0_11 y0 x1 x2) = (0 : Int32) from by rw [own_j0_11, if_neg hc47]] at HH48
        exact HH48
    show own_Goes p e below _ (T46.setTop (mkF m 143 #[.val (.long y0), .second, .val (.int x1), .val (.int x2), .val (.int (own_j0_1 x1)), .val (.ref s_HOSE), .val (.long (own_f1 y0 (x1 &&& (7 : Int32)) x2)), .second, .val (.int (own_j0_7 y0 x1 x2)), .val (.int (own_j0_8 y0 x1 x2)), .val (.int (own_j0_9 y0 x1 x2)), .val (.int (own_j0_10 y0 x1 x2))] [(.int (own_j0_11 y0 x1 x2))]))
    exact own_retN X46 hx hlk hret (by simp) (z' := ((own_j0_11 y0 x1 x2) &&& 1)) rfl (hb hby at_143) (by decide) (by decide) ⟨by rw [own_f0, if_neg hc16], N46, trivial⟩
theorem own_pos (q : Int64) : q < 1 ↔ ¬ 0 < q := by
  rw [Int64.lt_iff_toInt_lt, Int64.lt_iff_toInt_lt, show (1 : Int64).toInt = 1 from rfl, show (0 : Int64).toInt = 0 from rfl]; omega
theorem own_rem (q d : Int64) : q - d = 0 ↔ d = q := by
  constructor
  · intro h
    have e1 := c_lsub q d
    rw [h, show (0 : Int64).toInt = 0 from rfl] at e1
    have b1 := rng64 q
    have b2 := rng64 d
    rw [← Int64.toInt_inj]
    omega
  · intro h; rw [h]; exact Int64.sub_self q
theorem own_top (q : Int64) : ¬ (9223372036854775807 : Int64) < q := by
  rw [Int64.lt_iff_toInt_lt, show (9223372036854775807 : Int64).toInt = 9223372036854775807 from rfl]
  have := rng64 q
  omega
theorem own_law (a : Int64) (b c : Int32) : own_f0 a b c = 1 := by
  unfold own_f0 own_j0_6 own_j0_11 own_j0_10 own_j0_5 own_j0_9 own_j0_8 own_j0_7 own_j0_4 own_j0_3 own_j0_2 own_f2 own_j2_1
  generalize own_f1 a (b &&& 7) c = q
  generalize own_j0_1 b = w
  have e1 := own_pos q
  have e2 := own_rem q (q / 100 * 100)
  have e3 := own_top q
  by_cases h0 : w = 0
  · simp only [if_pos h0, if_neg e3]
    by_cases h1 : 0 < q
    · have h1' : ¬ q < 1 := fun z => e1.mp z h1
      by_cases h2 : q / 100 * 100 = q
      · simp only [if_pos h1, if_neg h1', if_pos h2, if_pos (e2.mpr h2), if_true]; decide
      · have h2' : ¬ q - q / 100 * 100 = 0 := fun z => h2 (e2.mp z)
        simp only [if_pos h1, if_neg h1', if_neg h2, if_neg h2', if_true, if_neg (show ¬ (1 : Int32) = 0 by decide)]; decide
    · simp only [if_neg h1, if_pos (e1.mpr h1), if_true]; decide
  · simp only [if_neg h0]
    by_cases h1 : 0 < q
    · have h1' : ¬ q < 1 := fun z => e1.mp z h1
      by_cases h2 : q / 100 * 100 = q
      · by_cases h3 : 500000 < q
        · simp only [if_pos h1, if_neg h1', if_pos h2, if_pos (e2.mpr h2), if_pos h3, if_true]; decide
        · simp only [if_pos h1, if_neg h1', if_pos h2, if_pos (e2.mpr h2), if_neg h3, if_true]; decide
      · have h2' : ¬ q - q / 100 * 100 = 0 := fun z => h2 (e2.mp z)
        simp only [if_pos h1, if_neg h1', if_neg h2, if_neg h2', if_true, if_neg (show ¬ (1 : Int32) = 0 by decide)]; decide
    · simp only [if_neg h1, if_pos (e1.mpr h1), if_true]; decide
theorem own_t2 : (Jvm.Cond.laysStatic "khoplenh/RuleSet" "HOSE" "Lkhoplenh/RuleSet;") ∈ tables_1 := List.mem_of_getElem? (i := 2) rfl
theorem own_t17 : (Jvm.Cond.laysStatic "khoplenh/RuleSet" "HNX" "Lkhoplenh/RuleSet;") ∈ tables_1 := List.mem_of_getElem? (i := 17) rfl
set_option maxRecDepth 65536 in
set_option maxHeartbeats 40000000 in
theorem comes_1 {Post : Tables → Env → Array Value → State → Outcome → State → Prop} (hpost : ∀ tb e args s v u, (limb_1_1.after args s (.returned v) u = true ∧ limb_1_2.after args s (.returned v) u = true) → FrameEnd s (.returned v) u (Jvm.fieldLocs frame_1_writes args s ++ Jvm.arrayLocs frame_1_arrays args s ++ Jvm.staticLocs frame_1_statics s) 0 0 → Post tb e args s (.returned v) u) :
    ArmFor flags0 classFile x code maxLocals ret World_1 tables_1 room_1 Calls_1 rest_1 Pre_1 Post := by
  intro l hfl _ _ p e ha hc hk s m args below hf hA hF happ hP
  obtain ⟨hcalls, hrest, hpre⟩ := hP
  obtain ⟨-, -, -, hnamed, -, -, -, hat⟩ := (Spec.applies_iff hf).mp happ
  obtain ⟨hg, hn⟩ := and_e (Cond.before_iff.mp (show (Jvm.Cond.and given_1 narrow_1).before args s = true from hpre))
  obtain ⟨gg1, gg2⟩ := and_e hg
  obtain ⟨gg3, gg4⟩ := and_e gg2
  obtain ⟨gg5, gg6⟩ := and_e gg4
  obtain ⟨w0, w1, w2, rfl⟩ : ∃ w0 w1 w2 : Value, args = #[w0, w1, w2] := by
    have hs : args.size = 3 := by simpa [Cond.value, given_1] using gg1
    obtain ⟨L⟩ := args
    match L, hs with
    | [w0, w1, w2], _ => exact ⟨w0, w1, w2, rfl⟩
  have hw := fun d (hd : d ∈ tables_1) => atoms_spec (ws := Jvm.Cond.code x code maxLocals ret :: tables_1) hat d (List.mem_cons_of_mem _ hd)
  have hfit : Fit s := fun {y c} hc i hi => by
    obtain ⟨ha, rfl⟩ := Array.getElem?_eq_some_iff.mp hc
    have q := List.all_eq_true.mp ((Array.all_eq_true_iff_forall_mem.mp hF) _ (Array.getElem_mem ha)) i (List.mem_range.mpr hi)
    simpa [Array.getElem?_eq_getElem hi] using q
  obtain ⟨i0, ei0⟩ := isL_v gg3
  obtain rfl : w0 = (.long i0) := Option.some.inj ei0
  obtain ⟨i1, ei1⟩ := is_v gg5
  obtain rfl : w1 = (.int i1) := Option.some.inj ei1
  obtain ⟨i2, ei2⟩ := is_v gg6
  obtain rfl : w2 = (.int i2) := Option.some.inj ei2
  obtain ⟨n1, m1⟩ := and_e hn
  obtain ⟨n2, m2⟩ := and_e m1
  obtain ⟨n3, m3⟩ := and_e m2
  obtain ⟨n4, m4⟩ := and_e m3
  obtain ⟨n5, m5⟩ := and_e m4
  have n6 := m5
  obtain ⟨s_HOSE, v_HOSE⟩ := exa_v n1
  have E_HOSE := Exa.start v_HOSE n1
  have S_HOSE := Sta.start v_HOSE (Or.inr ⟨(hw _ own_t1), (hw _ own_t2)⟩)
  have L_HOSE := own_fldJ v_HOSE n2
  have M_HOSE := own_fldJ v_HOSE n5
  obtain ⟨s_HNX, v_HNX⟩ := exa_v n3
  have E_HNX := Exa.start v_HNX n3
  have S_HNX := Sta.start v_HNX (Or.inr ⟨(hw _ own_t1), (hw _ own_t17)⟩)
  have L_HNX := own_fldJ v_HNX n4
  have M_HNX := own_fldJ v_HNX n6
  obtain ⟨n, o, h1, h2, h3, v, L, rfl, hQ, hq⟩ := rm0 l s _ hw tables_1 i0 i1 i2 s_HOSE s_HNX s.heap s.heap.size E_HOSE L_HOSE M_HOSE E_HNX L_HNX M_HNX S_HOSE S_HNX p e ha hc hk s m _ below hf ((Spec.applies_iff_loose hf).mp happ).1 ⟨rfl, State.Warmed39.refl s, rfl⟩ trivial
  obtain ⟨hv, N, -⟩ := hQ
  rw [show (own_f0 i0 i1 i2 : Int32) = 1 from own_law i0 i1 i2] at hv
  subst hv
  refine ⟨n, _, h1, h2, h3, hpost _ _ _ _ _ _ ⟨Cond.after_iff.mpr rfl, Cond.after_iff.mpr (eq_i res_at (Term.int_eval (1)) rfl)⟩ ⟨hq.1, hq.2.1, (hq.2.2.sift fun y hy => Or.inr (N y hy)).mono (by decide) (by decide)⟩⟩
theorem main_1_1 : Claimed_1_1 := comes_1 fun _ _ _ _ _ _ h hF => ⟨h.1, hF⟩
theorem main_1_2 : Claimed_1_2 := comes_1 fun _ _ _ _ _ _ h hF => ⟨h.2, hF⟩
end Jvm.Pilot.@@N@@
namespace Jvm.Pilot.@@N@@
open Jvm Jvm.ClassFile Sem Op Lib Jvm.Free Jvm.Stand Jvm.Pilot.@@N@@.Jvm.D
/-! MADE BY PROGRAM (witnessworld.py) out of the Statement's table words and the real class files: 12 classes; the members and pool entries that the words name. The judged class is class 1, her method 1. -/
namespace start1
open Jvm.ClassFile
def u (s : String) : CpInfo := .utf8 (stringToUtf16 s)
/-- a pool by its gaps: so many unusable entries, then the entry; so many at the end -/
def gap : Nat → List CpInfo → List CpInfo
  | 0, r => r
  | n + 1, r => .unusable :: gap n r
def poolList (es : List (Nat × CpInfo)) (last : Nat) : List CpInfo := es.foldr (fun e r => gap e.1 (e.2 :: r)) (gap last [])
def pool (es : List (Nat × CpInfo)) (last : Nat) : Array CpInfo := ⟨poolList es last⟩
def fileOf (pool : Array CpInfo) (this : Nat) (attrs : Array Attribute := #[]) (ms : Array MethodInfo := #[]) (fl : Nat := 33) (sup : Nat := 0) (ifs : Array Nat := #[]) (fds : Array FieldInfo := #[]) : ClassFile where
  minorVersion := 0
  majorVersion := 65
  constantPool := pool
  accessFlags := fl
  thisClass := this
  superClass := sup
  interfaces := ifs
  fields := fds
  methods := ms
  attributes := attrs
def plain (name : String) (sup : Option ClassId) : Class where
  name := name
  kind := .ordinary
  loader := none
  accessFlags := 33
  super := sup
  interfaces := #[]
  cf := none
  fields := #[]
  methods := #[]
  instanceTypes := #[]
  staticTypes := #[]
  resolved := #[]
  callSites := []
  init := .initialized
  statics := none
  mirror := none

def pool0 : Array CpInfo := pool [(5, u "<init>"), (0, u "()V"), (1, .class_ 10), (1, u "java/lang/Object")] 113

def k0m0 : Method := { name := "<init>", desc := "()V", sig := { parameters := [], returnType := none }, accessFlags := 1, code := none }
/-- java/lang/Object -/
def k0 : Class := { plain "java/lang/Object" none with
  accessFlags := 33
  interfaces := #[]
  cf := some (fileOf pool0 8 #[] #[{ accessFlags := 1, nameIndex := 5, descriptorIndex := 6, attributes := #[] }] 33 0 #[] #[])
  fields := #[]
  methods := #[k0m0]
  instanceTypes := #[]
  staticTypes := #[]
  resolved := Array.replicate 124 none
  statics := none }

def pool1 : Array CpInfo := pool [(2, .class_ 4), (1, u "java/lang/Object"), (0, u "<init>"), (0, u "()V"), (0, .fieldref 8 9), (0, .class_ 10), (0, .nameAndType 11 12), (0, u "khoplenh/RuleSet"), (0, u "HOSE"), (0, u "Lkhoplenh/RuleSet;"), (0, .fieldref 8 14), (0, .nameAndType 15 12), (0, u "HNX"), (0, .methodref 17 18), (0, .class_ 19), (0, .nameAndType 20 21), (0, u "khoplenh/RuleSetAllowsQuantityPinLaw"), (0, u "quantityOf"), (0, u "(JII)J"), (0, .long 100), (1, .long 500000), (1, .methodref 8 27), (0, .nameAndType 28 29), (0, u "allowsQuantity"), (0, u "(J)Z"), (2, .long 9223372036854775807), (1, .long 9223372036854775808), (3, u "law"), (0, u "(JII)Z")] 3

def k1m0 : Method := { name := "<init>", desc := "()V", sig := { parameters := [], returnType := none }, accessFlags := 1, code := none }
def k1c1 : Code := { maxStack := 4, maxLocals := 12, code := code, exceptionTable := #[], attributes := #[] }
def k1m1 : Method := { name := "law", desc := "(JII)Z", sig := { parameters := [.long, .int, .int], returnType := some .boolean }, accessFlags := 9, code := some k1c1 }
def k1c2 : Code := { maxStack := 4, maxLocals := 4, code := method_3_code, exceptionTable := #[], attributes := #[] }
def k1m2 : Method := { name := "quantityOf", desc := "(JII)J", sig := { parameters := [.long, .int, .int], returnType := some .long }, accessFlags := 10, code := some k1c2 }
/-- khoplenh/RuleSetAllowsQuantityPinLaw -/
def k1 : Class := { plain "khoplenh/RuleSetAllowsQuantityPinLaw" (some 0) with
  accessFlags := 49
  interfaces := #[]
  cf := some (fileOf pool1 17 #[] #[{ accessFlags := 1, nameIndex := 5, descriptorIndex := 6, attributes := #[] }, { accessFlags := 9, nameIndex := 38, descriptorIndex := 39, attributes := #[] }, { accessFlags := 10, nameIndex := 20, descriptorIndex := 21, attributes := #[] }] 49 2 #[] #[])
  fields := #[]
  methods := #[k1m0, k1m1, k1m2]
  instanceTypes := #[]
  staticTypes := #[]
  resolved := Array.replicate 43 none
  statics := none }

def pool2 : Array CpInfo := pool [(1, .class_ 2), (0, u "java/lang/constant/Constable"), (0, .class_ 4), (0, u "java/lang/Object")] 6

/-- java/lang/constant/Constable -/
def k2 : Class := { plain "java/lang/constant/Constable" (some 0) with
  accessFlags := 1537
  interfaces := #[]
  cf := some (fileOf pool2 1 #[] #[] 1537 3 #[] #[])
  fields := #[]
  methods := #[]
  instanceTypes := #[]
  staticTypes := #[]
  resolved := Array.replicate 11 none
  statics := none }

def pool3 : Array CpInfo := pool [(1, .class_ 2), (0, u "java/lang/Comparable"), (0, .class_ 4), (0, u "java/lang/Object")] 7

/-- java/lang/Comparable -/
def k3 : Class := { plain "java/lang/Comparable" (some 0) with
  accessFlags := 1537
  interfaces := #[]
  cf := some (fileOf pool3 1 #[] #[] 1537 3 #[] #[])
  fields := #[]
  methods := #[]
  instanceTypes := #[]
  staticTypes := #[]
  resolved := Array.replicate 12 none
  statics := none }

def pool4 : Array CpInfo := pool [(1, .class_ 2), (0, u "java/io/Serializable"), (0, .class_ 4), (0, u "java/lang/Object")] 2

/-- java/io/Serializable -/
def k4 : Class := { plain "java/io/Serializable" (some 0) with
  accessFlags := 1537
  interfaces := #[]
  cf := some (fileOf pool4 1 #[] #[] 1537 3 #[] #[])
  fields := #[]
  methods := #[]
  instanceTypes := #[]
  staticTypes := #[]
  resolved := Array.replicate 7 none
  statics := none }

def pool5 : Array CpInfo := pool [(2, .class_ 4), (1, u "java/lang/Enum"), (0, u "name"), (0, u "Ljava/lang/String;"), (2, u "ordinal"), (0, u "I"), (1, .class_ 14), (1, u "java/lang/Object"), (4, u "hash"), (86, .class_ 108), (1, u "java/lang/Enum$EnumDesc"), (2, .class_ 112), (0, u "java/lang/constant/Constable"), (0, .class_ 114), (0, u "java/lang/Comparable"), (0, .class_ 116), (0, u "java/io/Serializable")] 87

/-- java/lang/Enum -/
def k5 : Class := { plain "java/lang/Enum" (some 0) with
  accessFlags := 1057
  interfaces := #[2, 3, 4]
  cf := some (fileOf pool5 2 #[.nestMembers #[106]] #[] 1057 12 #[111, 113, 115] #[{ accessFlags := 18, nameIndex := 5, descriptorIndex := 6, attributes := #[] }, { accessFlags := 18, nameIndex := 9, descriptorIndex := 10, attributes := #[] }, { accessFlags := 2, nameIndex := 19, descriptorIndex := 10, attributes := #[] }])
  fields := #[{ name := "name", type := (.object "java/lang/String"), accessFlags := 18, slot := 0, constantValue := 0 }, { name := "ordinal", type := .int, accessFlags := 18, slot := 1, constantValue := 0 }, { name := "hash", type := .int, accessFlags := 2, slot := 2, constantValue := 0 }]
  methods := #[]
  instanceTypes := #[(.object "java/lang/String"), .int, .int]
  staticTypes := #[]
  resolved := Array.replicate 204 none
  statics := none }

def pool6 : Array CpInfo := pool [(1, .class_ 2), (0, u "khoplenh/RuleSet"), (2, u "HOSE"), (0, u "Lkhoplenh/RuleSet;"), (2, u "HNX"), (2, u "$VALUES"), (0, u "[Lkhoplenh/RuleSet;"), (6, .class_ 22), (1, u "java/lang/Enum"), (8, u "ticks"), (0, u "Lkhoplenh/TickLadder;"), (2, u "bandBasisPoints"), (0, u "J"), (0, .fieldref 1 38), (0, .nameAndType 39 36), (0, u "lot"), (0, .fieldref 1 41), (0, .nameAndType 42 36), (0, u "maxQuantity"), (7, u "orderTypes"), (0, u "Ljava/util/Map;"), (8, u "changeSessions"), (0, u "Ljava/util/Set;"), (2, u "day"), (0, u "Ljava/util/List;"), (28, u "(J)Z"), (179, u "allowsQuantity")] 35

def k6c0 : Code := { maxStack := 4, maxLocals := 3, code := prog_23_method_7_code, exceptionTable := #[], attributes := #[] }
def k6m0 : Method := { name := "allowsQuantity", desc := "(J)Z", sig := { parameters := [.long], returnType := some .boolean }, accessFlags := 1, code := some k6c0 }
/-- khoplenh/RuleSet -/
def k6 : Class := { plain "khoplenh/RuleSet" (some 5) with
  accessFlags := 16433
  interfaces := #[]
  cf := some (fileOf pool6 1 #[] #[{ accessFlags := 1, nameIndex := 274, descriptorIndex := 94, attributes := #[] }] 16433 20 #[] #[{ accessFlags := 16409, nameIndex := 5, descriptorIndex := 6, attributes := #[] }, { accessFlags := 16409, nameIndex := 9, descriptorIndex := 6, attributes := #[] }, { accessFlags := 18, nameIndex := 31, descriptorIndex := 32, attributes := #[] }, { accessFlags := 18, nameIndex := 35, descriptorIndex := 36, attributes := #[] }, { accessFlags := 18, nameIndex := 39, descriptorIndex := 36, attributes := #[] }, { accessFlags := 18, nameIndex := 42, descriptorIndex := 36, attributes := #[] }, { accessFlags := 18, nameIndex := 50, descriptorIndex := 51, attributes := #[] }, { accessFlags := 18, nameIndex := 60, descriptorIndex := 61, attributes := #[] }, { accessFlags := 18, nameIndex := 64, descriptorIndex := 65, attributes := #[] }, { accessFlags := 4122, nameIndex := 12, descriptorIndex := 13, attributes := #[] }])
  fields := #[{ name := "HOSE", type := (.object "khoplenh/RuleSet"), accessFlags := 16409, slot := 0, constantValue := 0 }, { name := "HNX", type := (.object "khoplenh/RuleSet"), accessFlags := 16409, slot := 1, constantValue := 0 }, { name := "ticks", type := (.object "khoplenh/TickLadder"), accessFlags := 18, slot := 3, constantValue := 0 }, { name := "bandBasisPoints", type := .long, accessFlags := 18, slot := 4, constantValue := 0 }, { name := "lot", type := .long, accessFlags := 18, slot := 5, constantValue := 0 }, { name := "maxQuantity", type := .long, accessFlags := 18, slot := 6, constantValue := 0 }, { name := "orderTypes", type := (.object "java/util/Map"), accessFlags := 18, slot := 7, constantValue := 0 }, { name := "changeSessions", type := (.object "java/util/Set"), accessFlags := 18, slot := 8, constantValue := 0 }, { name := "day", type := (.object "java/util/List"), accessFlags := 18, slot := 9, constantValue := 0 }, { name := "$VALUES", type := (.array (.object "khoplenh/RuleSet")), accessFlags := 4122, slot := 2, constantValue := 0 }]
  methods := #[k6m0]
  instanceTypes := #[(.object "java/lang/String"), .int, .int, (.object "khoplenh/TickLadder"), .long, .long, .long, (.object "java/util/Map"), (.object "java/util/Set"), (.object "java/util/List")]
  staticTypes := #[(.object "khoplenh/RuleSet"), (.object "khoplenh/RuleSet"), (.array (.object "khoplenh/RuleSet"))]
  resolved := Array.replicate 310 none
  statics := some 0 }

def pool7 : Array CpInfo := pool [(1, u "java/lang/Cloneable"), (0, .class_ 1), (0, u "java/lang/Object"), (0, .class_ 3)] 3

/-- java/lang/Cloneable -/
def k7 : Class := { plain "java/lang/Cloneable" (some 0) with
  accessFlags := 1537
  interfaces := #[]
  cf := some (fileOf pool7 2 #[] #[] 1537 4 #[] #[])
  fields := #[]
  methods := #[]
  instanceTypes := #[]
  staticTypes := #[]
  resolved := Array.replicate 8 none
  statics := none }

/-- the primitive byte -/
def k8 : Class := { plain "byte" none with kind := .primitive 'B', accessFlags := 0x411 }
/-- [B -/
def k9 : Class := { plain "[B" (some 0) with kind := .array 8 .byte, interfaces := #[7, 4], accessFlags := 1041 }

/-- the primitive int -/
def k10 : Class := { plain "int" none with kind := .primitive 'I', accessFlags := 0x411 }
/-- [I -/
def k11 : Class := { plain "[I" (some 0) with kind := .array 10 .int, interfaces := #[7, 4], accessFlags := 1041 }

def heap : Heap := #[{ cls := 6, slots := #[.ref 1, .ref 2, .null], vm := .statics 6 },
  { cls := 6, slots := #[.null, .int 0, .int 0, .null, .long 0, .long 100, .long 500000, .null, .null, .null], vm := .none },
  { cls := 6, slots := #[.null, .int 0, .int 0, .null, .long 0, .long 100, .long 9223372036854775807, .null, .null, .null], vm := .none }]
def classes : Array Class := #[k0, k1, k2, k3, k4, k5, k6, k7, k8, k9, k10, k11]
def interned : List (Array UInt16 × Addr) := []
def slotsUsed : Nat := 23
def theMethod : MethodId := ⟨1, 1⟩
def args0 : Array Value := #[.long 5, .int 5, .int 7]
def aboutOver (below : List Frame) : State where
  vm := { classes := classes, interned := interned.toArray }
  heap := heap
  slotsUsed := slotsUsed
  threads := #[{ frames := .invoking theMethod args0 :: below }]
def below0 : List Frame := [.native { method := ⟨0, 0⟩, args := #[] }]
def about1 : State := aboutOver below0
def p0 : Program := .bare "" "" ""
def e0 : Env := launch0.env 0 0 0
theorem w_frames : about1.frames = Frame.invoking theMethod args0 :: below0 := rfl
set_option maxRecDepth 65536 in
theorem w_args : argsFit about1.vm theMethod args0 = true := by decide +kernel
set_option maxRecDepth 65536 in
theorem w_heap : heapFits about1 = true := by decide +kernel
set_option maxRecDepth 65536 in
theorem w_runnable : about1.curStatus? = some .runnable := by decide +kernel
set_option maxRecDepth 65536 in
theorem w_alone : about1.alone = true := by decide +kernel
set_option maxRecDepth 65536 in
theorem w_named : about1.methodNamed? x = some theMethod := by decide +kernel
set_option maxRecDepth 65536 in
theorem w_hears : about1.hears theMethod below0 = true := by decide +kernel
set_option maxRecDepth 65536 in
theorem w_ripe : about1.ripe theMethod args0 below0 = true := by decide +kernel
theorem w_running : about1.status = .running := rfl
set_option maxRecDepth 65536 in
theorem w_room : about1.hasRoom e0.platform room_1 = true :=
  launch0.hasRoom_least _ room_1 (by decide +kernel) (by decide +kernel) (by decide +kernel) (by decide +kernel) (by decide +kernel) (by decide +kernel)
theorem allAtoms_all (ts : List Jvm.Cond) (a : Array Jvm.Value) (st : Jvm.State) : (allAtoms ts).before a st = ts.all (fun c => c.before a st) := by
  induction ts with
  | nil => rfl
  | cons c t ih =>
    show (Jvm.Cond.and c (allAtoms t)).before a st = _
    rw [Jvm.Cond.before_and, ih, List.all_cons]
def words1 : List Jvm.Cond := Jvm.Cond.code x code maxLocals ret :: tables_1
/-- a 'code' word, met by the world's own term for the bytes: nothing is compared byte by byte -/
theorem code_word {y : MethodName} {bytes : ByteArray} {mx : Nat} {rt : Option FieldType} {a : Array Value} {s : State} {m : MethodId} {meth : Method} {c : Code} (h1 : s.methodNamed? y = some m) (h2 : s.vm.method? m = some meth) (h3 : meth.code = some c) (h4 : c.code = bytes)
    (h5 : (c.maxLocals == mx && c.exceptionTable.isEmpty && decide (c.maxStack ≤ mostOperands) && decide (meth.sig.returnType = rt) && !meth.locks && decide (parseMethodDescriptor y.desc = some meth.sig)) = true) : (Jvm.Cond.code y bytes mx rt).before a s = true := by
  simp only [Bool.and_eq_true, beq_iff_eq, Bool.not_eq_true', decide_eq_true_eq] at h5
  obtain ⟨⟨⟨⟨⟨g1, g2⟩, g3⟩, g4⟩, g5⟩, g6⟩ := h5
  simp [Cond.before, Cond.holds, Cond.value, h1, h2, h3, h4, g1, g2, g3, g4, g5, g6]
def isCode : Jvm.Cond → Bool
  | .code _ _ _ _ => true
  | _ => false
theorem all_split {L : List Jvm.Cond} {P : Jvm.Cond → Bool} (h1 : L.all (fun c => isCode c || P c) = true) (h2 : ∀ c ∈ L.filter isCode, P c = true) : L.all P = true := by
  refine List.all_eq_true.mpr fun c hc => ?_
  have h := List.all_eq_true.mp h1 c hc
  rcases Bool.eq_false_or_eq_true (isCode c) with hi | hi
  · exact h2 c (List.mem_filter.mpr ⟨hc, hi⟩)
  · simpa [hi] using h
set_option maxRecDepth 65536 in
theorem w_c0 : (Jvm.Cond.code x code maxLocals ret).before args0 about1 = true := code_word (m := ⟨1, 1⟩) (meth := k1m1) (c := k1c1) (by decide +kernel) rfl rfl rfl (by decide +kernel)
set_option maxRecDepth 65536 in
theorem w_c1 : (Jvm.Cond.code ({ cls := "khoplenh/RuleSetAllowsQuantityPinLaw", name := "quantityOf", desc := "(JII)J" } : Jvm.MethodName) method_3_code (4 : Nat) (Option.some Jvm.ClassFile.FieldType.long)).before args0 about1 = true := code_word (m := ⟨1, 2⟩) (meth := k1m2) (c := k1c2) (by decide +kernel) rfl rfl rfl (by decide +kernel)
set_option maxRecDepth 65536 in
theorem w_c2 : (Jvm.Cond.code ({ cls := "khoplenh/RuleSet", name := "allowsQuantity", desc := "(J)Z" } : Jvm.MethodName) prog_23_method_7_code (3 : Nat) (Option.some Jvm.ClassFile.FieldType.boolean)).before args0 about1 = true := code_word (m := ⟨6, 0⟩) (meth := k6m0) (c := k6c0) (by decide +kernel) rfl rfl rfl (by decide +kernel)
def codes1 : List Jvm.Cond := [Jvm.Cond.code x code maxLocals ret, Jvm.Cond.code ({ cls := "khoplenh/RuleSetAllowsQuantityPinLaw", name := "quantityOf", desc := "(JII)J" } : Jvm.MethodName) method_3_code (4 : Nat) (Option.some Jvm.ClassFile.FieldType.long), Jvm.Cond.code ({ cls := "khoplenh/RuleSet", name := "allowsQuantity", desc := "(J)Z" } : Jvm.MethodName) prog_23_method_7_code (3 : Nat) (Option.some Jvm.ClassFile.FieldType.boolean)]
set_option maxRecDepth 65536 in
theorem codes_eq : words1.filter isCode = codes1 := rfl
theorem w_codes : ∀ c ∈ words1.filter isCode, c.before args0 about1 = true := by
  rw [codes_eq]
  intro c hc
  simp only [codes1, List.mem_cons, List.not_mem_nil, or_false] at hc
  rcases hc with rfl | rfl | rfl
  · exact w_c0
  · exact w_c1
  · exact w_c2
set_option maxRecDepth 65536 in
theorem w_t1 : words1.all (fun c => isCode c || c.before args0 about1) = true := by decide +kernel
theorem w_tables : (allAtoms (Jvm.Cond.code x code maxLocals ret :: tables_1)).before args0 about1 = true := by
  rw [allAtoms_all]
  show words1.all (fun c => c.before args0 about1) = true
  refine all_split ?_ w_codes
  rw [w_t1]
set_option maxRecDepth 65536 in
theorem w_case : (Jvm.Cond.and given_1 narrow_1).before args0 about1 = true := by decide +kernel
theorem w_applies : (headSpec (Jvm.Cond.code x code maxLocals ret :: tables_1) room_1).applies x e0.platform about1 = true :=
  (Spec.applies_iff w_frames).mpr ⟨w_running, w_runnable, w_alone, w_named, w_hears, w_ripe, w_room, w_tables⟩
theorem atStart : AtStart classFile x code maxLocals ret World_1 tables_1 room_1 Calls_1 rest_1 Pre_1 launch0 p0 e0 about1 theMethod args0 below0 :=
  ⟨lists_1, trivial, launch0.admits_env _ _ _, launch0.least_env, fairChoices_fair.cas, fairChoices_fair.clock, w_frames, w_args, w_heap, w_applies, trivial, trivial, w_case⟩
end start1
theorem witness_1 : WitnessClaimed_1 := ⟨start1.p0, start1.e0, start1.about1, start1.theMethod, start1.args0, start1.below0, start1.atStart⟩
end Jvm.Pilot.@@N@@
