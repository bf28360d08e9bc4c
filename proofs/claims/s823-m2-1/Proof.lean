import JvmDerived
import JvmDerived.Pilot.@@N@@Statement
import JvmDerived.Pilot.@@N@@Code
set_option linter.unusedVariables false
set_option linter.unusedSimpArgs false
@@BLOCK:NumsL.lean.txt@@
namespace Jvm.Pilot.@@N@@
open Jvm Jvm.ClassFile Sem Op Lib Jvm.Free Jvm.Stand Jvm.LawKit Jvm.RoadKit Bundle Jvm.Pilot.@@N@@.Jvm.D
section Own
variable {p : Program} {l : Launch} {e : Env} {R rm : Room} {s : State} {m : MethodId} {args : Array Value} {below : List Frame} {meth : Method} {c : Code} {T : State} {locs : List Loc} {cells slots : Nat} {Z : State} {a0 : Array Value} {h : Heap}
/-- the run comes to the end of the invocation, and what is asked holds there -/
def own_Goes (p : Program) (e : Env) (below : List Frame) (G : Outcome → State → Prop) (S : State) : Prop := ∃ s₂ o, Steps p.tables e below S s₂ ∧ s₂.status = .running ∧ Ended s₂ below o ∧ G o s₂
theorem own_go {G : Outcome → State → Prop} {S S' : State} (h : ∀ t, Steps p.tables e below S' t → Steps p.tables e below S t) (k : own_Goes p e below G S') : own_Goes p e below G S := by
  obtain ⟨s₂, o, h1, h2⟩ := k
  exact ⟨s₂, o, h _ h1, h2⟩
theorem own_tr {G : Outcome → State → Prop} {S S' : State} (h : Steps p.tables e below S S') (k : own_Goes p e below G S') : own_Goes p e below G S := own_go (fun _ q => h.trans q) k
abbrev own_End (s : State) (rm : Room) (Q : Option Value → Heap → List Loc → Prop) : Outcome → State → Prop := fun o U' => ∃ v L, o = .returned v ∧ Q v U'.heap L ∧ FrameEnd s o U' L rm.cells rm.slots
/-- a body's contract: with these arguments, over this heap, it returns and leaves what Q says -/
def own_Met (l : Launch) (Z : State) (y : MethodName) (bytes : ByteArray) (maxL : Nat) (ret : Option FieldType) (ws : List Jvm.Cond) (rm : Room) (as : Array Value) (h0 : Heap) (Q : Option Value → Heap → List Loc → Prop) : Prop :=
  MetFree l y (head1 (Jvm.Cond.code y bytes maxL ret :: ws) rm) (fun a U => a = as ∧ Z.Warmed39 U.vm ∧ U.heap = h0) (fun _ _ _ _ _ => True) (fun _ U o U' => ∃ v L, o = .returned v ∧ Q v U'.heap L ∧ FrameEnd U o U' L rm.cells rm.slots)
theorem own_met {y : MethodName} {bytes : ByteArray} {maxL : Nat} {ret : Option FieldType} {ws : List Jvm.Cond} {as : Array Value} {h0 : Heap} {Q : Option Value → Heap → List Loc → Prop} (hp : plainFor y = true)
    (body : ∀ (p : Program) (e : Env) (s : State) (m : MethodId) (below : List Frame) (meth : Method) (c : Code) (s₁ : State), p.tables.exec = Jvm.exec → c.code = bytes → c.maxLocals = maxL → s.vm.findClass y.cls = some m.cls → meth.name = y.name → meth.sig.returnType = ret → meth.locks = false → Z.Warmed39 s.vm → s₁.heap = h0 →
      Stand p l e rm s m as below meth c s₁ [] 0 0 → own_Goes p e below (own_End s rm Q) (s₁.setTop (entryFrame m as maxL))) : own_Met l Z y bytes maxL ret ws rm as h0 Q := by
  refine MetFree.of_bodySF hp hisR ?_
  intro p e s m args below meth c s₁ Bd hml hP hK
  obtain ⟨rfl, hZ, hh⟩ := hP
  exact body p e s m below meth c s₁ Bd.exec Bd.bytes hml (findClass_of_methodNamed Bd.named) (name_of_methodNamed Bd.named Bd.method).1 Bd.returns Bd.notSynchronized hZ (by rw [← hh, Bd.state]; rfl) (Stand.of_body Bd)
/-- the returns -/
theorem own_retV {Q : Option Value → Heap → List Loc → Prop} (X : Stand p l e rm s m args below meth c T locs cells slots) (hx : p.tables.exec = Jvm.exec) (hlk : meth.locks = false) {pc : Nat} {Ls : Array Slot} {w : Value} {t : FieldType} {i : Instr} {rest : List Value} (hret : meth.sig.returnType = some t) (hn : narrow t w = w)
    (hi : (i = .ireturn ∧ (t = .int ∨ t = .boolean ∨ t = .byte ∨ t = .char ∨ t = .short) ∧ ∃ z, w = .int z) ∨ (i = .lreturn ∧ t = .long ∧ ∃ z, w = .long z) ∨ (i = .dreturn ∧ t = .double ∧ ∃ z, w = .double z) ∨ (i = .freturn ∧ t = .float ∧ ∃ z, w = .float z) ∨ (i = .areturn ∧ t.isReference = true ∧ w.isRef = true))
    (hd : decode c.code pc = .ok (i, 1)) (hc : cells ≤ rm.cells) (hs : slots ≤ rm.slots) (hq : Q (some w) T.heap locs) : own_Goes p e below (own_End s rm Q) (T.setTop (mkF m pc Ls (w :: rest))) := by
  obtain ⟨fs, hr, hrun, hended, hW, hsame⟩ := X.leave (v := some w) (fun h => by rw [hret] at h; cases h) hlk
  exact ⟨_, _, retOut X hx hret hn hi hd hr, hrun, hended, _, _, rfl, hq, ⟨_, rfl⟩, hW, hsame.mono hc hs⟩
theorem own_retI {Q : Option Value → Heap → List Loc → Prop} (X : Stand p l e rm s m args below meth c T locs cells slots) (hx : p.tables.exec = Jvm.exec) (hlk : meth.locks = false) {pc : Nat} {Ls : Array Slot} {z : Int32} {rest : List Value} (hret : meth.sig.returnType = some .int)
    (hd : decode c.code pc = .ok (.ireturn, 1)) (hc : cells ≤ rm.cells) (hs : slots ≤ rm.slots) (hq : Q (some (.int z)) T.heap locs) : own_Goes p e below (own_End s rm Q) (T.setTop (mkF m pc Ls (.int z :: rest))) :=
  own_retV X hx hlk hret rfl (Or.inl ⟨rfl, Or.inl rfl, z, rfl⟩) hd hc hs hq
theorem own_retJ {Q : Option Value → Heap → List Loc → Prop} (X : Stand p l e rm s m args below meth c T locs cells slots) (hx : p.tables.exec = Jvm.exec) (hlk : meth.locks = false) {pc : Nat} {Ls : Array Slot} {z : Int64} {rest : List Value} (hret : meth.sig.returnType = some .long)
    (hd : decode c.code pc = .ok (.lreturn, 1)) (hc : cells ≤ rm.cells) (hs : slots ≤ rm.slots) (hq : Q (some (.long z)) T.heap locs) : own_Goes p e below (own_End s rm Q) (T.setTop (mkF m pc Ls (.long z :: rest))) :=
  own_retV X hx hlk hret rfl (Or.inr (Or.inl ⟨rfl, rfl, z, rfl⟩)) hd hc hs hq
theorem own_retR {Q : Option Value → Heap → List Loc → Prop} (X : Stand p l e rm s m args below meth c T locs cells slots) (hx : p.tables.exec = Jvm.exec) (hlk : meth.locks = false) {pc : Nat} {Ls : Array Slot} {w : Value} {t : FieldType} {rest : List Value} (hret : meth.sig.returnType = some t) (ht : t.isReference = true) (hw : w.isRef = true)
    (hd : decode c.code pc = .ok (.areturn, 1)) (hc : cells ≤ rm.cells) (hs : slots ≤ rm.slots) (hq : Q (some w) T.heap locs) : own_Goes p e below (own_End s rm Q) (T.setTop (mkF m pc Ls (w :: rest))) :=
  own_retV X hx hlk hret (by cases t <;> first | rfl | cases ht) (Or.inr (Or.inr (Or.inr (Or.inr ⟨rfl, ht, hw⟩)))) hd hc hs hq
theorem own_retN {Q : Option Value → Heap → List Loc → Prop} (X : Stand p l e rm s m args below meth c T locs cells slots) (hx : p.tables.exec = Jvm.exec) (hlk : meth.locks = false) {pc : Nat} {Ls : Array Slot} {z z' : Int32} {t : FieldType} {rest : List Value} (hret : meth.sig.returnType = some t) (ht : t = .boolean ∨ t = .byte ∨ t = .char ∨ t = .short) (hz : nar t z = z')
    (hd : decode c.code pc = .ok (.ireturn, 1)) (hc : cells ≤ rm.cells) (hs : slots ≤ rm.slots) (hq : Q (some (.int z')) T.heap locs) : own_Goes p e below (own_End s rm Q) (T.setTop (mkF m pc Ls (.int z :: rest))) := by
  subst hz
  obtain ⟨fs, hr, hrun, hended, hW, hsame⟩ := X.leave (v := some (.int (nar t z))) (fun h => by rw [hret] at h; cases h) hlk
  exact ⟨_, _, retN X hx hret ht hd hr, hrun, hended, _, _, rfl, hq, ⟨_, rfl⟩, hW, hsame.mono hc hs⟩
theorem own_ret0 {Q : Option Value → Heap → List Loc → Prop} (X : Stand p l e rm s m args below meth c T locs cells slots) (hx : p.tables.exec = Jvm.exec) (hlk : meth.locks = false) {pc : Nat} {Ls : Array Slot} (hret : meth.sig.returnType = none)
    (hd : decode c.code pc = .ok (.return_, 1)) (hc : cells ≤ rm.cells) (hs : slots ≤ rm.slots) (hq : Q none T.heap locs) : own_Goes p e below (own_End s rm Q) (T.setTop (mkF m pc Ls [])) := by
  obtain ⟨fs, hr, hrun, hended, hW, hsame⟩ := X.leave (v := none) (fun _ => rfl) hlk
  exact ⟨_, _, X.returnOut hx hret hd hr, hrun, hended, _, _, rfl, hq, ⟨_, rfl⟩, hW, hsame.mono hc hs⟩
/-- a static call by the callee's contract -/
theorem own_callS (X : Stand p l e R s m args below meth c T locs cells slots) (hx : p.tables.exec = Jvm.exec) (hZ : Z.Warmed39 s.vm) {own : String} {index : Nat} {y : MethodName} {bytes : ByteArray} {maxL : Nat} {ret : Option FieldType} (hown : s.vm.findClass own = some m.cls)
    (w1 : (Jvm.Cond.methodLink own index y).before a0 Z = true) (w2 : (Jvm.Cond.static y).before a0 Z = true) (w3 : (Jvm.Cond.initialized y.cls).before a0 Z = true) (w4 : (Jvm.Cond.code y bytes maxL ret).before a0 Z = true) (hy : y.cls ≠ "java/lang/invoke/MethodHandle" ∧ y.cls ≠ "java/lang/invoke/VarHandle")
    {as : List Value} {Q : Option Value → Heap → List Loc → Prop} (hM : own_Met l Z y bytes maxL ret [] rm as.toArray h Q) (eT : T.heap = h) {ps : List FieldType} {rt : Option FieldType} (hpd : parseMethodDescriptor y.desc = some ⟨ps, rt⟩) (hlen : as.length = ps.length)
    {pc : Nat} {Ls : Array Slot} {rest : List Value} {W : Nat} (hsize : Ls.size = c.maxLocals) (hW : (rest.map fun v => v.category).sum ≤ W) (hf : rm.frames + 1 ≤ R.frames) (hl : W + (maxL + 11) + rm.locals ≤ R.locals) (hd : decode c.code pc = .ok (.invokestatic index, 3)) (hc : cells + rm.cells ≤ R.cells) (hs : slots + rm.slots ≤ R.slots) :
    ∃ (v : Option Value) (T' : State) (L' : List Loc), Stand p l e R s m args below meth c T' (locs ++ L') (cells + rm.cells) (slots + rm.slots) ∧ Q v T'.heap L' ∧ ∀ target, Steps p.tables e below (T'.setTop (mkF m (pc + 3) Ls (v.toList ++ rest))) target → Steps p.tables e below (T.setTop (mkF m pc Ls (as.reverse ++ rest))) target := by
  obtain ⟨v, _, ⟨T', L', k', n'⟩, -, X', ⟨Lc, hQ, hl', hk', hn'⟩, st⟩ := Jvm.LawKit.callS X hx (y := y) hown (mvT hZ w1) (mvT hZ w2) (mvT hZ w3) (mvT hZ w4) hy (backOf (W := W) hM hZ w4 w3 hf hl) (g := mkF m pc Ls (as.reverse ++ rest)) rfl hsize (argsL := as) (rest := rest) (lenOf hpd hlen) rfl (by show 2 * 0 + _ ≤ _; omega) hd (fun _ _ => ⟨rfl, eT, hc, hs⟩)
  dsimp only [Pt.U, Pt.locs, Pt.cells, Pt.slots] at X' hl' hk' hn' st hQ
  subst hl' hk' hn'
  exact ⟨v, T', Lc, X', hQ, st⟩
/-- an instance method by the contract of the body that the receiver's class selects -/
theorem own_callV (X : Stand p l e R s m args below meth c T locs cells slots) (hx : p.tables.exec = Jvm.exec) (hZ : Z.Warmed39 s.vm) {own C : String} {index : Nat} {y : MethodName} {bytes : ByteArray} {maxL : Nat} {ret : Option FieldType} (hown : s.vm.findClass own = some m.cls)
    (w1 : (Jvm.Cond.methodLink own index y).before a0 Z = true) (w2 : (Jvm.Cond.declares y).before a0 Z = true) (w3 : (Jvm.Cond.selects C y y).before a0 Z = true) (w4 : (Jvm.Cond.instanceMethod y).before a0 Z = true) (w5 : (Jvm.Cond.initialized y.cls).before a0 Z = true) (w6 : (Jvm.Cond.code y bytes maxL ret).before a0 Z = true) (hy : y.cls ≠ "java/lang/invoke/MethodHandle" ∧ y.cls ≠ "java/lang/invoke/VarHandle")
    {b : Addr} {as : List Value} {Q : Option Value → Heap → List Loc → Prop} (hM : own_Met l Z y bytes maxL ret [] rm (Value.ref b :: as).toArray h Q) (eT : T.heap = h) (E : Exa Z h b C) {ps : List FieldType} {rt : Option FieldType} (hpd : parseMethodDescriptor y.desc = some ⟨ps, rt⟩) (hlen : as.length = ps.length)
    {pc : Nat} {Ls : Array Slot} {rest : List Value} {W : Nat} (hsize : Ls.size = c.maxLocals) (hW : (rest.map fun v => v.category).sum ≤ W) (hf : rm.frames + 1 ≤ R.frames) (hl : W + (maxL + 11) + rm.locals ≤ R.locals) (hd : decode c.code pc = .ok (.invokevirtual index, 3)) (hc : cells + rm.cells ≤ R.cells) (hs : slots + rm.slots ≤ R.slots) :
    ∃ (v : Option Value) (T' : State) (L' : List Loc), Stand p l e R s m args below meth c T' (locs ++ L') (cells + rm.cells) (slots + rm.slots) ∧ Q v T'.heap L' ∧ ∀ target, Steps p.tables e below (T'.setTop (mkF m (pc + 3) Ls (v.toList ++ rest))) target → Steps p.tables e below (T.setTop (mkF m pc Ls (as.reverse ++ Value.ref b :: rest))) target := by
  obtain ⟨cq, kq, qa, qb, qc⟩ := isOf hZ eT E
  obtain ⟨v, _, ⟨T', L', k', n'⟩, -, X', ⟨Lc, hQ, hl', hk', hn'⟩, st⟩ := X.virtualBack hx (y := y) (z := y) hown (mvT hZ w1) (mvT hZ w2) (notFace_of_selects (args := #[]) (mvT hZ w3)) (mvT hZ w3) (mvT hZ w4) hy (backOf (W := W) hM hZ w6 w5 hf hl) qa qc (g := mkF m pc Ls (as.reverse ++ Value.ref b :: rest)) rfl hsize (Steps.refl _) (argsL := as) (rest := rest) (lenOf hpd hlen) rfl (by show 2 * 0 + _ ≤ _; omega) hd (fun _ _ => ⟨rfl, eT, hc, hs⟩)
  dsimp only [Pt.U, Pt.locs, Pt.cells, Pt.slots] at X' hl' hk' hn' st hQ
  subst hl' hk' hn'
  exact ⟨v, T', Lc, X', hQ, fun _ q => st.trans q⟩
/-- a constructor by its contract -/
theorem own_callI (X : Stand p l e R s m args below meth c T locs cells slots) (hx : p.tables.exec = Jvm.exec) (hZ : Z.Warmed39 s.vm) {own : String} {index : Nat} {y : MethodName} {bytes : ByteArray} {maxL : Nat} (hy1 : y.name = "<init>") (hown : s.vm.findClass own = some m.cls)
    (w1 : (Jvm.Cond.methodLink own index y).before a0 Z = true) (w4 : (Jvm.Cond.instanceMethod y).before a0 Z = true) (w5 : (Jvm.Cond.initialized y.cls).before a0 Z = true) (w6 : (Jvm.Cond.code y bytes maxL none).before a0 Z = true) (hy : y.cls ≠ "java/lang/invoke/MethodHandle" ∧ y.cls ≠ "java/lang/invoke/VarHandle")
    {b : Addr} {as : List Value} {Q : Option Value → Heap → List Loc → Prop} (hM : own_Met l Z y bytes maxL none [] rm (Value.ref b :: as).toArray h Q) (eT : T.heap = h) {ps : List FieldType} {rt : Option FieldType} (hpd : parseMethodDescriptor y.desc = some ⟨ps, rt⟩) (hlen : as.length = ps.length)
    {pc : Nat} {Ls : Array Slot} {rest : List Value} {W : Nat} (hsize : Ls.size = c.maxLocals) (hW : (rest.map fun v => v.category).sum ≤ W) (hf : rm.frames + 1 ≤ R.frames) (hl : W + (maxL + 11) + rm.locals ≤ R.locals) (hd : decode c.code pc = .ok (.invokespecial index, 3)) (hc : cells + rm.cells ≤ R.cells) (hs : slots + rm.slots ≤ R.slots) :
    ∃ (v : Option Value) (T' : State) (L' : List Loc), Stand p l e R s m args below meth c T' (locs ++ L') (cells + rm.cells) (slots + rm.slots) ∧ Q v T'.heap L' ∧ ∀ target, Steps p.tables e below (T'.setTop (mkF m (pc + 3) Ls (v.toList ++ rest))) target → Steps p.tables e below (T.setTop (mkF m pc Ls (as.reverse ++ Value.ref b :: rest))) target := by
  obtain ⟨v, _, ⟨T', L', k', n'⟩, -, X', ⟨Lc, hQ, hl', hk', hn'⟩, st⟩ := X.specialBack hx (y := y) hy1 hown (mvT hZ w1) (mvT hZ w4) (mvT hZ w6) hy (backOf (W := W) hM hZ w6 w5 hf hl) (g := mkF m pc Ls (as.reverse ++ Value.ref b :: rest)) rfl hsize (Steps.refl _) (a := b) (argsL := as) (rest := rest) (lenOf hpd hlen) rfl (by show 2 * 0 + _ ≤ _; omega) hd (fun _ _ => ⟨rfl, eT, hc, hs⟩)
  dsimp only [Pt.U, Pt.locs, Pt.cells, Pt.slots] at X' hl' hk' hn' st hQ
  subst hl' hk' hn'
  exact ⟨v, T', Lc, X', hQ, fun _ q => st.trans q⟩
end Own
theorem own_d1_0 : decode prog_26_method_3_code 0 = .ok (.iload_n 0, 1) := by decide +kernel
theorem own_d1_1 : decode prog_26_method_3_code 1 = .ok (.iload_n 0, 1) := by decide +kernel
theorem own_d1_2 : decode prog_26_method_3_code 2 = .ok (.bipush 9, 2) := by decide +kernel
theorem own_d1_4 : decode prog_26_method_3_code 4 = .ok (.ishl, 1) := by decide +kernel
theorem own_d1_5 : decode prog_26_method_3_code 5 = .ok (.iconst (-1), 1) := by decide +kernel
theorem own_d1_6 : decode prog_26_method_3_code 6 = .ok (.ixor, 1) := by decide +kernel
theorem own_d1_7 : decode prog_26_method_3_code 7 = .ok (.iadd, 1) := by decide +kernel
theorem own_d1_8 : decode prog_26_method_3_code 8 = .ok (.istore_n 1, 1) := by decide +kernel
theorem own_d1_9 : decode prog_26_method_3_code 9 = .ok (.iload_n 1, 1) := by decide +kernel
theorem own_d1_10 : decode prog_26_method_3_code 10 = .ok (.iload_n 1, 1) := by decide +kernel
theorem own_d1_11 : decode prog_26_method_3_code 11 = .ok (.bipush 14, 2) := by decide +kernel
theorem own_d1_13 : decode prog_26_method_3_code 13 = .ok (.iushr, 1) := by decide +kernel
theorem own_d1_14 : decode prog_26_method_3_code 14 = .ok (.ixor, 1) := by decide +kernel
theorem own_d1_15 : decode prog_26_method_3_code 15 = .ok (.istore_n 1, 1) := by decide +kernel
theorem own_d1_16 : decode prog_26_method_3_code 16 = .ok (.iload_n 1, 1) := by decide +kernel
theorem own_d1_17 : decode prog_26_method_3_code 17 = .ok (.iload_n 1, 1) := by decide +kernel
theorem own_d1_18 : decode prog_26_method_3_code 18 = .ok (.iconst 4, 1) := by decide +kernel
theorem own_d1_19 : decode prog_26_method_3_code 19 = .ok (.ishl, 1) := by decide +kernel
theorem own_d1_20 : decode prog_26_method_3_code 20 = .ok (.iadd, 1) := by decide +kernel
theorem own_d1_21 : decode prog_26_method_3_code 21 = .ok (.istore_n 1, 1) := by decide +kernel
theorem own_d1_22 : decode prog_26_method_3_code 22 = .ok (.iload_n 1, 1) := by decide +kernel
theorem own_d1_23 : decode prog_26_method_3_code 23 = .ok (.iload_n 1, 1) := by decide +kernel
theorem own_d1_24 : decode prog_26_method_3_code 24 = .ok (.bipush 10, 2) := by decide +kernel
theorem own_d1_26 : decode prog_26_method_3_code 26 = .ok (.iushr, 1) := by decide +kernel
theorem own_d1_27 : decode prog_26_method_3_code 27 = .ok (.ixor, 1) := by decide +kernel
theorem own_pn0 : plainName "com/example/foothold/foothold/HashTrie" = true := by first | (simp [plainName, overriddenIn]; done) | decide +kernel
theorem own_d1_28 : decode prog_26_method_3_code 28 = .ok (.ireturn, 1) := by decide +kernel
def own_v1_1 (x0 : Int32) : Int32 := (x0 + ((x0 <<< ((9 : Int32) &&& 31)) ^^^ (-1 : Int32)))
def own_v1_2 (x0 : Int32) : Int32 := ((own_v1_1 x0) ^^^ (((own_v1_1 x0).toUInt32 >>> ((14 : Int32) &&& 31).toUInt32).toInt32))
def own_v1_3 (x0 : Int32) : Int32 := ((own_v1_2 x0) + ((own_v1_2 x0) <<< ((4 : Int32) &&& 31)))
def own_f1 (x0 : Int32) : Int32 := ((own_v1_3 x0) ^^^ (((own_v1_3 x0).toUInt32 >>> ((10 : Int32) &&& 31).toUInt32).toInt32))
def own_Q1 (x0 : Int32) (h0 : Heap) (n0 : Nat) (v : Option Value) (h : Heap) (L : List Loc) : Prop := v = some (.int (own_f1 x0)) ∧ Fr n0 L ∧ h = h0
abbrev own_R1 : Room := { frames := 0, cells := 0, slots := 0, locals := 0 }
theorem own_ef1 (m : MethodId) (z0 : Int32) : entryFrame m #[(.int z0)] 2 = mkF m 0 #[.val (.int z0), .unset] [] := by first | (simp [entryFrame, mkF, argsToLocals, Value.category]; done) | rfl
set_option maxRecDepth 65536 in
set_option maxHeartbeats 40000000 in
theorem rm1 (l : Launch) (Z : State) (a0 : Array Value) (hw : ∀ d ∈ tables_1, d.before a0 Z = true) (ws : List Jvm.Cond) (x0 : Int32) (h0 : Heap) (n0 : Nat) : own_Met l Z (⟨"com/example/foothold/foothold/HashTrie", "improve", "(I)I"⟩ : MethodName) prog_26_method_3_code 2 (some .int) ws own_R1 #[(.int x0)] h0 (own_Q1 x0 h0 n0) := by
  refine own_met (plainFor_of_name own_pn0) ?_
  intro p e s m below meth c s₁ hx hby hml hown hnm hret hlk hZ e0 X0
  have N0 := Fr.nil n0
  have hml : c.maxLocals = 2 := hml
  have hown : s.vm.findClass "com/example/foothold/foothold/HashTrie" = some m.cls := hown
  have hret : meth.sig.returnType = (some .int) := hret
  have hby : c.code = prog_26_method_3_code := hby
  have hnm : meth.name = "improve" := hnm
  rw [own_ef1]
  show own_Goes p e below _ (s₁.setTop (mkF m 0 #[.val (.int x0), .unset] []))
  refine own_go (fun t k => XS.iloadN X0.here hx rfl (hb hby own_d1_0) rfl k) ?_
  show own_Goes p e below _ (s₁.setTop (mkF m 1 #[.val (.int x0), .unset] [(.int x0)]))
  refine own_go (fun t k => XS.iloadN X0.here hx rfl (hb hby own_d1_1) rfl k) ?_
  show own_Goes p e below _ (s₁.setTop (mkF m 2 #[.val (.int x0), .unset] [(.int x0), (.int x0)]))
  refine own_go (fun t k => XS.bipush X0.here hx rfl (hb hby own_d1_2) k) ?_
  show own_Goes p e below _ (s₁.setTop (mkF m 4 #[.val (.int x0), .unset] [(.int (9 : Int32)), (.int x0), (.int x0)]))
  refine own_go (fun t k => XS.ishl X0.here hx rfl (hb hby own_d1_4) rfl k) ?_
  show own_Goes p e below _ (s₁.setTop (mkF m 5 #[.val (.int x0), .unset] [(.int (x0 <<< ((9 : Int32) &&& 31))), (.int x0)]))
  refine own_go (fun t k => XS.iconst X0.here hx rfl (hb hby own_d1_5) k) ?_
  show own_Goes p e below _ (s₁.setTop (mkF m 6 #[.val (.int x0), .unset] [(.int (-1 : Int32)), (.int (x0 <<< ((9 : Int32) &&& 31))), (.int x0)]))
  refine own_go (fun t k => XS.ixor X0.here hx rfl (hb hby own_d1_6) rfl k) ?_
  show own_Goes p e below _ (s₁.setTop (mkF m 7 #[.val (.int x0), .unset] [(.int ((x0 <<< ((9 : Int32) &&& 31)) ^^^ (-1 : Int32))), (.int x0)]))
  refine own_go (fun t k => XS.iadd X0.here hx rfl (hb hby own_d1_7) rfl k) ?_
  show own_Goes p e below _ (s₁.setTop (mkF m 8 #[.val (.int x0), .unset] [(.int (x0 + ((x0 <<< ((9 : Int32) &&& 31)) ^^^ (-1 : Int32))))]))
  refine own_go (fun t k => XS.istoreN X0.here hx rfl (hb hby own_d1_8) rfl (l' := #[.val (.int x0), .val (.int (own_v1_1 x0))]) rfl k) ?_
  show own_Goes p e below _ (s₁.setTop (mkF m 9 #[.val (.int x0), .val (.int (own_v1_1 x0))] []))
  refine own_go (fun t k => XS.iloadN X0.here hx rfl (hb hby own_d1_9) rfl k) ?_
  show own_Goes p e below _ (s₁.setTop (mkF m 10 #[.val (.int x0), .val (.int (own_v1_1 x0))] [(.int (own_v1_1 x0))]))
  refine own_go (fun t k => XS.iloadN X0.here hx rfl (hb hby own_d1_10) rfl k) ?_
  show own_Goes p e below _ (s₁.setTop (mkF m 11 #[.val (.int x0), .val (.int (own_v1_1 x0))] [(.int (own_v1_1 x0)), (.int (own_v1_1 x0))]))
  refine own_go (fun t k => XS.bipush X0.here hx rfl (hb hby own_d1_11) k) ?_
  show own_Goes p e below _ (s₁.setTop (mkF m 13 #[.val (.int x0), .val (.int (own_v1_1 x0))] [(.int (14 : Int32)), (.int (own_v1_1 x0)), (.int (own_v1_1 x0))]))
  refine own_go (fun t k => XS.iushr X0.here hx rfl (hb hby own_d1_13) rfl k) ?_
  show own_Goes p e below _ (s₁.setTop (mkF m 14 #[.val (.int x0), .val (.int (own_v1_1 x0))] [(.int (((own_v1_1 x0).toUInt32 >>> ((14 : Int32) &&& 31).toUInt32).toInt32)), (.int (own_v1_1 x0))]))
  refine own_go (fun t k => XS.ixor X0.here hx rfl (hb hby own_d1_14) rfl k) ?_
  show own_Goes p e below _ (s₁.setTop (mkF m 15 #[.val (.int x0), .val (.int (own_v1_1 x0))] [(.int ((own_v1_1 x0) ^^^ (((own_v1_1 x0).toUInt32 >>> ((14 : Int32) &&& 31).toUInt32).toInt32)))]))
  refine own_go (fun t k => XS.istoreN X0.here hx rfl (hb hby own_d1_15) rfl (l' := #[.val (.int x0), .val (.int (own_v1_2 x0))]) rfl k) ?_
  show own_Goes p e below _ (s₁.setTop (mkF m 16 #[.val (.int x0), .val (.int (own_v1_2 x0))] []))
  refine own_go (fun t k => XS.iloadN X0.here hx rfl (hb hby own_d1_16) rfl k) ?_
  show own_Goes p e below _ (s₁.setTop (mkF m 17 #[.val (.int x0), .val (.int (own_v1_2 x0))] [(.int (own_v1_2 x0))]))
  refine own_go (fun t k => XS.iloadN X0.here hx rfl (hb hby own_d1_17) rfl k) ?_
  show own_Goes p e below _ (s₁.setTop (mkF m 18 #[.val (.int x0), .val (.int (own_v1_2 x0))] [(.int (own_v1_2 x0)), (.int (own_v1_2 x0))]))
  refine own_go (fun t k => XS.iconst X0.here hx rfl (hb hby own_d1_18) k) ?_
  show own_Goes p e below _ (s₁.setTop (mkF m 19 #[.val (.int x0), .val (.int (own_v1_2 x0))] [(.int (4 : Int32)), (.int (own_v1_2 x0)), (.int (own_v1_2 x0))]))
  refine own_go (fun t k => XS.ishl X0.here hx rfl (hb hby own_d1_19) rfl k) ?_
  show own_Goes p e below _ (s₁.setTop (mkF m 20 #[.val (.int x0), .val (.int (own_v1_2 x0))] [(.int ((own_v1_2 x0) <<< ((4 : Int32) &&& 31))), (.int (own_v1_2 x0))]))
  refine own_go (fun t k => XS.iadd X0.here hx rfl (hb hby own_d1_20) rfl k) ?_
  show own_Goes p e below _ (s₁.setTop (mkF m 21 #[.val (.int x0), .val (.int (own_v1_2 x0))] [(.int ((own_v1_2 x0) + ((own_v1_2 x0) <<< ((4 : Int32) &&& 31))))]))
  refine own_go (fun t k => XS.istoreN X0.here hx rfl (hb hby own_d1_21) rfl (l' := #[.val (.int x0), .val (.int (own_v1_3 x0))]) rfl k) ?_
  show own_Goes p e below _ (s₁.setTop (mkF m 22 #[.val (.int x0), .val (.int (own_v1_3 x0))] []))
  refine own_go (fun t k => XS.iloadN X0.here hx rfl (hb hby own_d1_22) rfl k) ?_
  show own_Goes p e below _ (s₁.setTop (mkF m 23 #[.val (.int x0), .val (.int (own_v1_3 x0))] [(.int (own_v1_3 x0))]))
  refine own_go (fun t k => XS.iloadN X0.here hx rfl (hb hby own_d1_23) rfl k) ?_
  show own_Goes p e below _ (s₁.setTop (mkF m 24 #[.val (.int x0), .val (.int (own_v1_3 x0))] [(.int (own_v1_3 x0)), (.int (own_v1_3 x0))]))
  refine own_go (fun t k => XS.bipush X0.here hx rfl (hb hby own_d1_24) k) ?_
  show own_Goes p e below _ (s₁.setTop (mkF m 26 #[.val (.int x0), .val (.int (own_v1_3 x0))] [(.int (10 : Int32)), (.int (own_v1_3 x0)), (.int (own_v1_3 x0))]))
  refine own_go (fun t k => XS.iushr X0.here hx rfl (hb hby own_d1_26) rfl k) ?_
  show own_Goes p e below _ (s₁.setTop (mkF m 27 #[.val (.int x0), .val (.int (own_v1_3 x0))] [(.int (((own_v1_3 x0).toUInt32 >>> ((10 : Int32) &&& 31).toUInt32).toInt32)), (.int (own_v1_3 x0))]))
  refine own_go (fun t k => XS.ixor X0.here hx rfl (hb hby own_d1_27) rfl k) ?_
  show own_Goes p e below _ (s₁.setTop (mkF m 28 #[.val (.int x0), .val (.int (own_v1_3 x0))] [(.int ((own_v1_3 x0) ^^^ (((own_v1_3 x0).toUInt32 >>> ((10 : Int32) &&& 31).toUInt32).toInt32)))]))
  exact own_retI X0 hx hlk hret (hb hby own_d1_28) (by decide) (by decide) ⟨by rw [own_f1], N0, e0⟩
theorem own_d2_0 : decode method_2_code 0 = .ok (.iload_n 0, 1) := by decide +kernel
theorem own_d2_1 : decode method_2_code 1 = .ok (.iload_n 0, 1) := by decide +kernel
theorem own_d2_2 : decode method_2_code 2 = .ok (.bipush 10, 2) := by decide +kernel
theorem own_d2_4 : decode method_2_code 4 = .ok (.iushr, 1) := by decide +kernel
theorem own_d2_5 : decode method_2_code 5 = .ok (.ixor, 1) := by decide +kernel
theorem own_d2_6 : decode method_2_code 6 = .ok (.iload_n 0, 1) := by decide +kernel
theorem own_d2_7 : decode method_2_code 7 = .ok (.bipush 20, 2) := by decide +kernel
theorem own_d2_9 : decode method_2_code 9 = .ok (.iushr, 1) := by decide +kernel
theorem own_d2_10 : decode method_2_code 10 = .ok (.ixor, 1) := by decide +kernel
theorem own_d2_11 : decode method_2_code 11 = .ok (.iload_n 0, 1) := by decide +kernel
theorem own_d2_12 : decode method_2_code 12 = .ok (.bipush 30, 2) := by decide +kernel
theorem own_d2_14 : decode method_2_code 14 = .ok (.iushr, 1) := by decide +kernel
theorem own_d2_15 : decode method_2_code 15 = .ok (.ixor, 1) := by decide +kernel
theorem own_d2_16 : decode method_2_code 16 = .ok (.istore_n 1, 1) := by decide +kernel
theorem own_d2_17 : decode method_2_code 17 = .ok (.iload_n 1, 1) := by decide +kernel
theorem own_d2_18 : decode method_2_code 18 = .ok (.ldc 7, 2) := by decide +kernel
theorem own_t8 : (Jvm.Cond.constant "com/example/foothold/foothold/HashTrieImprovePinLaw" (7 : Nat) (-252645135 : Int32)) ∈ tables_1 := List.mem_of_getElem? (i := 8) rfl
theorem own_d2_20 : decode method_2_code 20 = .ok (.imul, 1) := by decide +kernel
theorem own_d2_21 : decode method_2_code 21 = .ok (.istore_n 2, 1) := by decide +kernel
theorem own_d2_22 : decode method_2_code 22 = .ok (.iload_n 2, 1) := by decide +kernel
theorem own_d2_23 : decode method_2_code 23 = .ok (.iload_n 2, 1) := by decide +kernel
theorem own_d2_24 : decode method_2_code 24 = .ok (.bipush 14, 2) := by decide +kernel
theorem own_d2_26 : decode method_2_code 26 = .ok (.iushr, 1) := by decide +kernel
theorem own_d2_27 : decode method_2_code 27 = .ok (.ixor, 1) := by decide +kernel
theorem own_d2_28 : decode method_2_code 28 = .ok (.iload_n 2, 1) := by decide +kernel
theorem own_d2_29 : decode method_2_code 29 = .ok (.bipush 28, 2) := by decide +kernel
theorem own_d2_31 : decode method_2_code 31 = .ok (.iushr, 1) := by decide +kernel
theorem own_d2_32 : decode method_2_code 32 = .ok (.ixor, 1) := by decide +kernel
theorem own_d2_33 : decode method_2_code 33 = .ok (.istore_n 3, 1) := by decide +kernel
theorem own_d2_34 : decode method_2_code 34 = .ok (.iload_n 3, 1) := by decide +kernel
theorem own_d2_35 : decode method_2_code 35 = .ok (.iconst 1, 1) := by decide +kernel
theorem own_d2_36 : decode method_2_code 36 = .ok (.iadd, 1) := by decide +kernel
theorem own_d2_37 : decode method_2_code 37 = .ok (.ldc 8, 2) := by decide +kernel
theorem own_t9 : (Jvm.Cond.constant "com/example/foothold/foothold/HashTrieImprovePinLaw" (8 : Nat) (134480385 : Int32)) ∈ tables_1 := List.mem_of_getElem? (i := 9) rfl
theorem own_d2_39 : decode method_2_code 39 = .ok (.imul, 1) := by decide +kernel
theorem own_pn1 : plainName "com/example/foothold/foothold/HashTrieImprovePinLaw" = true := by first | (simp [plainName, overriddenIn]; done) | decide +kernel
theorem own_d2_40 : decode method_2_code 40 = .ok (.ireturn, 1) := by decide +kernel
def own_v2_1 (x0 : Int32) : Int32 := (((x0 ^^^ ((x0.toUInt32 >>> ((10 : Int32) &&& 31).toUInt32).toInt32)) ^^^ ((x0.toUInt32 >>> ((20 : Int32) &&& 31).toUInt32).toInt32)) ^^^ ((x0.toUInt32 >>> ((30 : Int32) &&& 31).toUInt32).toInt32))
def own_v2_2 (x0 : Int32) : Int32 := ((own_v2_1 x0) * (-252645135 : Int32))
def own_v2_3 (x0 : Int32) : Int32 := (((own_v2_2 x0) ^^^ (((own_v2_2 x0).toUInt32 >>> ((14 : Int32) &&& 31).toUInt32).toInt32)) ^^^ (((own_v2_2 x0).toUInt32 >>> ((28 : Int32) &&& 31).toUInt32).toInt32))
def own_f2 (x0 : Int32) : Int32 := (((own_v2_3 x0) + (1 : Int32)) * (134480385 : Int32))
def own_Q2 (x0 : Int32) (h0 : Heap) (n0 : Nat) (v : Option Value) (h : Heap) (L : List Loc) : Prop := v = some (.int (own_f2 x0)) ∧ Fr n0 L ∧ h = h0
abbrev own_R2 : Room := { frames := 0, cells := 0, slots := 0, locals := 0 }
theorem own_ef2 (m : MethodId) (z0 : Int32) : entryFrame m #[(.int z0)] 4 = mkF m 0 #[.val (.int z0), .unset, .unset, .unset] [] := by first | (simp [entryFrame, mkF, argsToLocals, Value.category]; done) | rfl
set_option maxRecDepth 65536 in
set_option maxHeartbeats 40000000 in
theorem rm2 (l : Launch) (Z : State) (a0 : Array Value) (hw : ∀ d ∈ tables_1, d.before a0 Z = true) (ws : List Jvm.Cond) (x0 : Int32) (h0 : Heap) (n0 : Nat) : own_Met l Z (⟨"com/example/foothold/foothold/HashTrieImprovePinLaw", "unimprove", "(I)I"⟩ : MethodName) method_2_code 4 (some .int) ws own_R2 #[(.int x0)] h0 (own_Q2 x0 h0 n0) := by
  refine own_met (plainFor_of_name own_pn1) ?_
  intro p e s m below meth c s₁ hx hby hml hown hnm hret hlk hZ e0 X0
  have N0 := Fr.nil n0
  have hml : c.maxLocals = 4 := hml
  have hown : s.vm.findClass "com/example/foothold/foothold/HashTrieImprovePinLaw" = some m.cls := hown
  have hret : meth.sig.returnType = (some .int) := hret
  have hby : c.code = method_2_code := hby
  have hnm : meth.name = "unimprove" := hnm
  rw [own_ef2]
  show own_Goes p e below _ (s₁.setTop (mkF m 0 #[.val (.int x0), .unset, .unset, .unset] []))
  refine own_go (fun t k => XS.iloadN X0.here hx rfl (hb hby own_d2_0) rfl k) ?_
  show own_Goes p e below _ (s₁.setTop (mkF m 1 #[.val (.int x0), .unset, .unset, .unset] [(.int x0)]))
  refine own_go (fun t k => XS.iloadN X0.here hx rfl (hb hby own_d2_1) rfl k) ?_
  show own_Goes p e below _ (s₁.setTop (mkF m 2 #[.val (.int x0), .unset, .unset, .unset] [(.int x0), (.int x0)]))
  refine own_go (fun t k => XS.bipush X0.here hx rfl (hb hby own_d2_2) k) ?_
  show own_Goes p e below _ (s₁.setTop (mkF m 4 #[.val (.int x0), .unset, .unset, .unset] [(.int (10 : Int32)), (.int x0), (.int x0)]))
  refine own_go (fun t k => XS.iushr X0.here hx rfl (hb hby own_d2_4) rfl k) ?_
  show own_Goes p e below _ (s₁.setTop (mkF m 5 #[.val (.int x0), .unset, .unset, .unset] [(.int ((x0.toUInt32 >>> ((10 : Int32) &&& 31).toUInt32).toInt32)), (.int x0)]))
  refine own_go (fun t k => XS.ixor X0.here hx rfl (hb hby own_d2_5) rfl k) ?_
  show own_Goes p e below _ (s₁.setTop (mkF m 6 #[.val (.int x0), .unset, .unset, .unset] [(.int (x0 ^^^ ((x0.toUInt32 >>> ((10 : Int32) &&& 31).toUInt32).toInt32)))]))
  refine own_go (fun t k => XS.iloadN X0.here hx rfl (hb hby own_d2_6) rfl k) ?_
  show own_Goes p e below _ (s₁.setTop (mkF m 7 #[.val (.int x0), .unset, .unset, .unset] [(.int x0), (.int (x0 ^^^ ((x0.toUInt32 >>> ((10 : Int32) &&& 31).toUInt32).toInt32)))]))
  refine own_go (fun t k => XS.bipush X0.here hx rfl (hb hby own_d2_7) k) ?_
  show own_Goes p e below _ (s₁.setTop (mkF m 9 #[.val (.int x0), .unset, .unset, .unset] [(.int (20 : Int32)), (.int x0), (.int (x0 ^^^ ((x0.toUInt32 >>> ((10 : Int32) &&& 31).toUInt32).toInt32)))]))
  refine own_go (fun t k => XS.iushr X0.here hx rfl (hb hby own_d2_9) rfl k) ?_
  show own_Goes p e below _ (s₁.setTop (mkF m 10 #[.val (.int x0), .unset, .unset, .unset] [(.int ((x0.toUInt32 >>> ((20 : Int32) &&& 31).toUInt32).toInt32)), (.int (x0 ^^^ ((x0.toUInt32 >>> ((10 : Int32) &&& 31).toUInt32).toInt32)))]))
  refine own_go (fun t k => XS.ixor X0.here hx rfl (hb hby own_d2_10) rfl k) ?_
  show own_Goes p e below _ (s₁.setTop (mkF m 11 #[.val (.int x0), .unset, .unset, .unset] [(.int ((x0 ^^^ ((x0.toUInt32 >>> ((10 : Int32) &&& 31).toUInt32).toInt32)) ^^^ ((x0.toUInt32 >>> ((20 : Int32) &&& 31).toUInt32).toInt32)))]))
  refine own_go (fun t k => XS.iloadN X0.here hx rfl (hb hby own_d2_11) rfl k) ?_
  show own_Goes p e below _ (s₁.setTop (mkF m 12 #[.val (.int x0), .unset, .unset, .unset] [(.int x0), (.int ((x0 ^^^ ((x0.toUInt32 >>> ((10 : Int32) &&& 31).toUInt32).toInt32)) ^^^ ((x0.toUInt32 >>> ((20 : Int32) &&& 31).toUInt32).toInt32)))]))
  refine own_go (fun t k => XS.bipush X0.here hx rfl (hb hby own_d2_12) k) ?_
  show own_Goes p e below _ (s₁.setTop (mkF m 14 #[.val (.int x0), .unset, .unset, .unset] [(.int (30 : Int32)), (.int x0), (.int ((x0 ^^^ ((x0.toUInt32 >>> ((10 : Int32) &&& 31).toUInt32).toInt32)) ^^^ ((x0.toUInt32 >>> ((20 : Int32) &&& 31).toUInt32).toInt32)))]))
  refine own_go (fun t k => XS.iushr X0.here hx rfl (hb hby own_d2_14) rfl k) ?_
  show own_Goes p e below _ (s₁.setTop (mkF m 15 #[.val (.int x0), .unset, .unset, .unset] [(.int ((x0.toUInt32 >>> ((30 : Int32) &&& 31).toUInt32).toInt32)), (.int ((x0 ^^^ ((x0.toUInt32 >>> ((10 : Int32) &&& 31).toUInt32).toInt32)) ^^^ ((x0.toUInt32 >>> ((20 : Int32) &&& 31).toUInt32).toInt32)))]))
  refine own_go (fun t k => XS.ixor X0.here hx rfl (hb hby own_d2_15) rfl k) ?_
  show own_Goes p e below _ (s₁.setTop (mkF m 16 #[.val (.int x0), .unset, .unset, .unset] [(.int (((x0 ^^^ ((x0.toUInt32 >>> ((10 : Int32) &&& 31).toUInt32).toInt32)) ^^^ ((x0.toUInt32 >>> ((20 : Int32) &&& 31).toUInt32).toInt32)) ^^^ ((x0.toUInt32 >>> ((30 : Int32) &&& 31).toUInt32).toInt32)))]))
  refine own_go (fun t k => XS.istoreN X0.here hx rfl (hb hby own_d2_16) rfl (l' := #[.val (.int x0), .val (.int (own_v2_1 x0)), .unset, .unset]) rfl k) ?_
  show own_Goes p e below _ (s₁.setTop (mkF m 17 #[.val (.int x0), .val (.int (own_v2_1 x0)), .unset, .unset] []))
  refine own_go (fun t k => XS.iloadN X0.here hx rfl (hb hby own_d2_17) rfl k) ?_
  show own_Goes p e below _ (s₁.setTop (mkF m 18 #[.val (.int x0), .val (.int (own_v2_1 x0)), .unset, .unset] [(.int (own_v2_1 x0))]))
  refine own_go (fun t k => X0.ldcInt hx hown (mvT hZ (hw _ own_t8)) (g := (mkF m 18 #[.val (.int x0), .val (.int (own_v2_1 x0)), .unset, .unset] [(.int (own_v2_1 x0))])) rfl (hb hby own_d2_18) t k) ?_
  show own_Goes p e below _ (s₁.setTop (mkF m 20 #[.val (.int x0), .val (.int (own_v2_1 x0)), .unset, .unset] [(.int (-252645135 : Int32)), (.int (own_v2_1 x0))]))
  refine own_go (fun t k => XS.imul X0.here hx rfl (hb hby own_d2_20) rfl k) ?_
  show own_Goes p e below _ (s₁.setTop (mkF m 21 #[.val (.int x0), .val (.int (own_v2_1 x0)), .unset, .unset] [(.int ((own_v2_1 x0) * (-252645135 : Int32)))]))
  refine own_go (fun t k => XS.istoreN X0.here hx rfl (hb hby own_d2_21) rfl (l' := #[.val (.int x0), .val (.int (own_v2_1 x0)), .val (.int (own_v2_2 x0)), .unset]) rfl k) ?_
  show own_Goes p e below _ (s₁.setTop (mkF m 22 #[.val (.int x0), .val (.int (own_v2_1 x0)), .val (.int (own_v2_2 x0)), .unset] []))
  refine own_go (fun t k => XS.iloadN X0.here hx rfl (hb hby own_d2_22) rfl k) ?_
  show own_Goes p e below _ (s₁.setTop (mkF m 23 #[.val (.int x0), .val (.int (own_v2_1 x0)), .val (.int (own_v2_2 x0)), .unset] [(.int (own_v2_2 x0))]))
  refine own_go (fun t k => XS.iloadN X0.here hx rfl (hb hby own_d2_23) rfl k) ?_
  show own_Goes p e below _ (s₁.setTop (mkF m 24 #[.val (.int x0), .val (.int (own_v2_1 x0)), .val (.int (own_v2_2 x0)), .unset] [(.int (own_v2_2 x0)), (.int (own_v2_2 x0))]))
  refine own_go (fun t k => XS.bipush X0.here hx rfl (hb hby own_d2_24) k) ?_
  show own_Goes p e below _ (s₁.setTop (mkF m 26 #[.val (.int x0), .val (.int (own_v2_1 x0)), .val (.int (own_v2_2 x0)), .unset] [(.int (14 : Int32)), (.int (own_v2_2 x0)), (.int (own_v2_2 x0))]))
  refine own_go (fun t k => XS.iushr X0.here hx rfl (hb hby own_d2_26) rfl k) ?_
  show own_Goes p e below _ (s₁.setTop (mkF m 27 #[.val (.int x0), .val (.int (own_v2_1 x0)), .val (.int (own_v2_2 x0)), .unset] [(.int (((own_v2_2 x0).toUInt32 >>> ((14 : Int32) &&& 31).toUInt32).toInt32)), (.int (own_v2_2 x0))]))
  refine own_go (fun t k => XS.ixor X0.here hx rfl (hb hby own_d2_27) rfl k) ?_
  show own_Goes p e below _ (s₁.setTop (mkF m 28 #[.val (.int x0), .val (.int (own_v2_1 x0)), .val (.int (own_v2_2 x0)), .unset] [(.int ((own_v2_2 x0) ^^^ (((own_v2_2 x0).toUInt32 >>> ((14 : Int32) &&& 31).toUInt32).toInt32)))]))
  refine own_go (fun t k => XS.iloadN X0.here hx rfl (hb hby own_d2_28) rfl k) ?_
  show own_Goes p e below _ (s₁.setTop (mkF m 29 #[.val (.int x0), .val (.int (own_v2_1 x0)), .val (.int (own_v2_2 x0)), .unset] [(.int (own_v2_2 x0)), (.int ((own_v2_2 x0) ^^^ (((own_v2_2 x0).toUInt32 >>> ((14 : Int32) &&& 31).toUInt32).toInt32)))]))
  refine own_go (fun t k => XS.bipush X0.here hx rfl (hb hby own_d2_29) k) ?_
  show own_Goes p e below _ (s₁.setTop (mkF m 31 #[.val (.int x0), .val (.int (own_v2_1 x0)), .val (.int (own_v2_2 x0)), .unset] [(.int (28 : Int32)), (.int (own_v2_2 x0)), (.int ((own_v2_2 x0) ^^^ (((own_v2_2 x0).toUInt32 >>> ((14 : Int32) &&& 31).toUInt32).toInt32)))]))
  refine own_go (fun t k => XS.iushr X0.here hx rfl (hb hby own_d2_31) rfl k) ?_
  show own_Goes p e below _ (s₁.setTop (mkF m 32 #[.val (.int x0), .val (.int (own_v2_1 x0)), .val (.int (own_v2_2 x0)), .unset] [(.int (((own_v2_2 x0).toUInt32 >>> ((28 : Int32) &&& 31).toUInt32).toInt32)), (.int ((own_v2_2 x0) ^^^ (((own_v2_2 x0).toUInt32 >>> ((14 : Int32) &&& 31).toUInt32).toInt32)))]))
  refine own_go (fun t k => XS.ixor X0.here hx rfl (hb hby own_d2_32) rfl k) ?_
  show own_Goes p e below _ (s₁.setTop (mkF m 33 #[.val (.int x0), .val (.int (own_v2_1 x0)), .val (.int (own_v2_2 x0)), .unset] [(.int (((own_v2_2 x0) ^^^ (((own_v2_2 x0).toUInt32 >>> ((14 : Int32) &&& 31).toUInt32).toInt32)) ^^^ (((own_v2_2 x0).toUInt32 >>> ((28 : Int32) &&& 31).toUInt32).toInt32)))]))
  refine own_go (fun t k => XS.istoreN X0.here hx rfl (hb hby own_d2_33) rfl (l' := #[.val (.int x0), .val (.int (own_v2_1 x0)), .val (.int (own_v2_2 x0)), .val (.int (own_v2_3 x0))]) rfl k) ?_
  show own_Goes p e below _ (s₁.setTop (mkF m 34 #[.val (.int x0), .val (.int (own_v2_1 x0)), .val (.int (own_v2_2 x0)), .val (.int (own_v2_3 x0))] []))
  refine own_go (fun t k => XS.iloadN X0.here hx rfl (hb hby own_d2_34) rfl k) ?_
  show own_Goes p e below _ (s₁.setTop (mkF m 35 #[.val (.int x0), .val (.int (own_v2_1 x0)), .val (.int (own_v2_2 x0)), .val (.int (own_v2_3 x0))] [(.int (own_v2_3 x0))]))
  refine own_go (fun t k => XS.iconst X0.here hx rfl (hb hby own_d2_35) k) ?_
  show own_Goes p e below _ (s₁.setTop (mkF m 36 #[.val (.int x0), .val (.int (own_v2_1 x0)), .val (.int (own_v2_2 x0)), .val (.int (own_v2_3 x0))] [(.int (1 : Int32)), (.int (own_v2_3 x0))]))
  refine own_go (fun t k => XS.iadd X0.here hx rfl (hb hby own_d2_36) rfl k) ?_
  show own_Goes p e below _ (s₁.setTop (mkF m 37 #[.val (.int x0), .val (.int (own_v2_1 x0)), .val (.int (own_v2_2 x0)), .val (.int (own_v2_3 x0))] [(.int ((own_v2_3 x0) + (1 : Int32)))]))
  refine own_go (fun t k => X0.ldcInt hx hown (mvT hZ (hw _ own_t9)) (g := (mkF m 37 #[.val (.int x0), .val (.int (own_v2_1 x0)), .val (.int (own_v2_2 x0)), .val (.int (own_v2_3 x0))] [(.int ((own_v2_3 x0) + (1 : Int32)))])) rfl (hb hby own_d2_37) t k) ?_
  show own_Goes p e below _ (s₁.setTop (mkF m 39 #[.val (.int x0), .val (.int (own_v2_1 x0)), .val (.int (own_v2_2 x0)), .val (.int (own_v2_3 x0))] [(.int (134480385 : Int32)), (.int ((own_v2_3 x0) + (1 : Int32)))]))
  refine own_go (fun t k => XS.imul X0.here hx rfl (hb hby own_d2_39) rfl k) ?_
  show own_Goes p e below _ (s₁.setTop (mkF m 40 #[.val (.int x0), .val (.int (own_v2_1 x0)), .val (.int (own_v2_2 x0)), .val (.int (own_v2_3 x0))] [(.int (((own_v2_3 x0) + (1 : Int32)) * (134480385 : Int32)))]))
  exact own_retI X0 hx hlk hret (hb hby own_d2_40) (by decide) (by decide) ⟨by rw [own_f2], N0, e0⟩
theorem own_t0 : (Jvm.Cond.methodLink "com/example/foothold/foothold/HashTrieImprovePinLaw" (9 : Nat) ({ cls := "com/example/foothold/foothold/HashTrie", name := "improve", desc := "(I)I" } : Jvm.MethodName)) ∈ tables_1 := List.mem_of_getElem? (i := 0) rfl
theorem own_pd0 : parseMethodDescriptor "(I)I" = some ⟨[.int], some .int⟩ := by decide +kernel
theorem own_t1 : (Jvm.Cond.static ({ cls := "com/example/foothold/foothold/HashTrie", name := "improve", desc := "(I)I" } : Jvm.MethodName)) ∈ tables_1 := List.mem_of_getElem? (i := 1) rfl
theorem own_t2 : (Jvm.Cond.initialized "com/example/foothold/foothold/HashTrie") ∈ tables_1 := List.mem_of_getElem? (i := 2) rfl
theorem own_t3 : (Jvm.Cond.code ({ cls := "com/example/foothold/foothold/HashTrie", name := "improve", desc := "(I)I" } : Jvm.MethodName) prog_26_method_3_code (2 : Nat) (Option.some Jvm.ClassFile.FieldType.int)) ∈ tables_1 := List.mem_of_getElem? (i := 3) rfl
theorem own_t4 : (Jvm.Cond.methodLink "com/example/foothold/foothold/HashTrieImprovePinLaw" (15 : Nat) ({ cls := "com/example/foothold/foothold/HashTrieImprovePinLaw", name := "unimprove", desc := "(I)I" } : Jvm.MethodName)) ∈ tables_1 := List.mem_of_getElem? (i := 4) rfl
theorem own_t5 : (Jvm.Cond.static ({ cls := "com/example/foothold/foothold/HashTrieImprovePinLaw", name := "unimprove", desc := "(I)I" } : Jvm.MethodName)) ∈ tables_1 := List.mem_of_getElem? (i := 5) rfl
theorem own_t6 : (Jvm.Cond.initialized "com/example/foothold/foothold/HashTrieImprovePinLaw") ∈ tables_1 := List.mem_of_getElem? (i := 6) rfl
theorem own_t7 : (Jvm.Cond.code ({ cls := "com/example/foothold/foothold/HashTrieImprovePinLaw", name := "unimprove", desc := "(I)I" } : Jvm.MethodName) method_2_code (4 : Nat) (Option.some Jvm.ClassFile.FieldType.int)) ∈ tables_1 := List.mem_of_getElem? (i := 7) rfl
def own_j0_1 (x0 : Int32) : Int32 := (if (own_f2 (own_f1 x0)) = x0 then (1 : Int32) else (0 : Int32))
def own_f0 (x0 : Int32) : Int32 := ((own_j0_1 x0) &&& 1)
def own_Q0 (x0 : Int32) (h0 : Heap) (n0 : Nat) (v : Option Value) (h : Heap) (L : List Loc) : Prop := v = some (.int (own_f0 x0)) ∧ Fr n0 L ∧ True
theorem own_ef0 (m : MethodId) (z0 : Int32) : entryFrame m #[(.int z0)] maxLocals = mkF m 0 #[.val (.int z0), .unset] [] := by first | (simp [entryFrame, mkF, argsToLocals, Value.category, maxLocals]; done) | rfl
set_option maxRecDepth 65536 in
set_option maxHeartbeats 40000000 in
theorem rm0 (l : Launch) (Z : State) (a0 : Array Value) (hw : ∀ d ∈ tables_1, d.before a0 Z = true) (ws : List Jvm.Cond) (x0 : Int32) (h0 : Heap) (n0 : Nat) : own_Met l Z x code maxLocals ret ws room_1 #[(.int x0)] h0 (own_Q0 x0 h0 n0) := by
  refine own_met (plainFor_of_name own_pn1) ?_
  intro p e s m below meth c s₁ hx hby hml hown hnm hret hlk hZ e0 X0
  have N0 := Fr.nil n0
  have hml : c.maxLocals = 2 := hml
  have hown : s.vm.findClass "com/example/foothold/foothold/HashTrieImprovePinLaw" = some m.cls := hown
  have hret : meth.sig.returnType = (some .boolean) := hret
  have hby : c.code = code := hby
  have hnm : meth.name = "law" := hnm
  rw [own_ef0]
  show own_Goes p e below _ (s₁.setTop (mkF m 0 #[.val (.int x0), .unset] []))
  refine own_go (fun t k => XS.iloadN X0.here hx rfl (hb hby at_0) rfl k) ?_
  show own_Goes p e below _ (s₁.setTop (mkF m 1 #[.val (.int x0), .unset] [(.int x0)]))
  obtain ⟨_, T1, L1, X1, ⟨rfl, N1q, e1⟩, st1⟩ := own_callS X0 hx hZ hown (hw _ own_t0) (hw _ own_t1) (hw _ own_t2) (hw _ own_t3) (by decide) (as := [(.int x0)]) (rm1 l Z a0 hw [] x0 h0 n0) e0 own_pd0 rfl (pc := 1) (Ls := #[.val (.int x0), .unset]) (rest := []) (W := 0) (by rw [hml]; rfl) (Nat.le_of_eq rfl) (by decide) (by decide) (hb hby at_1) (by decide) (by decide)
  have N1 := Fr.app N0 N1q
  refine own_go st1 ?_
  show own_Goes p e below _ (T1.setTop (mkF m 4 #[.val (.int x0), .unset] [(.int (own_f1 x0))]))
  refine own_go (fun t k => XS.istoreN X1.here hx rfl (hb hby at_4) rfl (l' := #[.val (.int x0), .val (.int (own_f1 x0))]) rfl k) ?_
  show own_Goes p e below _ (T1.setTop (mkF m 5 #[.val (.int x0), .val (.int (own_f1 x0))] []))
  refine own_go (fun t k => XS.iloadN X1.here hx rfl (hb hby at_5) rfl k) ?_
  show own_Goes p e below _ (T1.setTop (mkF m 6 #[.val (.int x0), .val (.int (own_f1 x0))] [(.int (own_f1 x0))]))
  obtain ⟨_, T2, L2, X2, ⟨rfl, N2q, e2⟩, st2⟩ := own_callS X1 hx hZ hown (hw _ own_t4) (hw _ own_t5) (hw _ own_t6) (hw _ own_t7) (by decide) (as := [(.int (own_f1 x0))]) (rm2 l Z a0 hw [] (own_f1 x0) h0 n0) e1 own_pd0 rfl (pc := 6) (Ls := #[.val (.int x0), .val (.int (own_f1 x0))]) (rest := []) (W := 0) (by rw [hml]; rfl) (Nat.le_of_eq rfl) (by decide) (by decide) (hb hby at_6) (by decide) (by decide)
  have N2 := Fr.app N1 N2q
  refine own_go st2 ?_
  show own_Goes p e below _ (T2.setTop (mkF m 9 #[.val (.int x0), .val (.int (own_f1 x0))] [(.int (own_f2 (own_f1 x0)))]))
  refine own_go (fun t k => XS.iloadN X2.here hx rfl (hb hby at_9) rfl k) ?_
  show own_Goes p e below _ (T2.setTop (mkF m 10 #[.val (.int x0), .val (.int (own_f1 x0))] [(.int x0), (.int (own_f2 (own_f1 x0)))]))
  suffices HH4 : own_Goes p e below (own_End s room_1 (own_Q0 x0 h0 n0)) (T2.setTop (mkF m 18 #[.val (.int x0), .val (.int (own_f1 x0))] [(.int (own_j0_1 x0))])) by
    by_cases hc3 : (own_f2 (own_f1 x0)) = x0
    · refine own_go (fun t k => XS.icmpNo X2.here hx rfl (hb hby at_10) rfl (teq hc3).2 k) ?_
      show own_Goes p e below _ (T2.setTop (mkF m 13 #[.val (.int x0), .val (.int (own_f1 x0))] []))
      refine own_go (fun t k => XS.iconst X2.here hx rfl (hb hby at_13) k) ?_
      show own_Goes p e below _ (T2.setTop (mkF m 14 #[.val (.int x0), .val (.int (own_f1 x0))] [(.int (1 : Int32))]))
      refine own_go (fun t k => XS.goto X2.here hx rfl (pc0 := 14) (pc' := 18) rfl (hb hby at_14) (by decide) (by decide) k) ?_
      rw [show (own_j0_1 x0) = (1 : Int32) from by rw [own_j0_1, if_pos hc3]] at HH4
      exact HH4
    · refine own_go (fun t k => XS.icmpYes X2.here hx rfl (pc0 := 10) (pc' := 17) rfl (hb hby at_10) rfl (feq hc3).2 (by decide) (by decide) k) ?_
      show own_Goes p e below _ (T2.setTop (mkF m 17 #[.val (.int x0), .val (.int (own_f1 x0))] []))
      refine own_go (fun t k => XS.iconst X2.here hx rfl (hb hby at_17) k) ?_
      rw [show (own_j0_1 x0) = (0 : Int32) from by rw [own_j0_1, if_neg hc3]] at HH4
      exact HH4
  show own_Goes p e below _ (T2.setTop (mkF m 18 #[.val (.int x0), .val (.int (own_f1 x0))] [(.int (own_j0_1 x0))]))
  exact own_retN X2 hx hlk hret (by simp) (z' := ((own_j0_1 x0) &&& 1)) rfl (hb hby at_18) (by decide) (by decide) ⟨by rw [own_f0], N2, trivial⟩
theorem own_sh (x : Int32) (k : Int32) (n : Nat) (hk : (k &&& 31).toUInt32.toBitVec = BitVec.ofNat 32 n) (hn : n < 32) : ((x.toUInt32 >>> (k &&& 31).toUInt32).toInt32).toBitVec = x.toBitVec >>> n := by
  show (x.toBitVec >>> ((k &&& 31).toUInt32.toBitVec % 32)) = x.toBitVec >>> n
  rw [hk]
  apply BitVec.eq_of_toNat_eq
  simp [BitVec.toNat_ushiftRight, Nat.mod_eq_of_lt (show n < 4294967296 by omega), Nat.mod_eq_of_lt hn]
theorem own_xs {a : BitVec 32} {n k : Nat} : (a ^^^ (a >>> n)) >>> k = (a >>> k) ^^^ (a >>> (n + k)) := by
  rw [BitVec.ushiftRight_xor_distrib, BitVec.shiftRight_add]
theorem own_big {a : BitVec 32} {n : Nat} (h : 32 ≤ n) : a >>> n = 0#32 := by
  apply BitVec.eq_of_toNat_eq
  rw [BitVec.toNat_ushiftRight, Nat.shiftRight_eq_div_pow, BitVec.toNat_ofNat]
  have h1 := a.isLt
  have h2 : 2 ^ 32 ≤ 2 ^ n := Nat.pow_le_pow_right (by decide) h
  rw [Nat.div_eq_of_lt (by omega)]
theorem own_un10 (h : BitVec 32) : ((h ^^^ (h >>> 10)) ^^^ ((h ^^^ (h >>> 10)) >>> 10) ^^^ ((h ^^^ (h >>> 10)) >>> 20) ^^^ ((h ^^^ (h >>> 10)) >>> 30)) = h := by
  rw [own_xs, own_xs, own_xs, own_big (n := 10 + 30) (by decide)]
  show (h ^^^ (h >>> 10)) ^^^ ((h >>> 10) ^^^ (h >>> 20)) ^^^ ((h >>> 20) ^^^ (h >>> 30)) ^^^ ((h >>> 30) ^^^ 0#32) = h
  generalize h >>> 10 = a
  generalize h >>> 20 = b
  generalize h >>> 30 = d
  apply BitVec.eq_of_getLsbD_eq
  intro i hi
  simp only [BitVec.getLsbD_xor, BitVec.getLsbD_zero]
  cases h.getLsbD i <;> cases a.getLsbD i <;> cases b.getLsbD i <;> cases d.getLsbD i <;> rfl
theorem own_un14 (h : BitVec 32) : ((h ^^^ (h >>> 14)) ^^^ ((h ^^^ (h >>> 14)) >>> 14) ^^^ ((h ^^^ (h >>> 14)) >>> 28)) = h := by
  rw [own_xs, own_xs, own_big (n := 14 + 28) (by decide)]
  show (h ^^^ (h >>> 14)) ^^^ ((h >>> 14) ^^^ (h >>> 28)) ^^^ ((h >>> 28) ^^^ 0#32) = h
  generalize h >>> 14 = a
  generalize h >>> 28 = b
  apply BitVec.eq_of_getLsbD_eq
  intro i hi
  simp only [BitVec.getLsbD_xor, BitVec.getLsbD_zero]
  cases h.getLsbD i <;> cases a.getLsbD i <;> cases b.getLsbD i <;> rfl
theorem own_inj {a b : Int32} (h : a.toBitVec = b.toBitVec) : a = b := Int32.toBitVec_inj.mp h
theorem own_s10 (x : Int32) : ((x.toUInt32 >>> ((10 : Int32) &&& 31).toUInt32).toInt32).toBitVec = x.toBitVec >>> 10 := own_sh x 10 10 rfl (by decide)
theorem own_s20 (x : Int32) : ((x.toUInt32 >>> ((20 : Int32) &&& 31).toUInt32).toInt32).toBitVec = x.toBitVec >>> 20 := own_sh x 20 20 rfl (by decide)
theorem own_s30 (x : Int32) : ((x.toUInt32 >>> ((30 : Int32) &&& 31).toUInt32).toInt32).toBitVec = x.toBitVec >>> 30 := own_sh x 30 30 rfl (by decide)
theorem own_s14 (x : Int32) : ((x.toUInt32 >>> ((14 : Int32) &&& 31).toUInt32).toInt32).toBitVec = x.toBitVec >>> 14 := own_sh x 14 14 rfl (by decide)
theorem own_s28 (x : Int32) : ((x.toUInt32 >>> ((28 : Int32) &&& 31).toUInt32).toInt32).toBitVec = x.toBitVec >>> 28 := own_sh x 28 28 rfl (by decide)
theorem own_a (x : Int32) : own_v2_1 (own_f1 x) = own_v1_3 x := by
  apply own_inj
  unfold own_v2_1 own_f1
  generalize own_v1_3 x = h
  simp only [Int32.toBitVec_xor, own_s10, own_s20, own_s30]
  exact own_un10 _
theorem own_shl (x : Int32) (k : Int32) (n : Nat) (hk : ((k &&& 31).toBitVec.smod 32).toNat = n) : (x <<< (k &&& 31)).toBitVec = x.toBitVec * BitVec.ofNat 32 (2 ^ n) := by
  show x.toBitVec <<< ((k &&& 31).toBitVec.smod 32) = _
  rw [BitVec.shiftLeft_eq', hk]
  apply BitVec.eq_of_toNat_eq
  rw [BitVec.toNat_shiftLeft, BitVec.toNat_mul, BitVec.toNat_ofNat, Nat.shiftLeft_eq, Nat.mul_mod, Nat.mod_eq_of_lt x.toBitVec.isLt]
theorem own_b (x : Int32) : own_v1_3 x * (-252645135 : Int32) = own_v1_2 x := by
  apply own_inj
  unfold own_v1_3
  generalize own_v1_2 x = h
  rw [Int32.toBitVec_mul, Int32.toBitVec_add, own_shl h 4 4 (by decide)]
  generalize h.toBitVec = b
  have e1 : b + b * BitVec.ofNat 32 (2 ^ 4) = b * 17#32 := by
    rw [show 17#32 = 1#32 + BitVec.ofNat 32 (2 ^ 4) from by decide, BitVec.mul_add, BitVec.mul_one]
  rw [e1, BitVec.mul_assoc, show (17#32 * (-252645135 : Int32).toBitVec) = 1#32 from by decide, BitVec.mul_one]
theorem own_c (x : Int32) : own_v2_3 (own_f1 x) = own_v1_1 x := by
  apply own_inj
  unfold own_v2_3 own_v2_2
  rw [own_a, own_b]
  unfold own_v1_2
  generalize own_v1_1 x = h
  simp only [Int32.toBitVec_xor, own_s14, own_s28]
  exact own_un14 _
theorem own_d (x : Int32) : own_f2 (own_f1 x) = x := by
  apply own_inj
  unfold own_f2
  rw [own_c]
  unfold own_v1_1
  rw [Int32.toBitVec_mul, Int32.toBitVec_add, Int32.toBitVec_add, Int32.toBitVec_xor, own_shl x 9 9 (by decide)]
  generalize x.toBitVec = b
  have e0 : b * BitVec.ofNat 32 (2 ^ 9) ^^^ (-1 : Int32).toBitVec = ~~~(b * BitVec.ofNat 32 (2 ^ 9)) := by
    rw [show (-1 : Int32).toBitVec = BitVec.allOnes 32 from by decide, BitVec.xor_allOnes]
  have e1 : b + ~~~(b * BitVec.ofNat 32 (2 ^ 9)) + (1 : Int32).toBitVec = b * (-511 : Int32).toBitVec := by
    rw [BitVec.add_assoc]
    have : ~~~(b * BitVec.ofNat 32 (2 ^ 9)) + (1 : Int32).toBitVec = - (b * BitVec.ofNat 32 (2 ^ 9)) := by rw [BitVec.neg_eq_not_add]; rfl
    rw [this, ← BitVec.mul_neg, show (-511 : Int32).toBitVec = 1#32 + -(BitVec.ofNat 32 (2 ^ 9)) from by decide, BitVec.mul_add, BitVec.mul_one]
  rw [e0, e1, BitVec.mul_assoc, show ((-511 : Int32).toBitVec * (134480385 : Int32).toBitVec) = 1#32 from by decide, BitVec.mul_one]
theorem own_law (x : Int32) : own_f0 x = 1 := by
  unfold own_f0 own_j0_1
  rw [if_pos (own_d x)]; rfl
set_option maxRecDepth 65536 in
set_option maxHeartbeats 40000000 in
theorem comes_1 {Post : Tables → Env → Array Value → State → Outcome → State → Prop} (hpost : ∀ tb e args s v u, (limb_1_1.after args s (.returned v) u = true ∧ limb_1_2.after args s (.returned v) u = true) → FrameEnd s (.returned v) u (Jvm.fieldLocs frame_1_writes args s ++ Jvm.arrayLocs frame_1_arrays args s ++ Jvm.staticLocs frame_1_statics s) 0 0 → Post tb e args s (.returned v) u) :
    ArmFor flags0 classFile x code maxLocals ret World_1 tables_1 room_1 Calls_1 rest_1 Pre_1 Post := by
  intro l hfl _ _ p e ha hc hk s m args below hf hA hF happ hP
  obtain ⟨hcalls, hrest, hpre⟩ := hP
  obtain ⟨-, -, -, hnamed, -, -, -, hat⟩ := (Spec.applies_iff hf).mp happ
  obtain ⟨hg, hn⟩ := and_e (Cond.before_iff.mp (show (Jvm.Cond.and given_1 narrow_1).before args s = true from hpre))
  obtain ⟨gg1, gg2⟩ := and_e hg
  obtain ⟨w0, rfl⟩ : ∃ w0 : Value, args = #[w0] := by
    have hs : args.size = 1 := by simpa [Cond.value, given_1] using gg1
    obtain ⟨L⟩ := args
    match L, hs with
    | [w0], _ => exact ⟨w0, rfl⟩
  have hw := fun d (hd : d ∈ tables_1) => atoms_spec (ws := Jvm.Cond.code x code maxLocals ret :: tables_1) hat d (List.mem_cons_of_mem _ hd)
  have hfit : Fit s := fun {y c} hc i hi => by
    obtain ⟨ha, rfl⟩ := Array.getElem?_eq_some_iff.mp hc
    have q := List.all_eq_true.mp ((Array.all_eq_true_iff_forall_mem.mp hF) _ (Array.getElem_mem ha)) i (List.mem_range.mpr hi)
    simpa [Array.getElem?_eq_getElem hi] using q
  obtain ⟨i0, ei0⟩ := is_v gg2
  obtain rfl : w0 = (.int i0) := Option.some.inj ei0
  obtain ⟨n, o, h1, h2, h3, v, L, rfl, hQ, hq⟩ := rm0 l s _ hw tables_1 i0 s.heap s.heap.size p e ha hc hk s m _ below hf ((Spec.applies_iff_loose hf).mp happ).1 ⟨rfl, State.Warmed39.refl s, rfl⟩ trivial
  obtain ⟨hv, N, -⟩ := hQ
  rw [show (own_f0 i0 : Int32) = 1 from own_law i0] at hv
  subst hv
  refine ⟨n, _, h1, h2, h3, hpost _ _ _ _ _ _ ⟨Cond.after_iff.mpr rfl, Cond.after_iff.mpr (eq_i res_at (Term.int_eval (1)) rfl)⟩ ⟨hq.1, hq.2.1, (hq.2.2.sift fun y hy => Or.inr (N y hy)).mono (by decide) (by decide)⟩⟩
theorem main_1_1 : Claimed_1_1 := comes_1 fun _ _ _ _ _ _ h hF => ⟨h.1, hF⟩
theorem main_1_2 : Claimed_1_2 := comes_1 fun _ _ _ _ _ _ h hF => ⟨h.2, hF⟩
end Jvm.Pilot.@@N@@
namespace Jvm.Pilot.@@N@@
open Jvm Jvm.ClassFile Sem Op Lib Jvm.Free Jvm.Stand Jvm.Pilot.@@N@@.Jvm.D
/-! MADE BY PROGRAM (witnessworld.py) out of the Statement's table words and the real class files: 9 classes; the members and pool entries that the words name. The judged class is class 1, her method 2. -/
namespace start1
open Jvm.ClassFile
def u (s : String) : CpInfo := .utf8 (stringToUtf16 s)
/-- a pool by its gaps: so many unusable entries, then the entry; so many at the end -/
def gap : Nat → List CpInfo → List CpInfo
  | 0, r => r
  | n + 1, r => .unusable :: gap n r
def poolList (es : List (Nat × CpInfo)) (last : Nat) : List CpInfo := es.foldr (fun e r => gap e.1 (e.2 :: r)) (gap last [])
def pool (es : List (Nat × CpInfo)) (last : Nat) : Array CpInfo := ⟨poolList es last⟩
def fileOf (pool : Array CpInfo) (this : Nat) (attrs : Array Attribute := #[]) (ms : Array MethodInfo := #[]) (fl : Nat := 33) (sup : Nat := 0) (ifs : Array Nat := #[]) (fds : Array FieldInfo := #[]) : ClassFile where
  minorVersion := 0
  majorVersion := 65
  constantPool := pool
  accessFlags := fl
  thisClass := this
  superClass := sup
  interfaces := ifs
  fields := fds
  methods := ms
  attributes := attrs
def plain (name : String) (sup : Option ClassId) : Class where
  name := name
  kind := .ordinary
  loader := none
  accessFlags := 33
  super := sup
  interfaces := #[]
  cf := none
  fields := #[]
  methods := #[]
  instanceTypes := #[]
  staticTypes := #[]
  resolved := #[]
  callSites := []
  init := .initialized
  statics := none
  mirror := none

def pool0 : Array CpInfo := pool [(5, u "<init>"), (0, u "()V"), (1, .class_ 10), (1, u "java/lang/Object")] 113

def k0m0 : Method := { name := "<init>", desc := "()V", sig := { parameters := [], returnType := none }, accessFlags := 1, code := none }
/-- java/lang/Object -/
def k0 : Class := { plain "java/lang/Object" none with
  accessFlags := 33
  interfaces := #[]
  cf := some (fileOf pool0 8 #[] #[{ accessFlags := 1, nameIndex := 5, descriptorIndex := 6, attributes := #[] }] 33 0 #[] #[])
  fields := #[]
  methods := #[k0m0]
  instanceTypes := #[]
  staticTypes := #[]
  resolved := Array.replicate 124 none
  statics := none }

def pool1 : Array CpInfo := pool [(2, .class_ 4), (1, u "java/lang/Object"), (0, u "<init>"), (0, u "()V"), (0, .integer 4042322161), (0, .integer 134480385), (0, .methodref 10 11), (0, .class_ 12), (0, .nameAndType 13 14), (0, u "com/example/foothold/foothold/HashTrie"), (0, u "improve"), (0, u "(I)I"), (0, .methodref 16 17), (0, .class_ 18), (0, .nameAndType 19 14), (0, u "com/example/foothold/foothold/HashTrieImprovePinLaw"), (0, u "unimprove"), (2, u "law"), (0, u "(I)Z")] 3

def k1m0 : Method := { name := "<init>", desc := "()V", sig := { parameters := [], returnType := none }, accessFlags := 2, code := none }
def k1c1 : Code := { maxStack := 3, maxLocals := 4, code := method_2_code, exceptionTable := #[], attributes := #[] }
def k1m1 : Method := { name := "unimprove", desc := "(I)I", sig := { parameters := [.int], returnType := some .int }, accessFlags := 10, code := some k1c1 }
def k1c2 : Code := { maxStack := 2, maxLocals := 2, code := code, exceptionTable := #[], attributes := #[] }
def k1m2 : Method := { name := "law", desc := "(I)Z", sig := { parameters := [.int], returnType := some .boolean }, accessFlags := 9, code := some k1c2 }
/-- com/example/foothold/foothold/HashTrieImprovePinLaw -/
def k1 : Class := { plain "com/example/foothold/foothold/HashTrieImprovePinLaw" (some 0) with
  accessFlags := 49
  interfaces := #[]
  cf := some (fileOf pool1 16 #[] #[{ accessFlags := 2, nameIndex := 5, descriptorIndex := 6, attributes := #[] }, { accessFlags := 10, nameIndex := 19, descriptorIndex := 14, attributes := #[] }, { accessFlags := 9, nameIndex := 22, descriptorIndex := 23, attributes := #[] }] 49 2 #[] #[])
  fields := #[]
  methods := #[k1m0, k1m1, k1m2]
  instanceTypes := #[]
  staticTypes := #[]
  resolved := Array.replicate 27 none
  statics := none }

def pool2 : Array CpInfo := pool [(1, .class_ 2), (0, u "com/example/foothold/foothold/HashTrie"), (1, .class_ 6), (1, u "java/lang/Object"), (4, u "entryMap"), (0, u "I"), (2, u "nodeMap"), (2, u "entries"), (0, u "[Lcom/example/foothold/foothold/HashEntry;"), (2, u "nodes"), (0, u "[Lcom/example/foothold/foothold/HashTrie;"), (2, u "sameHash"), (0, u "Z"), (2, u "size"), (5, u "improve"), (0, u "(I)I"), (101, u "EMPTY"), (0, u "Lcom/example/foothold/foothold/HashTrie;"), (0, u "BITS"), (2, u "MASK"), (1, u "HASH_BITS")] 15

def k2c0 : Code := { maxStack := 3, maxLocals := 2, code := prog_26_method_3_code, exceptionTable := #[], attributes := #[] }
def k2m0 : Method := { name := "improve", desc := "(I)I", sig := { parameters := [.int], returnType := some .int }, accessFlags := 8, code := some k2c0 }
/-- com/example/foothold/foothold/HashTrie -/
def k2 : Class := { plain "com/example/foothold/foothold/HashTrie" (some 0) with
  accessFlags := 48
  interfaces := #[]
  cf := some (fileOf pool2 1 #[] #[{ accessFlags := 8, nameIndex := 36, descriptorIndex := 37, attributes := #[] }] 48 4 #[] #[{ accessFlags := 24, nameIndex := 139, descriptorIndex := 140, attributes := #[] }, { accessFlags := 26, nameIndex := 141, descriptorIndex := 12, attributes := #[] }, { accessFlags := 26, nameIndex := 144, descriptorIndex := 12, attributes := #[] }, { accessFlags := 26, nameIndex := 146, descriptorIndex := 12, attributes := #[] }, { accessFlags := 18, nameIndex := 11, descriptorIndex := 12, attributes := #[] }, { accessFlags := 18, nameIndex := 15, descriptorIndex := 12, attributes := #[] }, { accessFlags := 18, nameIndex := 18, descriptorIndex := 19, attributes := #[] }, { accessFlags := 18, nameIndex := 22, descriptorIndex := 23, attributes := #[] }, { accessFlags := 18, nameIndex := 26, descriptorIndex := 27, attributes := #[] }, { accessFlags := 18, nameIndex := 30, descriptorIndex := 12, attributes := #[] }])
  fields := #[{ name := "EMPTY", type := (.object "com/example/foothold/foothold/HashTrie"), accessFlags := 24, slot := 0, constantValue := 0 }, { name := "BITS", type := .int, accessFlags := 26, slot := 1, constantValue := 0 }, { name := "MASK", type := .int, accessFlags := 26, slot := 2, constantValue := 0 }, { name := "HASH_BITS", type := .int, accessFlags := 26, slot := 3, constantValue := 0 }, { name := "entryMap", type := .int, accessFlags := 18, slot := 0, constantValue := 0 }, { name := "nodeMap", type := .int, accessFlags := 18, slot := 1, constantValue := 0 }, { name := "entries", type := (.array (.object "com/example/foothold/foothold/HashEntry")), accessFlags := 18, slot := 2, constantValue := 0 }, { name := "nodes", type := (.array (.object "com/example/foothold/foothold/HashTrie")), accessFlags := 18, slot := 3, constantValue := 0 }, { name := "sameHash", type := .boolean, accessFlags := 18, slot := 4, constantValue := 0 }, { name := "size", type := .int, accessFlags := 18, slot := 5, constantValue := 0 }]
  methods := #[k2m0]
  instanceTypes := #[.int, .int, (.array (.object "com/example/foothold/foothold/HashEntry")), (.array (.object "com/example/foothold/foothold/HashTrie")), .boolean, .int]
  staticTypes := #[(.object "com/example/foothold/foothold/HashTrie"), .int, .int, .int]
  resolved := Array.replicate 162 none
  statics := none }

def pool3 : Array CpInfo := pool [(1, u "java/lang/Cloneable"), (0, .class_ 1), (0, u "java/lang/Object"), (0, .class_ 3)] 3

/-- java/lang/Cloneable -/
def k3 : Class := { plain "java/lang/Cloneable" (some 0) with
  accessFlags := 1537
  interfaces := #[]
  cf := some (fileOf pool3 2 #[] #[] 1537 4 #[] #[])
  fields := #[]
  methods := #[]
  instanceTypes := #[]
  staticTypes := #[]
  resolved := Array.replicate 8 none
  statics := none }

def pool4 : Array CpInfo := pool [(1, u "java/io/Serializable"), (0, .class_ 1), (0, u "java/lang/Object"), (0, .class_ 3)] 3

/-- java/io/Serializable -/
def k4 : Class := { plain "java/io/Serializable" (some 0) with
  accessFlags := 1537
  interfaces := #[]
  cf := some (fileOf pool4 2 #[] #[] 1537 4 #[] #[])
  fields := #[]
  methods := #[]
  instanceTypes := #[]
  staticTypes := #[]
  resolved := Array.replicate 8 none
  statics := none }

/-- the primitive byte -/
def k5 : Class := { plain "byte" none with kind := .primitive 'B', accessFlags := 0x411 }
/-- [B -/
def k6 : Class := { plain "[B" (some 0) with kind := .array 5 .byte, interfaces := #[3, 4], accessFlags := 1041 }

/-- the primitive int -/
def k7 : Class := { plain "int" none with kind := .primitive 'I', accessFlags := 0x411 }
/-- [I -/
def k8 : Class := { plain "[I" (some 0) with kind := .array 7 .int, interfaces := #[3, 4], accessFlags := 1041 }

def heap : Heap := #[]
def classes : Array Class := #[k0, k1, k2, k3, k4, k5, k6, k7, k8]
def interned : List (Array UInt16 × Addr) := []
def slotsUsed : Nat := 0
def theMethod : MethodId := ⟨1, 2⟩
def args0 : Array Value := #[.int 5]
def aboutOver (below : List Frame) : State where
  vm := { classes := classes, interned := interned.toArray }
  heap := heap
  slotsUsed := slotsUsed
  threads := #[{ frames := .invoking theMethod args0 :: below }]
def below0 : List Frame := [.native { method := ⟨0, 0⟩, args := #[] }]
def about1 : State := aboutOver below0
def p0 : Program := .bare "" "" ""
def e0 : Env := launch0.env 0 0 0
theorem w_frames : about1.frames = Frame.invoking theMethod args0 :: below0 := rfl
set_option maxRecDepth 65536 in
theorem w_args : argsFit about1.vm theMethod args0 = true := by decide +kernel
set_option maxRecDepth 65536 in
theorem w_heap : heapFits about1 = true := by decide +kernel
set_option maxRecDepth 65536 in
theorem w_runnable : about1.curStatus? = some .runnable := by decide +kernel
set_option maxRecDepth 65536 in
theorem w_alone : about1.alone = true := by decide +kernel
set_option maxRecDepth 65536 in
theorem w_named : about1.methodNamed? x = some theMethod := by decide +kernel
set_option maxRecDepth 65536 in
theorem w_hears : about1.hears theMethod below0 = true := by decide +kernel
set_option maxRecDepth 65536 in
theorem w_ripe : about1.ripe theMethod args0 below0 = true := by decide +kernel
theorem w_running : about1.status = .running := rfl
set_option maxRecDepth 65536 in
theorem w_room : about1.hasRoom e0.platform room_1 = true :=
  launch0.hasRoom_least _ room_1 (by decide +kernel) (by decide +kernel) (by decide +kernel) (by decide +kernel) (by decide +kernel) (by decide +kernel)
theorem allAtoms_all (ts : List Jvm.Cond) (a : Array Jvm.Value) (st : Jvm.State) : (allAtoms ts).before a st = ts.all (fun c => c.before a st) := by
  induction ts with
  | nil => rfl
  | cons c t ih =>
    show (Jvm.Cond.and c (allAtoms t)).before a st = _
    rw [Jvm.Cond.before_and, ih, List.all_cons]
def words1 : List Jvm.Cond := Jvm.Cond.code x code maxLocals ret :: tables_1
/-- a 'code' word, met by the world's own term for the bytes: nothing is compared byte by byte -/
theorem code_word {y : MethodName} {bytes : ByteArray} {mx : Nat} {rt : Option FieldType} {a : Array Value} {s : State} {m : MethodId} {meth : Method} {c : Code} (h1 : s.methodNamed? y = some m) (h2 : s.vm.method? m = some meth) (h3 : meth.code = some c) (h4 : c.code = bytes)
    (h5 : (c.maxLocals == mx && c.exceptionTable.isEmpty && decide (c.maxStack ≤ mostOperands) && decide (meth.sig.returnType = rt) && !meth.locks && decide (parseMethodDescriptor y.desc = some meth.sig)) = true) : (Jvm.Cond.code y bytes mx rt).before a s = true := by
  simp only [Bool.and_eq_true, beq_iff_eq, Bool.not_eq_true', decide_eq_true_eq] at h5
  obtain ⟨⟨⟨⟨⟨g1, g2⟩, g3⟩, g4⟩, g5⟩, g6⟩ := h5
  simp [Cond.before, Cond.holds, Cond.value, h1, h2, h3, h4, g1, g2, g3, g4, g5, g6]
def isCode : Jvm.Cond → Bool
  | .code _ _ _ _ => true
  | _ => false
theorem all_split {L : List Jvm.Cond} {P : Jvm.Cond → Bool} (h1 : L.all (fun c => isCode c || P c) = true) (h2 : ∀ c ∈ L.filter isCode, P c = true) : L.all P = true := by
  refine List.all_eq_true.mpr fun c hc => ?_
  have h := List.all_eq_true.mp h1 c hc
  rcases Bool.eq_false_or_eq_true (isCode c) with hi | hi
  · exact h2 c (List.mem_filter.mpr ⟨hc, hi⟩)
  · simpa [hi] using h
set_option maxRecDepth 65536 in
theorem w_c0 : (Jvm.Cond.code x code maxLocals ret).before args0 about1 = true := code_word (m := ⟨1, 2⟩) (meth := k1m2) (c := k1c2) (by decide +kernel) rfl rfl rfl (by decide +kernel)
set_option maxRecDepth 65536 in
theorem w_c1 : (Jvm.Cond.code ({ cls := "com/example/foothold/foothold/HashTrie", name := "improve", desc := "(I)I" } : Jvm.MethodName) prog_26_method_3_code (2 : Nat) (Option.some Jvm.ClassFile.FieldType.int)).before args0 about1 = true := code_word (m := ⟨2, 0⟩) (meth := k2m0) (c := k2c0) (by decide +kernel) rfl rfl rfl (by decide +kernel)
set_option maxRecDepth 65536 in
theorem w_c2 : (Jvm.Cond.code ({ cls := "com/example/foothold/foothold/HashTrieImprovePinLaw", name := "unimprove", desc := "(I)I" } : Jvm.MethodName) method_2_code (4 : Nat) (Option.some Jvm.ClassFile.FieldType.int)).before args0 about1 = true := code_word (m := ⟨1, 1⟩) (meth := k1m1) (c := k1c1) (by decide +kernel) rfl rfl rfl (by decide +kernel)
def codes1 : List Jvm.Cond := [Jvm.Cond.code x code maxLocals ret, Jvm.Cond.code ({ cls := "com/example/foothold/foothold/HashTrie", name := "improve", desc := "(I)I" } : Jvm.MethodName) prog_26_method_3_code (2 : Nat) (Option.some Jvm.ClassFile.FieldType.int), Jvm.Cond.code ({ cls := "com/example/foothold/foothold/HashTrieImprovePinLaw", name := "unimprove", desc := "(I)I" } : Jvm.MethodName) method_2_code (4 : Nat) (Option.some Jvm.ClassFile.FieldType.int)]
set_option maxRecDepth 65536 in
theorem codes_eq : words1.filter isCode = codes1 := rfl
theorem w_codes : ∀ c ∈ words1.filter isCode, c.before args0 about1 = true := by
  rw [codes_eq]
  intro c hc
  simp only [codes1, List.mem_cons, List.not_mem_nil, or_false] at hc
  rcases hc with rfl | rfl | rfl
  · exact w_c0
  · exact w_c1
  · exact w_c2
set_option maxRecDepth 65536 in
theorem w_t1 : words1.all (fun c => isCode c || c.before args0 about1) = true := by decide +kernel
theorem w_tables : (allAtoms (Jvm.Cond.code x code maxLocals ret :: tables_1)).before args0 about1 = true := by
  rw [allAtoms_all]
  show words1.all (fun c => c.before args0 about1) = true
  refine all_split ?_ w_codes
  rw [w_t1]
set_option maxRecDepth 65536 in
theorem w_case : (Jvm.Cond.and given_1 narrow_1).before args0 about1 = true := by decide +kernel
theorem w_applies : (headSpec (Jvm.Cond.code x code maxLocals ret :: tables_1) room_1).applies x e0.platform about1 = true :=
  (Spec.applies_iff w_frames).mpr ⟨w_running, w_runnable, w_alone, w_named, w_hears, w_ripe, w_room, w_tables⟩
theorem atStart : AtStart classFile x code maxLocals ret World_1 tables_1 room_1 Calls_1 rest_1 Pre_1 launch0 p0 e0 about1 theMethod args0 below0 :=
  ⟨lists_1, trivial, launch0.admits_env _ _ _, launch0.least_env, fairChoices_fair.cas, fairChoices_fair.clock, w_frames, w_args, w_heap, w_applies, trivial, trivial, w_case⟩
end start1
theorem witness_1 : WitnessClaimed_1 := ⟨start1.p0, start1.e0, start1.about1, start1.theMethod, start1.args0, start1.below0, start1.atStart⟩
end Jvm.Pilot.@@N@@
