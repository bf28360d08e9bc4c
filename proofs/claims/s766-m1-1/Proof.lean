import JvmDerived
import JvmDerived.Pilot.@@N@@Statement
import JvmDerived.Pilot.@@N@@Code
set_option linter.unusedVariables false
set_option linter.unusedSimpArgs false
@@BLOCK:NumsL.lean.txt@@
namespace Jvm.Pilot.@@N@@
open Jvm Jvm.ClassFile Sem Op Lib Jvm.Free Jvm.Stand Jvm.LawKit Jvm.RoadKit Bundle Jvm.Pilot.@@N@@.Jvm.D
section Own
variable {p : Program} {l : Launch} {e : Env} {R rm : Room} {s : State} {m : MethodId} {args : Array Value} {below : List Frame} {meth : Method} {c : Code} {T : State} {locs : List Loc} {cells slots : Nat} {Z : State} {a0 : Array Value} {h : Heap}
/-- the run comes to the end of the invocation, and what is asked holds there -/
def own_Goes (p : Program) (e : Env) (below : List Frame) (G : Outcome → State → Prop) (S : State) : Prop := ∃ s₂ o, Steps p.tables e below S s₂ ∧ s₂.status = .running ∧ Ended s₂ below o ∧ G o s₂
theorem own_go {G : Outcome → State → Prop} {S S' : State} (h : ∀ t, Steps p.tables e below S' t → Steps p.tables e below S t) (k : own_Goes p e below G S') : own_Goes p e below G S := by
  obtain ⟨s₂, o, h1, h2⟩ := k
  exact ⟨s₂, o, h _ h1, h2⟩
theorem own_tr {G : Outcome → State → Prop} {S S' : State} (h : Steps p.tables e below S S') (k : own_Goes p e below G S') : own_Goes p e below G S := own_go (fun _ q => h.trans q) k
abbrev own_End (s : State) (rm : Room) (Q : Option Value → Heap → List Loc → Prop) : Outcome → State → Prop := fun o U' => ∃ v L, o = .returned v ∧ Q v U'.heap L ∧ FrameEnd s o U' L rm.cells rm.slots
/-- a body's contract: with these arguments, over this heap, it returns and leaves what Q says -/
def own_Met (l : Launch) (Z : State) (y : MethodName) (bytes : ByteArray) (maxL : Nat) (ret : Option FieldType) (ws : List Jvm.Cond) (rm : Room) (as : Array Value) (h0 : Heap) (Q : Option Value → Heap → List Loc → Prop) : Prop :=
  MetFree l y (head1 (Jvm.Cond.code y bytes maxL ret :: ws) rm) (fun a U => a = as ∧ Z.Warmed39 U.vm ∧ U.heap = h0) (fun _ _ _ _ _ => True) (fun _ U o U' => ∃ v L, o = .returned v ∧ Q v U'.heap L ∧ FrameEnd U o U' L rm.cells rm.slots)
theorem own_met {y : MethodName} {bytes : ByteArray} {maxL : Nat} {ret : Option FieldType} {ws : List Jvm.Cond} {as : Array Value} {h0 : Heap} {Q : Option Value → Heap → List Loc → Prop} (hp : plainFor y = true)
    (body : ∀ (p : Program) (e : Env) (s : State) (m : MethodId) (below : List Frame) (meth : Method) (c : Code) (s₁ : State), p.tables.exec = Jvm.exec → c.code = bytes → c.maxLocals = maxL → s.vm.findClass y.cls = some m.cls → meth.name = y.name → meth.sig.returnType = ret → meth.locks = false → Z.Warmed39 s.vm → s₁.heap = h0 →
      Stand p l e rm s m as below meth c s₁ [] 0 0 → own_Goes p e below (own_End s rm Q) (s₁.setTop (entryFrame m as maxL))) : own_Met l Z y bytes maxL ret ws rm as h0 Q := by
  refine MetFree.of_bodySF hp hisR ?_
  intro p e s m args below meth c s₁ Bd hml hP hK
  obtain ⟨rfl, hZ, hh⟩ := hP
  exact body p e s m below meth c s₁ Bd.exec Bd.bytes hml (findClass_of_methodNamed Bd.named) (name_of_methodNamed Bd.named Bd.method).1 Bd.returns Bd.notSynchronized hZ (by rw [← hh, Bd.state]; rfl) (Stand.of_body Bd)
/-- the returns -/
theorem own_retV {Q : Option Value → Heap → List Loc → Prop} (X : Stand p l e rm s m args below meth c T locs cells slots) (hx : p.tables.exec = Jvm.exec) (hlk : meth.locks = false) {pc : Nat} {Ls : Array Slot} {w : Value} {t : FieldType} {i : Instr} {rest : List Value} (hret : meth.sig.returnType = some t) (hn : narrow t w = w)
    (hi : (i = .ireturn ∧ (t = .int ∨ t = .boolean ∨ t = .byte ∨ t = .char ∨ t = .short) ∧ ∃ z, w = .int z) ∨ (i = .lreturn ∧ t = .long ∧ ∃ z, w = .long z) ∨ (i = .dreturn ∧ t = .double ∧ ∃ z, w = .double z) ∨ (i = .freturn ∧ t = .float ∧ ∃ z, w = .float z) ∨ (i = .areturn ∧ t.isReference = true ∧ w.isRef = true))
    (hd : decode c.code pc = .ok (i, 1)) (hc : cells ≤ rm.cells) (hs : slots ≤ rm.slots) (hq : Q (some w) T.heap locs) : own_Goes p e below (own_End s rm Q) (T.setTop (mkF m pc Ls (w :: rest))) := by
  obtain ⟨fs, hr, hrun, hended, hW, hsame⟩ := X.leave (v := some w) (fun h => by rw [hret] at h; cases h) hlk
  exact ⟨_, _, retOut X hx hret hn hi hd hr, hrun, hended, _, _, rfl, hq, ⟨_, rfl⟩, hW, hsame.mono hc hs⟩
theorem own_retI {Q : Option Value → Heap → List Loc → Prop} (X : Stand p l e rm s m args below meth c T locs cells slots) (hx : p.tables.exec = Jvm.exec) (hlk : meth.locks = false) {pc : Nat} {Ls : Array Slot} {z : Int32} {rest : List Value} (hret : meth.sig.returnType = some .int)
    (hd : decode c.code pc = .ok (.ireturn, 1)) (hc : cells ≤ rm.cells) (hs : slots ≤ rm.slots) (hq : Q (some (.int z)) T.heap locs) : own_Goes p e below (own_End s rm Q) (T.setTop (mkF m pc Ls (.int z :: rest))) :=
  own_retV X hx hlk hret rfl (Or.inl ⟨rfl, Or.inl rfl, z, rfl⟩) hd hc hs hq
theorem own_retJ {Q : Option Value → Heap → List Loc → Prop} (X : Stand p l e rm s m args below meth c T locs cells slots) (hx : p.tables.exec = Jvm.exec) (hlk : meth.locks = false) {pc : Nat} {Ls : Array Slot} {z : Int64} {rest : List Value} (hret : meth.sig.returnType = some .long)
    (hd : decode c.code pc = .ok (.lreturn, 1)) (hc : cells ≤ rm.cells) (hs : slots ≤ rm.slots) (hq : Q (some (.long z)) T.heap locs) : own_Goes p e below (own_End s rm Q) (T.setTop (mkF m pc Ls (.long z :: rest))) :=
  own_retV X hx hlk hret rfl (Or.inr (Or.inl ⟨rfl, rfl, z, rfl⟩)) hd hc hs hq
theorem own_retR {Q : Option Value → Heap → List Loc → Prop} (X : Stand p l e rm s m args below meth c T locs cells slots) (hx : p.tables.exec = Jvm.exec) (hlk : meth.locks = false) {pc : Nat} {Ls : Array Slot} {w : Value} {t : FieldType} {rest : List Value} (hret : meth.sig.returnType = some t) (ht : t.isReference = true) (hw : w.isRef = true)
    (hd : decode c.code pc = .ok (.areturn, 1)) (hc : cells ≤ rm.cells) (hs : slots ≤ rm.slots) (hq : Q (some w) T.heap locs) : own_Goes p e below (own_End s rm Q) (T.setTop (mkF m pc Ls (w :: rest))) :=
  own_retV X hx hlk hret (by cases t <;> first | rfl | cases ht) (Or.inr (Or.inr (Or.inr (Or.inr ⟨rfl, ht, hw⟩)))) hd hc hs hq
theorem own_retN {Q : Option Value → Heap → List Loc → Prop} (X : Stand p l e rm s m args below meth c T locs cells slots) (hx : p.tables.exec = Jvm.exec) (hlk : meth.locks = false) {pc : Nat} {Ls : Array Slot} {z z' : Int32} {t : FieldType} {rest : List Value} (hret : meth.sig.returnType = some t) (ht : t = .boolean ∨ t = .byte ∨ t = .char ∨ t = .short) (hz : nar t z = z')
    (hd : decode c.code pc = .ok (.ireturn, 1)) (hc : cells ≤ rm.cells) (hs : slots ≤ rm.slots) (hq : Q (some (.int z')) T.heap locs) : own_Goes p e below (own_End s rm Q) (T.setTop (mkF m pc Ls (.int z :: rest))) := by
  subst hz
  obtain ⟨fs, hr, hrun, hended, hW, hsame⟩ := X.leave (v := some (.int (nar t z))) (fun h => by rw [hret] at h; cases h) hlk
  exact ⟨_, _, retN X hx hret ht hd hr, hrun, hended, _, _, rfl, hq, ⟨_, rfl⟩, hW, hsame.mono hc hs⟩
theorem own_ret0 {Q : Option Value → Heap → List Loc → Prop} (X : Stand p l e rm s m args below meth c T locs cells slots) (hx : p.tables.exec = Jvm.exec) (hlk : meth.locks = false) {pc : Nat} {Ls : Array Slot} (hret : meth.sig.returnType = none)
    (hd : decode c.code pc = .ok (.return_, 1)) (hc : cells ≤ rm.cells) (hs : slots ≤ rm.slots) (hq : Q none T.heap locs) : own_Goes p e below (own_End s rm Q) (T.setTop (mkF m pc Ls [])) := by
  obtain ⟨fs, hr, hrun, hended, hW, hsame⟩ := X.leave (v := none) (fun _ => rfl) hlk
  exact ⟨_, _, X.returnOut hx hret hd hr, hrun, hended, _, _, rfl, hq, ⟨_, rfl⟩, hW, hsame.mono hc hs⟩
/-- a static call by the callee's contract -/
theorem own_callS (X : Stand p l e R s m args below meth c T locs cells slots) (hx : p.tables.exec = Jvm.exec) (hZ : Z.Warmed39 s.vm) {own : String} {index : Nat} {y : MethodName} {bytes : ByteArray} {maxL : Nat} {ret : Option FieldType} (hown : s.vm.findClass own = some m.cls)
    (w1 : (Jvm.Cond.methodLink own index y).before a0 Z = true) (w2 : (Jvm.Cond.static y).before a0 Z = true) (w3 : (Jvm.Cond.initialized y.cls).before a0 Z = true) (w4 : (Jvm.Cond.code y bytes maxL ret).before a0 Z = true) (hy : y.cls ≠ "java/lang/invoke/MethodHandle" ∧ y.cls ≠ "java/lang/invoke/VarHandle")
    {as : List Value} {Q : Option Value → Heap → List Loc → Prop} (hM : own_Met l Z y bytes maxL ret [] rm as.toArray h Q) (eT : T.heap = h) {ps : List FieldType} {rt : Option FieldType} (hpd : parseMethodDescriptor y.desc = some ⟨ps, rt⟩) (hlen : as.length = ps.length)
    {pc : Nat} {Ls : Array Slot} {rest : List Value} {W : Nat} (hsize : Ls.size = c.maxLocals) (hW : (rest.map fun v => v.category).sum ≤ W) (hf : rm.frames + 1 ≤ R.frames) (hl : W + (maxL + 11) + rm.locals ≤ R.locals) (hd : decode c.code pc = .ok (.invokestatic index, 3)) (hc : cells + rm.cells ≤ R.cells) (hs : slots + rm.slots ≤ R.slots) :
    ∃ (v : Option Value) (T' : State) (L' : List Loc), Stand p l e R s m args below meth c T' (locs ++ L') (cells + rm.cells) (slots + rm.slots) ∧ Q v T'.heap L' ∧ ∀ target, Steps p.tables e below (T'.setTop (mkF m (pc + 3) Ls (v.toList ++ rest))) target → Steps p.tables e below (T.setTop (mkF m pc Ls (as.reverse ++ rest))) target := by
  obtain ⟨v, _, ⟨T', L', k', n'⟩, -, X', ⟨Lc, hQ, hl', hk', hn'⟩, st⟩ := Jvm.LawKit.callS X hx (y := y) hown (mvT hZ w1) (mvT hZ w2) (mvT hZ w3) (mvT hZ w4) hy (backOf (W := W) hM hZ w4 w3 hf hl) (g := mkF m pc Ls (as.reverse ++ rest)) rfl hsize (argsL := as) (rest := rest) (lenOf hpd hlen) rfl (by show 2 * 0 + _ ≤ _; omega) hd (fun _ _ => ⟨rfl, eT, hc, hs⟩)
  dsimp only [Pt.U, Pt.locs, Pt.cells, Pt.slots] at X' hl' hk' hn' st hQ
  subst hl' hk' hn'
  exact ⟨v, T', Lc, X', hQ, st⟩
/-- an instance method by the contract of the body that the receiver's class selects -/
theorem own_callV (X : Stand p l e R s m args below meth c T locs cells slots) (hx : p.tables.exec = Jvm.exec) (hZ : Z.Warmed39 s.vm) {own C : String} {index : Nat} {y : MethodName} {bytes : ByteArray} {maxL : Nat} {ret : Option FieldType} (hown : s.vm.findClass own = some m.cls)
    (w1 : (Jvm.Cond.methodLink own index y).before a0 Z = true) (w2 : (Jvm.Cond.declares y).before a0 Z = true) (w3 : (Jvm.Cond.selects C y y).before a0 Z = true) (w4 : (Jvm.Cond.instanceMethod y).before a0 Z = true) (w5 : (Jvm.Cond.initialized y.cls).before a0 Z = true) (w6 : (Jvm.Cond.code y bytes maxL ret).before a0 Z = true) (hy : y.cls ≠ "java/lang/invoke/MethodHandle" ∧ y.cls ≠ "java/lang/invoke/VarHandle")
    {b : Addr} {as : List Value} {Q : Option Value → Heap → List Loc → Prop} (hM : own_Met l Z y bytes maxL ret [] rm (Value.ref b :: as).toArray h Q) (eT : T.heap = h) (E : Exa Z h b C) {ps : List FieldType} {rt : Option FieldType} (hpd : parseMethodDescriptor y.desc = some ⟨ps, rt⟩) (hlen : as.length = ps.length)
    {pc : Nat} {Ls : Array Slot} {rest : List Value} {W : Nat} (hsize : Ls.size = c.maxLocals) (hW : (rest.map fun v => v.category).sum ≤ W) (hf : rm.frames + 1 ≤ R.frames) (hl : W + (maxL + 11) + rm.locals ≤ R.locals) (hd : decode c.code pc = .ok (.invokevirtual index, 3)) (hc : cells + rm.cells ≤ R.cells) (hs : slots + rm.slots ≤ R.slots) :
    ∃ (v : Option Value) (T' : State) (L' : List Loc), Stand p l e R s m args below meth c T' (locs ++ L') (cells + rm.cells) (slots + rm.slots) ∧ Q v T'.heap L' ∧ ∀ target, Steps p.tables e below (T'.setTop (mkF m (pc + 3) Ls (v.toList ++ rest))) target → Steps p.tables e below (T.setTop (mkF m pc Ls (as.reverse ++ Value.ref b :: rest))) target := by
  obtain ⟨cq, kq, qa, qb, qc⟩ := isOf hZ eT E
  obtain ⟨v, _, ⟨T', L', k', n'⟩, -, X', ⟨Lc, hQ, hl', hk', hn'⟩, st⟩ := X.virtualBack hx (y := y) (z := y) hown (mvT hZ w1) (mvT hZ w2) (notFace_of_selects (args := #[]) (mvT hZ w3)) (mvT hZ w3) (mvT hZ w4) hy (backOf (W := W) hM hZ w6 w5 hf hl) qa qc (g := mkF m pc Ls (as.reverse ++ Value.ref b :: rest)) rfl hsize (Steps.refl _) (argsL := as) (rest := rest) (lenOf hpd hlen) rfl (by show 2 * 0 + _ ≤ _; omega) hd (fun _ _ => ⟨rfl, eT, hc, hs⟩)
  dsimp only [Pt.U, Pt.locs, Pt.cells, Pt.slots] at X' hl' hk' hn' st hQ
  subst hl' hk' hn'
  exact ⟨v, T', Lc, X', hQ, fun _ q => st.trans q⟩
/-- a constructor by its contract -/
theorem own_callI (X : Stand p l e R s m args below meth c T locs cells slots) (hx : p.tables.exec = Jvm.exec) (hZ : Z.Warmed39 s.vm) {own : String} {index : Nat} {y : MethodName} {bytes : ByteArray} {maxL : Nat} (hy1 : y.name = "<init>") (hown : s.vm.findClass own = some m.cls)
    (w1 : (Jvm.Cond.methodLink own index y).before a0 Z = true) (w4 : (Jvm.Cond.instanceMethod y).before a0 Z = true) (w5 : (Jvm.Cond.initialized y.cls).before a0 Z = true) (w6 : (Jvm.Cond.code y bytes maxL none).before a0 Z = true) (hy : y.cls ≠ "java/lang/invoke/MethodHandle" ∧ y.cls ≠ "java/lang/invoke/VarHandle")
    {b : Addr} {as : List Value} {Q : Option Value → Heap → List Loc → Prop} (hM : own_Met l Z y bytes maxL none [] rm (Value.ref b :: as).toArray h Q) (eT : T.heap = h) {ps : List FieldType} {rt : Option FieldType} (hpd : parseMethodDescriptor y.desc = some ⟨ps, rt⟩) (hlen : as.length = ps.length)
    {pc : Nat} {Ls : Array Slot} {rest : List Value} {W : Nat} (hsize : Ls.size = c.maxLocals) (hW : (rest.map fun v => v.category).sum ≤ W) (hf : rm.frames + 1 ≤ R.frames) (hl : W + (maxL + 11) + rm.locals ≤ R.locals) (hd : decode c.code pc = .ok (.invokespecial index, 3)) (hc : cells + rm.cells ≤ R.cells) (hs : slots + rm.slots ≤ R.slots) :
    ∃ (v : Option Value) (T' : State) (L' : List Loc), Stand p l e R s m args below meth c T' (locs ++ L') (cells + rm.cells) (slots + rm.slots) ∧ Q v T'.heap L' ∧ ∀ target, Steps p.tables e below (T'.setTop (mkF m (pc + 3) Ls (v.toList ++ rest))) target → Steps p.tables e below (T.setTop (mkF m pc Ls (as.reverse ++ Value.ref b :: rest))) target := by
  obtain ⟨v, _, ⟨T', L', k', n'⟩, -, X', ⟨Lc, hQ, hl', hk', hn'⟩, st⟩ := X.specialBack hx (y := y) hy1 hown (mvT hZ w1) (mvT hZ w4) (mvT hZ w6) hy (backOf (W := W) hM hZ w6 w5 hf hl) (g := mkF m pc Ls (as.reverse ++ Value.ref b :: rest)) rfl hsize (Steps.refl _) (a := b) (argsL := as) (rest := rest) (lenOf hpd hlen) rfl (by show 2 * 0 + _ ≤ _; omega) hd (fun _ _ => ⟨rfl, eT, hc, hs⟩)
  dsimp only [Pt.U, Pt.locs, Pt.cells, Pt.slots] at X' hl' hk' hn' st hQ
  subst hl' hk' hn'
  exact ⟨v, T', Lc, X', hQ, fun _ q => st.trans q⟩
end Own
theorem own_d1_0 : decode prog_10_method_12_code 0 = .ok (.lload_n 0, 1) := by decide +kernel
theorem own_d1_1 : decode prog_10_method_12_code 1 = .ok (.lload_n 2, 1) := by decide +kernel
theorem own_d1_2 : decode prog_10_method_12_code 2 = .ok (.lsub, 1) := by decide +kernel
theorem own_d1_3 : decode prog_10_method_12_code 3 = .ok (.lconst 0, 1) := by decide +kernel
theorem own_d1_4 : decode prog_10_method_12_code 4 = .ok (.lcmp, 1) := by decide +kernel
theorem own_d1_5 : decode prog_10_method_12_code 5 = .ok (.ifCond .gt 7, 3) := by decide +kernel
theorem own_d1_12 : decode prog_10_method_12_code 12 = .ok (.lload_n 2, 1) := by decide +kernel
theorem own_d1_8 : decode prog_10_method_12_code 8 = .ok (.lload_n 0, 1) := by decide +kernel
theorem own_d1_9 : decode prog_10_method_12_code 9 = .ok (.goto 4, 3) := by decide +kernel
theorem own_pn0 : plainName "com/example/elease/elease/TimedLoop" = true := by first | (simp [plainName, overriddenIn]; done) | decide +kernel
theorem own_d1_13 : decode prog_10_method_12_code 13 = .ok (.lreturn, 1) := by decide +kernel
def own_j1_1 (y0 : Int64) (y1 : Int64) : Int64 := (if (0 : Int64) < (y0 - y1) then y1 else y0)
def own_f1 (y0 : Int64) (y1 : Int64) : Int64 := (own_j1_1 y0 y1)
def own_Q1 (y0 : Int64) (y1 : Int64) (h0 : Heap) (n0 : Nat) (v : Option Value) (h : Heap) (L : List Loc) : Prop := v = some (.long (own_f1 y0 y1)) ∧ Fr n0 L ∧ h = h0
abbrev own_R1 : Room := { frames := 0, cells := 0, slots := 0, locals := 0 }
theorem own_ef1 (m : MethodId) (z0 : Int64) (z1 : Int64) : entryFrame m #[(.long z0), (.long z1)] 4 = mkF m 0 #[.val (.long z0), .second, .val (.long z1), .second] [] := by first | (simp [entryFrame, mkF, argsToLocals, Value.category]; done) | rfl
set_option maxRecDepth 65536 in
set_option maxHeartbeats 40000000 in
theorem rm1 (l : Launch) (Z : State) (a0 : Array Value) (hw : ∀ d ∈ tables_1, d.before a0 Z = true) (ws : List Jvm.Cond) (y0 : Int64) (y1 : Int64) (h0 : Heap) (n0 : Nat) : own_Met l Z (⟨"com/example/elease/elease/TimedLoop", "earlier", "(JJ)J"⟩ : MethodName) prog_10_method_12_code 4 (some .long) ws own_R1 #[(.long y0), (.long y1)] h0 (own_Q1 y0 y1 h0 n0) := by
  refine own_met (plainFor_of_name own_pn0) ?_
  intro p e s m below meth c s₁ hx hby hml hown hnm hret hlk hZ e0 X0
  have N0 := Fr.nil n0
  have hml : c.maxLocals = 4 := hml
  have hown : s.vm.findClass "com/example/elease/elease/TimedLoop" = some m.cls := hown
  have hret : meth.sig.returnType = (some .long) := hret
  have hby : c.code = prog_10_method_12_code := hby
  have hnm : meth.name = "earlier" := hnm
  rw [own_ef1]
  show own_Goes p e below _ (s₁.setTop (mkF m 0 #[.val (.long y0), .second, .val (.long y1), .second] []))
  refine own_go (fun t k => XS.lloadN X0.here hx rfl (hb hby own_d1_0) rfl k) ?_
  show own_Goes p e below _ (s₁.setTop (mkF m 1 #[.val (.long y0), .second, .val (.long y1), .second] [(.long y0)]))
  refine own_go (fun t k => XS.lloadN X0.here hx rfl (hb hby own_d1_1) rfl k) ?_
  show own_Goes p e below _ (s₁.setTop (mkF m 2 #[.val (.long y0), .second, .val (.long y1), .second] [(.long y1), (.long y0)]))
  refine own_go (fun t k => XS.lsub X0.here hx rfl (hb hby own_d1_2) rfl k) ?_
  show own_Goes p e below _ (s₁.setTop (mkF m 3 #[.val (.long y0), .second, .val (.long y1), .second] [(.long (y0 - y1))]))
  refine own_go (fun t k => XS.lconst X0.here hx rfl (hb hby own_d1_3) k) ?_
  show own_Goes p e below _ (s₁.setTop (mkF m 4 #[.val (.long y0), .second, .val (.long y1), .second] [(.long (0 : Int64)), (.long (y0 - y1))]))
  refine own_go (fun t k => XS.lcmp X0.here hx rfl (hb hby own_d1_4) rfl k) ?_
  show own_Goes p e below _ (s₁.setTop (mkF m 5 #[.val (.long y0), .second, .val (.long y1), .second] [(.int (lcmpW (y0 - y1) (0 : Int64)))]))
  suffices HH2 : own_Goes p e below (own_End s own_R1 (own_Q1 y0 y1 h0 n0)) (s₁.setTop (mkF m 13 #[.val (.long y0), .second, .val (.long y1), .second] [(.long (own_j1_1 y0 y1))])) by
    by_cases hc1 : (0 : Int64) < (y0 - y1)
    · refine own_go (fun t k => XS.ifYes X0.here hx rfl (pc0 := 5) (pc' := 12) rfl (hb hby own_d1_5) rfl ((if0 _ _).trans (tlt ((lw_gt _ _).mpr hc1)).2.2.1) (by decide) (by decide) k) ?_
      show own_Goes p e below _ (s₁.setTop (mkF m 12 #[.val (.long y0), .second, .val (.long y1), .second] []))
      refine own_go (fun t k => XS.lloadN X0.here hx rfl (hb hby own_d1_12) rfl k) ?_
      rw [show (own_j1_1 y0 y1) = y1 from by rw [own_j1_1, if_pos hc1]] at HH2
      exact HH2
    · refine own_go (fun t k => XS.ifNo X0.here hx rfl (hb hby own_d1_5) rfl ((if0 _ _).trans (flt (fun q => hc1 ((lw_gt _ _).mp q))).2.2.1) k) ?_
      show own_Goes p e below _ (s₁.setTop (mkF m 8 #[.val (.long y0), .second, .val (.long y1), .second] []))
      refine own_go (fun t k => XS.lloadN X0.here hx rfl (hb hby own_d1_8) rfl k) ?_
      show own_Goes p e below _ (s₁.setTop (mkF m 9 #[.val (.long y0), .second, .val (.long y1), .second] [(.long y0)]))
      refine own_go (fun t k => XS.goto X0.here hx rfl (pc0 := 9) (pc' := 13) rfl (hb hby own_d1_9) (by decide) (by decide) k) ?_
      rw [show (own_j1_1 y0 y1) = y0 from by rw [own_j1_1, if_neg hc1]] at HH2
      exact HH2
  show own_Goes p e below _ (s₁.setTop (mkF m 13 #[.val (.long y0), .second, .val (.long y1), .second] [(.long (own_j1_1 y0 y1))]))
  exact own_retJ X0 hx hlk hret (hb hby own_d1_13) (by decide) (by decide) ⟨by rw [own_f1], N0, e0⟩
theorem own_t0 : (Jvm.Cond.constantLong "com/example/elease/elease/TimedLoopEarlierPinLaw" (9 : Nat) (-9223372036854775808 : Int64)) ∈ tables_1 := List.mem_of_getElem? (i := 0) rfl
theorem own_t1 : (Jvm.Cond.methodLink "com/example/elease/elease/TimedLoopEarlierPinLaw" (11 : Nat) ({ cls := "com/example/elease/elease/TimedLoop", name := "earlier", desc := "(JJ)J" } : Jvm.MethodName)) ∈ tables_1 := List.mem_of_getElem? (i := 1) rfl
theorem own_pd0 : parseMethodDescriptor "(JJ)J" = some ⟨[.long, .long], some .long⟩ := by decide +kernel
theorem own_t2 : (Jvm.Cond.static ({ cls := "com/example/elease/elease/TimedLoop", name := "earlier", desc := "(JJ)J" } : Jvm.MethodName)) ∈ tables_1 := List.mem_of_getElem? (i := 2) rfl
theorem own_t3 : (Jvm.Cond.initialized "com/example/elease/elease/TimedLoop") ∈ tables_1 := List.mem_of_getElem? (i := 3) rfl
theorem own_t4 : (Jvm.Cond.code ({ cls := "com/example/elease/elease/TimedLoop", name := "earlier", desc := "(JJ)J" } : Jvm.MethodName) prog_10_method_12_code (4 : Nat) (Option.some Jvm.ClassFile.FieldType.long)) ∈ tables_1 := List.mem_of_getElem? (i := 4) rfl
theorem own_pn1 : plainName "com/example/elease/elease/TimedLoopEarlierPinLaw" = true := by first | (simp [plainName, overriddenIn]; done) | decide +kernel
def own_v0_1 (y0 : Int64) : Int64 := (y0 + (-9223372036854775808 : Int64))
def own_v0_2 (y0 : Int64) (x2 : Int32) : Int64 := (y0 + ((x2 >>> ((2 : Int32) &&& 31)).toInt64))
def own_j0_1 (y0 : Int64) (y1 : Int64) (x2 : Int32) : Int64 := (if (x2 &&& (3 : Int32)) = (0 : Int32) then (own_v0_1 y0) else (if (x2 &&& (3 : Int32)) = (1 : Int32) then (own_v0_2 y0 x2) else y1))
def own_f0 (y0 : Int64) (y1 : Int64) (x2 : Int32) : Int32 := (if (own_f1 y0 (own_j0_1 y0 y1 x2)) = y0 then (if (0 : Int64) < ((own_f1 y0 (own_j0_1 y0 y1 x2)) - y0) then (0 : Int32) else (if (0 : Int64) < ((own_f1 y0 (own_j0_1 y0 y1 x2)) - (own_j0_1 y0 y1 x2)) then (0 : Int32) else (if (y0 - (own_j0_1 y0 y1 x2)) = (-9223372036854775808 : Int64) then (if (own_f1 y0 (own_j0_1 y0 y1 x2)) = y0 then (1 : Int32) else (0 : Int32)) else (1 : Int32)))) else (if (own_f1 y0 (own_j0_1 y0 y1 x2)) = (own_j0_1 y0 y1 x2) then (if (0 : Int64) < ((own_f1 y0 (own_j0_1 y0 y1 x2)) - y0) then (0 : Int32) else (if (0 : Int64) < ((own_f1 y0 (own_j0_1 y0 y1 x2)) - (own_j0_1 y0 y1 x2)) then (0 : Int32) else (if (y0 - (own_j0_1 y0 y1 x2)) = (-9223372036854775808 : Int64) then (if (own_f1 y0 (own_j0_1 y0 y1 x2)) = y0 then (1 : Int32) else (0 : Int32)) else (1 : Int32)))) else (0 : Int32)))
def own_Q0 (y0 : Int64) (y1 : Int64) (x2 : Int32) (h0 : Heap) (n0 : Nat) (v : Option Value) (h : Heap) (L : List Loc) : Prop := v = some (.int (own_f0 y0 y1 x2)) ∧ Fr n0 L ∧ True
theorem own_ef0 (m : MethodId) (z0 : Int64) (z1 : Int64) (z2 : Int32) : entryFrame m #[(.long z0), (.long z1), (.int z2)] maxLocals = mkF m 0 #[.val (.long z0), .second, .val (.long z1), .second, .val (.int z2), .unset, .unset, .unset, .unset, .unset] [] := by first | (simp [entryFrame, mkF, argsToLocals, Value.category, maxLocals]; done) | rfl
set_option maxRecDepth 65536 in
set_option maxHeartbeats 40000000 in
theorem rm0 (l : Launch) (Z : State) (a0 : Array Value) (hw : ∀ d ∈ tables_1, d.before a0 Z = true) (ws : List Jvm.Cond) (y0 : Int64) (y1 : Int64) (x2 : Int32) (h0 : Heap) (n0 : Nat) : own_Met l Z x code maxLocals ret ws room_1 #[(.long y0), (.long y1), (.int x2)] h0 (own_Q0 y0 y1 x2 h0 n0) := by
  refine own_met (plainFor_of_name own_pn1) ?_
  intro p e s m below meth c s₁ hx hby hml hown hnm hret hlk hZ e0 X0
  have N0 := Fr.nil n0
  have hml : c.maxLocals = 10 := hml
  have hown : s.vm.findClass "com/example/elease/elease/TimedLoopEarlierPinLaw" = some m.cls := hown
  have hret : meth.sig.returnType = (some .boolean) := hret
  have hby : c.code = code := hby
  have hnm : meth.name = "law" := hnm
  rw [own_ef0]
  show own_Goes p e below _ (s₁.setTop (mkF m 0 #[.val (.long y0), .second, .val (.long y1), .second, .val (.int x2), .unset, .unset, .unset, .unset, .unset] []))
  refine own_go (fun t k => XS.iload X0.here hx rfl (hb hby at_0) rfl k) ?_
  show own_Goes p e below _ (s₁.setTop (mkF m 2 #[.val (.long y0), .second, .val (.long y1), .second, .val (.int x2), .unset, .unset, .unset, .unset, .unset] [(.int x2)]))
  refine own_go (fun t k => XS.iconst X0.here hx rfl (hb hby at_2) k) ?_
  show own_Goes p e below _ (s₁.setTop (mkF m 3 #[.val (.long y0), .second, .val (.long y1), .second, .val (.int x2), .unset, .unset, .unset, .unset, .unset] [(.int (3 : Int32)), (.int x2)]))
  refine own_go (fun t k => XS.iand X0.here hx rfl (hb hby at_3) rfl k) ?_
  show own_Goes p e below _ (s₁.setTop (mkF m 4 #[.val (.long y0), .second, .val (.long y1), .second, .val (.int x2), .unset, .unset, .unset, .unset, .unset] [(.int (x2 &&& (3 : Int32)))]))
  refine own_go (fun t k => XS.istore X0.here hx rfl (hb hby at_4) rfl (l' := #[.val (.long y0), .second, .val (.long y1), .second, .val (.int x2), .val (.int (x2 &&& (3 : Int32))), .unset, .unset, .unset, .unset]) rfl k) ?_
  show own_Goes p e below _ (s₁.setTop (mkF m 6 #[.val (.long y0), .second, .val (.long y1), .second, .val (.int x2), .val (.int (x2 &&& (3 : Int32))), .unset, .unset, .unset, .unset] []))
  refine own_go (fun t k => XS.iload X0.here hx rfl (hb hby at_6) rfl k) ?_
  show own_Goes p e below _ (s₁.setTop (mkF m 8 #[.val (.long y0), .second, .val (.long y1), .second, .val (.int x2), .val (.int (x2 &&& (3 : Int32))), .unset, .unset, .unset, .unset] [(.int (x2 &&& (3 : Int32)))]))
  suffices HH5 : own_Goes p e below (own_End s room_1 (own_Q0 y0 y1 x2 h0 n0)) (s₁.setTop (mkF m 42 #[.val (.long y0), .second, .val (.long y1), .second, .val (.int x2), .val (.int (x2 &&& (3 : Int32))), .val (.long (own_j0_1 y0 y1 x2)), .second, .unset, .unset] [])) by
    by_cases hc3 : (x2 &&& (3 : Int32)) = (0 : Int32)
    · refine own_go (fun t k => XS.ifNo X0.here hx rfl (hb hby at_8) rfl ((if0 _ _).trans (teq hc3).2) k) ?_
      show own_Goes p e below _ (s₁.setTop (mkF m 11 #[.val (.long y0), .second, .val (.long y1), .second, .val (.int x2), .val (.int (x2 &&& (3 : Int32))), .unset, .unset, .unset, .unset] []))
      refine own_go (fun t k => XS.lloadN X0.here hx rfl (hb hby at_11) rfl k) ?_
      show own_Goes p e below _ (s₁.setTop (mkF m 12 #[.val (.long y0), .second, .val (.long y1), .second, .val (.int x2), .val (.int (x2 &&& (3 : Int32))), .unset, .unset, .unset, .unset] [(.long y0)]))
      refine own_go (fun t k => X0.ldc2Long hx hown (mvT hZ (hw _ own_t0)) (g := (mkF m 12 #[.val (.long y0), .second, .val (.long y1), .second, .val (.int x2), .val (.int (x2 &&& (3 : Int32))), .unset, .unset, .unset, .unset] [(.long y0)])) rfl (hb hby at_12) t k) ?_
      show own_Goes p e below _ (s₁.setTop (mkF m 15 #[.val (.long y0), .second, .val (.long y1), .second, .val (.int x2), .val (.int (x2 &&& (3 : Int32))), .unset, .unset, .unset, .unset] [(.long (-9223372036854775808 : Int64)), (.long y0)]))
      refine own_go (fun t k => XS.ladd X0.here hx rfl (hb hby at_15) rfl k) ?_
      show own_Goes p e below _ (s₁.setTop (mkF m 16 #[.val (.long y0), .second, .val (.long y1), .second, .val (.int x2), .val (.int (x2 &&& (3 : Int32))), .unset, .unset, .unset, .unset] [(.long (y0 + (-9223372036854775808 : Int64)))]))
      refine own_go (fun t k => XS.lstore X0.here hx rfl (hb hby at_16) rfl (l' := #[.val (.long y0), .second, .val (.long y1), .second, .val (.int x2), .val (.int (x2 &&& (3 : Int32))), .val (.long (own_v0_1 y0)), .second, .unset, .unset]) rfl k) ?_
      show own_Goes p e below _ (s₁.setTop (mkF m 18 #[.val (.long y0), .second, .val (.long y1), .second, .val (.int x2), .val (.int (x2 &&& (3 : Int32))), .val (.long (own_v0_1 y0)), .second, .unset, .unset] []))
      refine own_go (fun t k => XS.goto X0.here hx rfl (pc0 := 18) (pc' := 42) rfl (hb hby at_18) (by decide) (by decide) k) ?_
      rw [show (own_j0_1 y0 y1 x2) = (own_v0_1 y0) from by rw [own_j0_1, if_pos hc3]] at HH5
      exact HH5
    · refine own_go (fun t k => XS.ifYes X0.here hx rfl (pc0 := 8) (pc' := 21) rfl (hb hby at_8) rfl ((if0 _ _).trans (feq hc3).2) (by decide) (by decide) k) ?_
      show own_Goes p e below _ (s₁.setTop (mkF m 21 #[.val (.long y0), .second, .val (.long y1), .second, .val (.int x2), .val (.int (x2 &&& (3 : Int32))), .unset, .unset, .unset, .unset] []))
      refine own_go (fun t k => XS.iload X0.here hx rfl (hb hby at_21) rfl k) ?_
      show own_Goes p e below _ (s₁.setTop (mkF m 23 #[.val (.long y0), .second, .val (.long y1), .second, .val (.int x2), .val (.int (x2 &&& (3 : Int32))), .unset, .unset, .unset, .unset] [(.int (x2 &&& (3 : Int32)))]))
      refine own_go (fun t k => XS.iconst X0.here hx rfl (hb hby at_23) k) ?_
      show own_Goes p e below _ (s₁.setTop (mkF m 24 #[.val (.long y0), .second, .val (.long y1), .second, .val (.int x2), .val (.int (x2 &&& (3 : Int32))), .unset, .unset, .unset, .unset] [(.int (1 : Int32)), (.int (x2 &&& (3 : Int32)))]))
      by_cases hc4 : (x2 &&& (3 : Int32)) = (1 : Int32)
      · refine own_go (fun t k => XS.icmpNo X0.here hx rfl (hb hby at_24) rfl (teq hc4).2 k) ?_
        show own_Goes p e below _ (s₁.setTop (mkF m 27 #[.val (.long y0), .second, .val (.long y1), .second, .val (.int x2), .val (.int (x2 &&& (3 : Int32))), .unset, .unset, .unset, .unset] []))
        refine own_go (fun t k => XS.lloadN X0.here hx rfl (hb hby at_27) rfl k) ?_
        show own_Goes p e below _ (s₁.setTop (mkF m 28 #[.val (.long y0), .second, .val (.long y1), .second, .val (.int x2), .val (.int (x2 &&& (3 : Int32))), .unset, .unset, .unset, .unset] [(.long y0)]))
        refine own_go (fun t k => XS.iload X0.here hx rfl (hb hby at_28) rfl k) ?_
        show own_Goes p e below _ (s₁.setTop (mkF m 30 #[.val (.long y0), .second, .val (.long y1), .second, .val (.int x2), .val (.int (x2 &&& (3 : Int32))), .unset, .unset, .unset, .unset] [(.int x2), (.long y0)]))
        refine own_go (fun t k => XS.iconst X0.here hx rfl (hb hby at_30) k) ?_
        show own_Goes p e below _ (s₁.setTop (mkF m 31 #[.val (.long y0), .second, .val (.long y1), .second, .val (.int x2), .val (.int (x2 &&& (3 : Int32))), .unset, .unset, .unset, .unset] [(.int (2 : Int32)), (.int x2), (.long y0)]))
        refine own_go (fun t k => XS.ishr X0.here hx rfl (hb hby at_31) rfl k) ?_
        show own_Goes p e below _ (s₁.setTop (mkF m 32 #[.val (.long y0), .second, .val (.long y1), .second, .val (.int x2), .val (.int (x2 &&& (3 : Int32))), .unset, .unset, .unset, .unset] [(.int (x2 >>> ((2 : Int32) &&& 31))), (.long y0)]))
        refine own_go (fun t k => XS.i2l X0.here hx rfl (hb hby at_32) rfl k) ?_
        show own_Goes p e below _ (s₁.setTop (mkF m 33 #[.val (.long y0), .second, .val (.long y1), .second, .val (.int x2), .val (.int (x2 &&& (3 : Int32))), .unset, .unset, .unset, .unset] [(.long ((x2 >>> ((2 : Int32) &&& 31)).toInt64)), (.long y0)]))
        refine own_go (fun t k => XS.ladd X0.here hx rfl (hb hby at_33) rfl k) ?_
        show own_Goes p e below _ (s₁.setTop (mkF m 34 #[.val (.long y0), .second, .val (.long y1), .second, .val (.int x2), .val (.int (x2 &&& (3 : Int32))), .unset, .unset, .unset, .unset] [(.long (y0 + ((x2 >>> ((2 : Int32) &&& 31)).toInt64)))]))
        refine own_go (fun t k => XS.lstore X0.here hx rfl (hb hby at_34) rfl (l' := #[.val (.long y0), .second, .val (.long y1), .second, .val (.int x2), .val (.int (x2 &&& (3 : Int32))), .val (.long (own_v0_2 y0 x2)), .second, .unset, .unset]) rfl k) ?_
        show own_Goes p e below _ (s₁.setTop (mkF m 36 #[.val (.long y0), .second, .val (.long y1), .second, .val (.int x2), .val (.int (x2 &&& (3 : Int32))), .val (.long (own_v0_2 y0 x2)), .second, .unset, .unset] []))
        refine own_go (fun t k => XS.goto X0.here hx rfl (pc0 := 36) (pc' := 42) rfl (hb hby at_36) (by decide) (by decide) k) ?_
        rw [show (own_j0_1 y0 y1 x2) = (own_v0_2 y0 x2) from by rw [own_j0_1, if_neg hc3, if_pos hc4]] at HH5
        exact HH5
      · refine own_go (fun t k => XS.icmpYes X0.here hx rfl (pc0 := 24) (pc' := 39) rfl (hb hby at_24) rfl (feq hc4).2 (by decide) (by decide) k) ?_
        show own_Goes p e below _ (s₁.setTop (mkF m 39 #[.val (.long y0), .second, .val (.long y1), .second, .val (.int x2), .val (.int (x2 &&& (3 : Int32))), .unset, .unset, .unset, .unset] []))
        refine own_go (fun t k => XS.lloadN X0.here hx rfl (hb hby at_39) rfl k) ?_
        show own_Goes p e below _ (s₁.setTop (mkF m 40 #[.val (.long y0), .second, .val (.long y1), .second, .val (.int x2), .val (.int (x2 &&& (3 : Int32))), .unset, .unset, .unset, .unset] [(.long y1)]))
        refine own_go (fun t k => XS.lstore X0.here hx rfl (hb hby at_40) rfl (l' := #[.val (.long y0), .second, .val (.long y1), .second, .val (.int x2), .val (.int (x2 &&& (3 : Int32))), .val (.long y1), .second, .unset, .unset]) rfl k) ?_
        rw [show (own_j0_1 y0 y1 x2) = y1 from by rw [own_j0_1, if_neg hc3, if_neg hc4]] at HH5
        exact HH5
  show own_Goes p e below _ (s₁.setTop (mkF m 42 #[.val (.long y0), .second, .val (.long y1), .second, .val (.int x2), .val (.int (x2 &&& (3 : Int32))), .val (.long (own_j0_1 y0 y1 x2)), .second, .unset, .unset] []))
  refine own_go (fun t k => XS.lloadN X0.here hx rfl (hb hby at_42) rfl k) ?_
  show own_Goes p e below _ (s₁.setTop (mkF m 43 #[.val (.long y0), .second, .val (.long y1), .second, .val (.int x2), .val (.int (x2 &&& (3 : Int32))), .val (.long (own_j0_1 y0 y1 x2)), .second, .unset, .unset] [(.long y0)]))
  refine own_go (fun t k => XS.lload X0.here hx rfl (hb hby at_43) rfl k) ?_
  show own_Goes p e below _ (s₁.setTop (mkF m 45 #[.val (.long y0), .second, .val (.long y1), .second, .val (.int x2), .val (.int (x2 &&& (3 : Int32))), .val (.long (own_j0_1 y0 y1 x2)), .second, .unset, .unset] [(.long (own_j0_1 y0 y1 x2)), (.long y0)]))
  obtain ⟨_, T6, L6, X6, ⟨rfl, N6q, e6⟩, st6⟩ := own_callS X0 hx hZ hown (hw _ own_t1) (hw _ own_t2) (hw _ own_t3) (hw _ own_t4) (by decide) (as := [(.long y0), (.long (own_j0_1 y0 y1 x2))]) (rm1 l Z a0 hw [] y0 (own_j0_1 y0 y1 x2) h0 n0) e0 own_pd0 rfl (pc := 45) (Ls := #[.val (.long y0), .second, .val (.long y1), .second, .val (.int x2), .val (.int (x2 &&& (3 : Int32))), .val (.long (own_j0_1 y0 y1 x2)), .second, .unset, .unset]) (rest := []) (W := 0) (by rw [hml]; rfl) (Nat.le_of_eq rfl) (by decide) (by decide) (hb hby at_45) (by decide) (by decide)
  have N6 := Fr.app N0 N6q
  refine own_go st6 ?_
  show own_Goes p e below _ (T6.setTop (mkF m 48 #[.val (.long y0), .second, .val (.long y1), .second, .val (.int x2), .val (.int (x2 &&& (3 : Int32))), .val (.long (own_j0_1 y0 y1 x2)), .second, .unset, .unset] [(.long (own_f1 y0 (own_j0_1 y0 y1 x2)))]))
  refine own_go (fun t k => XS.lstore X6.here hx rfl (hb hby at_48) rfl (l' := #[.val (.long y0), .second, .val (.long y1), .second, .val (.int x2), .val (.int (x2 &&& (3 : Int32))), .val (.long (own_j0_1 y0 y1 x2)), .second, .val (.long (own_f1 y0 (own_j0_1 y0 y1 x2))), .second]) rfl k) ?_
  show own_Goes p e below _ (T6.setTop (mkF m 50 #[.val (.long y0), .second, .val (.long y1), .second, .val (.int x2), .val (.int (x2 &&& (3 : Int32))), .val (.long (own_j0_1 y0 y1 x2)), .second, .val (.long (own_f1 y0 (own_j0_1 y0 y1 x2))), .second] []))
  refine own_go (fun t k => XS.lload X6.here hx rfl (hb hby at_50) rfl k) ?_
  show own_Goes p e below _ (T6.setTop (mkF m 52 #[.val (.long y0), .second, .val (.long y1), .second, .val (.int x2), .val (.int (x2 &&& (3 : Int32))), .val (.long (own_j0_1 y0 y1 x2)), .second, .val (.long (own_f1 y0 (own_j0_1 y0 y1 x2))), .second] [(.long (own_f1 y0 (own_j0_1 y0 y1 x2)))]))
  refine own_go (fun t k => XS.lloadN X6.here hx rfl (hb hby at_52) rfl k) ?_
  show own_Goes p e below _ (T6.setTop (mkF m 53 #[.val (.long y0), .second, .val (.long y1), .second, .val (.int x2), .val (.int (x2 &&& (3 : Int32))), .val (.long (own_j0_1 y0 y1 x2)), .second, .val (.long (own_f1 y0 (own_j0_1 y0 y1 x2))), .second] [(.long y0), (.long (own_f1 y0 (own_j0_1 y0 y1 x2)))]))
  refine own_go (fun t k => XS.lcmp X6.here hx rfl (hb hby at_53) rfl k) ?_
  show own_Goes p e below _ (T6.setTop (mkF m 54 #[.val (.long y0), .second, .val (.long y1), .second, .val (.int x2), .val (.int (x2 &&& (3 : Int32))), .val (.long (own_j0_1 y0 y1 x2)), .second, .val (.long (own_f1 y0 (own_j0_1 y0 y1 x2))), .second] [(.int (lcmpW (own_f1 y0 (own_j0_1 y0 y1 x2)) y0))]))
  by_cases hc7 : (own_f1 y0 (own_j0_1 y0 y1 x2)) = y0
  · refine own_go (fun t k => XS.ifYes X6.here hx rfl (pc0 := 54) (pc' := 67) rfl (hb hby at_54) rfl ((if0 _ _).trans (teq ((lw_eq _ _).mpr hc7)).1) (by decide) (by decide) k) ?_
    show own_Goes p e below _ (T6.setTop (mkF m 67 #[.val (.long y0), .second, .val (.long y1), .second, .val (.int x2), .val (.int (x2 &&& (3 : Int32))), .val (.long (own_j0_1 y0 y1 x2)), .second, .val (.long (own_f1 y0 (own_j0_1 y0 y1 x2))), .second] []))
    refine own_go (fun t k => XS.lload X6.here hx rfl (hb hby at_67) rfl k) ?_
    show own_Goes p e below _ (T6.setTop (mkF m 69 #[.val (.long y0), .second, .val (.long y1), .second, .val (.int x2), .val (.int (x2 &&& (3 : Int32))), .val (.long (own_j0_1 y0 y1 x2)), .second, .val (.long (own_f1 y0 (own_j0_1 y0 y1 x2))), .second] [(.long (own_f1 y0 (own_j0_1 y0 y1 x2)))]))
    refine own_go (fun t k => XS.lloadN X6.here hx rfl (hb hby at_69) rfl k) ?_
    show own_Goes p e below _ (T6.setTop (mkF m 70 #[.val (.long y0), .second, .val (.long y1), .second, .val (.int x2), .val (.int (x2 &&& (3 : Int32))), .val (.long (own_j0_1 y0 y1 x2)), .second, .val (.long (own_f1 y0 (own_j0_1 y0 y1 x2))), .second] [(.long y0), (.long (own_f1 y0 (own_j0_1 y0 y1 x2)))]))
    refine own_go (fun t k => XS.lsub X6.here hx rfl (hb hby at_70) rfl k) ?_
    show own_Goes p e below _ (T6.setTop (mkF m 71 #[.val (.long y0), .second, .val (.long y1), .second, .val (.int x2), .val (.int (x2 &&& (3 : Int32))), .val (.long (own_j0_1 y0 y1 x2)), .second, .val (.long (own_f1 y0 (own_j0_1 y0 y1 x2))), .second] [(.long ((own_f1 y0 (own_j0_1 y0 y1 x2)) - y0))]))
    refine own_go (fun t k => XS.lconst X6.here hx rfl (hb hby at_71) k) ?_
    show own_Goes p e below _ (T6.setTop (mkF m 72 #[.val (.long y0), .second, .val (.long y1), .second, .val (.int x2), .val (.int (x2 &&& (3 : Int32))), .val (.long (own_j0_1 y0 y1 x2)), .second, .val (.long (own_f1 y0 (own_j0_1 y0 y1 x2))), .second] [(.long (0 : Int64)), (.long ((own_f1 y0 (own_j0_1 y0 y1 x2)) - y0))]))
    refine own_go (fun t k => XS.lcmp X6.here hx rfl (hb hby at_72) rfl k) ?_
    show own_Goes p e below _ (T6.setTop (mkF m 73 #[.val (.long y0), .second, .val (.long y1), .second, .val (.int x2), .val (.int (x2 &&& (3 : Int32))), .val (.long (own_j0_1 y0 y1 x2)), .second, .val (.long (own_f1 y0 (own_j0_1 y0 y1 x2))), .second] [(.int (lcmpW ((own_f1 y0 (own_j0_1 y0 y1 x2)) - y0) (0 : Int64)))]))
    by_cases hc8 : (0 : Int64) < ((own_f1 y0 (own_j0_1 y0 y1 x2)) - y0)
    · refine own_go (fun t k => XS.ifNo X6.here hx rfl (hb hby at_73) rfl ((if0 _ _).trans (tlt ((lw_gt _ _).mpr hc8)).2.2.2) k) ?_
      show own_Goes p e below _ (T6.setTop (mkF m 76 #[.val (.long y0), .second, .val (.long y1), .second, .val (.int x2), .val (.int (x2 &&& (3 : Int32))), .val (.long (own_j0_1 y0 y1 x2)), .second, .val (.long (own_f1 y0 (own_j0_1 y0 y1 x2))), .second] []))
      refine own_go (fun t k => XS.iconst X6.here hx rfl (hb hby at_76) k) ?_
      show own_Goes p e below _ (T6.setTop (mkF m 77 #[.val (.long y0), .second, .val (.long y1), .second, .val (.int x2), .val (.int (x2 &&& (3 : Int32))), .val (.long (own_j0_1 y0 y1 x2)), .second, .val (.long (own_f1 y0 (own_j0_1 y0 y1 x2))), .second] [(.int (0 : Int32))]))
      exact own_retN X6 hx hlk hret (by simp) (z' := (0 : Int32)) rfl (hb hby at_77) (by decide) (by decide) ⟨by rw [own_f0, if_pos hc7, if_pos hc8], N6, trivial⟩
    · refine own_go (fun t k => XS.ifYes X6.here hx rfl (pc0 := 73) (pc' := 78) rfl (hb hby at_73) rfl ((if0 _ _).trans (flt (fun q => hc8 ((lw_gt _ _).mp q))).2.2.2) (by decide) (by decide) k) ?_
      show own_Goes p e below _ (T6.setTop (mkF m 78 #[.val (.long y0), .second, .val (.long y1), .second, .val (.int x2), .val (.int (x2 &&& (3 : Int32))), .val (.long (own_j0_1 y0 y1 x2)), .second, .val (.long (own_f1 y0 (own_j0_1 y0 y1 x2))), .second] []))
      refine own_go (fun t k => XS.lload X6.here hx rfl (hb hby at_78) rfl k) ?_
      show own_Goes p e below _ (T6.setTop (mkF m 80 #[.val (.long y0), .second, .val (.long y1), .second, .val (.int x2), .val (.int (x2 &&& (3 : Int32))), .val (.long (own_j0_1 y0 y1 x2)), .second, .val (.long (own_f1 y0 (own_j0_1 y0 y1 x2))), .second] [(.long (own_f1 y0 (own_j0_1 y0 y1 x2)))]))
      refine own_go (fun t k => XS.lload X6.here hx rfl (hb hby at_80) rfl k) ?_
      show own_Goes p e below _ (T6.setTop (mkF m 82 #[.val (.long y0), .second, .val (.long y1), .second, .val (.int x2), .val (.int (x2 &&& (3 : Int32))), .val (.long (own_j0_1 y0 y1 x2)), .second, .val (.long (own_f1 y0 (own_j0_1 y0 y1 x2))), .second] [(.long (own_j0_1 y0 y1 x2)), (.long (own_f1 y0 (own_j0_1 y0 y1 x2)))]))
      refine own_go (fun t k => XS.lsub X6.here hx rfl (hb hby at_82) rfl k) ?_
      show own_Goes p e below _ (T6.setTop (mkF m 83 #[.val (.long y0), .second, .val (.long y1), .second, .val (.int x2), .val (.int (x2 &&& (3 : Int32))), .val (.long (own_j0_1 y0 y1 x2)), .second, .val (.long (own_f1 y0 (own_j0_1 y0 y1 x2))), .second] [(.long ((own_f1 y0 (own_j0_1 y0 y1 x2)) - (own_j0_1 y0 y1 x2)))]))
      refine own_go (fun t k => XS.lconst X6.here hx rfl (hb hby at_83) k) ?_
      show own_Goes p e below _ (T6.setTop (mkF m 84 #[.val (.long y0), .second, .val (.long y1), .second, .val (.int x2), .val (.int (x2 &&& (3 : Int32))), .val (.long (own_j0_1 y0 y1 x2)), .second, .val (.long (own_f1 y0 (own_j0_1 y0 y1 x2))), .second] [(.long (0 : Int64)), (.long ((own_f1 y0 (own_j0_1 y0 y1 x2)) - (own_j0_1 y0 y1 x2)))]))
      refine own_go (fun t k => XS.lcmp X6.here hx rfl (hb hby at_84) rfl k) ?_
      show own_Goes p e below _ (T6.setTop (mkF m 85 #[.val (.long y0), .second, .val (.long y1), .second, .val (.int x2), .val (.int (x2 &&& (3 : Int32))), .val (.long (own_j0_1 y0 y1 x2)), .second, .val (.long (own_f1 y0 (own_j0_1 y0 y1 x2))), .second] [(.int (lcmpW ((own_f1 y0 (own_j0_1 y0 y1 x2)) - (own_j0_1 y0 y1 x2)) (0 : Int64)))]))
      by_cases hc9 : (0 : Int64) < ((own_f1 y0 (own_j0_1 y0 y1 x2)) - (own_j0_1 y0 y1 x2))
      · refine own_go (fun t k => XS.ifNo X6.here hx rfl (hb hby at_85) rfl ((if0 _ _).trans (tlt ((lw_gt _ _).mpr hc9)).2.2.2) k) ?_
        show own_Goes p e below _ (T6.setTop (mkF m 88 #[.val (.long y0), .second, .val (.long y1), .second, .val (.int x2), .val (.int (x2 &&& (3 : Int32))), .val (.long (own_j0_1 y0 y1 x2)), .second, .val (.long (own_f1 y0 (own_j0_1 y0 y1 x2))), .second] []))
        refine own_go (fun t k => XS.iconst X6.here hx rfl (hb hby at_88) k) ?_
        show own_Goes p e below _ (T6.setTop (mkF m 89 #[.val (.long y0), .second, .val (.long y1), .second, .val (.int x2), .val (.int (x2 &&& (3 : Int32))), .val (.long (own_j0_1 y0 y1 x2)), .second, .val (.long (own_f1 y0 (own_j0_1 y0 y1 x2))), .second] [(.int (0 : Int32))]))
        exact own_retN X6 hx hlk hret (by simp) (z' := (0 : Int32)) rfl (hb hby at_89) (by decide) (by decide) ⟨by rw [own_f0, if_pos hc7, if_neg hc8, if_pos hc9], N6, trivial⟩
      · refine own_go (fun t k => XS.ifYes X6.here hx rfl (pc0 := 85) (pc' := 90) rfl (hb hby at_85) rfl ((if0 _ _).trans (flt (fun q => hc9 ((lw_gt _ _).mp q))).2.2.2) (by decide) (by decide) k) ?_
        show own_Goes p e below _ (T6.setTop (mkF m 90 #[.val (.long y0), .second, .val (.long y1), .second, .val (.int x2), .val (.int (x2 &&& (3 : Int32))), .val (.long (own_j0_1 y0 y1 x2)), .second, .val (.long (own_f1 y0 (own_j0_1 y0 y1 x2))), .second] []))
        refine own_go (fun t k => XS.lloadN X6.here hx rfl (hb hby at_90) rfl k) ?_
        show own_Goes p e below _ (T6.setTop (mkF m 91 #[.val (.long y0), .second, .val (.long y1), .second, .val (.int x2), .val (.int (x2 &&& (3 : Int32))), .val (.long (own_j0_1 y0 y1 x2)), .second, .val (.long (own_f1 y0 (own_j0_1 y0 y1 x2))), .second] [(.long y0)]))
        refine own_go (fun t k => XS.lload X6.here hx rfl (hb hby at_91) rfl k) ?_
        show own_Goes p e below _ (T6.setTop (mkF m 93 #[.val (.long y0), .second, .val (.long y1), .second, .val (.int x2), .val (.int (x2 &&& (3 : Int32))), .val (.long (own_j0_1 y0 y1 x2)), .second, .val (.long (own_f1 y0 (own_j0_1 y0 y1 x2))), .second] [(.long (own_j0_1 y0 y1 x2)), (.long y0)]))
        refine own_go (fun t k => XS.lsub X6.here hx rfl (hb hby at_93) rfl k) ?_
        show own_Goes p e below _ (T6.setTop (mkF m 94 #[.val (.long y0), .second, .val (.long y1), .second, .val (.int x2), .val (.int (x2 &&& (3 : Int32))), .val (.long (own_j0_1 y0 y1 x2)), .second, .val (.long (own_f1 y0 (own_j0_1 y0 y1 x2))), .second] [(.long (y0 - (own_j0_1 y0 y1 x2)))]))
        refine own_go (fun t k => X6.ldc2Long hx hown (mvT hZ (hw _ own_t0)) (g := (mkF m 94 #[.val (.long y0), .second, .val (.long y1), .second, .val (.int x2), .val (.int (x2 &&& (3 : Int32))), .val (.long (own_j0_1 y0 y1 x2)), .second, .val (.long (own_f1 y0 (own_j0_1 y0 y1 x2))), .second] [(.long (y0 - (own_j0_1 y0 y1 x2)))])) rfl (hb hby at_94) t k) ?_
        show own_Goes p e below _ (T6.setTop (mkF m 97 #[.val (.long y0), .second, .val (.long y1), .second, .val (.int x2), .val (.int (x2 &&& (3 : Int32))), .val (.long (own_j0_1 y0 y1 x2)), .second, .val (.long (own_f1 y0 (own_j0_1 y0 y1 x2))), .second] [(.long (-9223372036854775808 : Int64)), (.long (y0 - (own_j0_1 y0 y1 x2)))]))
        refine own_go (fun t k => XS.lcmp X6.here hx rfl (hb hby at_97) rfl k) ?_
        show own_Goes p e below _ (T6.setTop (mkF m 98 #[.val (.long y0), .second, .val (.long y1), .second, .val (.int x2), .val (.int (x2 &&& (3 : Int32))), .val (.long (own_j0_1 y0 y1 x2)), .second, .val (.long (own_f1 y0 (own_j0_1 y0 y1 x2))), .second] [(.int (lcmpW (y0 - (own_j0_1 y0 y1 x2)) (-9223372036854775808 : Int64)))]))
        by_cases hc10 : (y0 - (own_j0_1 y0 y1 x2)) = (-9223372036854775808 : Int64)
        · refine own_go (fun t k => XS.ifNo X6.here hx rfl (hb hby at_98) rfl ((if0 _ _).trans (teq ((lw_eq _ _).mpr hc10)).2) k) ?_
          show own_Goes p e below _ (T6.setTop (mkF m 101 #[.val (.long y0), .second, .val (.long y1), .second, .val (.int x2), .val (.int (x2 &&& (3 : Int32))), .val (.long (own_j0_1 y0 y1 x2)), .second, .val (.long (own_f1 y0 (own_j0_1 y0 y1 x2))), .second] []))
          refine own_go (fun t k => XS.lload X6.here hx rfl (hb hby at_101) rfl k) ?_
          show own_Goes p e below _ (T6.setTop (mkF m 103 #[.val (.long y0), .second, .val (.long y1), .second, .val (.int x2), .val (.int (x2 &&& (3 : Int32))), .val (.long (own_j0_1 y0 y1 x2)), .second, .val (.long (own_f1 y0 (own_j0_1 y0 y1 x2))), .second] [(.long (own_f1 y0 (own_j0_1 y0 y1 x2)))]))
          refine own_go (fun t k => XS.lloadN X6.here hx rfl (hb hby at_103) rfl k) ?_
          show own_Goes p e below _ (T6.setTop (mkF m 104 #[.val (.long y0), .second, .val (.long y1), .second, .val (.int x2), .val (.int (x2 &&& (3 : Int32))), .val (.long (own_j0_1 y0 y1 x2)), .second, .val (.long (own_f1 y0 (own_j0_1 y0 y1 x2))), .second] [(.long y0), (.long (own_f1 y0 (own_j0_1 y0 y1 x2)))]))
          refine own_go (fun t k => XS.lcmp X6.here hx rfl (hb hby at_104) rfl k) ?_
          show own_Goes p e below _ (T6.setTop (mkF m 105 #[.val (.long y0), .second, .val (.long y1), .second, .val (.int x2), .val (.int (x2 &&& (3 : Int32))), .val (.long (own_j0_1 y0 y1 x2)), .second, .val (.long (own_f1 y0 (own_j0_1 y0 y1 x2))), .second] [(.int (lcmpW (own_f1 y0 (own_j0_1 y0 y1 x2)) y0))]))
          by_cases hc11 : (own_f1 y0 (own_j0_1 y0 y1 x2)) = y0
          · refine own_go (fun t k => XS.ifYes X6.here hx rfl (pc0 := 105) (pc' := 110) rfl (hb hby at_105) rfl ((if0 _ _).trans (teq ((lw_eq _ _).mpr hc11)).1) (by decide) (by decide) k) ?_
            show own_Goes p e below _ (T6.setTop (mkF m 110 #[.val (.long y0), .second, .val (.long y1), .second, .val (.int x2), .val (.int (x2 &&& (3 : Int32))), .val (.long (own_j0_1 y0 y1 x2)), .second, .val (.long (own_f1 y0 (own_j0_1 y0 y1 x2))), .second] []))
            refine own_go (fun t k => XS.iconst X6.here hx rfl (hb hby at_110) k) ?_
            show own_Goes p e below _ (T6.setTop (mkF m 111 #[.val (.long y0), .second, .val (.long y1), .second, .val (.int x2), .val (.int (x2 &&& (3 : Int32))), .val (.long (own_j0_1 y0 y1 x2)), .second, .val (.long (own_f1 y0 (own_j0_1 y0 y1 x2))), .second] [(.int (1 : Int32))]))
            exact own_retN X6 hx hlk hret (by simp) (z' := (1 : Int32)) rfl (hb hby at_111) (by decide) (by decide) ⟨by rw [own_f0, if_pos hc7, if_neg hc8, if_neg hc9, if_pos hc10, if_pos hc11], N6, trivial⟩
          · refine own_go (fun t k => XS.ifNo X6.here hx rfl (hb hby at_105) rfl ((if0 _ _).trans (feq (fun q => hc11 ((lw_eq _ _).mp q))).1) k) ?_
            show own_Goes p e below _ (T6.setTop (mkF m 108 #[.val (.long y0), .second, .val (.long y1), .second, .val (.int x2), .val (.int (x2 &&& (3 : Int32))), .val (.long (own_j0_1 y0 y1 x2)), .second, .val (.long (own_f1 y0 (own_j0_1 y0 y1 x2))), .second] []))
            refine own_go (fun t k => XS.iconst X6.here hx rfl (hb hby at_108) k) ?_
            show own_Goes p e below _ (T6.setTop (mkF m 109 #[.val (.long y0), .second, .val (.long y1), .second, .val (.int x2), .val (.int (x2 &&& (3 : Int32))), .val (.long (own_j0_1 y0 y1 x2)), .second, .val (.long (own_f1 y0 (own_j0_1 y0 y1 x2))), .second] [(.int (0 : Int32))]))
            exact own_retN X6 hx hlk hret (by simp) (z' := (0 : Int32)) rfl (hb hby at_109) (by decide) (by decide) ⟨by rw [own_f0, if_pos hc7, if_neg hc8, if_neg hc9, if_pos hc10, if_neg hc11], N6, trivial⟩
        · refine own_go (fun t k => XS.ifYes X6.here hx rfl (pc0 := 98) (pc' := 110) rfl (hb hby at_98) rfl ((if0 _ _).trans (feq (fun q => hc10 ((lw_eq _ _).mp q))).2) (by decide) (by decide) k) ?_
          show own_Goes p e below _ (T6.setTop (mkF m 110 #[.val (.long y0), .second, .val (.long y1), .second, .val (.int x2), .val (.int (x2 &&& (3 : Int32))), .val (.long (own_j0_1 y0 y1 x2)), .second, .val (.long (own_f1 y0 (own_j0_1 y0 y1 x2))), .second] []))
          refine own_go (fun t k => XS.iconst X6.here hx rfl (hb hby at_110) k) ?_
          show own_Goes p e below _ (T6.setTop (mkF m 111 #[.val (.long y0), .second, .val (.long y1), .second, .val (.int x2), .val (.int (x2 &&& (3 : Int32))), .val (.long (own_j0_1 y0 y1 x2)), .second, .val (.long (own_f1 y0 (own_j0_1 y0 y1 x2))), .second] [(.int (1 : Int32))]))
          exact own_retN X6 hx hlk hret (by simp) (z' := (1 : Int32)) rfl (hb hby at_111) (by decide) (by decide) ⟨by rw [own_f0, if_pos hc7, if_neg hc8, if_neg hc9, if_neg hc10], N6, trivial⟩
  · refine own_go (fun t k => XS.ifNo X6.here hx rfl (hb hby at_54) rfl ((if0 _ _).trans (feq (fun q => hc7 ((lw_eq _ _).mp q))).1) k) ?_
    show own_Goes p e below _ (T6.setTop (mkF m 57 #[.val (.long y0), .second, .val (.long y1), .second, .val (.int x2), .val (.int (x2 &&& (3 : Int32))), .val (.long (own_j0_1 y0 y1 x2)), .second, .val (.long (own_f1 y0 (own_j0_1 y0 y1 x2))), .second] []))
    refine own_go (fun t k => XS.lload X6.here hx rfl (hb hby at_57) rfl k) ?_
    show own_Goes p e below _ (T6.setTop (mkF m 59 #[.val (.long y0), .second, .val (.long y1), .second, .val (.int x2), .val (.int (x2 &&& (3 : Int32))), .val (.long (own_j0_1 y0 y1 x2)), .second, .val (.long (own_f1 y0 (own_j0_1 y0 y1 x2))), .second] [(.long (own_f1 y0 (own_j0_1 y0 y1 x2)))]))
    refine own_go (fun t k => XS.lload X6.here hx rfl (hb hby at_59) rfl k) ?_
    show own_Goes p e below _ (T6.setTop (mkF m 61 #[.val (.long y0), .second, .val (.long y1), .second, .val (.int x2), .val (.int (x2 &&& (3 : Int32))), .val (.long (own_j0_1 y0 y1 x2)), .second, .val (.long (own_f1 y0 (own_j0_1 y0 y1 x2))), .second] [(.long (own_j0_1 y0 y1 x2)), (.long (own_f1 y0 (own_j0_1 y0 y1 x2)))]))
    refine own_go (fun t k => XS.lcmp X6.here hx rfl (hb hby at_61) rfl k) ?_
    show own_Goes p e below _ (T6.setTop (mkF m 62 #[.val (.long y0), .second, .val (.long y1), .second, .val (.int x2), .val (.int (x2 &&& (3 : Int32))), .val (.long (own_j0_1 y0 y1 x2)), .second, .val (.long (own_f1 y0 (own_j0_1 y0 y1 x2))), .second] [(.int (lcmpW (own_f1 y0 (own_j0_1 y0 y1 x2)) (own_j0_1 y0 y1 x2)))]))
    by_cases hc12 : (own_f1 y0 (own_j0_1 y0 y1 x2)) = (own_j0_1 y0 y1 x2)
    · refine own_go (fun t k => XS.ifYes X6.here hx rfl (pc0 := 62) (pc' := 67) rfl (hb hby at_62) rfl ((if0 _ _).trans (teq ((lw_eq _ _).mpr hc12)).1) (by decide) (by decide) k) ?_
      show own_Goes p e below _ (T6.setTop (mkF m 67 #[.val (.long y0), .second, .val (.long y1), .second, .val (.int x2), .val (.int (x2 &&& (3 : Int32))), .val (.long (own_j0_1 y0 y1 x2)), .second, .val (.long (own_f1 y0 (own_j0_1 y0 y1 x2))), .second] []))
      refine own_go (fun t k => XS.lload X6.here hx rfl (hb hby at_67) rfl k) ?_
      show own_Goes p e below _ (T6.setTop (mkF m 69 #[.val (.long y0), .second, .val (.long y1), .second, .val (.int x2), .val (.int (x2 &&& (3 : Int32))), .val (.long (own_j0_1 y0 y1 x2)), .second, .val (.long (own_f1 y0 (own_j0_1 y0 y1 x2))), .second] [(.long (own_f1 y0 (own_j0_1 y0 y1 x2)))]))
      refine own_go (fun t k => XS.lloadN X6.here hx rfl (hb hby at_69) rfl k) ?_
      show own_Goes p e below _ (T6.setTop (mkF m 70 #[.val (.long y0), .second, .val (.long y1), .second, .val (.int x2), .val (.int (x2 &&& (3 : Int32))), .val (.long (own_j0_1 y0 y1 x2)), .second, .val (.long (own_f1 y0 (own_j0_1 y0 y1 x2))), .second] [(.long y0), (.long (own_f1 y0 (own_j0_1 y0 y1 x2)))]))
      refine own_go (fun t k => XS.lsub X6.here hx rfl (hb hby at_70) rfl k) ?_
      show own_Goes p e below _ (T6.setTop (mkF m 71 #[.val (.long y0), .second, .val (.long y1), .second, .val (.int x2), .val (.int (x2 &&& (3 : Int32))), .val (.long (own_j0_1 y0 y1 x2)), .second, .val (.long (own_f1 y0 (own_j0_1 y0 y1 x2))), .second] [(.long ((own_f1 y0 (own_j0_1 y0 y1 x2)) - y0))]))
      refine own_go (fun t k => XS.lconst X6.here hx rfl (hb hby at_71) k) ?_
      show own_Goes p e below _ (T6.setTop (mkF m 72 #[.val (.long y0), .second, .val (.long y1), .second, .val (.int x2), .val (.int (x2 &&& (3 : Int32))), .val (.long (own_j0_1 y0 y1 x2)), .second, .val (.long (own_f1 y0 (own_j0_1 y0 y1 x2))), .second] [(.long (0 : Int64)), (.long ((own_f1 y0 (own_j0_1 y0 y1 x2)) - y0))]))
      refine own_go (fun t k => XS.lcmp X6.here hx rfl (hb hby at_72) rfl k) ?_
      show own_Goes p e below _ (T6.setTop (mkF m 73 #[.val (.long y0), .second, .val (.long y1), .second, .val (.int x2), .val (.int (x2 &&& (3 : Int32))), .val (.long (own_j0_1 y0 y1 x2)), .second, .val (.long (own_f1 y0 (own_j0_1 y0 y1 x2))), .second] [(.int (lcmpW ((own_f1 y0 (own_j0_1 y0 y1 x2)) - y0) (0 : Int64)))]))
      by_cases hc13 : (0 : Int64) < ((own_f1 y0 (own_j0_1 y0 y1 x2)) - y0)
      · refine own_go (fun t k => XS.ifNo X6.here hx rfl (hb hby at_73) rfl ((if0 _ _).trans (tlt ((lw_gt _ _).mpr hc13)).2.2.2) k) ?_
        show own_Goes p e below _ (T6.setTop (mkF m 76 #[.val (.long y0), .second, .val (.long y1), .second, .val (.int x2), .val (.int (x2 &&& (3 : Int32))), .val (.long (own_j0_1 y0 y1 x2)), .second, .val (.long (own_f1 y0 (own_j0_1 y0 y1 x2))), .second] []))
        refine own_go (fun t k => XS.iconst X6.here hx rfl (hb hby at_76) k) ?_
        show own_Goes p e below _ (T6.setTop (mkF m 77 #[.val (.long y0), .second, .val (.long y1), .second, .val (.int x2), .val (.int (x2 &&& (3 : Int32))), .val (.long (own_j0_1 y0 y1 x2)), .second, .val (.long (own_f1 y0 (own_j0_1 y0 y1 x2))), .second] [(.int (0 : Int32))]))
        exact own_retN X6 hx hlk hret (by simp) (z' := (0 : Int32)) rfl (hb hby at_77) (by decide) (by decide) ⟨by rw [own_f0, if_neg hc7, if_pos hc12, if_pos hc13], N6, trivial⟩
      · refine own_go (fun t k => XS.ifYes X6.here hx rfl (pc0 := 73) (pc' := 78) rfl (hb hby at_73) rfl ((if0 _ _).trans (flt (fun q => hc13 ((lw_gt _ _).mp q))).2.2.2) (by decide) (by decide) k) ?_
        show own_Goes p e below _ (T6.setTop (mkF m 78 #[.val (.long y0), .second, .val (.long y1), .second, .val (.int x2), .val (.int (x2 &&& (3 : Int32))), .val (.long (own_j0_1 y0 y1 x2)), .second, .val (.long (own_f1 y0 (own_j0_1 y0 y1 x2))), .second] []))
        refine own_go (fun t k => XS.lload X6.here hx rfl (hb hby at_78) rfl k) ?_
        show own_Goes p e below _ (T6.setTop (mkF m 80 #[.val (.long y0), .second, .val (.long y1), .second, .val (.int x2), .val (.int (x2 &&& (3 : Int32))), .val (.long (own_j0_1 y0 y1 x2)), .second, .val (.long (own_f1 y0 (own_j0_1 y0 y1 x2))), .second] [(.long (own_f1 y0 (own_j0_1 y0 y1 x2)))]))
        refine own_go (fun t k => XS.lload X6.here hx rfl (hb hby at_80) rfl k) ?_
        show own_Goes p e below _ (T6.setTop (mkF m 82 #[.val (.long y0), .second, .val (.long y1), .second, .val (.int x2), .val (.int (x2 &&& (3 : Int32))), .val (.long (own_j0_1 y0 y1 x2)), .second, .val (.long (own_f1 y0 (own_j0_1 y0 y1 x2))), .second] [(.long (own_j0_1 y0 y1 x2)), (.long (own_f1 y0 (own_j0_1 y0 y1 x2)))]))
        refine own_go (fun t k => XS.lsub X6.here hx rfl (hb hby at_82) rfl k) ?_
        show own_Goes p e below _ (T6.setTop (mkF m 83 #[.val (.long y0), .second, .val (.long y1), .second, .val (.int x2), .val (.int (x2 &&& (3 : Int32))), .val (.long (own_j0_1 y0 y1 x2)), .second, .val (.long (own_f1 y0 (own_j0_1 y0 y1 x2))), .second] [(.long ((own_f1 y0 (own_j0_1 y0 y1 x2)) - (own_j0_1 y0 y1 x2)))]))
        refine own_go (fun t k => XS.lconst X6.here hx rfl (hb hby at_83) k) ?_
        show own_Goes p e below _ (T6.setTop (mkF m 84 #[.val (.long y0), .second, .val (.long y1), .second, .val (.int x2), .val (.int (x2 &&& (3 : Int32))), .val (.long (own_j0_1 y0 y1 x2)), .second, .val (.long (own_f1 y0 (own_j0_1 y0 y1 x2))), .second] [(.long (0 : Int64)), (.long ((own_f1 y0 (own_j0_1 y0 y1 x2)) - (own_j0_1 y0 y1 x2)))]))
        refine own_go (fun t k => XS.lcmp X6.here hx rfl (hb hby at_84) rfl k) ?_
        show own_Goes p e below _ (T6.setTop (mkF m 85 #[.val (.long y0), .second, .val (.long y1), .second, .val (.int x2), .val (.int (x2 &&& (3 : Int32))), .val (.long (own_j0_1 y0 y1 x2)), .second, .val (.long (own_f1 y0 (own_j0_1 y0 y1 x2))), .second] [(.int (lcmpW ((own_f1 y0 (own_j0_1 y0 y1 x2)) - (own_j0_1 y0 y1 x2)) (0 : Int64)))]))
        by_cases hc14 : (0 : Int64) < ((own_f1 y0 (own_j0_1 y0 y1 x2)) - (own_j0_1 y0 y1 x2))
        · refine own_go (fun t k => XS.ifNo X6.here hx rfl (hb hby at_85) rfl ((if0 _ _).trans (tlt ((lw_gt _ _).mpr hc14)).2.2.2) k) ?_
          show own_Goes p e below _ (T6.setTop (mkF m 88 #[.val (.long y0), .second, .val (.long y1), .second, .val (.int x2), .val (.int (x2 &&& (3 : Int32))), .val (.long (own_j0_1 y0 y1 x2)), .second, .val (.long (own_f1 y0 (own_j0_1 y0 y1 x2))), .second] []))
          refine own_go (fun t k => XS.iconst X6.here hx rfl (hb hby at_88) k) ?_
          show own_Goes p e below _ (T6.setTop (mkF m 89 #[.val (.long y0), .second, .val (.long y1), .second, .val (.int x2), .val (.int (x2 &&& (3 : Int32))), .val (.long (own_j0_1 y0 y1 x2)), .second, .val (.long (own_f1 y0 (own_j0_1 y0 y1 x2))), .second] [(.int (0 : Int32))]))
          exact own_retN X6 hx hlk hret (by simp) (z' := (0 : Int32)) rfl (hb hby at_89) (by decide) (by decide) ⟨by rw [own_f0, if_neg hc7, if_pos hc12, if_neg hc13, if_pos hc14], N6, trivial⟩
        · refine own_go (fun t k => XS.ifYes X6.here hx rfl (pc0 := 85) (pc' := 90) rfl (hb hby at_85) rfl ((if0 _ _).trans (flt (fun q => hc14 ((lw_gt _ _).mp q))).2.2.2) (by decide) (by decide) k) ?_
          show own_Goes p e below _ (T6.setTop (mkF m 90 #[.val (.long y0), .second, .val (.long y1), .second, .val (.int x2), .val (.int (x2 &&& (3 : Int32))), .val (.long (own_j0_1 y0 y1 x2)), .second, .val (.long (own_f1 y0 (own_j0_1 y0 y1 x2))), .second] []))
          refine own_go (fun t k => XS.lloadN X6.here hx rfl (hb hby at_90) rfl k) ?_
          show own_Goes p e below _ (T6.setTop (mkF m 91 #[.val (.long y0), .second, .val (.long y1), .second, .val (.int x2), .val (.int (x2 &&& (3 : Int32))), .val (.long (own_j0_1 y0 y1 x2)), .second, .val (.long (own_f1 y0 (own_j0_1 y0 y1 x2))), .second] [(.long y0)]))
          refine own_go (fun t k => XS.lload X6.here hx rfl (hb hby at_91) rfl k) ?_
          show own_Goes p e below _ (T6.setTop (mkF m 93 #[.val (.long y0), .second, .val (.long y1), .second, .val (.int x2), .val (.int (x2 &&& (3 : Int32))), .val (.long (own_j0_1 y0 y1 x2)), .second, .val (.long (own_f1 y0 (own_j0_1 y0 y1 x2))), .second] [(.long (own_j0_1 y0 y1 x2)), (.long y0)]))
          refine own_go (fun t k => XS.lsub X6.here hx rfl (hb hby at_93) rfl k) ?_
          show own_Goes p e below _ (T6.setTop (mkF m 94 #[.val (.long y0), .second, .val (.long y1), .second, .val (.int x2), .val (.int (x2 &&& (3 : Int32))), .val (.long (own_j0_1 y0 y1 x2)), .second, .val (.long (own_f1 y0 (own_j0_1 y0 y1 x2))), .second] [(.long (y0 - (own_j0_1 y0 y1 x2)))]))
          refine own_go (fun t k => X6.ldc2Long hx hown (mvT hZ (hw _ own_t0)) (g := (mkF m 94 #[.val (.long y0), .second, .val (.long y1), .second, .val (.int x2), .val (.int (x2 &&& (3 : Int32))), .val (.long (own_j0_1 y0 y1 x2)), .second, .val (.long (own_f1 y0 (own_j0_1 y0 y1 x2))), .second] [(.long (y0 - (own_j0_1 y0 y1 x2)))])) rfl (hb hby at_94) t k) ?_
          show own_Goes p e below _ (T6.setTop (mkF m 97 #[.val (.long y0), .second, .val (.long y1), .second, .val (.int x2), .val (.int (x2 &&& (3 : Int32))), .val (.long (own_j0_1 y0 y1 x2)), .second, .val (.long (own_f1 y0 (own_j0_1 y0 y1 x2))), .second] [(.long (-9223372036854775808 : Int64)), (.long (y0 - (own_j0_1 y0 y1 x2)))]))
          refine own_go (fun t k => XS.lcmp X6.here hx rfl (hb hby at_97) rfl k) ?_
          show own_Goes p e below _ (T6.setTop (mkF m 98 #[.val (.long y0), .second, .val (.long y1), .second, .val (.int x2), .val (.int (x2 &&& (3 : Int32))), .val (.long (own_j0_1 y0 y1 x2)), .second, .val (.long (own_f1 y0 (own_j0_1 y0 y1 x2))), .second] [(.int (lcmpW (y0 - (own_j0_1 y0 y1 x2)) (-9223372036854775808 : Int64)))]))
          by_cases hc15 : (y0 - (own_j0_1 y0 y1 x2)) = (-9223372036854775808 : Int64)
          · refine own_go (fun t k => XS.ifNo X6.here hx rfl (hb hby at_98) rfl ((if0 _ _).trans (teq ((lw_eq _ _).mpr hc15)).2) k) ?_
            show own_Goes p e below _ (T6.setTop (mkF m 101 #[.val (.long y0), .second, .val (.long y1), .second, .val (.int x2), .val (.int (x2 &&& (3 : Int32))), .val (.long (own_j0_1 y0 y1 x2)), .second, .val (.long (own_f1 y0 (own_j0_1 y0 y1 x2))), .second] []))
            refine own_go (fun t k => XS.lload X6.here hx rfl (hb hby at_101) rfl k) ?_
            show own_Goes p e below _ (T6.setTop (mkF m 103 #[.val (.long y0), .second, .val (.long y1), .second, .val (.int x2), .val (.int (x2 &&& (3 : Int32))), .val (.long (own_j0_1 y0 y1 x2)), .second, .val (.long (own_f1 y0 (own_j0_1 y0 y1 x2))), .second] [(.long (own_f1 y0 (own_j0_1 y0 y1 x2)))]))
            refine own_go (fun t k => XS.lloadN X6.here hx rfl (hb hby at_103) rfl k) ?_
            show own_Goes p e below _ (T6.setTop (mkF m 104 #[.val (.long y0), .second, .val (.long y1), .second, .val (.int x2), .val (.int (x2 &&& (3 : Int32))), .val (.long (own_j0_1 y0 y1 x2)), .second, .val (.long (own_f1 y0 (own_j0_1 y0 y1 x2))), .second] [(.long y0), (.long (own_f1 y0 (own_j0_1 y0 y1 x2)))]))
            refine own_go (fun t k => XS.lcmp X6.here hx rfl (hb hby at_104) rfl k) ?_
            show own_Goes p e below _ (T6.setTop (mkF m 105 #[.val (.long y0), .second, .val (.long y1), .second, .val (.int x2), .val (.int (x2 &&& (3 : Int32))), .val (.long (own_j0_1 y0 y1 x2)), .second, .val (.long (own_f1 y0 (own_j0_1 y0 y1 x2))), .second] [(.int (lcmpW (own_f1 y0 (own_j0_1 y0 y1 x2)) y0))]))
            by_cases hc16 : (own_f1 y0 (own_j0_1 y0 y1 x2)) = y0
            · refine own_go (fun t k => XS.ifYes X6.here hx rfl (pc0 := 105) (pc' := 110) rfl (hb hby at_105) rfl ((if0 _ _).trans (teq ((lw_eq _ _).mpr hc16)).1) (by decide) (by decide) k) ?_
              show own_Goes p e below _ (T6.setTop (mkF m 110 #[.val (.long y0), .second, .val (.long y1), .second, .val (.int x2), .val (.int (x2 &&& (3 : Int32))), .val (.long (own_j0_1 y0 y1 x2)), .second, .val (.long (own_f1 y0 (own_j0_1 y0 y1 x2))), .second] []))
              refine own_go (fun t k => XS.iconst X6.here hx rfl (hb hby at_110) k) ?_
              show own_Goes p e below _ (T6.setTop (mkF m 111 #[.val (.long y0), .second, .val (.long y1), .second, .val (.int x2), .val (.int (x2 &&& (3 : Int32))), .val (.long (own_j0_1 y0 y1 x2)), .second, .val (.long (own_f1 y0 (own_j0_1 y0 y1 x2))), .second] [(.int (1 : Int32))]))
              exact own_retN X6 hx hlk hret (by simp) (z' := (1 : Int32)) rfl (hb hby at_111) (by decide) (by decide) ⟨by rw [own_f0, if_neg hc7, if_pos hc12, if_neg hc13, if_neg hc14, if_pos hc15, if_pos hc16], N6, trivial⟩
            · refine own_go (fun t k => XS.ifNo X6.here hx rfl (hb hby at_105) rfl ((if0 _ _).trans (feq (fun q => hc16 ((lw_eq _ _).mp q))).1) k) ?_
              show own_Goes p e below _ (T6.setTop (mkF m 108 #[.val (.long y0), .second, .val (.long y1), .second, .val (.int x2), .val (.int (x2 &&& (3 : Int32))), .val (.long (own_j0_1 y0 y1 x2)), .second, .val (.long (own_f1 y0 (own_j0_1 y0 y1 x2))), .second] []))
              refine own_go (fun t k => XS.iconst X6.here hx rfl (hb hby at_108) k) ?_
              show own_Goes p e below _ (T6.setTop (mkF m 109 #[.val (.long y0), .second, .val (.long y1), .second, .val (.int x2), .val (.int (x2 &&& (3 : Int32))), .val (.long (own_j0_1 y0 y1 x2)), .second, .val (.long (own_f1 y0 (own_j0_1 y0 y1 x2))), .second] [(.int (0 : Int32))]))
              exact own_retN X6 hx hlk hret (by simp) (z' := (0 : Int32)) rfl (hb hby at_109) (by decide) (by decide) ⟨by rw [own_f0, if_neg hc7, if_pos hc12, if_neg hc13, if_neg hc14, if_pos hc15, if_neg hc16], N6, trivial⟩
          · refine own_go (fun t k => XS.ifYes X6.here hx rfl (pc0 := 98) (pc' := 110) rfl (hb hby at_98) rfl ((if0 _ _).trans (feq (fun q => hc15 ((lw_eq _ _).mp q))).2) (by decide) (by decide) k) ?_
            show own_Goes p e below _ (T6.setTop (mkF m 110 #[.val (.long y0), .second, .val (.long y1), .second, .val (.int x2), .val (.int (x2 &&& (3 : Int32))), .val (.long (own_j0_1 y0 y1 x2)), .second, .val (.long (own_f1 y0 (own_j0_1 y0 y1 x2))), .second] []))
            refine own_go (fun t k => XS.iconst X6.here hx rfl (hb hby at_110) k) ?_
            show own_Goes p e below _ (T6.setTop (mkF m 111 #[.val (.long y0), .second, .val (.long y1), .second, .val (.int x2), .val (.int (x2 &&& (3 : Int32))), .val (.long (own_j0_1 y0 y1 x2)), .second, .val (.long (own_f1 y0 (own_j0_1 y0 y1 x2))), .second] [(.int (1 : Int32))]))
            exact own_retN X6 hx hlk hret (by simp) (z' := (1 : Int32)) rfl (hb hby at_111) (by decide) (by decide) ⟨by rw [own_f0, if_neg hc7, if_pos hc12, if_neg hc13, if_neg hc14, if_neg hc15], N6, trivial⟩
    · refine own_go (fun t k => XS.ifNo X6.here hx rfl (hb hby at_62) rfl ((if0 _ _).trans (feq (fun q => hc12 ((lw_eq _ _).mp q))).1) k) ?_
      show own_Goes p e below _ (T6.setTop (mkF m 65 #[.val (.long y0), .second, .val (.long y1), .second, .val (.int x2), .val (.int (x2 &&& (3 : Int32))), .val (.long (own_j0_1 y0 y1 x2)), .second, .val (.long (own_f1 y0 (own_j0_1 y0 y1 x2))), .second] []))
      refine own_go (fun t k => XS.iconst X6.here hx rfl (hb hby at_65) k) ?_
      show own_Goes p e below _ (T6.setTop (mkF m 66 #[.val (.long y0), .second, .val (.long y1), .second, .val (.int x2), .val (.int (x2 &&& (3 : Int32))), .val (.long (own_j0_1 y0 y1 x2)), .second, .val (.long (own_f1 y0 (own_j0_1 y0 y1 x2))), .second] [(.int (0 : Int32))]))
      exact own_retN X6 hx hlk hret (by simp) (z' := (0 : Int32)) rfl (hb hby at_66) (by decide) (by decide) ⟨by rw [own_f0, if_neg hc7, if_neg hc12], N6, trivial⟩
theorem own_law (x y : Int64) (z : Int32) : own_f0 x y z = 1 := by
  unfold own_f0
  generalize own_j0_1 x y z = w
  unfold own_f1 own_j1_1
  have a1 := c_lsub x w
  have a2 := c_lsub w x
  have a3 := c_lsub x x
  have a4 := c_lsub w w
  have b1 := rng64 x
  have b2 := rng64 w
  have b3 := rng64 (x - w)
  have b4 := rng64 (w - x)
  have b5 := rng64 (x - x)
  have b6 := rng64 (w - w)
  by_cases h : (0 : Int64) < x - w
  · have h' : 0 < (x - w).toInt := Int64.lt_iff_toInt_lt.mp h
    simp only [if_pos h]
    have n1 : ¬ w = x := fun q => by rw [q] at h'; omega
    have n2 : ¬ (0 : Int64) < w - x := fun q => by have q' : 0 < (w - x).toInt := Int64.lt_iff_toInt_lt.mp q; omega
    have n3 : ¬ (0 : Int64) < w - w := fun q => by have q' : 0 < (w - w).toInt := Int64.lt_iff_toInt_lt.mp q; omega
    have n4 : ¬ x - w = (-9223372036854775808 : Int64) := fun q => by rw [q] at h'; exact absurd h' (by decide)
    simp only [if_neg n1, if_neg n2, if_neg n3, if_neg n4, if_true]
  · have h' : ¬ 0 < (x - w).toInt := fun q => h (Int64.lt_iff_toInt_lt.mpr q)
    simp only [if_neg h]
    have n2 : ¬ (0 : Int64) < x - x := fun q => by have q' : 0 < (x - x).toInt := Int64.lt_iff_toInt_lt.mp q; omega
    simp only [if_neg n2, if_neg h, if_true, ite_self]
set_option maxRecDepth 65536 in
set_option maxHeartbeats 40000000 in
theorem comes_1 {Post : Tables → Env → Array Value → State → Outcome → State → Prop} (hpost : ∀ tb e args s v u, (limb_1_1.after args s (.returned v) u = true ∧ limb_1_2.after args s (.returned v) u = true) → FrameEnd s (.returned v) u (Jvm.fieldLocs frame_1_writes args s ++ Jvm.arrayLocs frame_1_arrays args s ++ Jvm.staticLocs frame_1_statics s) 0 0 → Post tb e args s (.returned v) u) :
    ArmFor flags0 classFile x code maxLocals ret World_1 tables_1 room_1 Calls_1 rest_1 Pre_1 Post := by
  intro l hfl _ _ p e ha hc hk s m args below hf hA hF happ hP
  obtain ⟨hcalls, hrest, hpre⟩ := hP
  obtain ⟨-, -, -, hnamed, -, -, -, hat⟩ := (Spec.applies_iff hf).mp happ
  obtain ⟨hg, hn⟩ := and_e (Cond.before_iff.mp (show (Jvm.Cond.and given_1 narrow_1).before args s = true from hpre))
  obtain ⟨gg1, gg2⟩ := and_e hg
  obtain ⟨gg3, gg4⟩ := and_e gg2
  obtain ⟨gg5, gg6⟩ := and_e gg4
  obtain ⟨w0, w1, w2, rfl⟩ : ∃ w0 w1 w2 : Value, args = #[w0, w1, w2] := by
    have hs : args.size = 3 := by simpa [Cond.value, given_1] using gg1
    obtain ⟨L⟩ := args
    match L, hs with
    | [w0, w1, w2], _ => exact ⟨w0, w1, w2, rfl⟩
  have hw := fun d (hd : d ∈ tables_1) => atoms_spec (ws := Jvm.Cond.code x code maxLocals ret :: tables_1) hat d (List.mem_cons_of_mem _ hd)
  have hfit : Fit s := fun {y c} hc i hi => by
    obtain ⟨ha, rfl⟩ := Array.getElem?_eq_some_iff.mp hc
    have q := List.all_eq_true.mp ((Array.all_eq_true_iff_forall_mem.mp hF) _ (Array.getElem_mem ha)) i (List.mem_range.mpr hi)
    simpa [Array.getElem?_eq_getElem hi] using q
  obtain ⟨i0, ei0⟩ := isL_v gg3
  obtain rfl : w0 = (.long i0) := Option.some.inj ei0
  obtain ⟨i1, ei1⟩ := isL_v gg5
  obtain rfl : w1 = (.long i1) := Option.some.inj ei1
  obtain ⟨i2, ei2⟩ := is_v gg6
  obtain rfl : w2 = (.int i2) := Option.some.inj ei2
  obtain ⟨n, o, h1, h2, h3, v, L, rfl, hQ, hq⟩ := rm0 l s _ hw tables_1 i0 i1 i2 s.heap s.heap.size p e ha hc hk s m _ below hf ((Spec.applies_iff_loose hf).mp happ).1 ⟨rfl, State.Warmed39.refl s, rfl⟩ trivial
  obtain ⟨hv, N, -⟩ := hQ
  rw [show (own_f0 i0 i1 i2 : Int32) = 1 from own_law i0 i1 i2] at hv
  subst hv
  refine ⟨n, _, h1, h2, h3, hpost _ _ _ _ _ _ ⟨Cond.after_iff.mpr rfl, Cond.after_iff.mpr (eq_i res_at (Term.int_eval (1)) rfl)⟩ ⟨hq.1, hq.2.1, (hq.2.2.sift fun y hy => Or.inr (N y hy)).mono (by decide) (by decide)⟩⟩
theorem main_1_1 : Claimed_1_1 := comes_1 fun _ _ _ _ _ _ h hF => ⟨h.1, hF⟩
theorem main_1_2 : Claimed_1_2 := comes_1 fun _ _ _ _ _ _ h hF => ⟨h.2, hF⟩
end Jvm.Pilot.@@N@@
namespace Jvm.Pilot.@@N@@
open Jvm Jvm.ClassFile Sem Op Lib Jvm.Free Jvm.Stand Jvm.Pilot.@@N@@.Jvm.D
/-! MADE BY PROGRAM (witnessworld.py) out of the Statement's table words and the real class files: 9 classes; the members and pool entries that the words name. The judged class is class 1, her method 1. -/
namespace start1
open Jvm.ClassFile
def u (s : String) : CpInfo := .utf8 (stringToUtf16 s)
/-- a pool by its gaps: so many unusable entries, then the entry; so many at the end -/
def gap : Nat → List CpInfo → List CpInfo
  | 0, r => r
  | n + 1, r => .unusable :: gap n r
def poolList (es : List (Nat × CpInfo)) (last : Nat) : List CpInfo := es.foldr (fun e r => gap e.1 (e.2 :: r)) (gap last [])
def pool (es : List (Nat × CpInfo)) (last : Nat) : Array CpInfo := ⟨poolList es last⟩
def fileOf (pool : Array CpInfo) (this : Nat) (attrs : Array Attribute := #[]) (ms : Array MethodInfo := #[]) (fl : Nat := 33) (sup : Nat := 0) (ifs : Array Nat := #[]) (fds : Array FieldInfo := #[]) : ClassFile where
  minorVersion := 0
  majorVersion := 65
  constantPool := pool
  accessFlags := fl
  thisClass := this
  superClass := sup
  interfaces := ifs
  fields := fds
  methods := ms
  attributes := attrs
def plain (name : String) (sup : Option ClassId) : Class where
  name := name
  kind := .ordinary
  loader := none
  accessFlags := 33
  super := sup
  interfaces := #[]
  cf := none
  fields := #[]
  methods := #[]
  instanceTypes := #[]
  staticTypes := #[]
  resolved := #[]
  callSites := []
  init := .initialized
  statics := none
  mirror := none

def pool0 : Array CpInfo := pool [(5, u "<init>"), (0, u "()V"), (1, .class_ 10), (1, u "java/lang/Object")] 113

def k0m0 : Method := { name := "<init>", desc := "()V", sig := { parameters := [], returnType := none }, accessFlags := 1, code := none }
/-- java/lang/Object -/
def k0 : Class := { plain "java/lang/Object" none with
  accessFlags := 33
  interfaces := #[]
  cf := some (fileOf pool0 8 #[] #[{ accessFlags := 1, nameIndex := 5, descriptorIndex := 6, attributes := #[] }] 33 0 #[] #[])
  fields := #[]
  methods := #[k0m0]
  instanceTypes := #[]
  staticTypes := #[]
  resolved := Array.replicate 124 none
  statics := none }

def pool1 : Array CpInfo := pool [(2, .class_ 4), (1, u "java/lang/Object"), (0, u "<init>"), (0, u "()V"), (2, .long 9223372036854775808), (1, .methodref 12 13), (0, .class_ 14), (0, .nameAndType 15 16), (0, u "com/example/elease/elease/TimedLoop"), (0, u "earlier"), (0, u "(JJ)J"), (0, .class_ 18), (0, u "com/example/elease/elease/TimedLoopEarlierPinLaw"), (2, u "law"), (0, u "(JJI)Z")] 3

def k1m0 : Method := { name := "<init>", desc := "()V", sig := { parameters := [], returnType := none }, accessFlags := 1, code := none }
def k1c1 : Code := { maxStack := 4, maxLocals := 10, code := code, exceptionTable := #[], attributes := #[] }
def k1m1 : Method := { name := "law", desc := "(JJI)Z", sig := { parameters := [.long, .long, .int], returnType := some .boolean }, accessFlags := 9, code := some k1c1 }
/-- com/example/elease/elease/TimedLoopEarlierPinLaw -/
def k1 : Class := { plain "com/example/elease/elease/TimedLoopEarlierPinLaw" (some 0) with
  accessFlags := 49
  interfaces := #[]
  cf := some (fileOf pool1 17 #[] #[{ accessFlags := 1, nameIndex := 5, descriptorIndex := 6, attributes := #[] }, { accessFlags := 9, nameIndex := 21, descriptorIndex := 22, attributes := #[] }] 49 2 #[] #[])
  fields := #[]
  methods := #[k1m0, k1m1]
  instanceTypes := #[]
  staticTypes := #[]
  resolved := Array.replicate 26 none
  statics := none }

def pool2 : Array CpInfo := pool [(2, .class_ 4), (1, u "java/lang/Object"), (3, .class_ 10), (1, u "com/example/elease/elease/TimedLoop"), (0, u "monitor"), (0, u "Ljava/lang/Object;"), (1, .class_ 16), (1, u "com/example/elease/elease/TimedLoop$State"), (1, u "Lcom/example/elease/elease/TimedLoop$State;"), (2, u "state"), (2, u "owner"), (0, u "Ljava/lang/String;"), (2, u "step"), (0, u "Ljava/util/function/LongSupplier;"), (2, u "last"), (0, u "Ljava/lang/Runnable;"), (11, u "thread"), (0, u "Ljava/lang/Thread;"), (37, u "woken"), (0, u "Z"), (70, u "MIN_SPAN"), (0, u "Ljava/time/Duration;"), (36, u "earlier"), (0, u "(JJ)J")] 34

def k2c0 : Code := { maxStack := 4, maxLocals := 4, code := prog_10_method_12_code, exceptionTable := #[], attributes := #[] }
def k2m0 : Method := { name := "earlier", desc := "(JJ)J", sig := { parameters := [.long, .long], returnType := some .long }, accessFlags := 8, code := some k2c0 }
/-- com/example/elease/elease/TimedLoop -/
def k2 : Class := { plain "com/example/elease/elease/TimedLoop" (some 0) with
  accessFlags := 48
  interfaces := #[]
  cf := some (fileOf pool2 8 #[.nestMembers #[14]] #[{ accessFlags := 8, nameIndex := 194, descriptorIndex := 195, attributes := #[] }] 48 2 #[] #[{ accessFlags := 24, nameIndex := 156, descriptorIndex := 157, attributes := #[] }, { accessFlags := 18, nameIndex := 24, descriptorIndex := 25, attributes := #[] }, { accessFlags := 18, nameIndex := 28, descriptorIndex := 29, attributes := #[] }, { accessFlags := 18, nameIndex := 32, descriptorIndex := 33, attributes := #[] }, { accessFlags := 18, nameIndex := 45, descriptorIndex := 46, attributes := #[] }, { accessFlags := 18, nameIndex := 11, descriptorIndex := 12, attributes := #[] }, { accessFlags := 2, nameIndex := 21, descriptorIndex := 18, attributes := #[] }, { accessFlags := 2, nameIndex := 84, descriptorIndex := 85, attributes := #[] }])
  fields := #[{ name := "MIN_SPAN", type := (.object "java/time/Duration"), accessFlags := 24, slot := 0, constantValue := 0 }, { name := "owner", type := (.object "java/lang/String"), accessFlags := 18, slot := 0, constantValue := 0 }, { name := "step", type := (.object "java/util/function/LongSupplier"), accessFlags := 18, slot := 1, constantValue := 0 }, { name := "last", type := (.object "java/lang/Runnable"), accessFlags := 18, slot := 2, constantValue := 0 }, { name := "thread", type := (.object "java/lang/Thread"), accessFlags := 18, slot := 3, constantValue := 0 }, { name := "monitor", type := (.object "java/lang/Object"), accessFlags := 18, slot := 4, constantValue := 0 }, { name := "state", type := (.object "com/example/elease/elease/TimedLoop$State"), accessFlags := 2, slot := 5, constantValue := 0 }, { name := "woken", type := .boolean, accessFlags := 2, slot := 6, constantValue := 0 }]
  methods := #[k2m0]
  instanceTypes := #[(.object "java/lang/String"), (.object "java/util/function/LongSupplier"), (.object "java/lang/Runnable"), (.object "java/lang/Thread"), (.object "java/lang/Object"), (.object "com/example/elease/elease/TimedLoop$State"), .boolean]
  staticTypes := #[(.object "java/time/Duration")]
  resolved := Array.replicate 230 none
  statics := none }

def pool3 : Array CpInfo := pool [(1, u "java/lang/Cloneable"), (0, .class_ 1), (0, u "java/lang/Object"), (0, .class_ 3)] 3

/-- java/lang/Cloneable -/
def k3 : Class := { plain "java/lang/Cloneable" (some 0) with
  accessFlags := 1537
  interfaces := #[]
  cf := some (fileOf pool3 2 #[] #[] 1537 4 #[] #[])
  fields := #[]
  methods := #[]
  instanceTypes := #[]
  staticTypes := #[]
  resolved := Array.replicate 8 none
  statics := none }

def pool4 : Array CpInfo := pool [(1, u "java/io/Serializable"), (0, .class_ 1), (0, u "java/lang/Object"), (0, .class_ 3)] 3

/-- java/io/Serializable -/
def k4 : Class := { plain "java/io/Serializable" (some 0) with
  accessFlags := 1537
  interfaces := #[]
  cf := some (fileOf pool4 2 #[] #[] 1537 4 #[] #[])
  fields := #[]
  methods := #[]
  instanceTypes := #[]
  staticTypes := #[]
  resolved := Array.replicate 8 none
  statics := none }

/-- the primitive byte -/
def k5 : Class := { plain "byte" none with kind := .primitive 'B', accessFlags := 0x411 }
/-- [B -/
def k6 : Class := { plain "[B" (some 0) with kind := .array 5 .byte, interfaces := #[3, 4], accessFlags := 1041 }

/-- the primitive int -/
def k7 : Class := { plain "int" none with kind := .primitive 'I', accessFlags := 0x411 }
/-- [I -/
def k8 : Class := { plain "[I" (some 0) with kind := .array 7 .int, interfaces := #[3, 4], accessFlags := 1041 }

def heap : Heap := #[]
def classes : Array Class := #[k0, k1, k2, k3, k4, k5, k6, k7, k8]
def interned : List (Array UInt16 × Addr) := []
def slotsUsed : Nat := 0
def theMethod : MethodId := ⟨1, 1⟩
def args0 : Array Value := #[.long 5, .long 7, .int 3]
def aboutOver (below : List Frame) : State where
  vm := { classes := classes, interned := interned.toArray }
  heap := heap
  slotsUsed := slotsUsed
  threads := #[{ frames := .invoking theMethod args0 :: below }]
def below0 : List Frame := [.native { method := ⟨0, 0⟩, args := #[] }]
def about1 : State := aboutOver below0
def p0 : Program := .bare "" "" ""
def e0 : Env := launch0.env 0 0 0
theorem w_frames : about1.frames = Frame.invoking theMethod args0 :: below0 := rfl
set_option maxRecDepth 65536 in
theorem w_args : argsFit about1.vm theMethod args0 = true := by decide +kernel
set_option maxRecDepth 65536 in
theorem w_heap : heapFits about1 = true := by decide +kernel
set_option maxRecDepth 65536 in
theorem w_runnable : about1.curStatus? = some .runnable := by decide +kernel
set_option maxRecDepth 65536 in
theorem w_alone : about1.alone = true := by decide +kernel
set_option maxRecDepth 65536 in
theorem w_named : about1.methodNamed? x = some theMethod := by decide +kernel
set_option maxRecDepth 65536 in
theorem w_hears : about1.hears theMethod below0 = true := by decide +kernel
set_option maxRecDepth 65536 in
theorem w_ripe : about1.ripe theMethod args0 below0 = true := by decide +kernel
theorem w_running : about1.status = .running := rfl
set_option maxRecDepth 65536 in
theorem w_room : about1.hasRoom e0.platform room_1 = true :=
  launch0.hasRoom_least _ room_1 (by decide +kernel) (by decide +kernel) (by decide +kernel) (by decide +kernel) (by decide +kernel) (by decide +kernel)
theorem allAtoms_all (ts : List Jvm.Cond) (a : Array Jvm.Value) (st : Jvm.State) : (allAtoms ts).before a st = ts.all (fun c => c.before a st) := by
  induction ts with
  | nil => rfl
  | cons c t ih =>
    show (Jvm.Cond.and c (allAtoms t)).before a st = _
    rw [Jvm.Cond.before_and, ih, List.all_cons]
def words1 : List Jvm.Cond := Jvm.Cond.code x code maxLocals ret :: tables_1
/-- a 'code' word, met by the world's own term for the bytes: nothing is compared byte by byte -/
theorem code_word {y : MethodName} {bytes : ByteArray} {mx : Nat} {rt : Option FieldType} {a : Array Value} {s : State} {m : MethodId} {meth : Method} {c : Code} (h1 : s.methodNamed? y = some m) (h2 : s.vm.method? m = some meth) (h3 : meth.code = some c) (h4 : c.code = bytes)
    (h5 : (c.maxLocals == mx && c.exceptionTable.isEmpty && decide (c.maxStack ≤ mostOperands) && decide (meth.sig.returnType = rt) && !meth.locks && decide (parseMethodDescriptor y.desc = some meth.sig)) = true) : (Jvm.Cond.code y bytes mx rt).before a s = true := by
  simp only [Bool.and_eq_true, beq_iff_eq, Bool.not_eq_true', decide_eq_true_eq] at h5
  obtain ⟨⟨⟨⟨⟨g1, g2⟩, g3⟩, g4⟩, g5⟩, g6⟩ := h5
  simp [Cond.before, Cond.holds, Cond.value, h1, h2, h3, h4, g1, g2, g3, g4, g5, g6]
def isCode : Jvm.Cond → Bool
  | .code _ _ _ _ => true
  | _ => false
theorem all_split {L : List Jvm.Cond} {P : Jvm.Cond → Bool} (h1 : L.all (fun c => isCode c || P c) = true) (h2 : ∀ c ∈ L.filter isCode, P c = true) : L.all P = true := by
  refine List.all_eq_true.mpr fun c hc => ?_
  have h := List.all_eq_true.mp h1 c hc
  rcases Bool.eq_false_or_eq_true (isCode c) with hi | hi
  · exact h2 c (List.mem_filter.mpr ⟨hc, hi⟩)
  · simpa [hi] using h
set_option maxRecDepth 65536 in
theorem w_c0 : (Jvm.Cond.code x code maxLocals ret).before args0 about1 = true := code_word (m := ⟨1, 1⟩) (meth := k1m1) (c := k1c1) (by decide +kernel) rfl rfl rfl (by decide +kernel)
set_option maxRecDepth 65536 in
theorem w_c1 : (Jvm.Cond.code ({ cls := "com/example/elease/elease/TimedLoop", name := "earlier", desc := "(JJ)J" } : Jvm.MethodName) prog_10_method_12_code (4 : Nat) (Option.some Jvm.ClassFile.FieldType.long)).before args0 about1 = true := code_word (m := ⟨2, 0⟩) (meth := k2m0) (c := k2c0) (by decide +kernel) rfl rfl rfl (by decide +kernel)
def codes1 : List Jvm.Cond := [Jvm.Cond.code x code maxLocals ret, Jvm.Cond.code ({ cls := "com/example/elease/elease/TimedLoop", name := "earlier", desc := "(JJ)J" } : Jvm.MethodName) prog_10_method_12_code (4 : Nat) (Option.some Jvm.ClassFile.FieldType.long)]
set_option maxRecDepth 65536 in
theorem codes_eq : words1.filter isCode = codes1 := rfl
theorem w_codes : ∀ c ∈ words1.filter isCode, c.before args0 about1 = true := by
  rw [codes_eq]
  intro c hc
  simp only [codes1, List.mem_cons, List.not_mem_nil, or_false] at hc
  rcases hc with rfl | rfl
  · exact w_c0
  · exact w_c1
set_option maxRecDepth 65536 in
theorem w_t1 : words1.all (fun c => isCode c || c.before args0 about1) = true := by decide +kernel
theorem w_tables : (allAtoms (Jvm.Cond.code x code maxLocals ret :: tables_1)).before args0 about1 = true := by
  rw [allAtoms_all]
  show words1.all (fun c => c.before args0 about1) = true
  refine all_split ?_ w_codes
  rw [w_t1]
set_option maxRecDepth 65536 in
theorem w_case : (Jvm.Cond.and given_1 narrow_1).before args0 about1 = true := by decide +kernel
theorem w_applies : (headSpec (Jvm.Cond.code x code maxLocals ret :: tables_1) room_1).applies x e0.platform about1 = true :=
  (Spec.applies_iff w_frames).mpr ⟨w_running, w_runnable, w_alone, w_named, w_hears, w_ripe, w_room, w_tables⟩
theorem atStart : AtStart classFile x code maxLocals ret World_1 tables_1 room_1 Calls_1 rest_1 Pre_1 launch0 p0 e0 about1 theMethod args0 below0 :=
  ⟨lists_1, trivial, launch0.admits_env _ _ _, launch0.least_env, fairChoices_fair.cas, fairChoices_fair.clock, w_frames, w_args, w_heap, w_applies, trivial, trivial, w_case⟩
end start1
theorem witness_1 : WitnessClaimed_1 := ⟨start1.p0, start1.e0, start1.about1, start1.theMethod, start1.args0, start1.below0, start1.atStart⟩
end Jvm.Pilot.@@N@@
