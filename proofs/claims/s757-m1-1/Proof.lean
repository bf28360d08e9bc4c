import JvmDerived
import JvmDerived.Pilot.@@N@@Statement
import JvmDerived.Pilot.@@N@@Code
set_option linter.unusedVariables false
set_option linter.unusedSimpArgs false
@@BLOCK:NumsL.lean.txt@@
namespace Jvm.Pilot.@@N@@
open Jvm Jvm.ClassFile Sem Op Lib Jvm.Free Jvm.Stand Jvm.LawKit Jvm.RoadKit Bundle Jvm.Pilot.@@N@@.Jvm.D
section Own
variable {p : Program} {l : Launch} {e : Env} {R rm : Room} {s : State} {m : MethodId} {args : Array Value} {below : List Frame} {meth : Method} {c : Code} {T : State} {locs : List Loc} {cells slots : Nat} {Z : State} {a0 : Array Value} {h : Heap}
/-- the run comes to the end of the invocation, and what is asked holds there -/
def own_Goes (p : Program) (e : Env) (below : List Frame) (G : Outcome → State → Prop) (S : State) : Prop := ∃ s₂ o, Steps p.tables e below S s₂ ∧ s₂.status = .running ∧ Ended s₂ below o ∧ G o s₂
theorem own_go {G : Outcome → State → Prop} {S S' : State} (h : ∀ t, Steps p.tables e below S' t → Steps p.tables e below S t) (k : own_Goes p e below G S') : own_Goes p e below G S := by
  obtain ⟨s₂, o, h1, h2⟩ := k
  exact ⟨s₂, o, h _ h1, h2⟩
theorem own_tr {G : Outcome → State → Prop} {S S' : State} (h : Steps p.tables e below S S') (k : own_Goes p e below G S') : own_Goes p e below G S := own_go (fun _ q => h.trans q) k
abbrev own_End (s : State) (rm : Room) (Q : Option Value → Heap → List Loc → Prop) : Outcome → State → Prop := fun o U' => ∃ v L, o = .returned v ∧ Q v U'.heap L ∧ FrameEnd s o U' L rm.cells rm.slots
/-- a body's contract: with these arguments, over this heap, it returns and leaves what Q says -/
def own_Met (l : Launch) (Z : State) (y : MethodName) (bytes : ByteArray) (maxL : Nat) (ret : Option FieldType) (ws : List Jvm.Cond) (rm : Room) (as : Array Value) (h0 : Heap) (Q : Option Value → Heap → List Loc → Prop) : Prop :=
  MetFree l y (head1 (Jvm.Cond.code y bytes maxL ret :: ws) rm) (fun a U => a = as ∧ Z.Warmed39 U.vm ∧ U.heap = h0) (fun _ _ _ _ _ => True) (fun _ U o U' => ∃ v L, o = .returned v ∧ Q v U'.heap L ∧ FrameEnd U o U' L rm.cells rm.slots)
theorem own_met {y : MethodName} {bytes : ByteArray} {maxL : Nat} {ret : Option FieldType} {ws : List Jvm.Cond} {as : Array Value} {h0 : Heap} {Q : Option Value → Heap → List Loc → Prop} (hp : plainFor y = true)
    (body : ∀ (p : Program) (e : Env) (s : State) (m : MethodId) (below : List Frame) (meth : Method) (c : Code) (s₁ : State), p.tables.exec = Jvm.exec → c.code = bytes → c.maxLocals = maxL → s.vm.findClass y.cls = some m.cls → meth.name = y.name → meth.sig.returnType = ret → meth.locks = false → Z.Warmed39 s.vm → s₁.heap = h0 →
      Stand p l e rm s m as below meth c s₁ [] 0 0 → own_Goes p e below (own_End s rm Q) (s₁.setTop (entryFrame m as maxL))) : own_Met l Z y bytes maxL ret ws rm as h0 Q := by
  refine MetFree.of_bodySF hp hisR ?_
  intro p e s m args below meth c s₁ Bd hml hP hK
  obtain ⟨rfl, hZ, hh⟩ := hP
  exact body p e s m below meth c s₁ Bd.exec Bd.bytes hml (findClass_of_methodNamed Bd.named) (name_of_methodNamed Bd.named Bd.method).1 Bd.returns Bd.notSynchronized hZ (by rw [← hh, Bd.state]; rfl) (Stand.of_body Bd)
/-- the returns -/
theorem own_retV {Q : Option Value → Heap → List Loc → Prop} (X : Stand p l e rm s m args below meth c T locs cells slots) (hx : p.tables.exec = Jvm.exec) (hlk : meth.locks = false) {pc : Nat} {Ls : Array Slot} {w : Value} {t : FieldType} {i : Instr} {rest : List Value} (hret : meth.sig.returnType = some t) (hn : narrow t w = w)
    (hi : (i = .ireturn ∧ (t = .int ∨ t = .boolean ∨ t = .byte ∨ t = .char ∨ t = .short) ∧ ∃ z, w = .int z) ∨ (i = .lreturn ∧ t = .long ∧ ∃ z, w = .long z) ∨ (i = .dreturn ∧ t = .double ∧ ∃ z, w = .double z) ∨ (i = .freturn ∧ t = .float ∧ ∃ z, w = .float z) ∨ (i = .areturn ∧ t.isReference = true ∧ w.isRef = true))
    (hd : decode c.code pc = .ok (i, 1)) (hc : cells ≤ rm.cells) (hs : slots ≤ rm.slots) (hq : Q (some w) T.heap locs) : own_Goes p e below (own_End s rm Q) (T.setTop (mkF m pc Ls (w :: rest))) := by
  obtain ⟨fs, hr, hrun, hended, hW, hsame⟩ := X.leave (v := some w) (fun h => by rw [hret] at h; cases h) hlk
  exact ⟨_, _, retOut X hx hret hn hi hd hr, hrun, hended, _, _, rfl, hq, ⟨_, rfl⟩, hW, hsame.mono hc hs⟩
theorem own_retI {Q : Option Value → Heap → List Loc → Prop} (X : Stand p l e rm s m args below meth c T locs cells slots) (hx : p.tables.exec = Jvm.exec) (hlk : meth.locks = false) {pc : Nat} {Ls : Array Slot} {z : Int32} {rest : List Value} (hret : meth.sig.returnType = some .int)
    (hd : decode c.code pc = .ok (.ireturn, 1)) (hc : cells ≤ rm.cells) (hs : slots ≤ rm.slots) (hq : Q (some (.int z)) T.heap locs) : own_Goes p e below (own_End s rm Q) (T.setTop (mkF m pc Ls (.int z :: rest))) :=
  own_retV X hx hlk hret rfl (Or.inl ⟨rfl, Or.inl rfl, z, rfl⟩) hd hc hs hq
theorem own_retJ {Q : Option Value → Heap → List Loc → Prop} (X : Stand p l e rm s m args below meth c T locs cells slots) (hx : p.tables.exec = Jvm.exec) (hlk : meth.locks = false) {pc : Nat} {Ls : Array Slot} {z : Int64} {rest : List Value} (hret : meth.sig.returnType = some .long)
    (hd : decode c.code pc = .ok (.lreturn, 1)) (hc : cells ≤ rm.cells) (hs : slots ≤ rm.slots) (hq : Q (some (.long z)) T.heap locs) : own_Goes p e below (own_End s rm Q) (T.setTop (mkF m pc Ls (.long z :: rest))) :=
  own_retV X hx hlk hret rfl (Or.inr (Or.inl ⟨rfl, rfl, z, rfl⟩)) hd hc hs hq
theorem own_retR {Q : Option Value → Heap → List Loc → Prop} (X : Stand p l e rm s m args below meth c T locs cells slots) (hx : p.tables.exec = Jvm.exec) (hlk : meth.locks = false) {pc : Nat} {Ls : Array Slot} {w : Value} {t : FieldType} {rest : List Value} (hret : meth.sig.returnType = some t) (ht : t.isReference = true) (hw : w.isRef = true)
    (hd : decode c.code pc = .ok (.areturn, 1)) (hc : cells ≤ rm.cells) (hs : slots ≤ rm.slots) (hq : Q (some w) T.heap locs) : own_Goes p e below (own_End s rm Q) (T.setTop (mkF m pc Ls (w :: rest))) :=
  own_retV X hx hlk hret (by cases t <;> first | rfl | cases ht) (Or.inr (Or.inr (Or.inr (Or.inr ⟨rfl, ht, hw⟩)))) hd hc hs hq
theorem own_retN {Q : Option Value → Heap → List Loc → Prop} (X : Stand p l e rm s m args below meth c T locs cells slots) (hx : p.tables.exec = Jvm.exec) (hlk : meth.locks = false) {pc : Nat} {Ls : Array Slot} {z z' : Int32} {t : FieldType} {rest : List Value} (hret : meth.sig.returnType = some t) (ht : t = .boolean ∨ t = .byte ∨ t = .char ∨ t = .short) (hz : nar t z = z')
    (hd : decode c.code pc = .ok (.ireturn, 1)) (hc : cells ≤ rm.cells) (hs : slots ≤ rm.slots) (hq : Q (some (.int z')) T.heap locs) : own_Goes p e below (own_End s rm Q) (T.setTop (mkF m pc Ls (.int z :: rest))) := by
  subst hz
  obtain ⟨fs, hr, hrun, hended, hW, hsame⟩ := X.leave (v := some (.int (nar t z))) (fun h => by rw [hret] at h; cases h) hlk
  exact ⟨_, _, retN X hx hret ht hd hr, hrun, hended, _, _, rfl, hq, ⟨_, rfl⟩, hW, hsame.mono hc hs⟩
theorem own_ret0 {Q : Option Value → Heap → List Loc → Prop} (X : Stand p l e rm s m args below meth c T locs cells slots) (hx : p.tables.exec = Jvm.exec) (hlk : meth.locks = false) {pc : Nat} {Ls : Array Slot} (hret : meth.sig.returnType = none)
    (hd : decode c.code pc = .ok (.return_, 1)) (hc : cells ≤ rm.cells) (hs : slots ≤ rm.slots) (hq : Q none T.heap locs) : own_Goes p e below (own_End s rm Q) (T.setTop (mkF m pc Ls [])) := by
  obtain ⟨fs, hr, hrun, hended, hW, hsame⟩ := X.leave (v := none) (fun _ => rfl) hlk
  exact ⟨_, _, X.returnOut hx hret hd hr, hrun, hended, _, _, rfl, hq, ⟨_, rfl⟩, hW, hsame.mono hc hs⟩
/-- a static call by the callee's contract -/
theorem own_callS (X : Stand p l e R s m args below meth c T locs cells slots) (hx : p.tables.exec = Jvm.exec) (hZ : Z.Warmed39 s.vm) {own : String} {index : Nat} {y : MethodName} {bytes : ByteArray} {maxL : Nat} {ret : Option FieldType} (hown : s.vm.findClass own = some m.cls)
    (w1 : (Jvm.Cond.methodLink own index y).before a0 Z = true) (w2 : (Jvm.Cond.static y).before a0 Z = true) (w3 : (Jvm.Cond.initialized y.cls).before a0 Z = true) (w4 : (Jvm.Cond.code y bytes maxL ret).before a0 Z = true) (hy : y.cls ≠ "java/lang/invoke/MethodHandle" ∧ y.cls ≠ "java/lang/invoke/VarHandle")
    {as : List Value} {Q : Option Value → Heap → List Loc → Prop} (hM : own_Met l Z y bytes maxL ret [] rm as.toArray h Q) (eT : T.heap = h) {ps : List FieldType} {rt : Option FieldType} (hpd : parseMethodDescriptor y.desc = some ⟨ps, rt⟩) (hlen : as.length = ps.length)
    {pc : Nat} {Ls : Array Slot} {rest : List Value} {W : Nat} (hsize : Ls.size = c.maxLocals) (hW : (rest.map fun v => v.category).sum ≤ W) (hf : rm.frames + 1 ≤ R.frames) (hl : W + (maxL + 11) + rm.locals ≤ R.locals) (hd : decode c.code pc = .ok (.invokestatic index, 3)) (hc : cells + rm.cells ≤ R.cells) (hs : slots + rm.slots ≤ R.slots) :
    ∃ (v : Option Value) (T' : State) (L' : List Loc), Stand p l e R s m args below meth c T' (locs ++ L') (cells + rm.cells) (slots + rm.slots) ∧ Q v T'.heap L' ∧ ∀ target, Steps p.tables e below (T'.setTop (mkF m (pc + 3) Ls (v.toList ++ rest))) target → Steps p.tables e below (T.setTop (mkF m pc Ls (as.reverse ++ rest))) target := by
  obtain ⟨v, _, ⟨T', L', k', n'⟩, -, X', ⟨Lc, hQ, hl', hk', hn'⟩, st⟩ := Jvm.LawKit.callS X hx (y := y) hown (mvT hZ w1) (mvT hZ w2) (mvT hZ w3) (mvT hZ w4) hy (backOf (W := W) hM hZ w4 w3 hf hl) (g := mkF m pc Ls (as.reverse ++ rest)) rfl hsize (argsL := as) (rest := rest) (lenOf hpd hlen) rfl (by show 2 * 0 + _ ≤ _; omega) hd (fun _ _ => ⟨rfl, eT, hc, hs⟩)
  dsimp only [Pt.U, Pt.locs, Pt.cells, Pt.slots] at X' hl' hk' hn' st hQ
  subst hl' hk' hn'
  exact ⟨v, T', Lc, X', hQ, st⟩
/-- an instance method by the contract of the body that the receiver's class selects -/
theorem own_callV (X : Stand p l e R s m args below meth c T locs cells slots) (hx : p.tables.exec = Jvm.exec) (hZ : Z.Warmed39 s.vm) {own C : String} {index : Nat} {y : MethodName} {bytes : ByteArray} {maxL : Nat} {ret : Option FieldType} (hown : s.vm.findClass own = some m.cls)
    (w1 : (Jvm.Cond.methodLink own index y).before a0 Z = true) (w2 : (Jvm.Cond.declares y).before a0 Z = true) (w3 : (Jvm.Cond.selects C y y).before a0 Z = true) (w4 : (Jvm.Cond.instanceMethod y).before a0 Z = true) (w5 : (Jvm.Cond.initialized y.cls).before a0 Z = true) (w6 : (Jvm.Cond.code y bytes maxL ret).before a0 Z = true) (hy : y.cls ≠ "java/lang/invoke/MethodHandle" ∧ y.cls ≠ "java/lang/invoke/VarHandle")
    {b : Addr} {as : List Value} {Q : Option Value → Heap → List Loc → Prop} (hM : own_Met l Z y bytes maxL ret [] rm (Value.ref b :: as).toArray h Q) (eT : T.heap = h) (E : Exa Z h b C) {ps : List FieldType} {rt : Option FieldType} (hpd : parseMethodDescriptor y.desc = some ⟨ps, rt⟩) (hlen : as.length = ps.length)
    {pc : Nat} {Ls : Array Slot} {rest : List Value} {W : Nat} (hsize : Ls.size = c.maxLocals) (hW : (rest.map fun v => v.category).sum ≤ W) (hf : rm.frames + 1 ≤ R.frames) (hl : W + (maxL + 11) + rm.locals ≤ R.locals) (hd : decode c.code pc = .ok (.invokevirtual index, 3)) (hc : cells + rm.cells ≤ R.cells) (hs : slots + rm.slots ≤ R.slots) :
    ∃ (v : Option Value) (T' : State) (L' : List Loc), Stand p l e R s m args below meth c T' (locs ++ L') (cells + rm.cells) (slots + rm.slots) ∧ Q v T'.heap L' ∧ ∀ target, Steps p.tables e below (T'.setTop (mkF m (pc + 3) Ls (v.toList ++ rest))) target → Steps p.tables e below (T.setTop (mkF m pc Ls (as.reverse ++ Value.ref b :: rest))) target := by
  obtain ⟨cq, kq, qa, qb, qc⟩ := isOf hZ eT E
  obtain ⟨v, _, ⟨T', L', k', n'⟩, -, X', ⟨Lc, hQ, hl', hk', hn'⟩, st⟩ := X.virtualBack hx (y := y) (z := y) hown (mvT hZ w1) (mvT hZ w2) (notFace_of_selects (args := #[]) (mvT hZ w3)) (mvT hZ w3) (mvT hZ w4) hy (backOf (W := W) hM hZ w6 w5 hf hl) qa qc (g := mkF m pc Ls (as.reverse ++ Value.ref b :: rest)) rfl hsize (Steps.refl _) (argsL := as) (rest := rest) (lenOf hpd hlen) rfl (by show 2 * 0 + _ ≤ _; omega) hd (fun _ _ => ⟨rfl, eT, hc, hs⟩)
  dsimp only [Pt.U, Pt.locs, Pt.cells, Pt.slots] at X' hl' hk' hn' st hQ
  subst hl' hk' hn'
  exact ⟨v, T', Lc, X', hQ, fun _ q => st.trans q⟩
/-- a constructor by its contract -/
theorem own_callI (X : Stand p l e R s m args below meth c T locs cells slots) (hx : p.tables.exec = Jvm.exec) (hZ : Z.Warmed39 s.vm) {own : String} {index : Nat} {y : MethodName} {bytes : ByteArray} {maxL : Nat} (hy1 : y.name = "<init>") (hown : s.vm.findClass own = some m.cls)
    (w1 : (Jvm.Cond.methodLink own index y).before a0 Z = true) (w4 : (Jvm.Cond.instanceMethod y).before a0 Z = true) (w5 : (Jvm.Cond.initialized y.cls).before a0 Z = true) (w6 : (Jvm.Cond.code y bytes maxL none).before a0 Z = true) (hy : y.cls ≠ "java/lang/invoke/MethodHandle" ∧ y.cls ≠ "java/lang/invoke/VarHandle")
    {b : Addr} {as : List Value} {Q : Option Value → Heap → List Loc → Prop} (hM : own_Met l Z y bytes maxL none [] rm (Value.ref b :: as).toArray h Q) (eT : T.heap = h) {ps : List FieldType} {rt : Option FieldType} (hpd : parseMethodDescriptor y.desc = some ⟨ps, rt⟩) (hlen : as.length = ps.length)
    {pc : Nat} {Ls : Array Slot} {rest : List Value} {W : Nat} (hsize : Ls.size = c.maxLocals) (hW : (rest.map fun v => v.category).sum ≤ W) (hf : rm.frames + 1 ≤ R.frames) (hl : W + (maxL + 11) + rm.locals ≤ R.locals) (hd : decode c.code pc = .ok (.invokespecial index, 3)) (hc : cells + rm.cells ≤ R.cells) (hs : slots + rm.slots ≤ R.slots) :
    ∃ (v : Option Value) (T' : State) (L' : List Loc), Stand p l e R s m args below meth c T' (locs ++ L') (cells + rm.cells) (slots + rm.slots) ∧ Q v T'.heap L' ∧ ∀ target, Steps p.tables e below (T'.setTop (mkF m (pc + 3) Ls (v.toList ++ rest))) target → Steps p.tables e below (T.setTop (mkF m pc Ls (as.reverse ++ Value.ref b :: rest))) target := by
  obtain ⟨v, _, ⟨T', L', k', n'⟩, -, X', ⟨Lc, hQ, hl', hk', hn'⟩, st⟩ := X.specialBack hx (y := y) hy1 hown (mvT hZ w1) (mvT hZ w4) (mvT hZ w6) hy (backOf (W := W) hM hZ w6 w5 hf hl) (g := mkF m pc Ls (as.reverse ++ Value.ref b :: rest)) rfl hsize (Steps.refl _) (a := b) (argsL := as) (rest := rest) (lenOf hpd hlen) rfl (by show 2 * 0 + _ ≤ _; omega) hd (fun _ _ => ⟨rfl, eT, hc, hs⟩)
  dsimp only [Pt.U, Pt.locs, Pt.cells, Pt.slots] at X' hl' hk' hn' st hQ
  subst hl' hk' hn'
  exact ⟨v, T', Lc, X', hQ, fun _ q => st.trans q⟩
end Own
theorem own_d1_0 : decode prog_31_method_14_code 0 = .ok (.iload_n 0, 1) := by decide +kernel
theorem own_d1_1 : decode prog_31_method_14_code 1 = .ok (.bipush 32, 2) := by decide +kernel
theorem own_d1_3 : decode prog_31_method_14_code 3 = .ok (.if_icmp .eq 21, 3) := by decide +kernel
theorem own_d1_24 : decode prog_31_method_14_code 24 = .ok (.iconst 1, 1) := by decide +kernel
theorem own_d1_25 : decode prog_31_method_14_code 25 = .ok (.goto 4, 3) := by decide +kernel
theorem own_d1_6 : decode prog_31_method_14_code 6 = .ok (.iload_n 0, 1) := by decide +kernel
theorem own_d1_7 : decode prog_31_method_14_code 7 = .ok (.bipush 9, 2) := by decide +kernel
theorem own_d1_9 : decode prog_31_method_14_code 9 = .ok (.if_icmp .eq 15, 3) := by decide +kernel
theorem own_d1_12 : decode prog_31_method_14_code 12 = .ok (.iload_n 0, 1) := by decide +kernel
theorem own_d1_13 : decode prog_31_method_14_code 13 = .ok (.bipush 13, 2) := by decide +kernel
theorem own_d1_15 : decode prog_31_method_14_code 15 = .ok (.if_icmp .eq 9, 3) := by decide +kernel
theorem own_d1_18 : decode prog_31_method_14_code 18 = .ok (.iload_n 0, 1) := by decide +kernel
theorem own_d1_19 : decode prog_31_method_14_code 19 = .ok (.bipush 10, 2) := by decide +kernel
theorem own_d1_21 : decode prog_31_method_14_code 21 = .ok (.if_icmp .ne 7, 3) := by decide +kernel
theorem own_d1_28 : decode prog_31_method_14_code 28 = .ok (.iconst 0, 1) := by decide +kernel
theorem own_pn0 : plainName "com/example/hermod/hermod/header/FieldTokenizer" = true := by first | (simp [plainName, overriddenIn]; done) | decide +kernel
theorem own_d1_29 : decode prog_31_method_14_code 29 = .ok (.ireturn, 1) := by decide +kernel
def own_j1_1 (x0 : Int32) : Int32 := (if x0 = (32 : Int32) then (1 : Int32) else (if x0 = (9 : Int32) then (1 : Int32) else (if x0 = (13 : Int32) then (1 : Int32) else (if x0 = (10 : Int32) then (1 : Int32) else (0 : Int32)))))
def own_f1 (x0 : Int32) : Int32 := ((own_j1_1 x0) &&& 1)
def own_Q1 (x0 : Int32) (h0 : Heap) (n0 : Nat) (v : Option Value) (h : Heap) (L : List Loc) : Prop := v = some (.int (own_f1 x0)) ∧ Fr n0 L ∧ h = h0
abbrev own_R1 : Room := { frames := 0, cells := 0, slots := 0, locals := 0 }
theorem own_ef1 (m : MethodId) (z0 : Int32) : entryFrame m #[(.int z0)] 1 = mkF m 0 #[.val (.int z0)] [] := by first | (simp [entryFrame, mkF, argsToLocals, Value.category]; done) | rfl
set_option maxRecDepth 65536 in
set_option maxHeartbeats 40000000 in
theorem rm1 (l : Launch) (Z : State) (a0 : Array Value) (hw : ∀ d ∈ tables_1, d.before a0 Z = true) (ws : List Jvm.Cond) (x0 : Int32) (h0 : Heap) (n0 : Nat) : own_Met l Z (⟨"com/example/hermod/hermod/header/FieldTokenizer", "isWhiteSpace", "(I)Z"⟩ : MethodName) prog_31_method_14_code 1 (some .boolean) ws own_R1 #[(.int x0)] h0 (own_Q1 x0 h0 n0) := by
  refine own_met (plainFor_of_name own_pn0) ?_
  intro p e s m below meth c s₁ hx hby hml hown hnm hret hlk hZ e0 X0
  have N0 := Fr.nil n0
  have hml : c.maxLocals = 1 := hml
  have hown : s.vm.findClass "com/example/hermod/hermod/header/FieldTokenizer" = some m.cls := hown
  have hret : meth.sig.returnType = (some .boolean) := hret
  have hby : c.code = prog_31_method_14_code := hby
  have hnm : meth.name = "isWhiteSpace" := hnm
  rw [own_ef1]
  show own_Goes p e below _ (s₁.setTop (mkF m 0 #[.val (.int x0)] []))
  refine own_go (fun t k => XS.iloadN X0.here hx rfl (hb hby own_d1_0) rfl k) ?_
  show own_Goes p e below _ (s₁.setTop (mkF m 1 #[.val (.int x0)] [(.int x0)]))
  refine own_go (fun t k => XS.bipush X0.here hx rfl (hb hby own_d1_1) k) ?_
  show own_Goes p e below _ (s₁.setTop (mkF m 3 #[.val (.int x0)] [(.int (32 : Int32)), (.int x0)]))
  suffices HH5 : own_Goes p e below (own_End s own_R1 (own_Q1 x0 h0 n0)) (s₁.setTop (mkF m 29 #[.val (.int x0)] [(.int (own_j1_1 x0))])) by
    by_cases hc1 : x0 = (32 : Int32)
    · refine own_go (fun t k => XS.icmpYes X0.here hx rfl (pc0 := 3) (pc' := 24) rfl (hb hby own_d1_3) rfl (teq hc1).1 (by decide) (by decide) k) ?_
      show own_Goes p e below _ (s₁.setTop (mkF m 24 #[.val (.int x0)] []))
      refine own_go (fun t k => XS.iconst X0.here hx rfl (hb hby own_d1_24) k) ?_
      show own_Goes p e below _ (s₁.setTop (mkF m 25 #[.val (.int x0)] [(.int (1 : Int32))]))
      refine own_go (fun t k => XS.goto X0.here hx rfl (pc0 := 25) (pc' := 29) rfl (hb hby own_d1_25) (by decide) (by decide) k) ?_
      rw [show (own_j1_1 x0) = (1 : Int32) from by rw [own_j1_1, if_pos hc1]] at HH5
      exact HH5
    · refine own_go (fun t k => XS.icmpNo X0.here hx rfl (hb hby own_d1_3) rfl (feq hc1).1 k) ?_
      show own_Goes p e below _ (s₁.setTop (mkF m 6 #[.val (.int x0)] []))
      refine own_go (fun t k => XS.iloadN X0.here hx rfl (hb hby own_d1_6) rfl k) ?_
      show own_Goes p e below _ (s₁.setTop (mkF m 7 #[.val (.int x0)] [(.int x0)]))
      refine own_go (fun t k => XS.bipush X0.here hx rfl (hb hby own_d1_7) k) ?_
      show own_Goes p e below _ (s₁.setTop (mkF m 9 #[.val (.int x0)] [(.int (9 : Int32)), (.int x0)]))
      by_cases hc2 : x0 = (9 : Int32)
      · refine own_go (fun t k => XS.icmpYes X0.here hx rfl (pc0 := 9) (pc' := 24) rfl (hb hby own_d1_9) rfl (teq hc2).1 (by decide) (by decide) k) ?_
        show own_Goes p e below _ (s₁.setTop (mkF m 24 #[.val (.int x0)] []))
        refine own_go (fun t k => XS.iconst X0.here hx rfl (hb hby own_d1_24) k) ?_
        show own_Goes p e below _ (s₁.setTop (mkF m 25 #[.val (.int x0)] [(.int (1 : Int32))]))
        refine own_go (fun t k => XS.goto X0.here hx rfl (pc0 := 25) (pc' := 29) rfl (hb hby own_d1_25) (by decide) (by decide) k) ?_
        rw [show (own_j1_1 x0) = (1 : Int32) from by rw [own_j1_1, if_neg hc1, if_pos hc2]] at HH5
        exact HH5
      · refine own_go (fun t k => XS.icmpNo X0.here hx rfl (hb hby own_d1_9) rfl (feq hc2).1 k) ?_
        show own_Goes p e below _ (s₁.setTop (mkF m 12 #[.val (.int x0)] []))
        refine own_go (fun t k => XS.iloadN X0.here hx rfl (hb hby own_d1_12) rfl k) ?_
        show own_Goes p e below _ (s₁.setTop (mkF m 13 #[.val (.int x0)] [(.int x0)]))
        refine own_go (fun t k => XS.bipush X0.here hx rfl (hb hby own_d1_13) k) ?_
        show own_Goes p e below _ (s₁.setTop (mkF m 15 #[.val (.int x0)] [(.int (13 : Int32)), (.int x0)]))
        by_cases hc3 : x0 = (13 : Int32)
        · refine own_go (fun t k => XS.icmpYes X0.here hx rfl (pc0 := 15) (pc' := 24) rfl (hb hby own_d1_15) rfl (teq hc3).1 (by decide) (by decide) k) ?_
          show own_Goes p e below _ (s₁.setTop (mkF m 24 #[.val (.int x0)] []))
          refine own_go (fun t k => XS.iconst X0.here hx rfl (hb hby own_d1_24) k) ?_
          show own_Goes p e below _ (s₁.setTop (mkF m 25 #[.val (.int x0)] [(.int (1 : Int32))]))
          refine own_go (fun t k => XS.goto X0.here hx rfl (pc0 := 25) (pc' := 29) rfl (hb hby own_d1_25) (by decide) (by decide) k) ?_
          rw [show (own_j1_1 x0) = (1 : Int32) from by rw [own_j1_1, if_neg hc1, if_neg hc2, if_pos hc3]] at HH5
          exact HH5
        · refine own_go (fun t k => XS.icmpNo X0.here hx rfl (hb hby own_d1_15) rfl (feq hc3).1 k) ?_
          show own_Goes p e below _ (s₁.setTop (mkF m 18 #[.val (.int x0)] []))
          refine own_go (fun t k => XS.iloadN X0.here hx rfl (hb hby own_d1_18) rfl k) ?_
          show own_Goes p e below _ (s₁.setTop (mkF m 19 #[.val (.int x0)] [(.int x0)]))
          refine own_go (fun t k => XS.bipush X0.here hx rfl (hb hby own_d1_19) k) ?_
          show own_Goes p e below _ (s₁.setTop (mkF m 21 #[.val (.int x0)] [(.int (10 : Int32)), (.int x0)]))
          by_cases hc4 : x0 = (10 : Int32)
          · refine own_go (fun t k => XS.icmpNo X0.here hx rfl (hb hby own_d1_21) rfl (teq hc4).2 k) ?_
            show own_Goes p e below _ (s₁.setTop (mkF m 24 #[.val (.int x0)] []))
            refine own_go (fun t k => XS.iconst X0.here hx rfl (hb hby own_d1_24) k) ?_
            show own_Goes p e below _ (s₁.setTop (mkF m 25 #[.val (.int x0)] [(.int (1 : Int32))]))
            refine own_go (fun t k => XS.goto X0.here hx rfl (pc0 := 25) (pc' := 29) rfl (hb hby own_d1_25) (by decide) (by decide) k) ?_
            rw [show (own_j1_1 x0) = (1 : Int32) from by rw [own_j1_1, if_neg hc1, if_neg hc2, if_neg hc3, if_pos hc4]] at HH5
            exact HH5
          · refine own_go (fun t k => XS.icmpYes X0.here hx rfl (pc0 := 21) (pc' := 28) rfl (hb hby own_d1_21) rfl (feq hc4).2 (by decide) (by decide) k) ?_
            show own_Goes p e below _ (s₁.setTop (mkF m 28 #[.val (.int x0)] []))
            refine own_go (fun t k => XS.iconst X0.here hx rfl (hb hby own_d1_28) k) ?_
            rw [show (own_j1_1 x0) = (0 : Int32) from by rw [own_j1_1, if_neg hc1, if_neg hc2, if_neg hc3, if_neg hc4]] at HH5
            exact HH5
  show own_Goes p e below _ (s₁.setTop (mkF m 29 #[.val (.int x0)] [(.int (own_j1_1 x0))]))
  exact own_retN X0 hx hlk hret (by simp) (z' := ((own_j1_1 x0) &&& 1)) rfl (hb hby own_d1_29) (by decide) (by decide) ⟨by rw [own_f1], N0, e0⟩
theorem own_d2_0 : decode method_2_code 0 = .ok (.iload_n 0, 1) := by decide +kernel
theorem own_d2_1 : decode method_2_code 1 = .ok (.bipush 9, 2) := by decide +kernel
theorem own_d2_3 : decode method_2_code 3 = .ok (.if_icmp .lt 9, 3) := by decide +kernel
theorem own_d2_12 : decode method_2_code 12 = .ok (.iconst 0, 1) := by decide +kernel
theorem own_d2_6 : decode method_2_code 6 = .ok (.iload_n 0, 1) := by decide +kernel
theorem own_d2_7 : decode method_2_code 7 = .ok (.bipush 32, 2) := by decide +kernel
theorem own_d2_9 : decode method_2_code 9 = .ok (.if_icmp .le 5, 3) := by decide +kernel
theorem own_d2_14 : decode method_2_code 14 = .ok (.ldc2_w 7, 3) := by decide +kernel
theorem own_t8 : (Jvm.Cond.constantLong "com/example/hermod/hermod/header/FieldTokenizerIsWhiteSpacePinLaw" (7 : Nat) (8388627 : Int64)) ∈ tables_1 := List.mem_of_getElem? (i := 8) rfl
theorem own_d2_17 : decode method_2_code 17 = .ok (.iload_n 0, 1) := by decide +kernel
theorem own_d2_18 : decode method_2_code 18 = .ok (.bipush 9, 2) := by decide +kernel
theorem own_d2_20 : decode method_2_code 20 = .ok (.isub, 1) := by decide +kernel
theorem own_d2_21 : decode method_2_code 21 = .ok (.lushr, 1) := by decide +kernel
theorem own_d2_22 : decode method_2_code 22 = .ok (.lconst 1, 1) := by decide +kernel
theorem own_d2_23 : decode method_2_code 23 = .ok (.land, 1) := by decide +kernel
theorem own_d2_24 : decode method_2_code 24 = .ok (.lconst 0, 1) := by decide +kernel
theorem own_d2_25 : decode method_2_code 25 = .ok (.lcmp, 1) := by decide +kernel
theorem own_d2_26 : decode method_2_code 26 = .ok (.ifCond .eq 7, 3) := by decide +kernel
theorem own_d2_33 : decode method_2_code 33 = .ok (.iconst 0, 1) := by decide +kernel
theorem own_d2_29 : decode method_2_code 29 = .ok (.iconst 1, 1) := by decide +kernel
theorem own_d2_30 : decode method_2_code 30 = .ok (.goto 4, 3) := by decide +kernel
theorem own_pn1 : plainName "com/example/hermod/hermod/header/FieldTokenizerIsWhiteSpacePinLaw" = true := by first | (simp [plainName, overriddenIn]; done) | decide +kernel
theorem own_d2_13 : decode method_2_code 13 = .ok (.ireturn, 1) := by decide +kernel
theorem own_d2_34 : decode method_2_code 34 = .ok (.ireturn, 1) := by decide +kernel
def own_j2_1 (x0 : Int32) : Int32 := (if ((((8388627 : Int64).toUInt64 >>> ((x0 - (9 : Int32)) &&& 0x3f).toInt64.toUInt64).toInt64) &&& (1 : Int64)) = (0 : Int64) then (0 : Int32) else (1 : Int32))
def own_f2 (x0 : Int32) : Int32 := (if x0 < (9 : Int32) then (0 : Int32) else (if (32 : Int32) < x0 then (0 : Int32) else ((own_j2_1 x0) &&& 1)))
def own_Q2 (x0 : Int32) (h0 : Heap) (n0 : Nat) (v : Option Value) (h : Heap) (L : List Loc) : Prop := v = some (.int (own_f2 x0)) ∧ Fr n0 L ∧ h = h0
abbrev own_R2 : Room := { frames := 0, cells := 0, slots := 0, locals := 0 }
theorem own_ef2 (m : MethodId) (z0 : Int32) : entryFrame m #[(.int z0)] 1 = mkF m 0 #[.val (.int z0)] [] := by first | (simp [entryFrame, mkF, argsToLocals, Value.category]; done) | rfl
set_option maxRecDepth 65536 in
set_option maxHeartbeats 40000000 in
theorem rm2 (l : Launch) (Z : State) (a0 : Array Value) (hw : ∀ d ∈ tables_1, d.before a0 Z = true) (ws : List Jvm.Cond) (x0 : Int32) (h0 : Heap) (n0 : Nat) : own_Met l Z (⟨"com/example/hermod/hermod/header/FieldTokenizerIsWhiteSpacePinLaw", "reference", "(I)Z"⟩ : MethodName) method_2_code 1 (some .boolean) ws own_R2 #[(.int x0)] h0 (own_Q2 x0 h0 n0) := by
  refine own_met (plainFor_of_name own_pn1) ?_
  intro p e s m below meth c s₁ hx hby hml hown hnm hret hlk hZ e0 X0
  have N0 := Fr.nil n0
  have hml : c.maxLocals = 1 := hml
  have hown : s.vm.findClass "com/example/hermod/hermod/header/FieldTokenizerIsWhiteSpacePinLaw" = some m.cls := hown
  have hret : meth.sig.returnType = (some .boolean) := hret
  have hby : c.code = method_2_code := hby
  have hnm : meth.name = "reference" := hnm
  rw [own_ef2]
  show own_Goes p e below _ (s₁.setTop (mkF m 0 #[.val (.int x0)] []))
  refine own_go (fun t k => XS.iloadN X0.here hx rfl (hb hby own_d2_0) rfl k) ?_
  show own_Goes p e below _ (s₁.setTop (mkF m 1 #[.val (.int x0)] [(.int x0)]))
  refine own_go (fun t k => XS.bipush X0.here hx rfl (hb hby own_d2_1) k) ?_
  show own_Goes p e below _ (s₁.setTop (mkF m 3 #[.val (.int x0)] [(.int (9 : Int32)), (.int x0)]))
  by_cases hc6 : x0 < (9 : Int32)
  · refine own_go (fun t k => XS.icmpYes X0.here hx rfl (pc0 := 3) (pc' := 12) rfl (hb hby own_d2_3) rfl (tlt hc6).1 (by decide) (by decide) k) ?_
    show own_Goes p e below _ (s₁.setTop (mkF m 12 #[.val (.int x0)] []))
    refine own_go (fun t k => XS.iconst X0.here hx rfl (hb hby own_d2_12) k) ?_
    show own_Goes p e below _ (s₁.setTop (mkF m 13 #[.val (.int x0)] [(.int (0 : Int32))]))
    exact own_retN X0 hx hlk hret (by simp) (z' := (0 : Int32)) rfl (hb hby own_d2_13) (by decide) (by decide) ⟨by rw [own_f2, if_pos hc6], N0, e0⟩
  · refine own_go (fun t k => XS.icmpNo X0.here hx rfl (hb hby own_d2_3) rfl (flt hc6).1 k) ?_
    show own_Goes p e below _ (s₁.setTop (mkF m 6 #[.val (.int x0)] []))
    refine own_go (fun t k => XS.iloadN X0.here hx rfl (hb hby own_d2_6) rfl k) ?_
    show own_Goes p e below _ (s₁.setTop (mkF m 7 #[.val (.int x0)] [(.int x0)]))
    refine own_go (fun t k => XS.bipush X0.here hx rfl (hb hby own_d2_7) k) ?_
    show own_Goes p e below _ (s₁.setTop (mkF m 9 #[.val (.int x0)] [(.int (32 : Int32)), (.int x0)]))
    by_cases hc7 : (32 : Int32) < x0
    · refine own_go (fun t k => XS.icmpNo X0.here hx rfl (hb hby own_d2_9) rfl (tlt hc7).2.2.2 k) ?_
      show own_Goes p e below _ (s₁.setTop (mkF m 12 #[.val (.int x0)] []))
      refine own_go (fun t k => XS.iconst X0.here hx rfl (hb hby own_d2_12) k) ?_
      show own_Goes p e below _ (s₁.setTop (mkF m 13 #[.val (.int x0)] [(.int (0 : Int32))]))
      exact own_retN X0 hx hlk hret (by simp) (z' := (0 : Int32)) rfl (hb hby own_d2_13) (by decide) (by decide) ⟨by rw [own_f2, if_neg hc6, if_pos hc7], N0, e0⟩
    · refine own_go (fun t k => XS.icmpYes X0.here hx rfl (pc0 := 9) (pc' := 14) rfl (hb hby own_d2_9) rfl (flt hc7).2.2.2 (by decide) (by decide) k) ?_
      show own_Goes p e below _ (s₁.setTop (mkF m 14 #[.val (.int x0)] []))
      refine own_go (fun t k => X0.ldc2Long hx hown (mvT hZ (hw _ own_t8)) (g := (mkF m 14 #[.val (.int x0)] [])) rfl (hb hby own_d2_14) t k) ?_
      show own_Goes p e below _ (s₁.setTop (mkF m 17 #[.val (.int x0)] [(.long (8388627 : Int64))]))
      refine own_go (fun t k => XS.iloadN X0.here hx rfl (hb hby own_d2_17) rfl k) ?_
      show own_Goes p e below _ (s₁.setTop (mkF m 18 #[.val (.int x0)] [(.int x0), (.long (8388627 : Int64))]))
      refine own_go (fun t k => XS.bipush X0.here hx rfl (hb hby own_d2_18) k) ?_
      show own_Goes p e below _ (s₁.setTop (mkF m 20 #[.val (.int x0)] [(.int (9 : Int32)), (.int x0), (.long (8388627 : Int64))]))
      refine own_go (fun t k => XS.isub X0.here hx rfl (hb hby own_d2_20) rfl k) ?_
      show own_Goes p e below _ (s₁.setTop (mkF m 21 #[.val (.int x0)] [(.int (x0 - (9 : Int32))), (.long (8388627 : Int64))]))
      refine own_go (fun t k => XS.lushr X0.here hx rfl (hb hby own_d2_21) rfl k) ?_
      show own_Goes p e below _ (s₁.setTop (mkF m 22 #[.val (.int x0)] [(.long (((8388627 : Int64).toUInt64 >>> ((x0 - (9 : Int32)) &&& 0x3f).toInt64.toUInt64).toInt64))]))
      refine own_go (fun t k => XS.lconst X0.here hx rfl (hb hby own_d2_22) k) ?_
      show own_Goes p e below _ (s₁.setTop (mkF m 23 #[.val (.int x0)] [(.long (1 : Int64)), (.long (((8388627 : Int64).toUInt64 >>> ((x0 - (9 : Int32)) &&& 0x3f).toInt64.toUInt64).toInt64))]))
      refine own_go (fun t k => XS.land X0.here hx rfl (hb hby own_d2_23) rfl k) ?_
      show own_Goes p e below _ (s₁.setTop (mkF m 24 #[.val (.int x0)] [(.long ((((8388627 : Int64).toUInt64 >>> ((x0 - (9 : Int32)) &&& 0x3f).toInt64.toUInt64).toInt64) &&& (1 : Int64)))]))
      refine own_go (fun t k => XS.lconst X0.here hx rfl (hb hby own_d2_24) k) ?_
      show own_Goes p e below _ (s₁.setTop (mkF m 25 #[.val (.int x0)] [(.long (0 : Int64)), (.long ((((8388627 : Int64).toUInt64 >>> ((x0 - (9 : Int32)) &&& 0x3f).toInt64.toUInt64).toInt64) &&& (1 : Int64)))]))
      refine own_go (fun t k => XS.lcmp X0.here hx rfl (hb hby own_d2_25) rfl k) ?_
      show own_Goes p e below _ (s₁.setTop (mkF m 26 #[.val (.int x0)] [(.int (lcmpW ((((8388627 : Int64).toUInt64 >>> ((x0 - (9 : Int32)) &&& 0x3f).toInt64.toUInt64).toInt64) &&& (1 : Int64)) (0 : Int64)))]))
      suffices HH9 : own_Goes p e below (own_End s own_R2 (own_Q2 x0 h0 n0)) (s₁.setTop (mkF m 34 #[.val (.int x0)] [(.int (own_j2_1 x0))])) by
        by_cases hc8 : ((((8388627 : Int64).toUInt64 >>> ((x0 - (9 : Int32)) &&& 0x3f).toInt64.toUInt64).toInt64) &&& (1 : Int64)) = (0 : Int64)
        · refine own_go (fun t k => XS.ifYes X0.here hx rfl (pc0 := 26) (pc' := 33) rfl (hb hby own_d2_26) rfl ((if0 _ _).trans (teq ((lw_eq _ _).mpr hc8)).1) (by decide) (by decide) k) ?_
          show own_Goes p e below _ (s₁.setTop (mkF m 33 #[.val (.int x0)] []))
          refine own_go (fun t k => XS.iconst X0.here hx rfl (hb hby own_d2_33) k) ?_
          rw [show (own_j2_1 x0) = (0 : Int32) from by rw [own_j2_1, if_pos hc8]] at HH9
          exact HH9
        · refine own_go (fun t k => XS.ifNo X0.here hx rfl (hb hby own_d2_26) rfl ((if0 _ _).trans (feq (fun q => hc8 ((lw_eq _ _).mp q))).1) k) ?_
          show own_Goes p e below _ (s₁.setTop (mkF m 29 #[.val (.int x0)] []))
          refine own_go (fun t k => XS.iconst X0.here hx rfl (hb hby own_d2_29) k) ?_
          show own_Goes p e below _ (s₁.setTop (mkF m 30 #[.val (.int x0)] [(.int (1 : Int32))]))
          refine own_go (fun t k => XS.goto X0.here hx rfl (pc0 := 30) (pc' := 34) rfl (hb hby own_d2_30) (by decide) (by decide) k) ?_
          rw [show (own_j2_1 x0) = (1 : Int32) from by rw [own_j2_1, if_neg hc8]] at HH9
          exact HH9
      show own_Goes p e below _ (s₁.setTop (mkF m 34 #[.val (.int x0)] [(.int (own_j2_1 x0))]))
      exact own_retN X0 hx hlk hret (by simp) (z' := ((own_j2_1 x0) &&& 1)) rfl (hb hby own_d2_34) (by decide) (by decide) ⟨by rw [own_f2, if_neg hc6, if_neg hc7], N0, e0⟩
theorem own_t0 : (Jvm.Cond.methodLink "com/example/hermod/hermod/header/FieldTokenizerIsWhiteSpacePinLaw" (9 : Nat) ({ cls := "com/example/hermod/hermod/header/FieldTokenizer", name := "isWhiteSpace", desc := "(I)Z" } : Jvm.MethodName)) ∈ tables_1 := List.mem_of_getElem? (i := 0) rfl
theorem own_pd0 : parseMethodDescriptor "(I)Z" = some ⟨[.int], some .boolean⟩ := by decide +kernel
theorem own_t1 : (Jvm.Cond.static ({ cls := "com/example/hermod/hermod/header/FieldTokenizer", name := "isWhiteSpace", desc := "(I)Z" } : Jvm.MethodName)) ∈ tables_1 := List.mem_of_getElem? (i := 1) rfl
theorem own_t2 : (Jvm.Cond.initialized "com/example/hermod/hermod/header/FieldTokenizer") ∈ tables_1 := List.mem_of_getElem? (i := 2) rfl
theorem own_t3 : (Jvm.Cond.code ({ cls := "com/example/hermod/hermod/header/FieldTokenizer", name := "isWhiteSpace", desc := "(I)Z" } : Jvm.MethodName) prog_31_method_14_code (1 : Nat) (Option.some Jvm.ClassFile.FieldType.boolean)) ∈ tables_1 := List.mem_of_getElem? (i := 3) rfl
theorem own_t4 : (Jvm.Cond.methodLink "com/example/hermod/hermod/header/FieldTokenizerIsWhiteSpacePinLaw" (15 : Nat) ({ cls := "com/example/hermod/hermod/header/FieldTokenizerIsWhiteSpacePinLaw", name := "reference", desc := "(I)Z" } : Jvm.MethodName)) ∈ tables_1 := List.mem_of_getElem? (i := 4) rfl
theorem own_t5 : (Jvm.Cond.static ({ cls := "com/example/hermod/hermod/header/FieldTokenizerIsWhiteSpacePinLaw", name := "reference", desc := "(I)Z" } : Jvm.MethodName)) ∈ tables_1 := List.mem_of_getElem? (i := 5) rfl
theorem own_t6 : (Jvm.Cond.initialized "com/example/hermod/hermod/header/FieldTokenizerIsWhiteSpacePinLaw") ∈ tables_1 := List.mem_of_getElem? (i := 6) rfl
theorem own_t7 : (Jvm.Cond.code ({ cls := "com/example/hermod/hermod/header/FieldTokenizerIsWhiteSpacePinLaw", name := "reference", desc := "(I)Z" } : Jvm.MethodName) method_2_code (1 : Nat) (Option.some Jvm.ClassFile.FieldType.boolean)) ∈ tables_1 := List.mem_of_getElem? (i := 7) rfl
def own_j0_1 (x0 : Int32) (x1 : Int32) : Int32 := (if (own_f1 x0) = (own_f2 x0) then (if (own_f1 (x1 &&& (127 : Int32))) = (own_f2 (x1 &&& (127 : Int32))) then (1 : Int32) else (0 : Int32)) else (0 : Int32))
def own_f0 (x0 : Int32) (x1 : Int32) : Int32 := ((own_j0_1 x0 x1) &&& 1)
def own_Q0 (x0 : Int32) (x1 : Int32) (h0 : Heap) (n0 : Nat) (v : Option Value) (h : Heap) (L : List Loc) : Prop := v = some (.int (own_f0 x0 x1)) ∧ Fr n0 L ∧ True
theorem own_ef0 (m : MethodId) (z0 : Int32) (z1 : Int32) : entryFrame m #[(.int z0), (.int z1)] maxLocals = mkF m 0 #[.val (.int z0), .val (.int z1), .unset, .unset, .unset] [] := by first | (simp [entryFrame, mkF, argsToLocals, Value.category, maxLocals]; done) | rfl
set_option maxRecDepth 65536 in
set_option maxHeartbeats 40000000 in
theorem rm0 (l : Launch) (Z : State) (a0 : Array Value) (hw : ∀ d ∈ tables_1, d.before a0 Z = true) (ws : List Jvm.Cond) (x0 : Int32) (x1 : Int32) (h0 : Heap) (n0 : Nat) : own_Met l Z x code maxLocals ret ws room_1 #[(.int x0), (.int x1)] h0 (own_Q0 x0 x1 h0 n0) := by
  refine own_met (plainFor_of_name own_pn1) ?_
  intro p e s m below meth c s₁ hx hby hml hown hnm hret hlk hZ e0 X0
  have N0 := Fr.nil n0
  have hml : c.maxLocals = 5 := hml
  have hown : s.vm.findClass "com/example/hermod/hermod/header/FieldTokenizerIsWhiteSpacePinLaw" = some m.cls := hown
  have hret : meth.sig.returnType = (some .boolean) := hret
  have hby : c.code = code := hby
  have hnm : meth.name = "law" := hnm
  rw [own_ef0]
  show own_Goes p e below _ (s₁.setTop (mkF m 0 #[.val (.int x0), .val (.int x1), .unset, .unset, .unset] []))
  refine own_go (fun t k => XS.iloadN X0.here hx rfl (hb hby at_0) rfl k) ?_
  show own_Goes p e below _ (s₁.setTop (mkF m 1 #[.val (.int x0), .val (.int x1), .unset, .unset, .unset] [(.int x1)]))
  refine own_go (fun t k => XS.bipush X0.here hx rfl (hb hby at_1) k) ?_
  show own_Goes p e below _ (s₁.setTop (mkF m 3 #[.val (.int x0), .val (.int x1), .unset, .unset, .unset] [(.int (127 : Int32)), (.int x1)]))
  refine own_go (fun t k => XS.iand X0.here hx rfl (hb hby at_3) rfl k) ?_
  show own_Goes p e below _ (s₁.setTop (mkF m 4 #[.val (.int x0), .val (.int x1), .unset, .unset, .unset] [(.int (x1 &&& (127 : Int32)))]))
  refine own_go (fun t k => XS.istoreN X0.here hx rfl (hb hby at_4) rfl (l' := #[.val (.int x0), .val (.int x1), .val (.int (x1 &&& (127 : Int32))), .unset, .unset]) rfl k) ?_
  show own_Goes p e below _ (s₁.setTop (mkF m 5 #[.val (.int x0), .val (.int x1), .val (.int (x1 &&& (127 : Int32))), .unset, .unset] []))
  refine own_go (fun t k => XS.iloadN X0.here hx rfl (hb hby at_5) rfl k) ?_
  show own_Goes p e below _ (s₁.setTop (mkF m 6 #[.val (.int x0), .val (.int x1), .val (.int (x1 &&& (127 : Int32))), .unset, .unset] [(.int x0)]))
  obtain ⟨_, T10, L10, X10, ⟨rfl, N10q, e10⟩, st10⟩ := own_callS X0 hx hZ hown (hw _ own_t0) (hw _ own_t1) (hw _ own_t2) (hw _ own_t3) (by decide) (as := [(.int x0)]) (rm1 l Z a0 hw [] x0 h0 n0) e0 own_pd0 rfl (pc := 6) (Ls := #[.val (.int x0), .val (.int x1), .val (.int (x1 &&& (127 : Int32))), .unset, .unset]) (rest := []) (W := 0) (by rw [hml]; rfl) (Nat.le_of_eq rfl) (by decide) (by decide) (hb hby at_6) (by decide) (by decide)
  have N10 := Fr.app N0 N10q
  refine own_go st10 ?_
  show own_Goes p e below _ (T10.setTop (mkF m 9 #[.val (.int x0), .val (.int x1), .val (.int (x1 &&& (127 : Int32))), .unset, .unset] [(.int (own_f1 x0))]))
  refine own_go (fun t k => XS.istoreN X10.here hx rfl (hb hby at_9) rfl (l' := #[.val (.int x0), .val (.int x1), .val (.int (x1 &&& (127 : Int32))), .val (.int (own_f1 x0)), .unset]) rfl k) ?_
  show own_Goes p e below _ (T10.setTop (mkF m 10 #[.val (.int x0), .val (.int x1), .val (.int (x1 &&& (127 : Int32))), .val (.int (own_f1 x0)), .unset] []))
  refine own_go (fun t k => XS.iloadN X10.here hx rfl (hb hby at_10) rfl k) ?_
  show own_Goes p e below _ (T10.setTop (mkF m 11 #[.val (.int x0), .val (.int x1), .val (.int (x1 &&& (127 : Int32))), .val (.int (own_f1 x0)), .unset] [(.int (x1 &&& (127 : Int32)))]))
  obtain ⟨_, T11, L11, X11, ⟨rfl, N11q, e11⟩, st11⟩ := own_callS X10 hx hZ hown (hw _ own_t0) (hw _ own_t1) (hw _ own_t2) (hw _ own_t3) (by decide) (as := [(.int (x1 &&& (127 : Int32)))]) (rm1 l Z a0 hw [] (x1 &&& (127 : Int32)) h0 n0) e10 own_pd0 rfl (pc := 11) (Ls := #[.val (.int x0), .val (.int x1), .val (.int (x1 &&& (127 : Int32))), .val (.int (own_f1 x0)), .unset]) (rest := []) (W := 0) (by rw [hml]; rfl) (Nat.le_of_eq rfl) (by decide) (by decide) (hb hby at_11) (by decide) (by decide)
  have N11 := Fr.app N10 N11q
  refine own_go st11 ?_
  show own_Goes p e below _ (T11.setTop (mkF m 14 #[.val (.int x0), .val (.int x1), .val (.int (x1 &&& (127 : Int32))), .val (.int (own_f1 x0)), .unset] [(.int (own_f1 (x1 &&& (127 : Int32))))]))
  refine own_go (fun t k => XS.istore X11.here hx rfl (hb hby at_14) rfl (l' := #[.val (.int x0), .val (.int x1), .val (.int (x1 &&& (127 : Int32))), .val (.int (own_f1 x0)), .val (.int (own_f1 (x1 &&& (127 : Int32))))]) rfl k) ?_
  show own_Goes p e below _ (T11.setTop (mkF m 16 #[.val (.int x0), .val (.int x1), .val (.int (x1 &&& (127 : Int32))), .val (.int (own_f1 x0)), .val (.int (own_f1 (x1 &&& (127 : Int32))))] []))
  refine own_go (fun t k => XS.iloadN X11.here hx rfl (hb hby at_16) rfl k) ?_
  show own_Goes p e below _ (T11.setTop (mkF m 17 #[.val (.int x0), .val (.int x1), .val (.int (x1 &&& (127 : Int32))), .val (.int (own_f1 x0)), .val (.int (own_f1 (x1 &&& (127 : Int32))))] [(.int (own_f1 x0))]))
  refine own_go (fun t k => XS.iloadN X11.here hx rfl (hb hby at_17) rfl k) ?_
  show own_Goes p e below _ (T11.setTop (mkF m 18 #[.val (.int x0), .val (.int x1), .val (.int (x1 &&& (127 : Int32))), .val (.int (own_f1 x0)), .val (.int (own_f1 (x1 &&& (127 : Int32))))] [(.int x0), (.int (own_f1 x0))]))
  obtain ⟨_, T12, L12, X12, ⟨rfl, N12q, e12⟩, st12⟩ := own_callS X11 hx hZ hown (hw _ own_t4) (hw _ own_t5) (hw _ own_t6) (hw _ own_t7) (by decide) (as := [(.int x0)]) (rm2 l Z a0 hw [] x0 h0 n0) e11 own_pd0 rfl (pc := 18) (Ls := #[.val (.int x0), .val (.int x1), .val (.int (x1 &&& (127 : Int32))), .val (.int (own_f1 x0)), .val (.int (own_f1 (x1 &&& (127 : Int32))))]) (rest := [(.int (own_f1 x0))]) (W := 1) (by rw [hml]; rfl) (Nat.le_of_eq rfl) (by decide) (by decide) (hb hby at_18) (by decide) (by decide)
  have N12 := Fr.app N11 N12q
  refine own_go st12 ?_
  show own_Goes p e below _ (T12.setTop (mkF m 21 #[.val (.int x0), .val (.int x1), .val (.int (x1 &&& (127 : Int32))), .val (.int (own_f1 x0)), .val (.int (own_f1 (x1 &&& (127 : Int32))))] [(.int (own_f2 x0)), (.int (own_f1 x0))]))
  suffices HH16 : ∀ (T16 : State) (L16 : List Loc) (X16 : Stand p l e room_1 s m #[(.int x0), (.int x1)] below meth c T16 L16 0 0) (e16 : T16.heap = h0) (N16 : Fr n0 L16), own_Goes p e below (own_End s room_1 (own_Q0 x0 x1 h0 n0)) (T16.setTop (mkF m 38 #[.val (.int x0), .val (.int x1), .val (.int (x1 &&& (127 : Int32))), .val (.int (own_f1 x0)), .val (.int (own_f1 (x1 &&& (127 : Int32))))] [(.int (own_j0_1 x0 x1))])) by
    by_cases hc13 : (own_f1 x0) = (own_f2 x0)
    · refine own_go (fun t k => XS.icmpNo X12.here hx rfl (hb hby at_21) rfl (teq hc13).2 k) ?_
      show own_Goes p e below _ (T12.setTop (mkF m 24 #[.val (.int x0), .val (.int x1), .val (.int (x1 &&& (127 : Int32))), .val (.int (own_f1 x0)), .val (.int (own_f1 (x1 &&& (127 : Int32))))] []))
      refine own_go (fun t k => XS.iload X12.here hx rfl (hb hby at_24) rfl k) ?_
      show own_Goes p e below _ (T12.setTop (mkF m 26 #[.val (.int x0), .val (.int x1), .val (.int (x1 &&& (127 : Int32))), .val (.int (own_f1 x0)), .val (.int (own_f1 (x1 &&& (127 : Int32))))] [(.int (own_f1 (x1 &&& (127 : Int32))))]))
      refine own_go (fun t k => XS.iloadN X12.here hx rfl (hb hby at_26) rfl k) ?_
      show own_Goes p e below _ (T12.setTop (mkF m 27 #[.val (.int x0), .val (.int x1), .val (.int (x1 &&& (127 : Int32))), .val (.int (own_f1 x0)), .val (.int (own_f1 (x1 &&& (127 : Int32))))] [(.int (x1 &&& (127 : Int32))), (.int (own_f1 (x1 &&& (127 : Int32))))]))
      obtain ⟨_, T14, L14, X14, ⟨rfl, N14q, e14⟩, st14⟩ := own_callS X12 hx hZ hown (hw _ own_t4) (hw _ own_t5) (hw _ own_t6) (hw _ own_t7) (by decide) (as := [(.int (x1 &&& (127 : Int32)))]) (rm2 l Z a0 hw [] (x1 &&& (127 : Int32)) h0 n0) e12 own_pd0 rfl (pc := 27) (Ls := #[.val (.int x0), .val (.int x1), .val (.int (x1 &&& (127 : Int32))), .val (.int (own_f1 x0)), .val (.int (own_f1 (x1 &&& (127 : Int32))))]) (rest := [(.int (own_f1 (x1 &&& (127 : Int32))))]) (W := 1) (by rw [hml]; rfl) (Nat.le_of_eq rfl) (by decide) (by decide) (hb hby at_27) (by decide) (by decide)
      have N14 := Fr.app N12 N14q
      refine own_go st14 ?_
      show own_Goes p e below _ (T14.setTop (mkF m 30 #[.val (.int x0), .val (.int x1), .val (.int (x1 &&& (127 : Int32))), .val (.int (own_f1 x0)), .val (.int (own_f1 (x1 &&& (127 : Int32))))] [(.int (own_f2 (x1 &&& (127 : Int32)))), (.int (own_f1 (x1 &&& (127 : Int32))))]))
      by_cases hc15 : (own_f1 (x1 &&& (127 : Int32))) = (own_f2 (x1 &&& (127 : Int32)))
      · refine own_go (fun t k => XS.icmpNo X14.here hx rfl (hb hby at_30) rfl (teq hc15).2 k) ?_
        show own_Goes p e below _ (T14.setTop (mkF m 33 #[.val (.int x0), .val (.int x1), .val (.int (x1 &&& (127 : Int32))), .val (.int (own_f1 x0)), .val (.int (own_f1 (x1 &&& (127 : Int32))))] []))
        refine own_go (fun t k => XS.iconst X14.here hx rfl (hb hby at_33) k) ?_
        show own_Goes p e below _ (T14.setTop (mkF m 34 #[.val (.int x0), .val (.int x1), .val (.int (x1 &&& (127 : Int32))), .val (.int (own_f1 x0)), .val (.int (own_f1 (x1 &&& (127 : Int32))))] [(.int (1 : Int32))]))
        refine own_go (fun t k => XS.goto X14.here hx rfl (pc0 := 34) (pc' := 38) rfl (hb hby at_34) (by decide) (by decide) k) ?_
        rw [show (own_j0_1 x0 x1) = (1 : Int32) from by rw [own_j0_1, if_pos hc13, if_pos hc15]] at HH16
        exact HH16 _ _ X14 e14 N14
      · refine own_go (fun t k => XS.icmpYes X14.here hx rfl (pc0 := 30) (pc' := 37) rfl (hb hby at_30) rfl (feq hc15).2 (by decide) (by decide) k) ?_
        show own_Goes p e below _ (T14.setTop (mkF m 37 #[.val (.int x0), .val (.int x1), .val (.int (x1 &&& (127 : Int32))), .val (.int (own_f1 x0)), .val (.int (own_f1 (x1 &&& (127 : Int32))))] []))
        refine own_go (fun t k => XS.iconst X14.here hx rfl (hb hby at_37) k) ?_
        rw [show (own_j0_1 x0 x1) = (0 : Int32) from by rw [own_j0_1, if_pos hc13, if_neg hc15]] at HH16
        exact HH16 _ _ X14 e14 N14
    · refine own_go (fun t k => XS.icmpYes X12.here hx rfl (pc0 := 21) (pc' := 37) rfl (hb hby at_21) rfl (feq hc13).2 (by decide) (by decide) k) ?_
      show own_Goes p e below _ (T12.setTop (mkF m 37 #[.val (.int x0), .val (.int x1), .val (.int (x1 &&& (127 : Int32))), .val (.int (own_f1 x0)), .val (.int (own_f1 (x1 &&& (127 : Int32))))] []))
      refine own_go (fun t k => XS.iconst X12.here hx rfl (hb hby at_37) k) ?_
      rw [show (own_j0_1 x0 x1) = (0 : Int32) from by rw [own_j0_1, if_neg hc13]] at HH16
      exact HH16 _ _ X12 e12 N12
  intro T16 L16 X16 e16 N16
  show own_Goes p e below _ (T16.setTop (mkF m 38 #[.val (.int x0), .val (.int x1), .val (.int (x1 &&& (127 : Int32))), .val (.int (own_f1 x0)), .val (.int (own_f1 (x1 &&& (127 : Int32))))] [(.int (own_j0_1 x0 x1))]))
  exact own_retN X16 hx hlk hret (by simp) (z' := ((own_j0_1 x0 x1) &&& 1)) rfl (hb hby at_38) (by decide) (by decide) ⟨by rw [own_f0], N16, trivial⟩
theorem own_f12 (c : Int32) : own_f1 c = own_f2 c := by
  by_cases h1 : c.toInt < 9
  · have e2 : own_f2 c = 0 := by unfold own_f2; rw [if_pos (Int32.lt_iff_toInt_lt.mpr h1)]
    have n : ∀ k : Int32, 9 ≤ k.toInt → ¬ c = k := fun k hk q => by rw [q] at h1; omega
    rw [e2]; unfold own_f1 own_j1_1
    rw [if_neg (n _ (by decide)), if_neg (n _ (by decide)), if_neg (n _ (by decide)), if_neg (n _ (by decide))]; rfl
  · by_cases h2 : 32 < c.toInt
    · have e2 : own_f2 c = 0 := by unfold own_f2; rw [if_neg (fun q => h1 (Int32.lt_iff_toInt_lt.mp q)), if_pos (Int32.lt_iff_toInt_lt.mpr (show (32 : Int32).toInt < c.toInt from h2))]
      have n : ∀ k : Int32, k.toInt ≤ 32 → ¬ c = k := fun k hk q => by rw [q] at h2; omega
      rw [e2]; unfold own_f1 own_j1_1
      rw [if_neg (n _ (by decide)), if_neg (n _ (by decide)), if_neg (n _ (by decide)), if_neg (n _ (by decide))]; rfl
    · have key : ∀ n : Fin 24, own_f1 (Int32.ofNat (n.val + 9)) = own_f2 (Int32.ofNat (n.val + 9)) := by decide +kernel
      have hk := key ⟨(c.toInt - 9).toNat, by omega⟩
      have e : Int32.ofNat ((c.toInt - 9).toNat + 9) = c := by
        rw [← Int32.toInt_inj, Int32.toInt_ofNat_of_lt (by omega)]; omega
      simp only [e] at hk
      exact hk
theorem own_law (x y : Int32) : own_f0 x y = 1 := by
  unfold own_f0 own_j0_1
  rw [if_pos (own_f12 _), if_pos (own_f12 _)]; rfl
set_option maxRecDepth 65536 in
set_option maxHeartbeats 40000000 in
theorem comes_1 {Post : Tables → Env → Array Value → State → Outcome → State → Prop} (hpost : ∀ tb e args s v u, (limb_1_1.after args s (.returned v) u = true ∧ limb_1_2.after args s (.returned v) u = true) → FrameEnd s (.returned v) u (Jvm.fieldLocs frame_1_writes args s ++ Jvm.arrayLocs frame_1_arrays args s ++ Jvm.staticLocs frame_1_statics s) 0 0 → Post tb e args s (.returned v) u) :
    ArmFor flags0 classFile x code maxLocals ret World_1 tables_1 room_1 Calls_1 rest_1 Pre_1 Post := by
  intro l hfl _ _ p e ha hc hk s m args below hf hA hF happ hP
  obtain ⟨hcalls, hrest, hpre⟩ := hP
  obtain ⟨-, -, -, hnamed, -, -, -, hat⟩ := (Spec.applies_iff hf).mp happ
  obtain ⟨hg, hn⟩ := and_e (Cond.before_iff.mp (show (Jvm.Cond.and given_1 narrow_1).before args s = true from hpre))
  obtain ⟨gg1, gg2⟩ := and_e hg
  obtain ⟨gg3, gg4⟩ := and_e gg2
  obtain ⟨w0, w1, rfl⟩ : ∃ w0 w1 : Value, args = #[w0, w1] := by
    have hs : args.size = 2 := by simpa [Cond.value, given_1] using gg1
    obtain ⟨L⟩ := args
    match L, hs with
    | [w0, w1], _ => exact ⟨w0, w1, rfl⟩
  have hw := fun d (hd : d ∈ tables_1) => atoms_spec (ws := Jvm.Cond.code x code maxLocals ret :: tables_1) hat d (List.mem_cons_of_mem _ hd)
  have hfit : Fit s := fun {y c} hc i hi => by
    obtain ⟨ha, rfl⟩ := Array.getElem?_eq_some_iff.mp hc
    have q := List.all_eq_true.mp ((Array.all_eq_true_iff_forall_mem.mp hF) _ (Array.getElem_mem ha)) i (List.mem_range.mpr hi)
    simpa [Array.getElem?_eq_getElem hi] using q
  obtain ⟨i0, ei0⟩ := is_v gg3
  obtain rfl : w0 = (.int i0) := Option.some.inj ei0
  obtain ⟨i1, ei1⟩ := is_v gg4
  obtain rfl : w1 = (.int i1) := Option.some.inj ei1
  obtain ⟨n, o, h1, h2, h3, v, L, rfl, hQ, hq⟩ := rm0 l s _ hw tables_1 i0 i1 s.heap s.heap.size p e ha hc hk s m _ below hf ((Spec.applies_iff_loose hf).mp happ).1 ⟨rfl, State.Warmed39.refl s, rfl⟩ trivial
  obtain ⟨hv, N, -⟩ := hQ
  rw [show (own_f0 i0 i1 : Int32) = 1 from own_law i0 i1] at hv
  subst hv
  refine ⟨n, _, h1, h2, h3, hpost _ _ _ _ _ _ ⟨Cond.after_iff.mpr rfl, Cond.after_iff.mpr (eq_i res_at (Term.int_eval (1)) rfl)⟩ ⟨hq.1, hq.2.1, (hq.2.2.sift fun y hy => Or.inr (N y hy)).mono (by decide) (by decide)⟩⟩
theorem main_1_1 : Claimed_1_1 := comes_1 fun _ _ _ _ _ _ h hF => ⟨h.1, hF⟩
theorem main_1_2 : Claimed_1_2 := comes_1 fun _ _ _ _ _ _ h hF => ⟨h.2, hF⟩
end Jvm.Pilot.@@N@@
namespace Jvm.Pilot.@@N@@
open Jvm Jvm.ClassFile Sem Op Lib Jvm.Free Jvm.Stand Jvm.Pilot.@@N@@.Jvm.D
/-! MADE BY PROGRAM (witnessworld.py) out of the Statement's table words and the real class files: 9 classes; the members and pool entries that the words name. The judged class is class 1, her method 2. -/
namespace start1
open Jvm.ClassFile
def u (s : String) : CpInfo := .utf8 (stringToUtf16 s)
/-- a pool by its gaps: so many unusable entries, then the entry; so many at the end -/
def gap : Nat → List CpInfo → List CpInfo
  | 0, r => r
  | n + 1, r => .unusable :: gap n r
def poolList (es : List (Nat × CpInfo)) (last : Nat) : List CpInfo := es.foldr (fun e r => gap e.1 (e.2 :: r)) (gap last [])
def pool (es : List (Nat × CpInfo)) (last : Nat) : Array CpInfo := ⟨poolList es last⟩
def fileOf (pool : Array CpInfo) (this : Nat) (attrs : Array Attribute := #[]) (ms : Array MethodInfo := #[]) (fl : Nat := 33) (sup : Nat := 0) (ifs : Array Nat := #[]) (fds : Array FieldInfo := #[]) : ClassFile where
  minorVersion := 0
  majorVersion := 65
  constantPool := pool
  accessFlags := fl
  thisClass := this
  superClass := sup
  interfaces := ifs
  fields := fds
  methods := ms
  attributes := attrs
def plain (name : String) (sup : Option ClassId) : Class where
  name := name
  kind := .ordinary
  loader := none
  accessFlags := 33
  super := sup
  interfaces := #[]
  cf := none
  fields := #[]
  methods := #[]
  instanceTypes := #[]
  staticTypes := #[]
  resolved := #[]
  callSites := []
  init := .initialized
  statics := none
  mirror := none

def pool0 : Array CpInfo := pool [(5, u "<init>"), (0, u "()V"), (1, .class_ 10), (1, u "java/lang/Object")] 113

def k0m0 : Method := { name := "<init>", desc := "()V", sig := { parameters := [], returnType := none }, accessFlags := 1, code := none }
/-- java/lang/Object -/
def k0 : Class := { plain "java/lang/Object" none with
  accessFlags := 33
  interfaces := #[]
  cf := some (fileOf pool0 8 #[] #[{ accessFlags := 1, nameIndex := 5, descriptorIndex := 6, attributes := #[] }] 33 0 #[] #[])
  fields := #[]
  methods := #[k0m0]
  instanceTypes := #[]
  staticTypes := #[]
  resolved := Array.replicate 124 none
  statics := none }

def pool1 : Array CpInfo := pool [(2, .class_ 4), (1, u "java/lang/Object"), (0, u "<init>"), (0, u "()V"), (0, .long 8388627), (1, .methodref 10 11), (0, .class_ 12), (0, .nameAndType 13 14), (0, u "com/example/hermod/hermod/header/FieldTokenizer"), (0, u "isWhiteSpace"), (0, u "(I)Z"), (0, .methodref 16 17), (0, .class_ 18), (0, .nameAndType 19 14), (0, u "com/example/hermod/hermod/header/FieldTokenizerIsWhiteSpacePinLaw"), (0, u "reference"), (3, u "law"), (0, u "(II)Z")] 2

def k1m0 : Method := { name := "<init>", desc := "()V", sig := { parameters := [], returnType := none }, accessFlags := 1, code := none }
def k1c1 : Code := { maxStack := 4, maxLocals := 1, code := method_2_code, exceptionTable := #[], attributes := #[] }
def k1m1 : Method := { name := "reference", desc := "(I)Z", sig := { parameters := [.int], returnType := some .boolean }, accessFlags := 10, code := some k1c1 }
def k1c2 : Code := { maxStack := 2, maxLocals := 5, code := code, exceptionTable := #[], attributes := #[] }
def k1m2 : Method := { name := "law", desc := "(II)Z", sig := { parameters := [.int, .int], returnType := some .boolean }, accessFlags := 9, code := some k1c2 }
/-- com/example/hermod/hermod/header/FieldTokenizerIsWhiteSpacePinLaw -/
def k1 : Class := { plain "com/example/hermod/hermod/header/FieldTokenizerIsWhiteSpacePinLaw" (some 0) with
  accessFlags := 49
  interfaces := #[]
  cf := some (fileOf pool1 16 #[] #[{ accessFlags := 1, nameIndex := 5, descriptorIndex := 6, attributes := #[] }, { accessFlags := 10, nameIndex := 19, descriptorIndex := 14, attributes := #[] }, { accessFlags := 9, nameIndex := 23, descriptorIndex := 24, attributes := #[] }] 49 2 #[] #[])
  fields := #[]
  methods := #[k1m0, k1m1, k1m2]
  instanceTypes := #[]
  staticTypes := #[]
  resolved := Array.replicate 27 none
  statics := none }

def pool2 : Array CpInfo := pool [(2, .class_ 4), (1, u "java/lang/Object"), (3, .class_ 10), (1, u "com/example/hermod/hermod/header/FieldTokenizer"), (0, u "text"), (0, u "Ljava/lang/String;"), (5, u "position"), (0, u "I"), (47, u "isWhiteSpace"), (0, u "(I)Z"), (19, u "TOKEN_CHARACTERS"), (0, u "[Z"), (13, u "SPECIALS")] 32

def k2c0 : Code := { maxStack := 2, maxLocals := 1, code := prog_31_method_14_code, exceptionTable := #[], attributes := #[] }
def k2m0 : Method := { name := "isWhiteSpace", desc := "(I)Z", sig := { parameters := [.int], returnType := some .boolean }, accessFlags := 8, code := some k2c0 }
/-- com/example/hermod/hermod/header/FieldTokenizer -/
def k2 : Class := { plain "com/example/hermod/hermod/header/FieldTokenizer" (some 0) with
  accessFlags := 32
  interfaces := #[]
  cf := some (fileOf pool2 8 #[] #[{ accessFlags := 8, nameIndex := 67, descriptorIndex := 68, attributes := #[] }] 32 2 #[] #[{ accessFlags := 26, nameIndex := 103, descriptorIndex := 12, attributes := #[] }, { accessFlags := 26, nameIndex := 88, descriptorIndex := 89, attributes := #[] }, { accessFlags := 18, nameIndex := 11, descriptorIndex := 12, attributes := #[] }, { accessFlags := 2, nameIndex := 18, descriptorIndex := 19, attributes := #[] }])
  fields := #[{ name := "SPECIALS", type := (.object "java/lang/String"), accessFlags := 26, slot := 0, constantValue := 0 }, { name := "TOKEN_CHARACTERS", type := (.array .boolean), accessFlags := 26, slot := 1, constantValue := 0 }, { name := "text", type := (.object "java/lang/String"), accessFlags := 18, slot := 0, constantValue := 0 }, { name := "position", type := .int, accessFlags := 2, slot := 1, constantValue := 0 }]
  methods := #[k2m0]
  instanceTypes := #[(.object "java/lang/String"), .int]
  staticTypes := #[(.object "java/lang/String"), (.array .boolean)]
  resolved := Array.replicate 136 none
  statics := none }

def pool3 : Array CpInfo := pool [(1, u "java/lang/Cloneable"), (0, .class_ 1), (0, u "java/lang/Object"), (0, .class_ 3)] 3

/-- java/lang/Cloneable -/
def k3 : Class := { plain "java/lang/Cloneable" (some 0) with
  accessFlags := 1537
  interfaces := #[]
  cf := some (fileOf pool3 2 #[] #[] 1537 4 #[] #[])
  fields := #[]
  methods := #[]
  instanceTypes := #[]
  staticTypes := #[]
  resolved := Array.replicate 8 none
  statics := none }

def pool4 : Array CpInfo := pool [(1, u "java/io/Serializable"), (0, .class_ 1), (0, u "java/lang/Object"), (0, .class_ 3)] 3

/-- java/io/Serializable -/
def k4 : Class := { plain "java/io/Serializable" (some 0) with
  accessFlags := 1537
  interfaces := #[]
  cf := some (fileOf pool4 2 #[] #[] 1537 4 #[] #[])
  fields := #[]
  methods := #[]
  instanceTypes := #[]
  staticTypes := #[]
  resolved := Array.replicate 8 none
  statics := none }

/-- the primitive byte -/
def k5 : Class := { plain "byte" none with kind := .primitive 'B', accessFlags := 0x411 }
/-- [B -/
def k6 : Class := { plain "[B" (some 0) with kind := .array 5 .byte, interfaces := #[3, 4], accessFlags := 1041 }

/-- the primitive int -/
def k7 : Class := { plain "int" none with kind := .primitive 'I', accessFlags := 0x411 }
/-- [I -/
def k8 : Class := { plain "[I" (some 0) with kind := .array 7 .int, interfaces := #[3, 4], accessFlags := 1041 }

def heap : Heap := #[]
def classes : Array Class := #[k0, k1, k2, k3, k4, k5, k6, k7, k8]
def interned : List (Array UInt16 × Addr) := []
def slotsUsed : Nat := 0
def theMethod : MethodId := ⟨1, 2⟩
def args0 : Array Value := #[.int 5, .int 7]
def aboutOver (below : List Frame) : State where
  vm := { classes := classes, interned := interned.toArray }
  heap := heap
  slotsUsed := slotsUsed
  threads := #[{ frames := .invoking theMethod args0 :: below }]
def below0 : List Frame := [.native { method := ⟨0, 0⟩, args := #[] }]
def about1 : State := aboutOver below0
def p0 : Program := .bare "" "" ""
def e0 : Env := launch0.env 0 0 0
theorem w_frames : about1.frames = Frame.invoking theMethod args0 :: below0 := rfl
set_option maxRecDepth 65536 in
theorem w_args : argsFit about1.vm theMethod args0 = true := by decide +kernel
set_option maxRecDepth 65536 in
theorem w_heap : heapFits about1 = true := by decide +kernel
set_option maxRecDepth 65536 in
theorem w_runnable : about1.curStatus? = some .runnable := by decide +kernel
set_option maxRecDepth 65536 in
theorem w_alone : about1.alone = true := by decide +kernel
set_option maxRecDepth 65536 in
theorem w_named : about1.methodNamed? x = some theMethod := by decide +kernel
set_option maxRecDepth 65536 in
theorem w_hears : about1.hears theMethod below0 = true := by decide +kernel
set_option maxRecDepth 65536 in
theorem w_ripe : about1.ripe theMethod args0 below0 = true := by decide +kernel
theorem w_running : about1.status = .running := rfl
set_option maxRecDepth 65536 in
theorem w_room : about1.hasRoom e0.platform room_1 = true :=
  launch0.hasRoom_least _ room_1 (by decide +kernel) (by decide +kernel) (by decide +kernel) (by decide +kernel) (by decide +kernel) (by decide +kernel)
theorem allAtoms_all (ts : List Jvm.Cond) (a : Array Jvm.Value) (st : Jvm.State) : (allAtoms ts).before a st = ts.all (fun c => c.before a st) := by
  induction ts with
  | nil => rfl
  | cons c t ih =>
    show (Jvm.Cond.and c (allAtoms t)).before a st = _
    rw [Jvm.Cond.before_and, ih, List.all_cons]
def words1 : List Jvm.Cond := Jvm.Cond.code x code maxLocals ret :: tables_1
/-- a 'code' word, met by the world's own term for the bytes: nothing is compared byte by byte -/
theorem code_word {y : MethodName} {bytes : ByteArray} {mx : Nat} {rt : Option FieldType} {a : Array Value} {s : State} {m : MethodId} {meth : Method} {c : Code} (h1 : s.methodNamed? y = some m) (h2 : s.vm.method? m = some meth) (h3 : meth.code = some c) (h4 : c.code = bytes)
    (h5 : (c.maxLocals == mx && c.exceptionTable.isEmpty && decide (c.maxStack ≤ mostOperands) && decide (meth.sig.returnType = rt) && !meth.locks && decide (parseMethodDescriptor y.desc = some meth.sig)) = true) : (Jvm.Cond.code y bytes mx rt).before a s = true := by
  simp only [Bool.and_eq_true, beq_iff_eq, Bool.not_eq_true', decide_eq_true_eq] at h5
  obtain ⟨⟨⟨⟨⟨g1, g2⟩, g3⟩, g4⟩, g5⟩, g6⟩ := h5
  simp [Cond.before, Cond.holds, Cond.value, h1, h2, h3, h4, g1, g2, g3, g4, g5, g6]
def isCode : Jvm.Cond → Bool
  | .code _ _ _ _ => true
  | _ => false
theorem all_split {L : List Jvm.Cond} {P : Jvm.Cond → Bool} (h1 : L.all (fun c => isCode c || P c) = true) (h2 : ∀ c ∈ L.filter isCode, P c = true) : L.all P = true := by
  refine List.all_eq_true.mpr fun c hc => ?_
  have h := List.all_eq_true.mp h1 c hc
  rcases Bool.eq_false_or_eq_true (isCode c) with hi | hi
  · exact h2 c (List.mem_filter.mpr ⟨hc, hi⟩)
  · simpa [hi] using h
set_option maxRecDepth 65536 in
theorem w_c0 : (Jvm.Cond.code x code maxLocals ret).before args0 about1 = true := code_word (m := ⟨1, 2⟩) (meth := k1m2) (c := k1c2) (by decide +kernel) rfl rfl rfl (by decide +kernel)
set_option maxRecDepth 65536 in
theorem w_c1 : (Jvm.Cond.code ({ cls := "com/example/hermod/hermod/header/FieldTokenizer", name := "isWhiteSpace", desc := "(I)Z" } : Jvm.MethodName) prog_31_method_14_code (1 : Nat) (Option.some Jvm.ClassFile.FieldType.boolean)).before args0 about1 = true := code_word (m := ⟨2, 0⟩) (meth := k2m0) (c := k2c0) (by decide +kernel) rfl rfl rfl (by decide +kernel)
set_option maxRecDepth 65536 in
theorem w_c2 : (Jvm.Cond.code ({ cls := "com/example/hermod/hermod/header/FieldTokenizerIsWhiteSpacePinLaw", name := "reference", desc := "(I)Z" } : Jvm.MethodName) method_2_code (1 : Nat) (Option.some Jvm.ClassFile.FieldType.boolean)).before args0 about1 = true := code_word (m := ⟨1, 1⟩) (meth := k1m1) (c := k1c1) (by decide +kernel) rfl rfl rfl (by decide +kernel)
def codes1 : List Jvm.Cond := [Jvm.Cond.code x code maxLocals ret, Jvm.Cond.code ({ cls := "com/example/hermod/hermod/header/FieldTokenizer", name := "isWhiteSpace", desc := "(I)Z" } : Jvm.MethodName) prog_31_method_14_code (1 : Nat) (Option.some Jvm.ClassFile.FieldType.boolean), Jvm.Cond.code ({ cls := "com/example/hermod/hermod/header/FieldTokenizerIsWhiteSpacePinLaw", name := "reference", desc := "(I)Z" } : Jvm.MethodName) method_2_code (1 : Nat) (Option.some Jvm.ClassFile.FieldType.boolean)]
set_option maxRecDepth 65536 in
theorem codes_eq : words1.filter isCode = codes1 := rfl
theorem w_codes : ∀ c ∈ words1.filter isCode, c.before args0 about1 = true := by
  rw [codes_eq]
  intro c hc
  simp only [codes1, List.mem_cons, List.not_mem_nil, or_false] at hc
  rcases hc with rfl | rfl | rfl
  · exact w_c0
  · exact w_c1
  · exact w_c2
set_option maxRecDepth 65536 in
theorem w_t1 : words1.all (fun c => isCode c || c.before args0 about1) = true := by decide +kernel
theorem w_tables : (allAtoms (Jvm.Cond.code x code maxLocals ret :: tables_1)).before args0 about1 = true := by
  rw [allAtoms_all]
  show words1.all (fun c => c.before args0 about1) = true
  refine all_split ?_ w_codes
  rw [w_t1]
set_option maxRecDepth 65536 in
theorem w_case : (Jvm.Cond.and given_1 narrow_1).before args0 about1 = true := by decide +kernel
theorem w_applies : (headSpec (Jvm.Cond.code x code maxLocals ret :: tables_1) room_1).applies x e0.platform about1 = true :=
  (Spec.applies_iff w_frames).mpr ⟨w_running, w_runnable, w_alone, w_named, w_hears, w_ripe, w_room, w_tables⟩
theorem atStart : AtStart classFile x code maxLocals ret World_1 tables_1 room_1 Calls_1 rest_1 Pre_1 launch0 p0 e0 about1 theMethod args0 below0 :=
  ⟨lists_1, trivial, launch0.admits_env _ _ _, launch0.least_env, fairChoices_fair.cas, fairChoices_fair.clock, w_frames, w_args, w_heap, w_applies, trivial, trivial, w_case⟩
end start1
theorem witness_1 : WitnessClaimed_1 := ⟨start1.p0, start1.e0, start1.about1, start1.theMethod, start1.args0, start1.below0, start1.atStart⟩
end Jvm.Pilot.@@N@@
