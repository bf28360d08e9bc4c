import JvmDerived
import JvmDerived.Pilot.@@N@@Statement
import JvmDerived.Pilot.@@N@@Code
set_option linter.unusedVariables false
set_option linter.unusedSimpArgs false
@@BLOCK:NumsL.lean.txt@@
namespace Jvm.Pilot.@@N@@
open Jvm Jvm.ClassFile Sem Op Lib Jvm.Free Jvm.Stand Jvm.LawKit Jvm.RoadKit Bundle Jvm.Pilot.@@N@@.Jvm.D
section Own
variable {p : Program} {l : Launch} {e : Env} {R rm : Room} {s : State} {m : MethodId} {args : Array Value} {below : List Frame} {meth : Method} {c : Code} {T : State} {locs : List Loc} {cells slots : Nat} {Z : State} {a0 : Array Value} {h : Heap}
/-- the run comes to the end of the invocation, and what is asked holds there -/
def own_Goes (p : Program) (e : Env) (below : List Frame) (G : Outcome → State → Prop) (S : State) : Prop := ∃ s₂ o, Steps p.tables e below S s₂ ∧ s₂.status = .running ∧ Ended s₂ below o ∧ G o s₂
theorem own_go {G : Outcome → State → Prop} {S S' : State} (h : ∀ t, Steps p.tables e below S' t → Steps p.tables e below S t) (k : own_Goes p e below G S') : own_Goes p e below G S := by
  obtain ⟨s₂, o, h1, h2⟩ := k
  exact ⟨s₂, o, h _ h1, h2⟩
theorem own_tr {G : Outcome → State → Prop} {S S' : State} (h : Steps p.tables e below S S') (k : own_Goes p e below G S') : own_Goes p e below G S := own_go (fun _ q => h.trans q) k
abbrev own_End (s : State) (rm : Room) (Q : Option Value → Heap → List Loc → Prop) : Outcome → State → Prop := fun o U' => ∃ v L, o = .returned v ∧ Q v U'.heap L ∧ FrameEnd s o U' L rm.cells rm.slots
/-- a body's contract: with these arguments, over this heap, it returns and leaves what Q says -/
def own_Met (l : Launch) (Z : State) (y : MethodName) (bytes : ByteArray) (maxL : Nat) (ret : Option FieldType) (ws : List Jvm.Cond) (rm : Room) (as : Array Value) (h0 : Heap) (Q : Option Value → Heap → List Loc → Prop) : Prop :=
  MetFree l y (head1 (Jvm.Cond.code y bytes maxL ret :: ws) rm) (fun a U => a = as ∧ Z.Warmed39 U.vm ∧ U.heap = h0) (fun _ _ _ _ _ => True) (fun _ U o U' => ∃ v L, o = .returned v ∧ Q v U'.heap L ∧ FrameEnd U o U' L rm.cells rm.slots)
theorem own_met {y : MethodName} {bytes : ByteArray} {maxL : Nat} {ret : Option FieldType} {ws : List Jvm.Cond} {as : Array Value} {h0 : Heap} {Q : Option Value → Heap → List Loc → Prop} (hp : plainFor y = true)
    (body : ∀ (p : Program) (e : Env) (s : State) (m : MethodId) (below : List Frame) (meth : Method) (c : Code) (s₁ : State), p.tables.exec = Jvm.exec → c.code = bytes → c.maxLocals = maxL → s.vm.findClass y.cls = some m.cls → meth.name = y.name → meth.sig.returnType = ret → meth.locks = false → Z.Warmed39 s.vm → s₁.heap = h0 →
      Stand p l e rm s m as below meth c s₁ [] 0 0 → own_Goes p e below (own_End s rm Q) (s₁.setTop (entryFrame m as maxL))) : own_Met l Z y bytes maxL ret ws rm as h0 Q := by
  refine MetFree.of_bodySF hp hisR ?_
  intro p e s m args below meth c s₁ Bd hml hP hK
  obtain ⟨rfl, hZ, hh⟩ := hP
  exact body p e s m below meth c s₁ Bd.exec Bd.bytes hml (findClass_of_methodNamed Bd.named) (name_of_methodNamed Bd.named Bd.method).1 Bd.returns Bd.notSynchronized hZ (by rw [← hh, Bd.state]; rfl) (Stand.of_body Bd)
/-- the returns -/
theorem own_retV {Q : Option Value → Heap → List Loc → Prop} (X : Stand p l e rm s m args below meth c T locs cells slots) (hx : p.tables.exec = Jvm.exec) (hlk : meth.locks = false) {pc : Nat} {Ls : Array Slot} {w : Value} {t : FieldType} {i : Instr} {rest : List Value} (hret : meth.sig.returnType = some t) (hn : narrow t w = w)
    (hi : (i = .ireturn ∧ (t = .int ∨ t = .boolean ∨ t = .byte ∨ t = .char ∨ t = .short) ∧ ∃ z, w = .int z) ∨ (i = .lreturn ∧ t = .long ∧ ∃ z, w = .long z) ∨ (i = .dreturn ∧ t = .double ∧ ∃ z, w = .double z) ∨ (i = .freturn ∧ t = .float ∧ ∃ z, w = .float z) ∨ (i = .areturn ∧ t.isReference = true ∧ w.isRef = true))
    (hd : decode c.code pc = .ok (i, 1)) (hc : cells ≤ rm.cells) (hs : slots ≤ rm.slots) (hq : Q (some w) T.heap locs) : own_Goes p e below (own_End s rm Q) (T.setTop (mkF m pc Ls (w :: rest))) := by
  obtain ⟨fs, hr, hrun, hended, hW, hsame⟩ := X.leave (v := some w) (fun h => by rw [hret] at h; cases h) hlk
  exact ⟨_, _, retOut X hx hret hn hi hd hr, hrun, hended, _, _, rfl, hq, ⟨_, rfl⟩, hW, hsame.mono hc hs⟩
theorem own_retI {Q : Option Value → Heap → List Loc → Prop} (X : Stand p l e rm s m args below meth c T locs cells slots) (hx : p.tables.exec = Jvm.exec) (hlk : meth.locks = false) {pc : Nat} {Ls : Array Slot} {z : Int32} {rest : List Value} (hret : meth.sig.returnType = some .int)
    (hd : decode c.code pc = .ok (.ireturn, 1)) (hc : cells ≤ rm.cells) (hs : slots ≤ rm.slots) (hq : Q (some (.int z)) T.heap locs) : own_Goes p e below (own_End s rm Q) (T.setTop (mkF m pc Ls (.int z :: rest))) :=
  own_retV X hx hlk hret rfl (Or.inl ⟨rfl, Or.inl rfl, z, rfl⟩) hd hc hs hq
theorem own_retJ {Q : Option Value → Heap → List Loc → Prop} (X : Stand p l e rm s m args below meth c T locs cells slots) (hx : p.tables.exec = Jvm.exec) (hlk : meth.locks = false) {pc : Nat} {Ls : Array Slot} {z : Int64} {rest : List Value} (hret : meth.sig.returnType = some .long)
    (hd : decode c.code pc = .ok (.lreturn, 1)) (hc : cells ≤ rm.cells) (hs : slots ≤ rm.slots) (hq : Q (some (.long z)) T.heap locs) : own_Goes p e below (own_End s rm Q) (T.setTop (mkF m pc Ls (.long z :: rest))) :=
  own_retV X hx hlk hret rfl (Or.inr (Or.inl ⟨rfl, rfl, z, rfl⟩)) hd hc hs hq
theorem own_retR {Q : Option Value → Heap → List Loc → Prop} (X : Stand p l e rm s m args below meth c T locs cells slots) (hx : p.tables.exec = Jvm.exec) (hlk : meth.locks = false) {pc : Nat} {Ls : Array Slot} {w : Value} {t : FieldType} {rest : List Value} (hret : meth.sig.returnType = some t) (ht : t.isReference = true) (hw : w.isRef = true)
    (hd : decode c.code pc = .ok (.areturn, 1)) (hc : cells ≤ rm.cells) (hs : slots ≤ rm.slots) (hq : Q (some w) T.heap locs) : own_Goes p e below (own_End s rm Q) (T.setTop (mkF m pc Ls (w :: rest))) :=
  own_retV X hx hlk hret (by cases t <;> first | rfl | cases ht) (Or.inr (Or.inr (Or.inr (Or.inr ⟨rfl, ht, hw⟩)))) hd hc hs hq
theorem own_retN {Q : Option Value → Heap → List Loc → Prop} (X : Stand p l e rm s m args below meth c T locs cells slots) (hx : p.tables.exec = Jvm.exec) (hlk : meth.locks = false) {pc : Nat} {Ls : Array Slot} {z z' : Int32} {t : FieldType} {rest : List Value} (hret : meth.sig.returnType = some t) (ht : t = .boolean ∨ t = .byte ∨ t = .char ∨ t = .short) (hz : nar t z = z')
    (hd : decode c.code pc = .ok (.ireturn, 1)) (hc : cells ≤ rm.cells) (hs : slots ≤ rm.slots) (hq : Q (some (.int z')) T.heap locs) : own_Goes p e below (own_End s rm Q) (T.setTop (mkF m pc Ls (.int z :: rest))) := by
  subst hz
  obtain ⟨fs, hr, hrun, hended, hW, hsame⟩ := X.leave (v := some (.int (nar t z))) (fun h => by rw [hret] at h; cases h) hlk
  exact ⟨_, _, retN X hx hret ht hd hr, hrun, hended, _, _, rfl, hq, ⟨_, rfl⟩, hW, hsame.mono hc hs⟩
theorem own_ret0 {Q : Option Value → Heap → List Loc → Prop} (X : Stand p l e rm s m args below meth c T locs cells slots) (hx : p.tables.exec = Jvm.exec) (hlk : meth.locks = false) {pc : Nat} {Ls : Array Slot} (hret : meth.sig.returnType = none)
    (hd : decode c.code pc = .ok (.return_, 1)) (hc : cells ≤ rm.cells) (hs : slots ≤ rm.slots) (hq : Q none T.heap locs) : own_Goes p e below (own_End s rm Q) (T.setTop (mkF m pc Ls [])) := by
  obtain ⟨fs, hr, hrun, hended, hW, hsame⟩ := X.leave (v := none) (fun _ => rfl) hlk
  exact ⟨_, _, X.returnOut hx hret hd hr, hrun, hended, _, _, rfl, hq, ⟨_, rfl⟩, hW, hsame.mono hc hs⟩
/-- a static call by the callee's contract -/
theorem own_callS (X : Stand p l e R s m args below meth c T locs cells slots) (hx : p.tables.exec = Jvm.exec) (hZ : Z.Warmed39 s.vm) {own : String} {index : Nat} {y : MethodName} {bytes : ByteArray} {maxL : Nat} {ret : Option FieldType} (hown : s.vm.findClass own = some m.cls)
    (w1 : (Jvm.Cond.methodLink own index y).before a0 Z = true) (w2 : (Jvm.Cond.static y).before a0 Z = true) (w3 : (Jvm.Cond.initialized y.cls).before a0 Z = true) (w4 : (Jvm.Cond.code y bytes maxL ret).before a0 Z = true) (hy : y.cls ≠ "java/lang/invoke/MethodHandle" ∧ y.cls ≠ "java/lang/invoke/VarHandle")
    {as : List Value} {Q : Option Value → Heap → List Loc → Prop} (hM : own_Met l Z y bytes maxL ret [] rm as.toArray h Q) (eT : T.heap = h) {ps : List FieldType} {rt : Option FieldType} (hpd : parseMethodDescriptor y.desc = some ⟨ps, rt⟩) (hlen : as.length = ps.length)
    {pc : Nat} {Ls : Array Slot} {rest : List Value} {W : Nat} (hsize : Ls.size = c.maxLocals) (hW : (rest.map fun v => v.category).sum ≤ W) (hf : rm.frames + 1 ≤ R.frames) (hl : W + (maxL + 11) + rm.locals ≤ R.locals) (hd : decode c.code pc = .ok (.invokestatic index, 3)) (hc : cells + rm.cells ≤ R.cells) (hs : slots + rm.slots ≤ R.slots) :
    ∃ (v : Option Value) (T' : State) (L' : List Loc), Stand p l e R s m args below meth c T' (locs ++ L') (cells + rm.cells) (slots + rm.slots) ∧ Q v T'.heap L' ∧ ∀ target, Steps p.tables e below (T'.setTop (mkF m (pc + 3) Ls (v.toList ++ rest))) target → Steps p.tables e below (T.setTop (mkF m pc Ls (as.reverse ++ rest))) target := by
  obtain ⟨v, _, ⟨T', L', k', n'⟩, -, X', ⟨Lc, hQ, hl', hk', hn'⟩, st⟩ := Jvm.LawKit.callS X hx (y := y) hown (mvT hZ w1) (mvT hZ w2) (mvT hZ w3) (mvT hZ w4) hy (backOf (W := W) hM hZ w4 w3 hf hl) (g := mkF m pc Ls (as.reverse ++ rest)) rfl hsize (argsL := as) (rest := rest) (lenOf hpd hlen) rfl (by show 2 * 0 + _ ≤ _; omega) hd (fun _ _ => ⟨rfl, eT, hc, hs⟩)
  dsimp only [Pt.U, Pt.locs, Pt.cells, Pt.slots] at X' hl' hk' hn' st hQ
  subst hl' hk' hn'
  exact ⟨v, T', Lc, X', hQ, st⟩
/-- an instance method by the contract of the body that the receiver's class selects -/
theorem own_callV (X : Stand p l e R s m args below meth c T locs cells slots) (hx : p.tables.exec = Jvm.exec) (hZ : Z.Warmed39 s.vm) {own C : String} {index : Nat} {y : MethodName} {bytes : ByteArray} {maxL : Nat} {ret : Option FieldType} (hown : s.vm.findClass own = some m.cls)
    (w1 : (Jvm.Cond.methodLink own index y).before a0 Z = true) (w2 : (Jvm.Cond.declares y).before a0 Z = true) (w3 : (Jvm.Cond.selects C y y).before a0 Z = true) (w4 : (Jvm.Cond.instanceMethod y).before a0 Z = true) (w5 : (Jvm.Cond.initialized y.cls).before a0 Z = true) (w6 : (Jvm.Cond.code y bytes maxL ret).before a0 Z = true) (hy : y.cls ≠ "java/lang/invoke/MethodHandle" ∧ y.cls ≠ "java/lang/invoke/VarHandle")
    {b : Addr} {as : List Value} {Q : Option Value → Heap → List Loc → Prop} (hM : own_Met l Z y bytes maxL ret [] rm (Value.ref b :: as).toArray h Q) (eT : T.heap = h) (E : Exa Z h b C) {ps : List FieldType} {rt : Option FieldType} (hpd : parseMethodDescriptor y.desc = some ⟨ps, rt⟩) (hlen : as.length = ps.length)
    {pc : Nat} {Ls : Array Slot} {rest : List Value} {W : Nat} (hsize : Ls.size = c.maxLocals) (hW : (rest.map fun v => v.category).sum ≤ W) (hf : rm.frames + 1 ≤ R.frames) (hl : W + (maxL + 11) + rm.locals ≤ R.locals) (hd : decode c.code pc = .ok (.invokevirtual index, 3)) (hc : cells + rm.cells ≤ R.cells) (hs : slots + rm.slots ≤ R.slots) :
    ∃ (v : Option Value) (T' : State) (L' : List Loc), Stand p l e R s m args below meth c T' (locs ++ L') (cells + rm.cells) (slots + rm.slots) ∧ Q v T'.heap L' ∧ ∀ target, Steps p.tables e below (T'.setTop (mkF m (pc + 3) Ls (v.toList ++ rest))) target → Steps p.tables e below (T.setTop (mkF m pc Ls (as.reverse ++ Value.ref b :: rest))) target := by
  obtain ⟨cq, kq, qa, qb, qc⟩ := isOf hZ eT E
  obtain ⟨v, _, ⟨T', L', k', n'⟩, -, X', ⟨Lc, hQ, hl', hk', hn'⟩, st⟩ := X.virtualBack hx (y := y) (z := y) hown (mvT hZ w1) (mvT hZ w2) (notFace_of_selects (args := #[]) (mvT hZ w3)) (mvT hZ w3) (mvT hZ w4) hy (backOf (W := W) hM hZ w6 w5 hf hl) qa qc (g := mkF m pc Ls (as.reverse ++ Value.ref b :: rest)) rfl hsize (Steps.refl _) (argsL := as) (rest := rest) (lenOf hpd hlen) rfl (by show 2 * 0 + _ ≤ _; omega) hd (fun _ _ => ⟨rfl, eT, hc, hs⟩)
  dsimp only [Pt.U, Pt.locs, Pt.cells, Pt.slots] at X' hl' hk' hn' st hQ
  subst hl' hk' hn'
  exact ⟨v, T', Lc, X', hQ, fun _ q => st.trans q⟩
/-- a constructor by its contract -/
theorem own_callI (X : Stand p l e R s m args below meth c T locs cells slots) (hx : p.tables.exec = Jvm.exec) (hZ : Z.Warmed39 s.vm) {own : String} {index : Nat} {y : MethodName} {bytes : ByteArray} {maxL : Nat} (hy1 : y.name = "<init>") (hown : s.vm.findClass own = some m.cls)
    (w1 : (Jvm.Cond.methodLink own index y).before a0 Z = true) (w4 : (Jvm.Cond.instanceMethod y).before a0 Z = true) (w5 : (Jvm.Cond.initialized y.cls).before a0 Z = true) (w6 : (Jvm.Cond.code y bytes maxL none).before a0 Z = true) (hy : y.cls ≠ "java/lang/invoke/MethodHandle" ∧ y.cls ≠ "java/lang/invoke/VarHandle")
    {b : Addr} {as : List Value} {Q : Option Value → Heap → List Loc → Prop} (hM : own_Met l Z y bytes maxL none [] rm (Value.ref b :: as).toArray h Q) (eT : T.heap = h) {ps : List FieldType} {rt : Option FieldType} (hpd : parseMethodDescriptor y.desc = some ⟨ps, rt⟩) (hlen : as.length = ps.length)
    {pc : Nat} {Ls : Array Slot} {rest : List Value} {W : Nat} (hsize : Ls.size = c.maxLocals) (hW : (rest.map fun v => v.category).sum ≤ W) (hf : rm.frames + 1 ≤ R.frames) (hl : W + (maxL + 11) + rm.locals ≤ R.locals) (hd : decode c.code pc = .ok (.invokespecial index, 3)) (hc : cells + rm.cells ≤ R.cells) (hs : slots + rm.slots ≤ R.slots) :
    ∃ (v : Option Value) (T' : State) (L' : List Loc), Stand p l e R s m args below meth c T' (locs ++ L') (cells + rm.cells) (slots + rm.slots) ∧ Q v T'.heap L' ∧ ∀ target, Steps p.tables e below (T'.setTop (mkF m (pc + 3) Ls (v.toList ++ rest))) target → Steps p.tables e below (T.setTop (mkF m pc Ls (as.reverse ++ Value.ref b :: rest))) target := by
  obtain ⟨v, _, ⟨T', L', k', n'⟩, -, X', ⟨Lc, hQ, hl', hk', hn'⟩, st⟩ := X.specialBack hx (y := y) hy1 hown (mvT hZ w1) (mvT hZ w4) (mvT hZ w6) hy (backOf (W := W) hM hZ w6 w5 hf hl) (g := mkF m pc Ls (as.reverse ++ Value.ref b :: rest)) rfl hsize (Steps.refl _) (a := b) (argsL := as) (rest := rest) (lenOf hpd hlen) rfl (by show 2 * 0 + _ ≤ _; omega) hd (fun _ _ => ⟨rfl, eT, hc, hs⟩)
  dsimp only [Pt.U, Pt.locs, Pt.cells, Pt.slots] at X' hl' hk' hn' st hQ
  subst hl' hk' hn'
  exact ⟨v, T', Lc, X', hQ, fun _ q => st.trans q⟩
end Own
theorem own_d2_0 : decode prog_9_method_2_code 0 = .ok (.iload_n 0, 1) := by decide +kernel
theorem own_d2_1 : decode prog_9_method_2_code 1 = .ok (.bipush 16, 2) := by decide +kernel
theorem own_d2_3 : decode prog_9_method_2_code 3 = .ok (.if_icmp .eq 15, 3) := by decide +kernel
theorem own_d2_18 : decode prog_9_method_2_code 18 = .ok (.iconst 1, 1) := by decide +kernel
theorem own_d2_19 : decode prog_9_method_2_code 19 = .ok (.goto 4, 3) := by decide +kernel
theorem own_d2_6 : decode prog_9_method_2_code 6 = .ok (.iload_n 0, 1) := by decide +kernel
theorem own_d2_7 : decode prog_9_method_2_code 7 = .ok (.bipush 24, 2) := by decide +kernel
theorem own_d2_9 : decode prog_9_method_2_code 9 = .ok (.if_icmp .eq 9, 3) := by decide +kernel
theorem own_d2_12 : decode prog_9_method_2_code 12 = .ok (.iload_n 0, 1) := by decide +kernel
theorem own_d2_13 : decode prog_9_method_2_code 13 = .ok (.bipush 32, 2) := by decide +kernel
theorem own_d2_15 : decode prog_9_method_2_code 15 = .ok (.if_icmp .ne 7, 3) := by decide +kernel
theorem own_d2_22 : decode prog_9_method_2_code 22 = .ok (.iconst 0, 1) := by decide +kernel
theorem own_pn0 : plainName "com/example/quittance/quittance/dialect/AesCbc" = true := by first | (simp [plainName, overriddenIn]; done) | decide +kernel
theorem own_d2_23 : decode prog_9_method_2_code 23 = .ok (.ireturn, 1) := by decide +kernel
def own_j2_1 (x0 : Int32) : Int32 := (if x0 = (16 : Int32) then (1 : Int32) else (if x0 = (24 : Int32) then (1 : Int32) else (if x0 = (32 : Int32) then (1 : Int32) else (0 : Int32))))
def own_f2 (x0 : Int32) : Int32 := ((own_j2_1 x0) &&& 1)
def own_Q2 (x0 : Int32) (h0 : Heap) (n0 : Nat) (v : Option Value) (h : Heap) (L : List Loc) : Prop := v = some (.int (own_f2 x0)) ∧ Fr n0 L ∧ h = h0
abbrev own_R2 : Room := { frames := 0, cells := 0, slots := 0, locals := 0 }
theorem own_ef2 (m : MethodId) (z0 : Int32) : entryFrame m #[(.int z0)] 1 = mkF m 0 #[.val (.int z0)] [] := by first | (simp [entryFrame, mkF, argsToLocals, Value.category]; done) | rfl
set_option maxRecDepth 65536 in
set_option maxHeartbeats 40000000 in
theorem rm2 (l : Launch) (Z : State) (a0 : Array Value) (hw : ∀ d ∈ tables_1, d.before a0 Z = true) (ws : List Jvm.Cond) (x0 : Int32) (h0 : Heap) (n0 : Nat) : own_Met l Z (⟨"com/example/quittance/quittance/dialect/AesCbc", "isKeyLength", "(I)Z"⟩ : MethodName) prog_9_method_2_code 1 (some .boolean) ws own_R2 #[(.int x0)] h0 (own_Q2 x0 h0 n0) := by
  refine own_met (plainFor_of_name own_pn0) ?_
  intro p e s m below meth c s₁ hx hby hml hown hnm hret hlk hZ e0 X0
  have N0 := Fr.nil n0
  have hml : c.maxLocals = 1 := hml
  have hown : s.vm.findClass "com/example/quittance/quittance/dialect/AesCbc" = some m.cls := hown
  have hret : meth.sig.returnType = (some .boolean) := hret
  have hby : c.code = prog_9_method_2_code := hby
  have hnm : meth.name = "isKeyLength" := hnm
  rw [own_ef2]
  show own_Goes p e below _ (s₁.setTop (mkF m 0 #[.val (.int x0)] []))
  refine own_go (fun t k => XS.iloadN X0.here hx rfl (hb hby own_d2_0) rfl k) ?_
  show own_Goes p e below _ (s₁.setTop (mkF m 1 #[.val (.int x0)] [(.int x0)]))
  refine own_go (fun t k => XS.bipush X0.here hx rfl (hb hby own_d2_1) k) ?_
  show own_Goes p e below _ (s₁.setTop (mkF m 3 #[.val (.int x0)] [(.int (16 : Int32)), (.int x0)]))
  suffices HH4 : own_Goes p e below (own_End s own_R2 (own_Q2 x0 h0 n0)) (s₁.setTop (mkF m 23 #[.val (.int x0)] [(.int (own_j2_1 x0))])) by
    by_cases hc1 : x0 = (16 : Int32)
    · refine own_go (fun t k => XS.icmpYes X0.here hx rfl (pc0 := 3) (pc' := 18) rfl (hb hby own_d2_3) rfl (teq hc1).1 (by decide) (by decide) k) ?_
      show own_Goes p e below _ (s₁.setTop (mkF m 18 #[.val (.int x0)] []))
      refine own_go (fun t k => XS.iconst X0.here hx rfl (hb hby own_d2_18) k) ?_
      show own_Goes p e below _ (s₁.setTop (mkF m 19 #[.val (.int x0)] [(.int (1 : Int32))]))
      refine own_go (fun t k => XS.goto X0.here hx rfl (pc0 := 19) (pc' := 23) rfl (hb hby own_d2_19) (by decide) (by decide) k) ?_
      rw [show (own_j2_1 x0) = (1 : Int32) from by rw [own_j2_1, if_pos hc1]] at HH4
      exact HH4
    · refine own_go (fun t k => XS.icmpNo X0.here hx rfl (hb hby own_d2_3) rfl (feq hc1).1 k) ?_
      show own_Goes p e below _ (s₁.setTop (mkF m 6 #[.val (.int x0)] []))
      refine own_go (fun t k => XS.iloadN X0.here hx rfl (hb hby own_d2_6) rfl k) ?_
      show own_Goes p e below _ (s₁.setTop (mkF m 7 #[.val (.int x0)] [(.int x0)]))
      refine own_go (fun t k => XS.bipush X0.here hx rfl (hb hby own_d2_7) k) ?_
      show own_Goes p e below _ (s₁.setTop (mkF m 9 #[.val (.int x0)] [(.int (24 : Int32)), (.int x0)]))
      by_cases hc2 : x0 = (24 : Int32)
      · refine own_go (fun t k => XS.icmpYes X0.here hx rfl (pc0 := 9) (pc' := 18) rfl (hb hby own_d2_9) rfl (teq hc2).1 (by decide) (by decide) k) ?_
        show own_Goes p e below _ (s₁.setTop (mkF m 18 #[.val (.int x0)] []))
        refine own_go (fun t k => XS.iconst X0.here hx rfl (hb hby own_d2_18) k) ?_
        show own_Goes p e below _ (s₁.setTop (mkF m 19 #[.val (.int x0)] [(.int (1 : Int32))]))
        refine own_go (fun t k => XS.goto X0.here hx rfl (pc0 := 19) (pc' := 23) rfl (hb hby own_d2_19) (by decide) (by decide) k) ?_
        rw [show (own_j2_1 x0) = (1 : Int32) from by rw [own_j2_1, if_neg hc1, if_pos hc2]] at HH4
        exact HH4
      · refine own_go (fun t k => XS.icmpNo X0.here hx rfl (hb hby own_d2_9) rfl (feq hc2).1 k) ?_
        show own_Goes p e below _ (s₁.setTop (mkF m 12 #[.val (.int x0)] []))
        refine own_go (fun t k => XS.iloadN X0.here hx rfl (hb hby own_d2_12) rfl k) ?_
        show own_Goes p e below _ (s₁.setTop (mkF m 13 #[.val (.int x0)] [(.int x0)]))
        refine own_go (fun t k => XS.bipush X0.here hx rfl (hb hby own_d2_13) k) ?_
        show own_Goes p e below _ (s₁.setTop (mkF m 15 #[.val (.int x0)] [(.int (32 : Int32)), (.int x0)]))
        by_cases hc3 : x0 = (32 : Int32)
        · refine own_go (fun t k => XS.icmpNo X0.here hx rfl (hb hby own_d2_15) rfl (teq hc3).2 k) ?_
          show own_Goes p e below _ (s₁.setTop (mkF m 18 #[.val (.int x0)] []))
          refine own_go (fun t k => XS.iconst X0.here hx rfl (hb hby own_d2_18) k) ?_
          show own_Goes p e below _ (s₁.setTop (mkF m 19 #[.val (.int x0)] [(.int (1 : Int32))]))
          refine own_go (fun t k => XS.goto X0.here hx rfl (pc0 := 19) (pc' := 23) rfl (hb hby own_d2_19) (by decide) (by decide) k) ?_
          rw [show (own_j2_1 x0) = (1 : Int32) from by rw [own_j2_1, if_neg hc1, if_neg hc2, if_pos hc3]] at HH4
          exact HH4
        · refine own_go (fun t k => XS.icmpYes X0.here hx rfl (pc0 := 15) (pc' := 22) rfl (hb hby own_d2_15) rfl (feq hc3).2 (by decide) (by decide) k) ?_
          show own_Goes p e below _ (s₁.setTop (mkF m 22 #[.val (.int x0)] []))
          refine own_go (fun t k => XS.iconst X0.here hx rfl (hb hby own_d2_22) k) ?_
          rw [show (own_j2_1 x0) = (0 : Int32) from by rw [own_j2_1, if_neg hc1, if_neg hc2, if_neg hc3]] at HH4
          exact HH4
  show own_Goes p e below _ (s₁.setTop (mkF m 23 #[.val (.int x0)] [(.int (own_j2_1 x0))]))
  exact own_retN X0 hx hlk hret (by simp) (z' := ((own_j2_1 x0) &&& 1)) rfl (hb hby own_d2_23) (by decide) (by decide) ⟨by rw [own_f2], N0, e0⟩
theorem own_d3_0 : decode method_2_code 0 = .ok (.iload_n 0, 1) := by decide +kernel
theorem own_d3_1 : decode method_2_code 1 = .ok (.bipush 16, 2) := by decide +kernel
theorem own_d3_3 : decode method_2_code 3 = .ok (.if_icmp .lt 20, 3) := by decide +kernel
theorem own_d3_23 : decode method_2_code 23 = .ok (.iconst 0, 1) := by decide +kernel
theorem own_d3_6 : decode method_2_code 6 = .ok (.iload_n 0, 1) := by decide +kernel
theorem own_d3_7 : decode method_2_code 7 = .ok (.bipush 32, 2) := by decide +kernel
theorem own_d3_9 : decode method_2_code 9 = .ok (.if_icmp .gt 14, 3) := by decide +kernel
theorem own_d3_12 : decode method_2_code 12 = .ok (.iload_n 0, 1) := by decide +kernel
theorem own_d3_13 : decode method_2_code 13 = .ok (.bipush 7, 2) := by decide +kernel
theorem own_d3_15 : decode method_2_code 15 = .ok (.iand, 1) := by decide +kernel
theorem own_d3_16 : decode method_2_code 16 = .ok (.ifCond .ne 7, 3) := by decide +kernel
theorem own_d3_19 : decode method_2_code 19 = .ok (.iconst 1, 1) := by decide +kernel
theorem own_d3_20 : decode method_2_code 20 = .ok (.goto 4, 3) := by decide +kernel
theorem own_pn1 : plainName "com/example/quittance/quittance/dialect/AesCbcIsKeyLengthPinLaw" = true := by first | (simp [plainName, overriddenIn]; done) | decide +kernel
theorem own_d3_24 : decode method_2_code 24 = .ok (.ireturn, 1) := by decide +kernel
def own_j3_1 (x0 : Int32) : Int32 := (if x0 < (16 : Int32) then (0 : Int32) else (if (32 : Int32) < x0 then (0 : Int32) else (if (x0 &&& (7 : Int32)) = (0 : Int32) then (1 : Int32) else (0 : Int32))))
def own_f3 (x0 : Int32) : Int32 := ((own_j3_1 x0) &&& 1)
def own_Q3 (x0 : Int32) (h0 : Heap) (n0 : Nat) (v : Option Value) (h : Heap) (L : List Loc) : Prop := v = some (.int (own_f3 x0)) ∧ Fr n0 L ∧ h = h0
abbrev own_R3 : Room := { frames := 0, cells := 0, slots := 0, locals := 0 }
theorem own_ef3 (m : MethodId) (z0 : Int32) : entryFrame m #[(.int z0)] 1 = mkF m 0 #[.val (.int z0)] [] := by first | (simp [entryFrame, mkF, argsToLocals, Value.category]; done) | rfl
set_option maxRecDepth 65536 in
set_option maxHeartbeats 40000000 in
theorem rm3 (l : Launch) (Z : State) (a0 : Array Value) (hw : ∀ d ∈ tables_1, d.before a0 Z = true) (ws : List Jvm.Cond) (x0 : Int32) (h0 : Heap) (n0 : Nat) : own_Met l Z (⟨"com/example/quittance/quittance/dialect/AesCbcIsKeyLengthPinLaw", "aesKeyBytes", "(I)Z"⟩ : MethodName) method_2_code 1 (some .boolean) ws own_R3 #[(.int x0)] h0 (own_Q3 x0 h0 n0) := by
  refine own_met (plainFor_of_name own_pn1) ?_
  intro p e s m below meth c s₁ hx hby hml hown hnm hret hlk hZ e0 X0
  have N0 := Fr.nil n0
  have hml : c.maxLocals = 1 := hml
  have hown : s.vm.findClass "com/example/quittance/quittance/dialect/AesCbcIsKeyLengthPinLaw" = some m.cls := hown
  have hret : meth.sig.returnType = (some .boolean) := hret
  have hby : c.code = method_2_code := hby
  have hnm : meth.name = "aesKeyBytes" := hnm
  rw [own_ef3]
  show own_Goes p e below _ (s₁.setTop (mkF m 0 #[.val (.int x0)] []))
  refine own_go (fun t k => XS.iloadN X0.here hx rfl (hb hby own_d3_0) rfl k) ?_
  show own_Goes p e below _ (s₁.setTop (mkF m 1 #[.val (.int x0)] [(.int x0)]))
  refine own_go (fun t k => XS.bipush X0.here hx rfl (hb hby own_d3_1) k) ?_
  show own_Goes p e below _ (s₁.setTop (mkF m 3 #[.val (.int x0)] [(.int (16 : Int32)), (.int x0)]))
  suffices HH8 : own_Goes p e below (own_End s own_R3 (own_Q3 x0 h0 n0)) (s₁.setTop (mkF m 24 #[.val (.int x0)] [(.int (own_j3_1 x0))])) by
    by_cases hc5 : x0 < (16 : Int32)
    · refine own_go (fun t k => XS.icmpYes X0.here hx rfl (pc0 := 3) (pc' := 23) rfl (hb hby own_d3_3) rfl (tlt hc5).1 (by decide) (by decide) k) ?_
      show own_Goes p e below _ (s₁.setTop (mkF m 23 #[.val (.int x0)] []))
      refine own_go (fun t k => XS.iconst X0.here hx rfl (hb hby own_d3_23) k) ?_
      rw [show (own_j3_1 x0) = (0 : Int32) from by rw [own_j3_1, if_pos hc5]] at HH8
      exact HH8
    · refine own_go (fun t k => XS.icmpNo X0.here hx rfl (hb hby own_d3_3) rfl (flt hc5).1 k) ?_
      show own_Goes p e below _ (s₁.setTop (mkF m 6 #[.val (.int x0)] []))
      refine own_go (fun t k => XS.iloadN X0.here hx rfl (hb hby own_d3_6) rfl k) ?_
      show own_Goes p e below _ (s₁.setTop (mkF m 7 #[.val (.int x0)] [(.int x0)]))
      refine own_go (fun t k => XS.bipush X0.here hx rfl (hb hby own_d3_7) k) ?_
      show own_Goes p e below _ (s₁.setTop (mkF m 9 #[.val (.int x0)] [(.int (32 : Int32)), (.int x0)]))
      by_cases hc6 : (32 : Int32) < x0
      · refine own_go (fun t k => XS.icmpYes X0.here hx rfl (pc0 := 9) (pc' := 23) rfl (hb hby own_d3_9) rfl (tlt hc6).2.2.1 (by decide) (by decide) k) ?_
        show own_Goes p e below _ (s₁.setTop (mkF m 23 #[.val (.int x0)] []))
        refine own_go (fun t k => XS.iconst X0.here hx rfl (hb hby own_d3_23) k) ?_
        rw [show (own_j3_1 x0) = (0 : Int32) from by rw [own_j3_1, if_neg hc5, if_pos hc6]] at HH8
        exact HH8
      · refine own_go (fun t k => XS.icmpNo X0.here hx rfl (hb hby own_d3_9) rfl (flt hc6).2.2.1 k) ?_
        show own_Goes p e below _ (s₁.setTop (mkF m 12 #[.val (.int x0)] []))
        refine own_go (fun t k => XS.iloadN X0.here hx rfl (hb hby own_d3_12) rfl k) ?_
        show own_Goes p e below _ (s₁.setTop (mkF m 13 #[.val (.int x0)] [(.int x0)]))
        refine own_go (fun t k => XS.bipush X0.here hx rfl (hb hby own_d3_13) k) ?_
        show own_Goes p e below _ (s₁.setTop (mkF m 15 #[.val (.int x0)] [(.int (7 : Int32)), (.int x0)]))
        refine own_go (fun t k => XS.iand X0.here hx rfl (hb hby own_d3_15) rfl k) ?_
        show own_Goes p e below _ (s₁.setTop (mkF m 16 #[.val (.int x0)] [(.int (x0 &&& (7 : Int32)))]))
        by_cases hc7 : (x0 &&& (7 : Int32)) = (0 : Int32)
        · refine own_go (fun t k => XS.ifNo X0.here hx rfl (hb hby own_d3_16) rfl ((if0 _ _).trans (teq hc7).2) k) ?_
          show own_Goes p e below _ (s₁.setTop (mkF m 19 #[.val (.int x0)] []))
          refine own_go (fun t k => XS.iconst X0.here hx rfl (hb hby own_d3_19) k) ?_
          show own_Goes p e below _ (s₁.setTop (mkF m 20 #[.val (.int x0)] [(.int (1 : Int32))]))
          refine own_go (fun t k => XS.goto X0.here hx rfl (pc0 := 20) (pc' := 24) rfl (hb hby own_d3_20) (by decide) (by decide) k) ?_
          rw [show (own_j3_1 x0) = (1 : Int32) from by rw [own_j3_1, if_neg hc5, if_neg hc6, if_pos hc7]] at HH8
          exact HH8
        · refine own_go (fun t k => XS.ifYes X0.here hx rfl (pc0 := 16) (pc' := 23) rfl (hb hby own_d3_16) rfl ((if0 _ _).trans (feq hc7).2) (by decide) (by decide) k) ?_
          show own_Goes p e below _ (s₁.setTop (mkF m 23 #[.val (.int x0)] []))
          refine own_go (fun t k => XS.iconst X0.here hx rfl (hb hby own_d3_23) k) ?_
          rw [show (own_j3_1 x0) = (0 : Int32) from by rw [own_j3_1, if_neg hc5, if_neg hc6, if_neg hc7]] at HH8
          exact HH8
  show own_Goes p e below _ (s₁.setTop (mkF m 24 #[.val (.int x0)] [(.int (own_j3_1 x0))]))
  exact own_retN X0 hx hlk hret (by simp) (z' := ((own_j3_1 x0) &&& 1)) rfl (hb hby own_d3_24) (by decide) (by decide) ⟨by rw [own_f3], N0, e0⟩
theorem own_d1_0 : decode method_3_code 0 = .ok (.iload_n 0, 1) := by decide +kernel
theorem own_d1_1 : decode method_3_code 1 = .ok (.invokestatic 7, 3) := by decide +kernel
theorem own_t4 : (Jvm.Cond.methodLink "com/example/quittance/quittance/dialect/AesCbcIsKeyLengthPinLaw" (7 : Nat) ({ cls := "com/example/quittance/quittance/dialect/AesCbc", name := "isKeyLength", desc := "(I)Z" } : Jvm.MethodName)) ∈ tables_1 := List.mem_of_getElem? (i := 4) rfl
theorem own_pd0 : parseMethodDescriptor "(I)Z" = some ⟨[.int], some .boolean⟩ := by decide +kernel
theorem own_t5 : (Jvm.Cond.static ({ cls := "com/example/quittance/quittance/dialect/AesCbc", name := "isKeyLength", desc := "(I)Z" } : Jvm.MethodName)) ∈ tables_1 := List.mem_of_getElem? (i := 5) rfl
theorem own_t6 : (Jvm.Cond.initialized "com/example/quittance/quittance/dialect/AesCbc") ∈ tables_1 := List.mem_of_getElem? (i := 6) rfl
theorem own_t7 : (Jvm.Cond.code ({ cls := "com/example/quittance/quittance/dialect/AesCbc", name := "isKeyLength", desc := "(I)Z" } : Jvm.MethodName) prog_9_method_2_code (1 : Nat) (Option.some Jvm.ClassFile.FieldType.boolean)) ∈ tables_1 := List.mem_of_getElem? (i := 7) rfl
theorem own_d1_4 : decode method_3_code 4 = .ok (.iload_n 0, 1) := by decide +kernel
theorem own_d1_5 : decode method_3_code 5 = .ok (.invokestatic 13, 3) := by decide +kernel
theorem own_t8 : (Jvm.Cond.methodLink "com/example/quittance/quittance/dialect/AesCbcIsKeyLengthPinLaw" (13 : Nat) ({ cls := "com/example/quittance/quittance/dialect/AesCbcIsKeyLengthPinLaw", name := "aesKeyBytes", desc := "(I)Z" } : Jvm.MethodName)) ∈ tables_1 := List.mem_of_getElem? (i := 8) rfl
theorem own_t9 : (Jvm.Cond.static ({ cls := "com/example/quittance/quittance/dialect/AesCbcIsKeyLengthPinLaw", name := "aesKeyBytes", desc := "(I)Z" } : Jvm.MethodName)) ∈ tables_1 := List.mem_of_getElem? (i := 9) rfl
theorem own_t2 : (Jvm.Cond.initialized "com/example/quittance/quittance/dialect/AesCbcIsKeyLengthPinLaw") ∈ tables_1 := List.mem_of_getElem? (i := 2) rfl
theorem own_t10 : (Jvm.Cond.code ({ cls := "com/example/quittance/quittance/dialect/AesCbcIsKeyLengthPinLaw", name := "aesKeyBytes", desc := "(I)Z" } : Jvm.MethodName) method_2_code (1 : Nat) (Option.some Jvm.ClassFile.FieldType.boolean)) ∈ tables_1 := List.mem_of_getElem? (i := 10) rfl
theorem own_d1_8 : decode method_3_code 8 = .ok (.if_icmp .ne 7, 3) := by decide +kernel
theorem own_d1_11 : decode method_3_code 11 = .ok (.iconst 1, 1) := by decide +kernel
theorem own_d1_12 : decode method_3_code 12 = .ok (.goto 4, 3) := by decide +kernel
theorem own_d1_15 : decode method_3_code 15 = .ok (.iconst 0, 1) := by decide +kernel
theorem own_d1_16 : decode method_3_code 16 = .ok (.ireturn, 1) := by decide +kernel
def own_j1_1 (x0 : Int32) : Int32 := (if (own_f2 x0) = (own_f3 x0) then (1 : Int32) else (0 : Int32))
def own_f1 (x0 : Int32) : Int32 := ((own_j1_1 x0) &&& 1)
def own_Q1 (x0 : Int32) (h0 : Heap) (n0 : Nat) (v : Option Value) (h : Heap) (L : List Loc) : Prop := v = some (.int (own_f1 x0)) ∧ Fr n0 L ∧ h = h0
abbrev own_R1 : Room := { frames := 1, cells := 0, slots := 0, locals := 13 }
theorem own_ef1 (m : MethodId) (z0 : Int32) : entryFrame m #[(.int z0)] 1 = mkF m 0 #[.val (.int z0)] [] := by first | (simp [entryFrame, mkF, argsToLocals, Value.category]; done) | rfl
set_option maxRecDepth 65536 in
set_option maxHeartbeats 40000000 in
theorem rm1 (l : Launch) (Z : State) (a0 : Array Value) (hw : ∀ d ∈ tables_1, d.before a0 Z = true) (ws : List Jvm.Cond) (x0 : Int32) (h0 : Heap) (n0 : Nat) : own_Met l Z (⟨"com/example/quittance/quittance/dialect/AesCbcIsKeyLengthPinLaw", "agrees", "(I)Z"⟩ : MethodName) method_3_code 1 (some .boolean) ws own_R1 #[(.int x0)] h0 (own_Q1 x0 h0 n0) := by
  refine own_met (plainFor_of_name own_pn1) ?_
  intro p e s m below meth c s₁ hx hby hml hown hnm hret hlk hZ e0 X0
  have N0 := Fr.nil n0
  have hml : c.maxLocals = 1 := hml
  have hown : s.vm.findClass "com/example/quittance/quittance/dialect/AesCbcIsKeyLengthPinLaw" = some m.cls := hown
  have hret : meth.sig.returnType = (some .boolean) := hret
  have hby : c.code = method_3_code := hby
  have hnm : meth.name = "agrees" := hnm
  rw [own_ef1]
  show own_Goes p e below _ (s₁.setTop (mkF m 0 #[.val (.int x0)] []))
  refine own_go (fun t k => XS.iloadN X0.here hx rfl (hb hby own_d1_0) rfl k) ?_
  show own_Goes p e below _ (s₁.setTop (mkF m 1 #[.val (.int x0)] [(.int x0)]))
  obtain ⟨_, T9, L9, X9, ⟨rfl, N9q, e9⟩, st9⟩ := own_callS X0 hx hZ hown (hw _ own_t4) (hw _ own_t5) (hw _ own_t6) (hw _ own_t7) (by decide) (as := [(.int x0)]) (rm2 l Z a0 hw [] x0 h0 n0) e0 own_pd0 rfl (pc := 1) (Ls := #[.val (.int x0)]) (rest := []) (W := 0) (by rw [hml]; rfl) (Nat.le_of_eq rfl) (by decide) (by decide) (hb hby own_d1_1) (by decide) (by decide)
  have N9 := Fr.app N0 N9q
  refine own_go st9 ?_
  show own_Goes p e below _ (T9.setTop (mkF m 4 #[.val (.int x0)] [(.int (own_f2 x0))]))
  refine own_go (fun t k => XS.iloadN X9.here hx rfl (hb hby own_d1_4) rfl k) ?_
  show own_Goes p e below _ (T9.setTop (mkF m 5 #[.val (.int x0)] [(.int x0), (.int (own_f2 x0))]))
  obtain ⟨_, T10, L10, X10, ⟨rfl, N10q, e10⟩, st10⟩ := own_callS X9 hx hZ hown (hw _ own_t8) (hw _ own_t9) (hw _ own_t2) (hw _ own_t10) (by decide) (as := [(.int x0)]) (rm3 l Z a0 hw [] x0 h0 n0) e9 own_pd0 rfl (pc := 5) (Ls := #[.val (.int x0)]) (rest := [(.int (own_f2 x0))]) (W := 1) (by rw [hml]; rfl) (Nat.le_of_eq rfl) (by decide) (by decide) (hb hby own_d1_5) (by decide) (by decide)
  have N10 := Fr.app N9 N10q
  refine own_go st10 ?_
  show own_Goes p e below _ (T10.setTop (mkF m 8 #[.val (.int x0)] [(.int (own_f3 x0)), (.int (own_f2 x0))]))
  suffices HH12 : own_Goes p e below (own_End s own_R1 (own_Q1 x0 h0 n0)) (T10.setTop (mkF m 16 #[.val (.int x0)] [(.int (own_j1_1 x0))])) by
    by_cases hc11 : (own_f2 x0) = (own_f3 x0)
    · refine own_go (fun t k => XS.icmpNo X10.here hx rfl (hb hby own_d1_8) rfl (teq hc11).2 k) ?_
      show own_Goes p e below _ (T10.setTop (mkF m 11 #[.val (.int x0)] []))
      refine own_go (fun t k => XS.iconst X10.here hx rfl (hb hby own_d1_11) k) ?_
      show own_Goes p e below _ (T10.setTop (mkF m 12 #[.val (.int x0)] [(.int (1 : Int32))]))
      refine own_go (fun t k => XS.goto X10.here hx rfl (pc0 := 12) (pc' := 16) rfl (hb hby own_d1_12) (by decide) (by decide) k) ?_
      rw [show (own_j1_1 x0) = (1 : Int32) from by rw [own_j1_1, if_pos hc11]] at HH12
      exact HH12
    · refine own_go (fun t k => XS.icmpYes X10.here hx rfl (pc0 := 8) (pc' := 15) rfl (hb hby own_d1_8) rfl (feq hc11).2 (by decide) (by decide) k) ?_
      show own_Goes p e below _ (T10.setTop (mkF m 15 #[.val (.int x0)] []))
      refine own_go (fun t k => XS.iconst X10.here hx rfl (hb hby own_d1_15) k) ?_
      rw [show (own_j1_1 x0) = (0 : Int32) from by rw [own_j1_1, if_neg hc11]] at HH12
      exact HH12
  show own_Goes p e below _ (T10.setTop (mkF m 16 #[.val (.int x0)] [(.int (own_j1_1 x0))]))
  exact own_retN X10 hx hlk hret (by simp) (z' := ((own_j1_1 x0) &&& 1)) rfl (hb hby own_d1_16) (by decide) (by decide) ⟨by rw [own_f1], N10, e10⟩
theorem own_t0 : (Jvm.Cond.methodLink "com/example/quittance/quittance/dialect/AesCbcIsKeyLengthPinLaw" (18 : Nat) ({ cls := "com/example/quittance/quittance/dialect/AesCbcIsKeyLengthPinLaw", name := "agrees", desc := "(I)Z" } : Jvm.MethodName)) ∈ tables_1 := List.mem_of_getElem? (i := 0) rfl
theorem own_t1 : (Jvm.Cond.static ({ cls := "com/example/quittance/quittance/dialect/AesCbcIsKeyLengthPinLaw", name := "agrees", desc := "(I)Z" } : Jvm.MethodName)) ∈ tables_1 := List.mem_of_getElem? (i := 1) rfl
theorem own_t3 : (Jvm.Cond.code ({ cls := "com/example/quittance/quittance/dialect/AesCbcIsKeyLengthPinLaw", name := "agrees", desc := "(I)Z" } : Jvm.MethodName) method_3_code (1 : Nat) (Option.some Jvm.ClassFile.FieldType.boolean)) ∈ tables_1 := List.mem_of_getElem? (i := 3) rfl
def own_v0_1 (x1 : Int32) : Int32 := ((x1 &&& (63 : Int32)) - (8 : Int32))
def own_j0_1 (x0 : Int32) (x1 : Int32) : Int32 := (if (own_f1 x0) = (0 : Int32) then (0 : Int32) else (if (own_f1 (own_v0_1 x1)) = (0 : Int32) then (0 : Int32) else (1 : Int32)))
def own_f0 (x0 : Int32) (x1 : Int32) : Int32 := ((own_j0_1 x0 x1) &&& 1)
def own_Q0 (x0 : Int32) (x1 : Int32) (h0 : Heap) (n0 : Nat) (v : Option Value) (h : Heap) (L : List Loc) : Prop := v = some (.int (own_f0 x0 x1)) ∧ Fr n0 L ∧ True
theorem own_ef0 (m : MethodId) (z0 : Int32) (z1 : Int32) : entryFrame m #[(.int z0), (.int z1)] maxLocals = mkF m 0 #[.val (.int z0), .val (.int z1), .unset, .unset] [] := by first | (simp [entryFrame, mkF, argsToLocals, Value.category, maxLocals]; done) | rfl
set_option maxRecDepth 65536 in
set_option maxHeartbeats 40000000 in
theorem rm0 (l : Launch) (Z : State) (a0 : Array Value) (hw : ∀ d ∈ tables_1, d.before a0 Z = true) (ws : List Jvm.Cond) (x0 : Int32) (x1 : Int32) (h0 : Heap) (n0 : Nat) : own_Met l Z x code maxLocals ret ws room_1 #[(.int x0), (.int x1)] h0 (own_Q0 x0 x1 h0 n0) := by
  refine own_met (plainFor_of_name own_pn1) ?_
  intro p e s m below meth c s₁ hx hby hml hown hnm hret hlk hZ e0 X0
  have N0 := Fr.nil n0
  have hml : c.maxLocals = 4 := hml
  have hown : s.vm.findClass "com/example/quittance/quittance/dialect/AesCbcIsKeyLengthPinLaw" = some m.cls := hown
  have hret : meth.sig.returnType = (some .boolean) := hret
  have hby : c.code = code := hby
  have hnm : meth.name = "law" := hnm
  rw [own_ef0]
  show own_Goes p e below _ (s₁.setTop (mkF m 0 #[.val (.int x0), .val (.int x1), .unset, .unset] []))
  refine own_go (fun t k => XS.iloadN X0.here hx rfl (hb hby at_0) rfl k) ?_
  show own_Goes p e below _ (s₁.setTop (mkF m 1 #[.val (.int x0), .val (.int x1), .unset, .unset] [(.int x0)]))
  refine own_go (fun t k => XS.istoreN X0.here hx rfl (hb hby at_1) rfl (l' := #[.val (.int x0), .val (.int x1), .val (.int x0), .unset]) rfl k) ?_
  show own_Goes p e below _ (s₁.setTop (mkF m 2 #[.val (.int x0), .val (.int x1), .val (.int x0), .unset] []))
  refine own_go (fun t k => XS.iloadN X0.here hx rfl (hb hby at_2) rfl k) ?_
  show own_Goes p e below _ (s₁.setTop (mkF m 3 #[.val (.int x0), .val (.int x1), .val (.int x0), .unset] [(.int x1)]))
  refine own_go (fun t k => XS.bipush X0.here hx rfl (hb hby at_3) k) ?_
  show own_Goes p e below _ (s₁.setTop (mkF m 5 #[.val (.int x0), .val (.int x1), .val (.int x0), .unset] [(.int (63 : Int32)), (.int x1)]))
  refine own_go (fun t k => XS.iand X0.here hx rfl (hb hby at_5) rfl k) ?_
  show own_Goes p e below _ (s₁.setTop (mkF m 6 #[.val (.int x0), .val (.int x1), .val (.int x0), .unset] [(.int (x1 &&& (63 : Int32)))]))
  refine own_go (fun t k => XS.bipush X0.here hx rfl (hb hby at_6) k) ?_
  show own_Goes p e below _ (s₁.setTop (mkF m 8 #[.val (.int x0), .val (.int x1), .val (.int x0), .unset] [(.int (8 : Int32)), (.int (x1 &&& (63 : Int32)))]))
  refine own_go (fun t k => XS.isub X0.here hx rfl (hb hby at_8) rfl k) ?_
  show own_Goes p e below _ (s₁.setTop (mkF m 9 #[.val (.int x0), .val (.int x1), .val (.int x0), .unset] [(.int ((x1 &&& (63 : Int32)) - (8 : Int32)))]))
  refine own_go (fun t k => XS.istoreN X0.here hx rfl (hb hby at_9) rfl (l' := #[.val (.int x0), .val (.int x1), .val (.int x0), .val (.int (own_v0_1 x1))]) rfl k) ?_
  show own_Goes p e below _ (s₁.setTop (mkF m 10 #[.val (.int x0), .val (.int x1), .val (.int x0), .val (.int (own_v0_1 x1))] []))
  refine own_go (fun t k => XS.iloadN X0.here hx rfl (hb hby at_10) rfl k) ?_
  show own_Goes p e below _ (s₁.setTop (mkF m 11 #[.val (.int x0), .val (.int x1), .val (.int x0), .val (.int (own_v0_1 x1))] [(.int x0)]))
  obtain ⟨_, T13, L13, X13, ⟨rfl, N13q, e13⟩, st13⟩ := own_callS X0 hx hZ hown (hw _ own_t0) (hw _ own_t1) (hw _ own_t2) (hw _ own_t3) (by decide) (as := [(.int x0)]) (rm1 l Z a0 hw [] x0 h0 n0) e0 own_pd0 rfl (pc := 11) (Ls := #[.val (.int x0), .val (.int x1), .val (.int x0), .val (.int (own_v0_1 x1))]) (rest := []) (W := 0) (by rw [hml]; rfl) (Nat.le_of_eq rfl) (by decide) (by decide) (hb hby at_11) (by decide) (by decide)
  have N13 := Fr.app N0 N13q
  refine own_go st13 ?_
  show own_Goes p e below _ (T13.setTop (mkF m 14 #[.val (.int x0), .val (.int x1), .val (.int x0), .val (.int (own_v0_1 x1))] [(.int (own_f1 x0))]))
  suffices HH17 : ∀ (T17 : State) (L17 : List Loc) (X17 : Stand p l e room_1 s m #[(.int x0), (.int x1)] below meth c T17 L17 0 0) (e17 : T17.heap = h0) (N17 : Fr n0 L17), own_Goes p e below (own_End s room_1 (own_Q0 x0 x1 h0 n0)) (T17.setTop (mkF m 29 #[.val (.int x0), .val (.int x1), .val (.int x0), .val (.int (own_v0_1 x1))] [(.int (own_j0_1 x0 x1))])) by
    by_cases hc14 : (own_f1 x0) = (0 : Int32)
    · refine own_go (fun t k => XS.ifYes X13.here hx rfl (pc0 := 14) (pc' := 28) rfl (hb hby at_14) rfl ((if0 _ _).trans (teq hc14).1) (by decide) (by decide) k) ?_
      show own_Goes p e below _ (T13.setTop (mkF m 28 #[.val (.int x0), .val (.int x1), .val (.int x0), .val (.int (own_v0_1 x1))] []))
      refine own_go (fun t k => XS.iconst X13.here hx rfl (hb hby at_28) k) ?_
      rw [show (own_j0_1 x0 x1) = (0 : Int32) from by rw [own_j0_1, if_pos hc14]] at HH17
      exact HH17 _ _ X13 e13 N13
    · refine own_go (fun t k => XS.ifNo X13.here hx rfl (hb hby at_14) rfl ((if0 _ _).trans (feq hc14).1) k) ?_
      show own_Goes p e below _ (T13.setTop (mkF m 17 #[.val (.int x0), .val (.int x1), .val (.int x0), .val (.int (own_v0_1 x1))] []))
      refine own_go (fun t k => XS.iloadN X13.here hx rfl (hb hby at_17) rfl k) ?_
      show own_Goes p e below _ (T13.setTop (mkF m 18 #[.val (.int x0), .val (.int x1), .val (.int x0), .val (.int (own_v0_1 x1))] [(.int (own_v0_1 x1))]))
      obtain ⟨_, T15, L15, X15, ⟨rfl, N15q, e15⟩, st15⟩ := own_callS X13 hx hZ hown (hw _ own_t0) (hw _ own_t1) (hw _ own_t2) (hw _ own_t3) (by decide) (as := [(.int (own_v0_1 x1))]) (rm1 l Z a0 hw [] (own_v0_1 x1) h0 n0) e13 own_pd0 rfl (pc := 18) (Ls := #[.val (.int x0), .val (.int x1), .val (.int x0), .val (.int (own_v0_1 x1))]) (rest := []) (W := 0) (by rw [hml]; rfl) (Nat.le_of_eq rfl) (by decide) (by decide) (hb hby at_18) (by decide) (by decide)
      have N15 := Fr.app N13 N15q
      refine own_go st15 ?_
      show own_Goes p e below _ (T15.setTop (mkF m 21 #[.val (.int x0), .val (.int x1), .val (.int x0), .val (.int (own_v0_1 x1))] [(.int (own_f1 (own_v0_1 x1)))]))
      by_cases hc16 : (own_f1 (own_v0_1 x1)) = (0 : Int32)
      · refine own_go (fun t k => XS.ifYes X15.here hx rfl (pc0 := 21) (pc' := 28) rfl (hb hby at_21) rfl ((if0 _ _).trans (teq hc16).1) (by decide) (by decide) k) ?_
        show own_Goes p e below _ (T15.setTop (mkF m 28 #[.val (.int x0), .val (.int x1), .val (.int x0), .val (.int (own_v0_1 x1))] []))
        refine own_go (fun t k => XS.iconst X15.here hx rfl (hb hby at_28) k) ?_
        rw [show (own_j0_1 x0 x1) = (0 : Int32) from by rw [own_j0_1, if_neg hc14, if_pos hc16]] at HH17
        exact HH17 _ _ X15 e15 N15
      · refine own_go (fun t k => XS.ifNo X15.here hx rfl (hb hby at_21) rfl ((if0 _ _).trans (feq hc16).1) k) ?_
        show own_Goes p e below _ (T15.setTop (mkF m 24 #[.val (.int x0), .val (.int x1), .val (.int x0), .val (.int (own_v0_1 x1))] []))
        refine own_go (fun t k => XS.iconst X15.here hx rfl (hb hby at_24) k) ?_
        show own_Goes p e below _ (T15.setTop (mkF m 25 #[.val (.int x0), .val (.int x1), .val (.int x0), .val (.int (own_v0_1 x1))] [(.int (1 : Int32))]))
        refine own_go (fun t k => XS.goto X15.here hx rfl (pc0 := 25) (pc' := 29) rfl (hb hby at_25) (by decide) (by decide) k) ?_
        rw [show (own_j0_1 x0 x1) = (1 : Int32) from by rw [own_j0_1, if_neg hc14, if_neg hc16]] at HH17
        exact HH17 _ _ X15 e15 N15
  intro T17 L17 X17 e17 N17
  show own_Goes p e below _ (T17.setTop (mkF m 29 #[.val (.int x0), .val (.int x1), .val (.int x0), .val (.int (own_v0_1 x1))] [(.int (own_j0_1 x0 x1))]))
  exact own_retN X17 hx hlk hret (by simp) (z' := ((own_j0_1 x0 x1) &&& 1)) rfl (hb hby at_29) (by decide) (by decide) ⟨by rw [own_f0], N17, trivial⟩
theorem own_f2_eq (c : Int32) : own_f2 c = if c.toInt = 16 ∨ c.toInt = 24 ∨ c.toInt = 32 then 1 else 0 := by
  unfold own_f2 own_j2_1
  simp only [← Int32.toInt_inj]
  rw [show (16 : Int32).toInt = 16 from rfl, show (24 : Int32).toInt = 24 from rfl, show (32 : Int32).toInt = 32 from rfl]
  by_cases h1 : c.toInt = 16
  · rw [if_pos h1, if_pos (by omega)]; rfl
  · rw [if_neg h1]
    by_cases h2 : c.toInt = 24
    · rw [if_pos h2, if_pos (by omega)]; rfl
    · rw [if_neg h2]
      by_cases h3 : c.toInt = 32
      · rw [if_pos h3, if_pos (by omega)]; rfl
      · rw [if_neg h3, if_neg (by omega)]; rfl
theorem own_f3_eq (c : Int32) : own_f3 c = if c.toInt = 16 ∨ c.toInt = 24 ∨ c.toInt = 32 then 1 else 0 := by
  unfold own_f3 own_j3_1
  have e1 : (c &&& 7).toInt = c.toInt % 2 ^ 3 := Jvm.Kit.i32_mask c 7 (k := 3) (by decide) (by decide)
  simp only [← Int32.toInt_inj, Int32.lt_iff_toInt_lt, e1]
  rw [show (16 : Int32).toInt = 16 from rfl, show (32 : Int32).toInt = 32 from rfl, show (0 : Int32).toInt = 0 from rfl]
  by_cases h1 : c.toInt < 16
  · rw [if_pos h1, if_neg (by omega)]; rfl
  · rw [if_neg h1]
    by_cases h2 : 32 < c.toInt
    · rw [if_pos h2, if_neg (by omega)]; rfl
    · rw [if_neg h2]
      by_cases h3 : c.toInt % 2 ^ 3 = 0
      · rw [if_pos h3, if_pos (by omega)]; rfl
      · rw [if_neg h3, if_neg (by omega)]; rfl
theorem own_f1_eq (c : Int32) : own_f1 c = 1 := by
  unfold own_f1 own_j1_1
  rw [own_f2_eq, own_f3_eq, if_pos rfl]; rfl
theorem own_law (x y : Int32) : own_f0 x y = 1 := by
  unfold own_f0 own_j0_1
  rw [own_f1_eq, own_f1_eq, if_neg (by decide), if_neg (by decide)]; rfl
set_option maxRecDepth 65536 in
set_option maxHeartbeats 40000000 in
theorem comes_1 {Post : Tables → Env → Array Value → State → Outcome → State → Prop} (hpost : ∀ tb e args s v u, (limb_1_1.after args s (.returned v) u = true ∧ limb_1_2.after args s (.returned v) u = true) → FrameEnd s (.returned v) u (Jvm.fieldLocs frame_1_writes args s ++ Jvm.arrayLocs frame_1_arrays args s ++ Jvm.staticLocs frame_1_statics s) 0 0 → Post tb e args s (.returned v) u) :
    ArmFor flags0 classFile x code maxLocals ret World_1 tables_1 room_1 Calls_1 rest_1 Pre_1 Post := by
  intro l hfl _ _ p e ha hc hk s m args below hf hA hF happ hP
  obtain ⟨hcalls, hrest, hpre⟩ := hP
  obtain ⟨-, -, -, hnamed, -, -, -, hat⟩ := (Spec.applies_iff hf).mp happ
  obtain ⟨hg, hn⟩ := and_e (Cond.before_iff.mp (show (Jvm.Cond.and given_1 narrow_1).before args s = true from hpre))
  obtain ⟨gg1, gg2⟩ := and_e hg
  obtain ⟨gg3, gg4⟩ := and_e gg2
  obtain ⟨w0, w1, rfl⟩ : ∃ w0 w1 : Value, args = #[w0, w1] := by
    have hs : args.size = 2 := by simpa [Cond.value, given_1] using gg1
    obtain ⟨L⟩ := args
    match L, hs with
    | [w0, w1], _ => exact ⟨w0, w1, rfl⟩
  have hw := fun d (hd : d ∈ tables_1) => atoms_spec (ws := Jvm.Cond.code x code maxLocals ret :: tables_1) hat d (List.mem_cons_of_mem _ hd)
  have hfit : Fit s := fun {y c} hc i hi => by
    obtain ⟨ha, rfl⟩ := Array.getElem?_eq_some_iff.mp hc
    have q := List.all_eq_true.mp ((Array.all_eq_true_iff_forall_mem.mp hF) _ (Array.getElem_mem ha)) i (List.mem_range.mpr hi)
    simpa [Array.getElem?_eq_getElem hi] using q
  obtain ⟨i0, ei0⟩ := is_v gg3
  obtain rfl : w0 = (.int i0) := Option.some.inj ei0
  obtain ⟨i1, ei1⟩ := is_v gg4
  obtain rfl : w1 = (.int i1) := Option.some.inj ei1
  obtain ⟨n, o, h1, h2, h3, v, L, rfl, hQ, hq⟩ := rm0 l s _ hw tables_1 i0 i1 s.heap s.heap.size p e ha hc hk s m _ below hf ((Spec.applies_iff_loose hf).mp happ).1 ⟨rfl, State.Warmed39.refl s, rfl⟩ trivial
  obtain ⟨hv, N, -⟩ := hQ
  rw [show (own_f0 i0 i1 : Int32) = 1 from own_law i0 i1] at hv
  subst hv
  refine ⟨n, _, h1, h2, h3, hpost _ _ _ _ _ _ ⟨Cond.after_iff.mpr rfl, Cond.after_iff.mpr (eq_i res_at (Term.int_eval (1)) rfl)⟩ ⟨hq.1, hq.2.1, (hq.2.2.sift fun y hy => Or.inr (N y hy)).mono (by decide) (by decide)⟩⟩
theorem main_1_1 : Claimed_1_1 := comes_1 fun _ _ _ _ _ _ h hF => ⟨h.1, hF⟩
theorem main_1_2 : Claimed_1_2 := comes_1 fun _ _ _ _ _ _ h hF => ⟨h.2, hF⟩
end Jvm.Pilot.@@N@@
namespace Jvm.Pilot.@@N@@
open Jvm Jvm.ClassFile Sem Op Lib Jvm.Free Jvm.Stand Jvm.Pilot.@@N@@.Jvm.D
/-! MADE BY PROGRAM (witnessworld.py) out of the Statement's table words and the real class files: 9 classes; the members and pool entries that the words name. The judged class is class 1, her method 3. -/
namespace start1
open Jvm.ClassFile
def u (s : String) : CpInfo := .utf8 (stringToUtf16 s)
/-- a pool by its gaps: so many unusable entries, then the entry; so many at the end -/
def gap : Nat → List CpInfo → List CpInfo
  | 0, r => r
  | n + 1, r => .unusable :: gap n r
def poolList (es : List (Nat × CpInfo)) (last : Nat) : List CpInfo := es.foldr (fun e r => gap e.1 (e.2 :: r)) (gap last [])
def pool (es : List (Nat × CpInfo)) (last : Nat) : Array CpInfo := ⟨poolList es last⟩
def fileOf (pool : Array CpInfo) (this : Nat) (attrs : Array Attribute := #[]) (ms : Array MethodInfo := #[]) (fl : Nat := 33) (sup : Nat := 0) (ifs : Array Nat := #[]) (fds : Array FieldInfo := #[]) : ClassFile where
  minorVersion := 0
  majorVersion := 65
  constantPool := pool
  accessFlags := fl
  thisClass := this
  superClass := sup
  interfaces := ifs
  fields := fds
  methods := ms
  attributes := attrs
def plain (name : String) (sup : Option ClassId) : Class where
  name := name
  kind := .ordinary
  loader := none
  accessFlags := 33
  super := sup
  interfaces := #[]
  cf := none
  fields := #[]
  methods := #[]
  instanceTypes := #[]
  staticTypes := #[]
  resolved := #[]
  callSites := []
  init := .initialized
  statics := none
  mirror := none

def pool0 : Array CpInfo := pool [(5, u "<init>"), (0, u "()V"), (1, .class_ 10), (1, u "java/lang/Object")] 113

def k0m0 : Method := { name := "<init>", desc := "()V", sig := { parameters := [], returnType := none }, accessFlags := 1, code := none }
/-- java/lang/Object -/
def k0 : Class := { plain "java/lang/Object" none with
  accessFlags := 33
  interfaces := #[]
  cf := some (fileOf pool0 8 #[] #[{ accessFlags := 1, nameIndex := 5, descriptorIndex := 6, attributes := #[] }] 33 0 #[] #[])
  fields := #[]
  methods := #[k0m0]
  instanceTypes := #[]
  staticTypes := #[]
  resolved := Array.replicate 124 none
  statics := none }

def pool1 : Array CpInfo := pool [(2, .class_ 4), (1, u "java/lang/Object"), (0, u "<init>"), (0, u "()V"), (0, .methodref 8 9), (0, .class_ 10), (0, .nameAndType 11 12), (0, u "com/example/quittance/quittance/dialect/AesCbc"), (0, u "isKeyLength"), (0, u "(I)Z"), (0, .methodref 14 15), (0, .class_ 16), (0, .nameAndType 17 12), (0, u "com/example/quittance/quittance/dialect/AesCbcIsKeyLengthPinLaw"), (0, u "aesKeyBytes"), (0, .methodref 14 19), (0, .nameAndType 20 12), (0, u "agrees"), (3, u "law"), (0, u "(II)Z")] 2

def k1m0 : Method := { name := "<init>", desc := "()V", sig := { parameters := [], returnType := none }, accessFlags := 2, code := none }
def k1c1 : Code := { maxStack := 2, maxLocals := 1, code := method_2_code, exceptionTable := #[], attributes := #[] }
def k1m1 : Method := { name := "aesKeyBytes", desc := "(I)Z", sig := { parameters := [.int], returnType := some .boolean }, accessFlags := 10, code := some k1c1 }
def k1c2 : Code := { maxStack := 2, maxLocals := 1, code := method_3_code, exceptionTable := #[], attributes := #[] }
def k1m2 : Method := { name := "agrees", desc := "(I)Z", sig := { parameters := [.int], returnType := some .boolean }, accessFlags := 10, code := some k1c2 }
def k1c3 : Code := { maxStack := 2, maxLocals := 4, code := code, exceptionTable := #[], attributes := #[] }
def k1m3 : Method := { name := "law", desc := "(II)Z", sig := { parameters := [.int, .int], returnType := some .boolean }, accessFlags := 9, code := some k1c3 }
/-- com/example/quittance/quittance/dialect/AesCbcIsKeyLengthPinLaw -/
def k1 : Class := { plain "com/example/quittance/quittance/dialect/AesCbcIsKeyLengthPinLaw" (some 0) with
  accessFlags := 49
  interfaces := #[]
  cf := some (fileOf pool1 14 #[] #[{ accessFlags := 2, nameIndex := 5, descriptorIndex := 6, attributes := #[] }, { accessFlags := 10, nameIndex := 17, descriptorIndex := 12, attributes := #[] }, { accessFlags := 10, nameIndex := 20, descriptorIndex := 12, attributes := #[] }, { accessFlags := 9, nameIndex := 24, descriptorIndex := 25, attributes := #[] }] 49 2 #[] #[])
  fields := #[]
  methods := #[k1m0, k1m1, k1m2, k1m3]
  instanceTypes := #[]
  staticTypes := #[]
  resolved := Array.replicate 28 none
  statics := none }

def pool2 : Array CpInfo := pool [(2, .class_ 4), (1, u "java/lang/Object"), (10, .class_ 17), (1, u "com/example/quittance/quittance/dialect/AesCbc"), (0, u "key"), (0, u "Ljavax/crypto/spec/SecretKeySpec;"), (7, u "iv"), (0, u "Ljavax/crypto/spec/IvParameterSpec;"), (54, u "BLOCK_BYTES"), (0, u "I"), (5, u "isKeyLength"), (0, u "(I)Z")] 10

def k2c0 : Code := { maxStack := 2, maxLocals := 1, code := prog_9_method_2_code, exceptionTable := #[], attributes := #[] }
def k2m0 : Method := { name := "isKeyLength", desc := "(I)Z", sig := { parameters := [.int], returnType := some .boolean }, accessFlags := 8, code := some k2c0 }
/-- com/example/quittance/quittance/dialect/AesCbc -/
def k2 : Class := { plain "com/example/quittance/quittance/dialect/AesCbc" (some 0) with
  accessFlags := 48
  interfaces := #[]
  cf := some (fileOf pool2 15 #[] #[{ accessFlags := 8, nameIndex := 90, descriptorIndex := 91, attributes := #[] }] 48 2 #[] #[{ accessFlags := 24, nameIndex := 83, descriptorIndex := 84, attributes := #[] }, { accessFlags := 18, nameIndex := 18, descriptorIndex := 19, attributes := #[] }, { accessFlags := 18, nameIndex := 27, descriptorIndex := 28, attributes := #[] }])
  fields := #[{ name := "BLOCK_BYTES", type := .int, accessFlags := 24, slot := 0, constantValue := 0 }, { name := "key", type := (.object "javax/crypto/spec/SecretKeySpec"), accessFlags := 18, slot := 0, constantValue := 0 }, { name := "iv", type := (.object "javax/crypto/spec/IvParameterSpec"), accessFlags := 18, slot := 1, constantValue := 0 }]
  methods := #[k2m0]
  instanceTypes := #[(.object "javax/crypto/spec/SecretKeySpec"), (.object "javax/crypto/spec/IvParameterSpec")]
  staticTypes := #[.int]
  resolved := Array.replicate 102 none
  statics := none }

def pool3 : Array CpInfo := pool [(1, u "java/lang/Cloneable"), (0, .class_ 1), (0, u "java/lang/Object"), (0, .class_ 3)] 3

/-- java/lang/Cloneable -/
def k3 : Class := { plain "java/lang/Cloneable" (some 0) with
  accessFlags := 1537
  interfaces := #[]
  cf := some (fileOf pool3 2 #[] #[] 1537 4 #[] #[])
  fields := #[]
  methods := #[]
  instanceTypes := #[]
  staticTypes := #[]
  resolved := Array.replicate 8 none
  statics := none }

def pool4 : Array CpInfo := pool [(1, u "java/io/Serializable"), (0, .class_ 1), (0, u "java/lang/Object"), (0, .class_ 3)] 3

/-- java/io/Serializable -/
def k4 : Class := { plain "java/io/Serializable" (some 0) with
  accessFlags := 1537
  interfaces := #[]
  cf := some (fileOf pool4 2 #[] #[] 1537 4 #[] #[])
  fields := #[]
  methods := #[]
  instanceTypes := #[]
  staticTypes := #[]
  resolved := Array.replicate 8 none
  statics := none }

/-- the primitive byte -/
def k5 : Class := { plain "byte" none with kind := .primitive 'B', accessFlags := 0x411 }
/-- [B -/
def k6 : Class := { plain "[B" (some 0) with kind := .array 5 .byte, interfaces := #[3, 4], accessFlags := 1041 }

/-- the primitive int -/
def k7 : Class := { plain "int" none with kind := .primitive 'I', accessFlags := 0x411 }
/-- [I -/
def k8 : Class := { plain "[I" (some 0) with kind := .array 7 .int, interfaces := #[3, 4], accessFlags := 1041 }

def heap : Heap := #[]
def classes : Array Class := #[k0, k1, k2, k3, k4, k5, k6, k7, k8]
def interned : List (Array UInt16 × Addr) := []
def slotsUsed : Nat := 0
def theMethod : MethodId := ⟨1, 3⟩
def args0 : Array Value := #[.int 5, .int 7]
def aboutOver (below : List Frame) : State where
  vm := { classes := classes, interned := interned.toArray }
  heap := heap
  slotsUsed := slotsUsed
  threads := #[{ frames := .invoking theMethod args0 :: below }]
def below0 : List Frame := [.native { method := ⟨0, 0⟩, args := #[] }]
def about1 : State := aboutOver below0
def p0 : Program := .bare "" "" ""
def e0 : Env := launch0.env 0 0 0
theorem w_frames : about1.frames = Frame.invoking theMethod args0 :: below0 := rfl
set_option maxRecDepth 65536 in
theorem w_args : argsFit about1.vm theMethod args0 = true := by decide +kernel
set_option maxRecDepth 65536 in
theorem w_heap : heapFits about1 = true := by decide +kernel
set_option maxRecDepth 65536 in
theorem w_runnable : about1.curStatus? = some .runnable := by decide +kernel
set_option maxRecDepth 65536 in
theorem w_alone : about1.alone = true := by decide +kernel
set_option maxRecDepth 65536 in
theorem w_named : about1.methodNamed? x = some theMethod := by decide +kernel
set_option maxRecDepth 65536 in
theorem w_hears : about1.hears theMethod below0 = true := by decide +kernel
set_option maxRecDepth 65536 in
theorem w_ripe : about1.ripe theMethod args0 below0 = true := by decide +kernel
theorem w_running : about1.status = .running := rfl
set_option maxRecDepth 65536 in
theorem w_room : about1.hasRoom e0.platform room_1 = true :=
  launch0.hasRoom_least _ room_1 (by decide +kernel) (by decide +kernel) (by decide +kernel) (by decide +kernel) (by decide +kernel) (by decide +kernel)
theorem allAtoms_all (ts : List Jvm.Cond) (a : Array Jvm.Value) (st : Jvm.State) : (allAtoms ts).before a st = ts.all (fun c => c.before a st) := by
  induction ts with
  | nil => rfl
  | cons c t ih =>
    show (Jvm.Cond.and c (allAtoms t)).before a st = _
    rw [Jvm.Cond.before_and, ih, List.all_cons]
def words1 : List Jvm.Cond := Jvm.Cond.code x code maxLocals ret :: tables_1
/-- a 'code' word, met by the world's own term for the bytes: nothing is compared byte by byte -/
theorem code_word {y : MethodName} {bytes : ByteArray} {mx : Nat} {rt : Option FieldType} {a : Array Value} {s : State} {m : MethodId} {meth : Method} {c : Code} (h1 : s.methodNamed? y = some m) (h2 : s.vm.method? m = some meth) (h3 : meth.code = some c) (h4 : c.code = bytes)
    (h5 : (c.maxLocals == mx && c.exceptionTable.isEmpty && decide (c.maxStack ≤ mostOperands) && decide (meth.sig.returnType = rt) && !meth.locks && decide (parseMethodDescriptor y.desc = some meth.sig)) = true) : (Jvm.Cond.code y bytes mx rt).before a s = true := by
  simp only [Bool.and_eq_true, beq_iff_eq, Bool.not_eq_true', decide_eq_true_eq] at h5
  obtain ⟨⟨⟨⟨⟨g1, g2⟩, g3⟩, g4⟩, g5⟩, g6⟩ := h5
  simp [Cond.before, Cond.holds, Cond.value, h1, h2, h3, h4, g1, g2, g3, g4, g5, g6]
def isCode : Jvm.Cond → Bool
  | .code _ _ _ _ => true
  | _ => false
theorem all_split {L : List Jvm.Cond} {P : Jvm.Cond → Bool} (h1 : L.all (fun c => isCode c || P c) = true) (h2 : ∀ c ∈ L.filter isCode, P c = true) : L.all P = true := by
  refine List.all_eq_true.mpr fun c hc => ?_
  have h := List.all_eq_true.mp h1 c hc
  rcases Bool.eq_false_or_eq_true (isCode c) with hi | hi
  · exact h2 c (List.mem_filter.mpr ⟨hc, hi⟩)
  · simpa [hi] using h
set_option maxRecDepth 65536 in
theorem w_c0 : (Jvm.Cond.code x code maxLocals ret).before args0 about1 = true := code_word (m := ⟨1, 3⟩) (meth := k1m3) (c := k1c3) (by decide +kernel) rfl rfl rfl (by decide +kernel)
set_option maxRecDepth 65536 in
theorem w_c1 : (Jvm.Cond.code ({ cls := "com/example/quittance/quittance/dialect/AesCbcIsKeyLengthPinLaw", name := "agrees", desc := "(I)Z" } : Jvm.MethodName) method_3_code (1 : Nat) (Option.some Jvm.ClassFile.FieldType.boolean)).before args0 about1 = true := code_word (m := ⟨1, 2⟩) (meth := k1m2) (c := k1c2) (by decide +kernel) rfl rfl rfl (by decide +kernel)
set_option maxRecDepth 65536 in
theorem w_c2 : (Jvm.Cond.code ({ cls := "com/example/quittance/quittance/dialect/AesCbc", name := "isKeyLength", desc := "(I)Z" } : Jvm.MethodName) prog_9_method_2_code (1 : Nat) (Option.some Jvm.ClassFile.FieldType.boolean)).before args0 about1 = true := code_word (m := ⟨2, 0⟩) (meth := k2m0) (c := k2c0) (by decide +kernel) rfl rfl rfl (by decide +kernel)
set_option maxRecDepth 65536 in
theorem w_c3 : (Jvm.Cond.code ({ cls := "com/example/quittance/quittance/dialect/AesCbcIsKeyLengthPinLaw", name := "aesKeyBytes", desc := "(I)Z" } : Jvm.MethodName) method_2_code (1 : Nat) (Option.some Jvm.ClassFile.FieldType.boolean)).before args0 about1 = true := code_word (m := ⟨1, 1⟩) (meth := k1m1) (c := k1c1) (by decide +kernel) rfl rfl rfl (by decide +kernel)
def codes1 : List Jvm.Cond := [Jvm.Cond.code x code maxLocals ret, Jvm.Cond.code ({ cls := "com/example/quittance/quittance/dialect/AesCbcIsKeyLengthPinLaw", name := "agrees", desc := "(I)Z" } : Jvm.MethodName) method_3_code (1 : Nat) (Option.some Jvm.ClassFile.FieldType.boolean), Jvm.Cond.code ({ cls := "com/example/quittance/quittance/dialect/AesCbc", name := "isKeyLength", desc := "(I)Z" } : Jvm.MethodName) prog_9_method_2_code (1 : Nat) (Option.some Jvm.ClassFile.FieldType.boolean), Jvm.Cond.code ({ cls := "com/example/quittance/quittance/dialect/AesCbcIsKeyLengthPinLaw", name := "aesKeyBytes", desc := "(I)Z" } : Jvm.MethodName) method_2_code (1 : Nat) (Option.some Jvm.ClassFile.FieldType.boolean)]
set_option maxRecDepth 65536 in
theorem codes_eq : words1.filter isCode = codes1 := rfl
theorem w_codes : ∀ c ∈ words1.filter isCode, c.before args0 about1 = true := by
  rw [codes_eq]
  intro c hc
  simp only [codes1, List.mem_cons, List.not_mem_nil, or_false] at hc
  rcases hc with rfl | rfl | rfl | rfl
  · exact w_c0
  · exact w_c1
  · exact w_c2
  · exact w_c3
set_option maxRecDepth 65536 in
theorem w_t1 : words1.all (fun c => isCode c || c.before args0 about1) = true := by decide +kernel
theorem w_tables : (allAtoms (Jvm.Cond.code x code maxLocals ret :: tables_1)).before args0 about1 = true := by
  rw [allAtoms_all]
  show words1.all (fun c => c.before args0 about1) = true
  refine all_split ?_ w_codes
  rw [w_t1]
set_option maxRecDepth 65536 in
theorem w_case : (Jvm.Cond.and given_1 narrow_1).before args0 about1 = true := by decide +kernel
theorem w_applies : (headSpec (Jvm.Cond.code x code maxLocals ret :: tables_1) room_1).applies x e0.platform about1 = true :=
  (Spec.applies_iff w_frames).mpr ⟨w_running, w_runnable, w_alone, w_named, w_hears, w_ripe, w_room, w_tables⟩
theorem atStart : AtStart classFile x code maxLocals ret World_1 tables_1 room_1 Calls_1 rest_1 Pre_1 launch0 p0 e0 about1 theMethod args0 below0 :=
  ⟨lists_1, trivial, launch0.admits_env _ _ _, launch0.least_env, fairChoices_fair.cas, fairChoices_fair.clock, w_frames, w_args, w_heap, w_applies, trivial, trivial, w_case⟩
end start1
theorem witness_1 : WitnessClaimed_1 := ⟨start1.p0, start1.e0, start1.about1, start1.theMethod, start1.args0, start1.below0, start1.atStart⟩
end Jvm.Pilot.@@N@@
