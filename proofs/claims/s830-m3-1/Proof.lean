import JvmDerived
import JvmDerived.Pilot.@@N@@Statement
import JvmDerived.Pilot.@@N@@Code
set_option linter.unusedVariables false
set_option linter.unusedSimpArgs false
@@BLOCK:NumsL.lean.txt@@
namespace Jvm.Pilot.@@N@@
open Jvm Jvm.ClassFile Sem Op Lib Jvm.Free Jvm.Stand Jvm.LawKit Jvm.RoadKit Bundle Jvm.Pilot.@@N@@.Jvm.D
section Own
variable {p : Program} {l : Launch} {e : Env} {R rm : Room} {s : State} {m : MethodId} {args : Array Value} {below : List Frame} {meth : Method} {c : Code} {T : State} {locs : List Loc} {cells slots : Nat} {Z : State} {a0 : Array Value} {h : Heap}
/-- the run comes to the end of the invocation, and what is asked holds there -/
def own_Goes (p : Program) (e : Env) (below : List Frame) (G : Outcome → State → Prop) (S : State) : Prop := ∃ s₂ o, Steps p.tables e below S s₂ ∧ s₂.status = .running ∧ Ended s₂ below o ∧ G o s₂
theorem own_go {G : Outcome → State → Prop} {S S' : State} (h : ∀ t, Steps p.tables e below S' t → Steps p.tables e below S t) (k : own_Goes p e below G S') : own_Goes p e below G S := by
  obtain ⟨s₂, o, h1, h2⟩ := k
  exact ⟨s₂, o, h _ h1, h2⟩
theorem own_tr {G : Outcome → State → Prop} {S S' : State} (h : Steps p.tables e below S S') (k : own_Goes p e below G S') : own_Goes p e below G S := own_go (fun _ q => h.trans q) k
abbrev own_End (s : State) (rm : Room) (Q : Option Value → Heap → List Loc → Prop) : Outcome → State → Prop := fun o U' => ∃ v L, o = .returned v ∧ Q v U'.heap L ∧ FrameEnd s o U' L rm.cells rm.slots
/-- a body's contract: with these arguments, over this heap, it returns and leaves what Q says -/
def own_Met (l : Launch) (Z : State) (y : MethodName) (bytes : ByteArray) (maxL : Nat) (ret : Option FieldType) (ws : List Jvm.Cond) (rm : Room) (as : Array Value) (h0 : Heap) (Q : Option Value → Heap → List Loc → Prop) : Prop :=
  MetFree l y (head1 (Jvm.Cond.code y bytes maxL ret :: ws) rm) (fun a U => a = as ∧ Z.Warmed39 U.vm ∧ U.heap = h0) (fun _ _ _ _ _ => True) (fun _ U o U' => ∃ v L, o = .returned v ∧ Q v U'.heap L ∧ FrameEnd U o U' L rm.cells rm.slots)
theorem own_met {y : MethodName} {bytes : ByteArray} {maxL : Nat} {ret : Option FieldType} {ws : List Jvm.Cond} {as : Array Value} {h0 : Heap} {Q : Option Value → Heap → List Loc → Prop} (hp : plainFor y = true)
    (body : ∀ (p : Program) (e : Env) (s : State) (m : MethodId) (below : List Frame) (meth : Method) (c : Code) (s₁ : State), p.tables.exec = Jvm.exec → c.code = bytes → c.maxLocals = maxL → s.vm.findClass y.cls = some m.cls → meth.name = y.name → meth.sig.returnType = ret → meth.locks = false → Z.Warmed39 s.vm → s₁.heap = h0 →
      Stand p l e rm s m as below meth c s₁ [] 0 0 → own_Goes p e below (own_End s rm Q) (s₁.setTop (entryFrame m as maxL))) : own_Met l Z y bytes maxL ret ws rm as h0 Q := by
  refine MetFree.of_bodySF hp hisR ?_
  intro p e s m args below meth c s₁ Bd hml hP hK
  obtain ⟨rfl, hZ, hh⟩ := hP
  exact body p e s m below meth c s₁ Bd.exec Bd.bytes hml (findClass_of_methodNamed Bd.named) (name_of_methodNamed Bd.named Bd.method).1 Bd.returns Bd.notSynchronized hZ (by rw [← hh, Bd.state]; rfl) (Stand.of_body Bd)
/-- the returns -/
theorem own_retV {Q : Option Value → Heap → List Loc → Prop} (X : Stand p l e rm s m args below meth c T locs cells slots) (hx : p.tables.exec = Jvm.exec) (hlk : meth.locks = false) {pc : Nat} {Ls : Array Slot} {w : Value} {t : FieldType} {i : Instr} {rest : List Value} (hret : meth.sig.returnType = some t) (hn : narrow t w = w)
    (hi : (i = .ireturn ∧ (t = .int ∨ t = .boolean ∨ t = .byte ∨ t = .char ∨ t = .short) ∧ ∃ z, w = .int z) ∨ (i = .lreturn ∧ t = .long ∧ ∃ z, w = .long z) ∨ (i = .dreturn ∧ t = .double ∧ ∃ z, w = .double z) ∨ (i = .freturn ∧ t = .float ∧ ∃ z, w = .float z) ∨ (i = .areturn ∧ t.isReference = true ∧ w.isRef = true))
    (hd : decode c.code pc = .ok (i, 1)) (hc : cells ≤ rm.cells) (hs : slots ≤ rm.slots) (hq : Q (some w) T.heap locs) : own_Goes p e below (own_End s rm Q) (T.setTop (mkF m pc Ls (w :: rest))) := by
  obtain ⟨fs, hr, hrun, hended, hW, hsame⟩ := X.leave (v := some w) (fun h => by rw [hret] at h; cases h) hlk
  exact ⟨_, _, retOut X hx hret hn hi hd hr, hrun, hended, _, _, rfl, hq, ⟨_, rfl⟩, hW, hsame.mono hc hs⟩
theorem own_retI {Q : Option Value → Heap → List Loc → Prop} (X : Stand p l e rm s m args below meth c T locs cells slots) (hx : p.tables.exec = Jvm.exec) (hlk : meth.locks = false) {pc : Nat} {Ls : Array Slot} {z : Int32} {rest : List Value} (hret : meth.sig.returnType = some .int)
    (hd : decode c.code pc = .ok (.ireturn, 1)) (hc : cells ≤ rm.cells) (hs : slots ≤ rm.slots) (hq : Q (some (.int z)) T.heap locs) : own_Goes p e below (own_End s rm Q) (T.setTop (mkF m pc Ls (.int z :: rest))) :=
  own_retV X hx hlk hret rfl (Or.inl ⟨rfl, Or.inl rfl, z, rfl⟩) hd hc hs hq
theorem own_retJ {Q : Option Value → Heap → List Loc → Prop} (X : Stand p l e rm s m args below meth c T locs cells slots) (hx : p.tables.exec = Jvm.exec) (hlk : meth.locks = false) {pc : Nat} {Ls : Array Slot} {z : Int64} {rest : List Value} (hret : meth.sig.returnType = some .long)
    (hd : decode c.code pc = .ok (.lreturn, 1)) (hc : cells ≤ rm.cells) (hs : slots ≤ rm.slots) (hq : Q (some (.long z)) T.heap locs) : own_Goes p e below (own_End s rm Q) (T.setTop (mkF m pc Ls (.long z :: rest))) :=
  own_retV X hx hlk hret rfl (Or.inr (Or.inl ⟨rfl, rfl, z, rfl⟩)) hd hc hs hq
theorem own_retR {Q : Option Value → Heap → List Loc → Prop} (X : Stand p l e rm s m args below meth c T locs cells slots) (hx : p.tables.exec = Jvm.exec) (hlk : meth.locks = false) {pc : Nat} {Ls : Array Slot} {w : Value} {t : FieldType} {rest : List Value} (hret : meth.sig.returnType = some t) (ht : t.isReference = true) (hw : w.isRef = true)
    (hd : decode c.code pc = .ok (.areturn, 1)) (hc : cells ≤ rm.cells) (hs : slots ≤ rm.slots) (hq : Q (some w) T.heap locs) : own_Goes p e below (own_End s rm Q) (T.setTop (mkF m pc Ls (w :: rest))) :=
  own_retV X hx hlk hret (by cases t <;> first | rfl | cases ht) (Or.inr (Or.inr (Or.inr (Or.inr ⟨rfl, ht, hw⟩)))) hd hc hs hq
theorem own_retN {Q : Option Value → Heap → List Loc → Prop} (X : Stand p l e rm s m args below meth c T locs cells slots) (hx : p.tables.exec = Jvm.exec) (hlk : meth.locks = false) {pc : Nat} {Ls : Array Slot} {z z' : Int32} {t : FieldType} {rest : List Value} (hret : meth.sig.returnType = some t) (ht : t = .boolean ∨ t = .byte ∨ t = .char ∨ t = .short) (hz : nar t z = z')
    (hd : decode c.code pc = .ok (.ireturn, 1)) (hc : cells ≤ rm.cells) (hs : slots ≤ rm.slots) (hq : Q (some (.int z')) T.heap locs) : own_Goes p e below (own_End s rm Q) (T.setTop (mkF m pc Ls (.int z :: rest))) := by
  subst hz
  obtain ⟨fs, hr, hrun, hended, hW, hsame⟩ := X.leave (v := some (.int (nar t z))) (fun h => by rw [hret] at h; cases h) hlk
  exact ⟨_, _, retN X hx hret ht hd hr, hrun, hended, _, _, rfl, hq, ⟨_, rfl⟩, hW, hsame.mono hc hs⟩
theorem own_ret0 {Q : Option Value → Heap → List Loc → Prop} (X : Stand p l e rm s m args below meth c T locs cells slots) (hx : p.tables.exec = Jvm.exec) (hlk : meth.locks = false) {pc : Nat} {Ls : Array Slot} (hret : meth.sig.returnType = none)
    (hd : decode c.code pc = .ok (.return_, 1)) (hc : cells ≤ rm.cells) (hs : slots ≤ rm.slots) (hq : Q none T.heap locs) : own_Goes p e below (own_End s rm Q) (T.setTop (mkF m pc Ls [])) := by
  obtain ⟨fs, hr, hrun, hended, hW, hsame⟩ := X.leave (v := none) (fun _ => rfl) hlk
  exact ⟨_, _, X.returnOut hx hret hd hr, hrun, hended, _, _, rfl, hq, ⟨_, rfl⟩, hW, hsame.mono hc hs⟩
/-- a static call by the callee's contract -/
theorem own_callS (X : Stand p l e R s m args below meth c T locs cells slots) (hx : p.tables.exec = Jvm.exec) (hZ : Z.Warmed39 s.vm) {own : String} {index : Nat} {y : MethodName} {bytes : ByteArray} {maxL : Nat} {ret : Option FieldType} (hown : s.vm.findClass own = some m.cls)
    (w1 : (Jvm.Cond.methodLink own index y).before a0 Z = true) (w2 : (Jvm.Cond.static y).before a0 Z = true) (w3 : (Jvm.Cond.initialized y.cls).before a0 Z = true) (w4 : (Jvm.Cond.code y bytes maxL ret).before a0 Z = true) (hy : y.cls ≠ "java/lang/invoke/MethodHandle" ∧ y.cls ≠ "java/lang/invoke/VarHandle")
    {as : List Value} {Q : Option Value → Heap → List Loc → Prop} (hM : own_Met l Z y bytes maxL ret [] rm as.toArray h Q) (eT : T.heap = h) {ps : List FieldType} {rt : Option FieldType} (hpd : parseMethodDescriptor y.desc = some ⟨ps, rt⟩) (hlen : as.length = ps.length)
    {pc : Nat} {Ls : Array Slot} {rest : List Value} {W : Nat} (hsize : Ls.size = c.maxLocals) (hW : (rest.map fun v => v.category).sum ≤ W) (hf : rm.frames + 1 ≤ R.frames) (hl : W + (maxL + 11) + rm.locals ≤ R.locals) (hd : decode c.code pc = .ok (.invokestatic index, 3)) (hc : cells + rm.cells ≤ R.cells) (hs : slots + rm.slots ≤ R.slots) :
    ∃ (v : Option Value) (T' : State) (L' : List Loc), Stand p l e R s m args below meth c T' (locs ++ L') (cells + rm.cells) (slots + rm.slots) ∧ Q v T'.heap L' ∧ ∀ target, Steps p.tables e below (T'.setTop (mkF m (pc + 3) Ls (v.toList ++ rest))) target → Steps p.tables e below (T.setTop (mkF m pc Ls (as.reverse ++ rest))) target := by
  obtain ⟨v, _, ⟨T', L', k', n'⟩, -, X', ⟨Lc, hQ, hl', hk', hn'⟩, st⟩ := Jvm.LawKit.callS X hx (y := y) hown (mvT hZ w1) (mvT hZ w2) (mvT hZ w3) (mvT hZ w4) hy (backOf (W := W) hM hZ w4 w3 hf hl) (g := mkF m pc Ls (as.reverse ++ rest)) rfl hsize (argsL := as) (rest := rest) (lenOf hpd hlen) rfl (by show 2 * 0 + _ ≤ _; omega) hd (fun _ _ => ⟨rfl, eT, hc, hs⟩)
  dsimp only [Pt.U, Pt.locs, Pt.cells, Pt.slots] at X' hl' hk' hn' st hQ
  subst hl' hk' hn'
  exact ⟨v, T', Lc, X', hQ, st⟩
/-- an instance method by the contract of the body that the receiver's class selects -/
theorem own_callV (X : Stand p l e R s m args below meth c T locs cells slots) (hx : p.tables.exec = Jvm.exec) (hZ : Z.Warmed39 s.vm) {own C : String} {index : Nat} {y : MethodName} {bytes : ByteArray} {maxL : Nat} {ret : Option FieldType} (hown : s.vm.findClass own = some m.cls)
    (w1 : (Jvm.Cond.methodLink own index y).before a0 Z = true) (w2 : (Jvm.Cond.declares y).before a0 Z = true) (w3 : (Jvm.Cond.selects C y y).before a0 Z = true) (w4 : (Jvm.Cond.instanceMethod y).before a0 Z = true) (w5 : (Jvm.Cond.initialized y.cls).before a0 Z = true) (w6 : (Jvm.Cond.code y bytes maxL ret).before a0 Z = true) (hy : y.cls ≠ "java/lang/invoke/MethodHandle" ∧ y.cls ≠ "java/lang/invoke/VarHandle")
    {b : Addr} {as : List Value} {Q : Option Value → Heap → List Loc → Prop} (hM : own_Met l Z y bytes maxL ret [] rm (Value.ref b :: as).toArray h Q) (eT : T.heap = h) (E : Exa Z h b C) {ps : List FieldType} {rt : Option FieldType} (hpd : parseMethodDescriptor y.desc = some ⟨ps, rt⟩) (hlen : as.length = ps.length)
    {pc : Nat} {Ls : Array Slot} {rest : List Value} {W : Nat} (hsize : Ls.size = c.maxLocals) (hW : (rest.map fun v => v.category).sum ≤ W) (hf : rm.frames + 1 ≤ R.frames) (hl : W + (maxL + 11) + rm.locals ≤ R.locals) (hd : decode c.code pc = .ok (.invokevirtual index, 3)) (hc : cells + rm.cells ≤ R.cells) (hs : slots + rm.slots ≤ R.slots) :
    ∃ (v : Option Value) (T' : State) (L' : List Loc), Stand p l e R s m args below meth c T' (locs ++ L') (cells + rm.cells) (slots + rm.slots) ∧ Q v T'.heap L' ∧ ∀ target, Steps p.tables e below (T'.setTop (mkF m (pc + 3) Ls (v.toList ++ rest))) target → Steps p.tables e below (T.setTop (mkF m pc Ls (as.reverse ++ Value.ref b :: rest))) target := by
  obtain ⟨cq, kq, qa, qb, qc⟩ := isOf hZ eT E
  obtain ⟨v, _, ⟨T', L', k', n'⟩, -, X', ⟨Lc, hQ, hl', hk', hn'⟩, st⟩ := X.virtualBack hx (y := y) (z := y) hown (mvT hZ w1) (mvT hZ w2) (notFace_of_selects (args := #[]) (mvT hZ w3)) (mvT hZ w3) (mvT hZ w4) hy (backOf (W := W) hM hZ w6 w5 hf hl) qa qc (g := mkF m pc Ls (as.reverse ++ Value.ref b :: rest)) rfl hsize (Steps.refl _) (argsL := as) (rest := rest) (lenOf hpd hlen) rfl (by show 2 * 0 + _ ≤ _; omega) hd (fun _ _ => ⟨rfl, eT, hc, hs⟩)
  dsimp only [Pt.U, Pt.locs, Pt.cells, Pt.slots] at X' hl' hk' hn' st hQ
  subst hl' hk' hn'
  exact ⟨v, T', Lc, X', hQ, fun _ q => st.trans q⟩
/-- a constructor by its contract -/
theorem own_callI (X : Stand p l e R s m args below meth c T locs cells slots) (hx : p.tables.exec = Jvm.exec) (hZ : Z.Warmed39 s.vm) {own : String} {index : Nat} {y : MethodName} {bytes : ByteArray} {maxL : Nat} (hy1 : y.name = "<init>") (hown : s.vm.findClass own = some m.cls)
    (w1 : (Jvm.Cond.methodLink own index y).before a0 Z = true) (w4 : (Jvm.Cond.instanceMethod y).before a0 Z = true) (w5 : (Jvm.Cond.initialized y.cls).before a0 Z = true) (w6 : (Jvm.Cond.code y bytes maxL none).before a0 Z = true) (hy : y.cls ≠ "java/lang/invoke/MethodHandle" ∧ y.cls ≠ "java/lang/invoke/VarHandle")
    {b : Addr} {as : List Value} {Q : Option Value → Heap → List Loc → Prop} (hM : own_Met l Z y bytes maxL none [] rm (Value.ref b :: as).toArray h Q) (eT : T.heap = h) {ps : List FieldType} {rt : Option FieldType} (hpd : parseMethodDescriptor y.desc = some ⟨ps, rt⟩) (hlen : as.length = ps.length)
    {pc : Nat} {Ls : Array Slot} {rest : List Value} {W : Nat} (hsize : Ls.size = c.maxLocals) (hW : (rest.map fun v => v.category).sum ≤ W) (hf : rm.frames + 1 ≤ R.frames) (hl : W + (maxL + 11) + rm.locals ≤ R.locals) (hd : decode c.code pc = .ok (.invokespecial index, 3)) (hc : cells + rm.cells ≤ R.cells) (hs : slots + rm.slots ≤ R.slots) :
    ∃ (v : Option Value) (T' : State) (L' : List Loc), Stand p l e R s m args below meth c T' (locs ++ L') (cells + rm.cells) (slots + rm.slots) ∧ Q v T'.heap L' ∧ ∀ target, Steps p.tables e below (T'.setTop (mkF m (pc + 3) Ls (v.toList ++ rest))) target → Steps p.tables e below (T.setTop (mkF m pc Ls (as.reverse ++ Value.ref b :: rest))) target := by
  obtain ⟨v, _, ⟨T', L', k', n'⟩, -, X', ⟨Lc, hQ, hl', hk', hn'⟩, st⟩ := X.specialBack hx (y := y) hy1 hown (mvT hZ w1) (mvT hZ w4) (mvT hZ w6) hy (backOf (W := W) hM hZ w6 w5 hf hl) (g := mkF m pc Ls (as.reverse ++ Value.ref b :: rest)) rfl hsize (Steps.refl _) (a := b) (argsL := as) (rest := rest) (lenOf hpd hlen) rfl (by show 2 * 0 + _ ≤ _; omega) hd (fun _ _ => ⟨rfl, eT, hc, hs⟩)
  dsimp only [Pt.U, Pt.locs, Pt.cells, Pt.slots] at X' hl' hk' hn' st hQ
  subst hl' hk' hn'
  exact ⟨v, T', Lc, X', hQ, fun _ q => st.trans q⟩
end Own
theorem own_d1_0 : decode method_2_code 0 = .ok (.iload 6, 2) := by decide +kernel
theorem own_d1_2 : decode method_2_code 2 = .ok (.bipush 7, 2) := by decide +kernel
theorem own_d1_4 : decode method_2_code 4 = .ok (.iand, 1) := by decide +kernel
theorem own_d1_5 : decode method_2_code 5 = .ok (.istore 7, 2) := by decide +kernel
theorem own_d1_7 : decode method_2_code 7 = .ok (.iload 7, 2) := by decide +kernel
theorem own_d1_9 : decode method_2_code 9 = .ok (.iconst 1, 1) := by decide +kernel
theorem own_d1_10 : decode method_2_code 10 = .ok (.if_icmp .ne 5, 3) := by decide +kernel
theorem own_d1_13 : decode method_2_code 13 = .ok (.lload_n 0, 1) := by decide +kernel
theorem own_d1_15 : decode method_2_code 15 = .ok (.iload 7, 2) := by decide +kernel
theorem own_d1_17 : decode method_2_code 17 = .ok (.iconst 2, 1) := by decide +kernel
theorem own_d1_18 : decode method_2_code 18 = .ok (.if_icmp .ne 5, 3) := by decide +kernel
theorem own_d1_21 : decode method_2_code 21 = .ok (.lload_n 2, 1) := by decide +kernel
theorem own_d1_23 : decode method_2_code 23 = .ok (.iload 7, 2) := by decide +kernel
theorem own_d1_25 : decode method_2_code 25 = .ok (.iconst 3, 1) := by decide +kernel
theorem own_d1_26 : decode method_2_code 26 = .ok (.if_icmp .ne 7, 3) := by decide +kernel
theorem own_d1_29 : decode method_2_code 29 = .ok (.lload_n 0, 1) := by decide +kernel
theorem own_d1_30 : decode method_2_code 30 = .ok (.lconst 1, 1) := by decide +kernel
theorem own_d1_31 : decode method_2_code 31 = .ok (.ladd, 1) := by decide +kernel
theorem own_d1_33 : decode method_2_code 33 = .ok (.iload 7, 2) := by decide +kernel
theorem own_d1_35 : decode method_2_code 35 = .ok (.iconst 4, 1) := by decide +kernel
theorem own_d1_36 : decode method_2_code 36 = .ok (.if_icmp .ne 7, 3) := by decide +kernel
theorem own_d1_39 : decode method_2_code 39 = .ok (.lload_n 2, 1) := by decide +kernel
theorem own_d1_40 : decode method_2_code 40 = .ok (.lconst 1, 1) := by decide +kernel
theorem own_d1_41 : decode method_2_code 41 = .ok (.lsub, 1) := by decide +kernel
theorem own_d1_43 : decode method_2_code 43 = .ok (.iload 7, 2) := by decide +kernel
theorem own_d1_45 : decode method_2_code 45 = .ok (.iconst 5, 1) := by decide +kernel
theorem own_d1_46 : decode method_2_code 46 = .ok (.if_icmp .ne 7, 3) := by decide +kernel
theorem own_d1_49 : decode method_2_code 49 = .ok (.lload_n 0, 1) := by decide +kernel
theorem own_d1_50 : decode method_2_code 50 = .ok (.lconst 1, 1) := by decide +kernel
theorem own_d1_51 : decode method_2_code 51 = .ok (.lsub, 1) := by decide +kernel
theorem own_d1_53 : decode method_2_code 53 = .ok (.iload 7, 2) := by decide +kernel
theorem own_d1_55 : decode method_2_code 55 = .ok (.bipush 6, 2) := by decide +kernel
theorem own_d1_57 : decode method_2_code 57 = .ok (.if_icmp .ne 7, 3) := by decide +kernel
theorem own_d1_60 : decode method_2_code 60 = .ok (.lload_n 2, 1) := by decide +kernel
theorem own_d1_61 : decode method_2_code 61 = .ok (.lconst 1, 1) := by decide +kernel
theorem own_d1_62 : decode method_2_code 62 = .ok (.ladd, 1) := by decide +kernel
theorem own_d1_64 : decode method_2_code 64 = .ok (.lload 4, 2) := by decide +kernel
theorem own_pn0 : plainName "khoplenh/PriceLimitsContainsPinLaw" = true := by first | (simp [plainName, overriddenIn]; done) | decide +kernel
theorem own_d1_14 : decode method_2_code 14 = .ok (.lreturn, 1) := by decide +kernel
theorem own_d1_22 : decode method_2_code 22 = .ok (.lreturn, 1) := by decide +kernel
theorem own_d1_32 : decode method_2_code 32 = .ok (.lreturn, 1) := by decide +kernel
theorem own_d1_42 : decode method_2_code 42 = .ok (.lreturn, 1) := by decide +kernel
theorem own_d1_52 : decode method_2_code 52 = .ok (.lreturn, 1) := by decide +kernel
theorem own_d1_63 : decode method_2_code 63 = .ok (.lreturn, 1) := by decide +kernel
theorem own_d1_66 : decode method_2_code 66 = .ok (.lreturn, 1) := by decide +kernel
def own_f1 (y0 : Int64) (y1 : Int64) (y2 : Int64) (x3 : Int32) : Int64 := (if (x3 &&& (7 : Int32)) = (1 : Int32) then y0 else (if (x3 &&& (7 : Int32)) = (2 : Int32) then y1 else (if (x3 &&& (7 : Int32)) = (3 : Int32) then (y0 + (1 : Int64)) else (if (x3 &&& (7 : Int32)) = (4 : Int32) then (y1 - (1 : Int64)) else (if (x3 &&& (7 : Int32)) = (5 : Int32) then (y0 - (1 : Int64)) else (if (x3 &&& (7 : Int32)) = (6 : Int32) then (y1 + (1 : Int64)) else y2))))))
def own_Q1 (y0 : Int64) (y1 : Int64) (y2 : Int64) (x3 : Int32) (h0 : Heap) (n0 : Nat) (v : Option Value) (h : Heap) (L : List Loc) : Prop := v = some (.long (own_f1 y0 y1 y2 x3)) ∧ Fr n0 L ∧ h = h0
abbrev own_R1 : Room := { frames := 0, cells := 0, slots := 0, locals := 0 }
theorem own_ef1 (m : MethodId) (z0 : Int64) (z1 : Int64) (z2 : Int64) (z3 : Int32) : entryFrame m #[(.long z0), (.long z1), (.long z2), (.int z3)] 8 = mkF m 0 #[.val (.long z0), .second, .val (.long z1), .second, .val (.long z2), .second, .val (.int z3), .unset] [] := by first | (simp [entryFrame, mkF, argsToLocals, Value.category]; done) | rfl
set_option maxRecDepth 65536 in
set_option maxHeartbeats 40000000 in
theorem rm1 (l : Launch) (Z : State) (a0 : Array Value) (hw : ∀ d ∈ tables_1, d.before a0 Z = true) (ws : List Jvm.Cond) (y0 : Int64) (y1 : Int64) (y2 : Int64) (x3 : Int32) (h0 : Heap) (n0 : Nat) : own_Met l Z (⟨"khoplenh/PriceLimitsContainsPinLaw", "pick", "(JJJI)J"⟩ : MethodName) method_2_code 8 (some .long) ws own_R1 #[(.long y0), (.long y1), (.long y2), (.int x3)] h0 (own_Q1 y0 y1 y2 x3 h0 n0) := by
  refine own_met (plainFor_of_name own_pn0) ?_
  intro p e s m below meth c s₁ hx hby hml hown hnm hret hlk hZ e0 X0
  have N0 := Fr.nil n0
  have hml : c.maxLocals = 8 := hml
  have hown : s.vm.findClass "khoplenh/PriceLimitsContainsPinLaw" = some m.cls := hown
  have hret : meth.sig.returnType = (some .long) := hret
  have hby : c.code = method_2_code := hby
  have hnm : meth.name = "pick" := hnm
  rw [own_ef1]
  show own_Goes p e below _ (s₁.setTop (mkF m 0 #[.val (.long y0), .second, .val (.long y1), .second, .val (.long y2), .second, .val (.int x3), .unset] []))
  refine own_go (fun t k => XS.iload X0.here hx rfl (hb hby own_d1_0) rfl k) ?_
  show own_Goes p e below _ (s₁.setTop (mkF m 2 #[.val (.long y0), .second, .val (.long y1), .second, .val (.long y2), .second, .val (.int x3), .unset] [(.int x3)]))
  refine own_go (fun t k => XS.bipush X0.here hx rfl (hb hby own_d1_2) k) ?_
  show own_Goes p e below _ (s₁.setTop (mkF m 4 #[.val (.long y0), .second, .val (.long y1), .second, .val (.long y2), .second, .val (.int x3), .unset] [(.int (7 : Int32)), (.int x3)]))
  refine own_go (fun t k => XS.iand X0.here hx rfl (hb hby own_d1_4) rfl k) ?_
  show own_Goes p e below _ (s₁.setTop (mkF m 5 #[.val (.long y0), .second, .val (.long y1), .second, .val (.long y2), .second, .val (.int x3), .unset] [(.int (x3 &&& (7 : Int32)))]))
  refine own_go (fun t k => XS.istore X0.here hx rfl (hb hby own_d1_5) rfl (l' := #[.val (.long y0), .second, .val (.long y1), .second, .val (.long y2), .second, .val (.int x3), .val (.int (x3 &&& (7 : Int32)))]) rfl k) ?_
  show own_Goes p e below _ (s₁.setTop (mkF m 7 #[.val (.long y0), .second, .val (.long y1), .second, .val (.long y2), .second, .val (.int x3), .val (.int (x3 &&& (7 : Int32)))] []))
  refine own_go (fun t k => XS.iload X0.here hx rfl (hb hby own_d1_7) rfl k) ?_
  show own_Goes p e below _ (s₁.setTop (mkF m 9 #[.val (.long y0), .second, .val (.long y1), .second, .val (.long y2), .second, .val (.int x3), .val (.int (x3 &&& (7 : Int32)))] [(.int (x3 &&& (7 : Int32)))]))
  refine own_go (fun t k => XS.iconst X0.here hx rfl (hb hby own_d1_9) k) ?_
  show own_Goes p e below _ (s₁.setTop (mkF m 10 #[.val (.long y0), .second, .val (.long y1), .second, .val (.long y2), .second, .val (.int x3), .val (.int (x3 &&& (7 : Int32)))] [(.int (1 : Int32)), (.int (x3 &&& (7 : Int32)))]))
  by_cases hc1 : (x3 &&& (7 : Int32)) = (1 : Int32)
  · refine own_go (fun t k => XS.icmpNo X0.here hx rfl (hb hby own_d1_10) rfl (teq hc1).2 k) ?_
    show own_Goes p e below _ (s₁.setTop (mkF m 13 #[.val (.long y0), .second, .val (.long y1), .second, .val (.long y2), .second, .val (.int x3), .val (.int (x3 &&& (7 : Int32)))] []))
    refine own_go (fun t k => XS.lloadN X0.here hx rfl (hb hby own_d1_13) rfl k) ?_
    show own_Goes p e below _ (s₁.setTop (mkF m 14 #[.val (.long y0), .second, .val (.long y1), .second, .val (.long y2), .second, .val (.int x3), .val (.int (x3 &&& (7 : Int32)))] [(.long y0)]))
    exact own_retJ X0 hx hlk hret (hb hby own_d1_14) (by decide) (by decide) ⟨by rw [own_f1, if_pos hc1], N0, e0⟩
  · refine own_go (fun t k => XS.icmpYes X0.here hx rfl (pc0 := 10) (pc' := 15) rfl (hb hby own_d1_10) rfl (feq hc1).2 (by decide) (by decide) k) ?_
    show own_Goes p e below _ (s₁.setTop (mkF m 15 #[.val (.long y0), .second, .val (.long y1), .second, .val (.long y2), .second, .val (.int x3), .val (.int (x3 &&& (7 : Int32)))] []))
    refine own_go (fun t k => XS.iload X0.here hx rfl (hb hby own_d1_15) rfl k) ?_
    show own_Goes p e below _ (s₁.setTop (mkF m 17 #[.val (.long y0), .second, .val (.long y1), .second, .val (.long y2), .second, .val (.int x3), .val (.int (x3 &&& (7 : Int32)))] [(.int (x3 &&& (7 : Int32)))]))
    refine own_go (fun t k => XS.iconst X0.here hx rfl (hb hby own_d1_17) k) ?_
    show own_Goes p e below _ (s₁.setTop (mkF m 18 #[.val (.long y0), .second, .val (.long y1), .second, .val (.long y2), .second, .val (.int x3), .val (.int (x3 &&& (7 : Int32)))] [(.int (2 : Int32)), (.int (x3 &&& (7 : Int32)))]))
    by_cases hc2 : (x3 &&& (7 : Int32)) = (2 : Int32)
    · refine own_go (fun t k => XS.icmpNo X0.here hx rfl (hb hby own_d1_18) rfl (teq hc2).2 k) ?_
      show own_Goes p e below _ (s₁.setTop (mkF m 21 #[.val (.long y0), .second, .val (.long y1), .second, .val (.long y2), .second, .val (.int x3), .val (.int (x3 &&& (7 : Int32)))] []))
      refine own_go (fun t k => XS.lloadN X0.here hx rfl (hb hby own_d1_21) rfl k) ?_
      show own_Goes p e below _ (s₁.setTop (mkF m 22 #[.val (.long y0), .second, .val (.long y1), .second, .val (.long y2), .second, .val (.int x3), .val (.int (x3 &&& (7 : Int32)))] [(.long y1)]))
      exact own_retJ X0 hx hlk hret (hb hby own_d1_22) (by decide) (by decide) ⟨by rw [own_f1, if_neg hc1, if_pos hc2], N0, e0⟩
    · refine own_go (fun t k => XS.icmpYes X0.here hx rfl (pc0 := 18) (pc' := 23) rfl (hb hby own_d1_18) rfl (feq hc2).2 (by decide) (by decide) k) ?_
      show own_Goes p e below _ (s₁.setTop (mkF m 23 #[.val (.long y0), .second, .val (.long y1), .second, .val (.long y2), .second, .val (.int x3), .val (.int (x3 &&& (7 : Int32)))] []))
      refine own_go (fun t k => XS.iload X0.here hx rfl (hb hby own_d1_23) rfl k) ?_
      show own_Goes p e below _ (s₁.setTop (mkF m 25 #[.val (.long y0), .second, .val (.long y1), .second, .val (.long y2), .second, .val (.int x3), .val (.int (x3 &&& (7 : Int32)))] [(.int (x3 &&& (7 : Int32)))]))
      refine own_go (fun t k => XS.iconst X0.here hx rfl (hb hby own_d1_25) k) ?_
      show own_Goes p e below _ (s₁.setTop (mkF m 26 #[.val (.long y0), .second, .val (.long y1), .second, .val (.long y2), .second, .val (.int x3), .val (.int (x3 &&& (7 : Int32)))] [(.int (3 : Int32)), (.int (x3 &&& (7 : Int32)))]))
      by_cases hc3 : (x3 &&& (7 : Int32)) = (3 : Int32)
      · refine own_go (fun t k => XS.icmpNo X0.here hx rfl (hb hby own_d1_26) rfl (teq hc3).2 k) ?_
        show own_Goes p e below _ (s₁.setTop (mkF m 29 #[.val (.long y0), .second, .val (.long y1), .second, .val (.long y2), .second, .val (.int x3), .val (.int (x3 &&& (7 : Int32)))] []))
        refine own_go (fun t k => XS.lloadN X0.here hx rfl (hb hby own_d1_29) rfl k) ?_
        show own_Goes p e below _ (s₁.setTop (mkF m 30 #[.val (.long y0), .second, .val (.long y1), .second, .val (.long y2), .second, .val (.int x3), .val (.int (x3 &&& (7 : Int32)))] [(.long y0)]))
        refine own_go (fun t k => XS.lconst X0.here hx rfl (hb hby own_d1_30) k) ?_
        show own_Goes p e below _ (s₁.setTop (mkF m 31 #[.val (.long y0), .second, .val (.long y1), .second, .val (.long y2), .second, .val (.int x3), .val (.int (x3 &&& (7 : Int32)))] [(.long (1 : Int64)), (.long y0)]))
        refine own_go (fun t k => XS.ladd X0.here hx rfl (hb hby own_d1_31) rfl k) ?_
        show own_Goes p e below _ (s₁.setTop (mkF m 32 #[.val (.long y0), .second, .val (.long y1), .second, .val (.long y2), .second, .val (.int x3), .val (.int (x3 &&& (7 : Int32)))] [(.long (y0 + (1 : Int64)))]))
        exact own_retJ X0 hx hlk hret (hb hby own_d1_32) (by decide) (by decide) ⟨by rw [own_f1, if_neg hc1, if_neg hc2, if_pos hc3], N0, e0⟩
      · refine own_go (fun t k => XS.icmpYes X0.here hx rfl (pc0 := 26) (pc' := 33) rfl (hb hby own_d1_26) rfl (feq hc3).2 (by decide) (by decide) k) ?_
        show own_Goes p e below _ (s₁.setTop (mkF m 33 #[.val (.long y0), .second, .val (.long y1), .second, .val (.long y2), .second, .val (.int x3), .val (.int (x3 &&& (7 : Int32)))] []))
        refine own_go (fun t k => XS.iload X0.here hx rfl (hb hby own_d1_33) rfl k) ?_
        show own_Goes p e below _ (s₁.setTop (mkF m 35 #[.val (.long y0), .second, .val (.long y1), .second, .val (.long y2), .second, .val (.int x3), .val (.int (x3 &&& (7 : Int32)))] [(.int (x3 &&& (7 : Int32)))]))
        refine own_go (fun t k => XS.iconst X0.here hx rfl (hb hby own_d1_35) k) ?_
        show own_Goes p e below _ (s₁.setTop (mkF m 36 #[.val (.long y0), .second, .val (.long y1), .second, .val (.long y2), .second, .val (.int x3), .val (.int (x3 &&& (7 : Int32)))] [(.int (4 : Int32)), (.int (x3 &&& (7 : Int32)))]))
        by_cases hc4 : (x3 &&& (7 : Int32)) = (4 : Int32)
        · refine own_go (fun t k => XS.icmpNo X0.here hx rfl (hb hby own_d1_36) rfl (teq hc4).2 k) ?_
          show own_Goes p e below _ (s₁.setTop (mkF m 39 #[.val (.long y0), .second, .val (.long y1), .second, .val (.long y2), .second, .val (.int x3), .val (.int (x3 &&& (7 : Int32)))] []))
          refine own_go (fun t k => XS.lloadN X0.here hx rfl (hb hby own_d1_39) rfl k) ?_
          show own_Goes p e below _ (s₁.setTop (mkF m 40 #[.val (.long y0), .second, .val (.long y1), .second, .val (.long y2), .second, .val (.int x3), .val (.int (x3 &&& (7 : Int32)))] [(.long y1)]))
          refine own_go (fun t k => XS.lconst X0.here hx rfl (hb hby own_d1_40) k) ?_
          show own_Goes p e below _ (s₁.setTop (mkF m 41 #[.val (.long y0), .second, .val (.long y1), .second, .val (.long y2), .second, .val (.int x3), .val (.int (x3 &&& (7 : Int32)))] [(.long (1 : Int64)), (.long y1)]))
          refine own_go (fun t k => XS.lsub X0.here hx rfl (hb hby own_d1_41) rfl k) ?_
          show own_Goes p e below _ (s₁.setTop (mkF m 42 #[.val (.long y0), .second, .val (.long y1), .second, .val (.long y2), .second, .val (.int x3), .val (.int (x3 &&& (7 : Int32)))] [(.long (y1 - (1 : Int64)))]))
          exact own_retJ X0 hx hlk hret (hb hby own_d1_42) (by decide) (by decide) ⟨by rw [own_f1, if_neg hc1, if_neg hc2, if_neg hc3, if_pos hc4], N0, e0⟩
        · refine own_go (fun t k => XS.icmpYes X0.here hx rfl (pc0 := 36) (pc' := 43) rfl (hb hby own_d1_36) rfl (feq hc4).2 (by decide) (by decide) k) ?_
          show own_Goes p e below _ (s₁.setTop (mkF m 43 #[.val (.long y0), .second, .val (.long y1), .second, .val (.long y2), .second, .val (.int x3), .val (.int (x3 &&& (7 : Int32)))] []))
          refine own_go (fun t k => XS.iload X0.here hx rfl (hb hby own_d1_43) rfl k) ?_
          show own_Goes p e below _ (s₁.setTop (mkF m 45 #[.val (.long y0), .second, .val (.long y1), .second, .val (.long y2), .second, .val (.int x3), .val (.int (x3 &&& (7 : Int32)))] [(.int (x3 &&& (7 : Int32)))]))
          refine own_go (fun t k => XS.iconst X0.here hx rfl (hb hby own_d1_45) k) ?_
          show own_Goes p e below _ (s₁.setTop (mkF m 46 #[.val (.long y0), .second, .val (.long y1), .second, .val (.long y2), .second, .val (.int x3), .val (.int (x3 &&& (7 : Int32)))] [(.int (5 : Int32)), (.int (x3 &&& (7 : Int32)))]))
          by_cases hc5 : (x3 &&& (7 : Int32)) = (5 : Int32)
          · refine own_go (fun t k => XS.icmpNo X0.here hx rfl (hb hby own_d1_46) rfl (teq hc5).2 k) ?_
            show own_Goes p e below _ (s₁.setTop (mkF m 49 #[.val (.long y0), .second, .val (.long y1), .second, .val (.long y2), .second, .val (.int x3), .val (.int (x3 &&& (7 : Int32)))] []))
            refine own_go (fun t k => XS.lloadN X0.here hx rfl (hb hby own_d1_49) rfl k) ?_
            show own_Goes p e below _ (s₁.setTop (mkF m 50 #[.val (.long y0), .second, .val (.long y1), .second, .val (.long y2), .second, .val (.int x3), .val (.int (x3 &&& (7 : Int32)))] [(.long y0)]))
            refine own_go (fun t k => XS.lconst X0.here hx rfl (hb hby own_d1_50) k) ?_
            show own_Goes p e below _ (s₁.setTop (mkF m 51 #[.val (.long y0), .second, .val (.long y1), .second, .val (.long y2), .second, .val (.int x3), .val (.int (x3 &&& (7 : Int32)))] [(.long (1 : Int64)), (.long y0)]))
            refine own_go (fun t k => XS.lsub X0.here hx rfl (hb hby own_d1_51) rfl k) ?_
            show own_Goes p e below _ (s₁.setTop (mkF m 52 #[.val (.long y0), .second, .val (.long y1), .second, .val (.long y2), .second, .val (.int x3), .val (.int (x3 &&& (7 : Int32)))] [(.long (y0 - (1 : Int64)))]))
            exact own_retJ X0 hx hlk hret (hb hby own_d1_52) (by decide) (by decide) ⟨by rw [own_f1, if_neg hc1, if_neg hc2, if_neg hc3, if_neg hc4, if_pos hc5], N0, e0⟩
          · refine own_go (fun t k => XS.icmpYes X0.here hx rfl (pc0 := 46) (pc' := 53) rfl (hb hby own_d1_46) rfl (feq hc5).2 (by decide) (by decide) k) ?_
            show own_Goes p e below _ (s₁.setTop (mkF m 53 #[.val (.long y0), .second, .val (.long y1), .second, .val (.long y2), .second, .val (.int x3), .val (.int (x3 &&& (7 : Int32)))] []))
            refine own_go (fun t k => XS.iload X0.here hx rfl (hb hby own_d1_53) rfl k) ?_
            show own_Goes p e below _ (s₁.setTop (mkF m 55 #[.val (.long y0), .second, .val (.long y1), .second, .val (.long y2), .second, .val (.int x3), .val (.int (x3 &&& (7 : Int32)))] [(.int (x3 &&& (7 : Int32)))]))
            refine own_go (fun t k => XS.bipush X0.here hx rfl (hb hby own_d1_55) k) ?_
            show own_Goes p e below _ (s₁.setTop (mkF m 57 #[.val (.long y0), .second, .val (.long y1), .second, .val (.long y2), .second, .val (.int x3), .val (.int (x3 &&& (7 : Int32)))] [(.int (6 : Int32)), (.int (x3 &&& (7 : Int32)))]))
            by_cases hc6 : (x3 &&& (7 : Int32)) = (6 : Int32)
            · refine own_go (fun t k => XS.icmpNo X0.here hx rfl (hb hby own_d1_57) rfl (teq hc6).2 k) ?_
              show own_Goes p e below _ (s₁.setTop (mkF m 60 #[.val (.long y0), .second, .val (.long y1), .second, .val (.long y2), .second, .val (.int x3), .val (.int (x3 &&& (7 : Int32)))] []))
              refine own_go (fun t k => XS.lloadN X0.here hx rfl (hb hby own_d1_60) rfl k) ?_
              show own_Goes p e below _ (s₁.setTop (mkF m 61 #[.val (.long y0), .second, .val (.long y1), .second, .val (.long y2), .second, .val (.int x3), .val (.int (x3 &&& (7 : Int32)))] [(.long y1)]))
              refine own_go (fun t k => XS.lconst X0.here hx rfl (hb hby own_d1_61) k) ?_
              show own_Goes p e below _ (s₁.setTop (mkF m 62 #[.val (.long y0), .second, .val (.long y1), .second, .val (.long y2), .second, .val (.int x3), .val (.int (x3 &&& (7 : Int32)))] [(.long (1 : Int64)), (.long y1)]))
              refine own_go (fun t k => XS.ladd X0.here hx rfl (hb hby own_d1_62) rfl k) ?_
              show own_Goes p e below _ (s₁.setTop (mkF m 63 #[.val (.long y0), .second, .val (.long y1), .second, .val (.long y2), .second, .val (.int x3), .val (.int (x3 &&& (7 : Int32)))] [(.long (y1 + (1 : Int64)))]))
              exact own_retJ X0 hx hlk hret (hb hby own_d1_63) (by decide) (by decide) ⟨by rw [own_f1, if_neg hc1, if_neg hc2, if_neg hc3, if_neg hc4, if_neg hc5, if_pos hc6], N0, e0⟩
            · refine own_go (fun t k => XS.icmpYes X0.here hx rfl (pc0 := 57) (pc' := 64) rfl (hb hby own_d1_57) rfl (feq hc6).2 (by decide) (by decide) k) ?_
              show own_Goes p e below _ (s₁.setTop (mkF m 64 #[.val (.long y0), .second, .val (.long y1), .second, .val (.long y2), .second, .val (.int x3), .val (.int (x3 &&& (7 : Int32)))] []))
              refine own_go (fun t k => XS.lload X0.here hx rfl (hb hby own_d1_64) rfl k) ?_
              show own_Goes p e below _ (s₁.setTop (mkF m 66 #[.val (.long y0), .second, .val (.long y1), .second, .val (.long y2), .second, .val (.int x3), .val (.int (x3 &&& (7 : Int32)))] [(.long y2)]))
              exact own_retJ X0 hx hlk hret (hb hby own_d1_66) (by decide) (by decide) ⟨by rw [own_f1, if_neg hc1, if_neg hc2, if_neg hc3, if_neg hc4, if_neg hc5, if_neg hc6], N0, e0⟩
theorem own_d6_0 : decode jdk_29_method_66_code 0 = .ok (.lload_n 0, 1) := by decide +kernel
theorem own_d6_1 : decode jdk_29_method_66_code 1 = .ok (.lload_n 2, 1) := by decide +kernel
theorem own_d6_2 : decode jdk_29_method_66_code 2 = .ok (.lcmp, 1) := by decide +kernel
theorem own_d6_3 : decode jdk_29_method_66_code 3 = .ok (.ifCond .lt 7, 3) := by decide +kernel
theorem own_d6_10 : decode jdk_29_method_66_code 10 = .ok (.lload_n 2, 1) := by decide +kernel
theorem own_d6_6 : decode jdk_29_method_66_code 6 = .ok (.lload_n 0, 1) := by decide +kernel
theorem own_d6_7 : decode jdk_29_method_66_code 7 = .ok (.goto 4, 3) := by decide +kernel
theorem own_d6_11 : decode jdk_29_method_66_code 11 = .ok (.lreturn, 1) := by decide +kernel
def own_j6_1 (y0 : Int64) (y1 : Int64) : Int64 := (if y0 < y1 then y1 else y0)
def own_f6 (y0 : Int64) (y1 : Int64) : Int64 := (own_j6_1 y0 y1)
def own_Q6 (y0 : Int64) (y1 : Int64) (h0 : Heap) (n0 : Nat) (v : Option Value) (h : Heap) (L : List Loc) : Prop := v = some (.long (own_f6 y0 y1)) ∧ Fr n0 L ∧ h = h0
abbrev own_R6 : Room := { frames := 0, cells := 0, slots := 0, locals := 0 }
theorem own_ef6 (m : MethodId) (z0 : Int64) (z1 : Int64) : entryFrame m #[(.long z0), (.long z1)] 4 = mkF m 0 #[.val (.long z0), .second, .val (.long z1), .second] [] := by first | (simp [entryFrame, mkF, argsToLocals, Value.category]; done) | rfl
set_option maxRecDepth 65536 in
set_option maxHeartbeats 40000000 in
theorem rm6 (l : Launch) (Z : State) (a0 : Array Value) (hw : ∀ d ∈ tables_1, d.before a0 Z = true) (ws : List Jvm.Cond) (y0 : Int64) (y1 : Int64) (h0 : Heap) (n0 : Nat) : own_Met l Z (⟨"java/lang/Math", "max", "(JJ)J"⟩ : MethodName) jdk_29_method_66_code 4 (some .long) ws own_R6 #[(.long y0), (.long y1)] h0 (own_Q6 y0 y1 h0 n0) := by
  refine own_met (Jvm.Free.JP.mathPlain rfl (by decide +kernel)) ?_
  intro p e s m below meth c s₁ hx hby hml hown hnm hret hlk hZ e0 X0
  have N0 := Fr.nil n0
  have hml : c.maxLocals = 4 := hml
  have hown : s.vm.findClass "java/lang/Math" = some m.cls := hown
  have hret : meth.sig.returnType = (some .long) := hret
  have hby : c.code = jdk_29_method_66_code := hby
  have hnm : meth.name = "max" := hnm
  rw [own_ef6]
  show own_Goes p e below _ (s₁.setTop (mkF m 0 #[.val (.long y0), .second, .val (.long y1), .second] []))
  refine own_go (fun t k => XS.lloadN X0.here hx rfl (hb hby own_d6_0) rfl k) ?_
  show own_Goes p e below _ (s₁.setTop (mkF m 1 #[.val (.long y0), .second, .val (.long y1), .second] [(.long y0)]))
  refine own_go (fun t k => XS.lloadN X0.here hx rfl (hb hby own_d6_1) rfl k) ?_
  show own_Goes p e below _ (s₁.setTop (mkF m 2 #[.val (.long y0), .second, .val (.long y1), .second] [(.long y1), (.long y0)]))
  refine own_go (fun t k => XS.lcmp X0.here hx rfl (hb hby own_d6_2) rfl k) ?_
  show own_Goes p e below _ (s₁.setTop (mkF m 3 #[.val (.long y0), .second, .val (.long y1), .second] [(.int (lcmpW y0 y1))]))
  suffices HH8 : own_Goes p e below (own_End s own_R6 (own_Q6 y0 y1 h0 n0)) (s₁.setTop (mkF m 11 #[.val (.long y0), .second, .val (.long y1), .second] [(.long (own_j6_1 y0 y1))])) by
    by_cases hc7 : y0 < y1
    · refine own_go (fun t k => XS.ifYes X0.here hx rfl (pc0 := 3) (pc' := 10) rfl (hb hby own_d6_3) rfl ((if0 _ _).trans (tlt ((lw_lt _ _).mpr hc7)).1) (by decide) (by decide) k) ?_
      show own_Goes p e below _ (s₁.setTop (mkF m 10 #[.val (.long y0), .second, .val (.long y1), .second] []))
      refine own_go (fun t k => XS.lloadN X0.here hx rfl (hb hby own_d6_10) rfl k) ?_
      rw [show (own_j6_1 y0 y1) = y1 from by rw [own_j6_1, if_pos hc7]] at HH8
      exact HH8
    · refine own_go (fun t k => XS.ifNo X0.here hx rfl (hb hby own_d6_3) rfl ((if0 _ _).trans (flt (fun q => hc7 ((lw_lt _ _).mp q))).1) k) ?_
      show own_Goes p e below _ (s₁.setTop (mkF m 6 #[.val (.long y0), .second, .val (.long y1), .second] []))
      refine own_go (fun t k => XS.lloadN X0.here hx rfl (hb hby own_d6_6) rfl k) ?_
      show own_Goes p e below _ (s₁.setTop (mkF m 7 #[.val (.long y0), .second, .val (.long y1), .second] [(.long y0)]))
      refine own_go (fun t k => XS.goto X0.here hx rfl (pc0 := 7) (pc' := 11) rfl (hb hby own_d6_7) (by decide) (by decide) k) ?_
      rw [show (own_j6_1 y0 y1) = y0 from by rw [own_j6_1, if_neg hc7]] at HH8
      exact HH8
  show own_Goes p e below _ (s₁.setTop (mkF m 11 #[.val (.long y0), .second, .val (.long y1), .second] [(.long (own_j6_1 y0 y1))]))
  exact own_retJ X0 hx hlk hret (hb hby own_d6_11) (by decide) (by decide) ⟨by rw [own_f6], N0, e0⟩
theorem own_d7_0 : decode jdk_29_method_70_code 0 = .ok (.lload_n 0, 1) := by decide +kernel
theorem own_d7_1 : decode jdk_29_method_70_code 1 = .ok (.lload_n 2, 1) := by decide +kernel
theorem own_d7_2 : decode jdk_29_method_70_code 2 = .ok (.lcmp, 1) := by decide +kernel
theorem own_d7_3 : decode jdk_29_method_70_code 3 = .ok (.ifCond .gt 7, 3) := by decide +kernel
theorem own_d7_10 : decode jdk_29_method_70_code 10 = .ok (.lload_n 2, 1) := by decide +kernel
theorem own_d7_6 : decode jdk_29_method_70_code 6 = .ok (.lload_n 0, 1) := by decide +kernel
theorem own_d7_7 : decode jdk_29_method_70_code 7 = .ok (.goto 4, 3) := by decide +kernel
theorem own_d7_11 : decode jdk_29_method_70_code 11 = .ok (.lreturn, 1) := by decide +kernel
def own_j7_1 (y0 : Int64) (y1 : Int64) : Int64 := (if y1 < y0 then y1 else y0)
def own_f7 (y0 : Int64) (y1 : Int64) : Int64 := (own_j7_1 y0 y1)
def own_Q7 (y0 : Int64) (y1 : Int64) (h0 : Heap) (n0 : Nat) (v : Option Value) (h : Heap) (L : List Loc) : Prop := v = some (.long (own_f7 y0 y1)) ∧ Fr n0 L ∧ h = h0
abbrev own_R7 : Room := { frames := 0, cells := 0, slots := 0, locals := 0 }
theorem own_ef7 (m : MethodId) (z0 : Int64) (z1 : Int64) : entryFrame m #[(.long z0), (.long z1)] 4 = mkF m 0 #[.val (.long z0), .second, .val (.long z1), .second] [] := by first | (simp [entryFrame, mkF, argsToLocals, Value.category]; done) | rfl
set_option maxRecDepth 65536 in
set_option maxHeartbeats 40000000 in
theorem rm7 (l : Launch) (Z : State) (a0 : Array Value) (hw : ∀ d ∈ tables_1, d.before a0 Z = true) (ws : List Jvm.Cond) (y0 : Int64) (y1 : Int64) (h0 : Heap) (n0 : Nat) : own_Met l Z (⟨"java/lang/Math", "min", "(JJ)J"⟩ : MethodName) jdk_29_method_70_code 4 (some .long) ws own_R7 #[(.long y0), (.long y1)] h0 (own_Q7 y0 y1 h0 n0) := by
  refine own_met (Jvm.Free.JP.mathPlain rfl (by decide +kernel)) ?_
  intro p e s m below meth c s₁ hx hby hml hown hnm hret hlk hZ e0 X0
  have N0 := Fr.nil n0
  have hml : c.maxLocals = 4 := hml
  have hown : s.vm.findClass "java/lang/Math" = some m.cls := hown
  have hret : meth.sig.returnType = (some .long) := hret
  have hby : c.code = jdk_29_method_70_code := hby
  have hnm : meth.name = "min" := hnm
  rw [own_ef7]
  show own_Goes p e below _ (s₁.setTop (mkF m 0 #[.val (.long y0), .second, .val (.long y1), .second] []))
  refine own_go (fun t k => XS.lloadN X0.here hx rfl (hb hby own_d7_0) rfl k) ?_
  show own_Goes p e below _ (s₁.setTop (mkF m 1 #[.val (.long y0), .second, .val (.long y1), .second] [(.long y0)]))
  refine own_go (fun t k => XS.lloadN X0.here hx rfl (hb hby own_d7_1) rfl k) ?_
  show own_Goes p e below _ (s₁.setTop (mkF m 2 #[.val (.long y0), .second, .val (.long y1), .second] [(.long y1), (.long y0)]))
  refine own_go (fun t k => XS.lcmp X0.here hx rfl (hb hby own_d7_2) rfl k) ?_
  show own_Goes p e below _ (s₁.setTop (mkF m 3 #[.val (.long y0), .second, .val (.long y1), .second] [(.int (lcmpW y0 y1))]))
  suffices HH10 : own_Goes p e below (own_End s own_R7 (own_Q7 y0 y1 h0 n0)) (s₁.setTop (mkF m 11 #[.val (.long y0), .second, .val (.long y1), .second] [(.long (own_j7_1 y0 y1))])) by
    by_cases hc9 : y1 < y0
    · refine own_go (fun t k => XS.ifYes X0.here hx rfl (pc0 := 3) (pc' := 10) rfl (hb hby own_d7_3) rfl ((if0 _ _).trans (tlt ((lw_gt _ _).mpr hc9)).2.2.1) (by decide) (by decide) k) ?_
      show own_Goes p e below _ (s₁.setTop (mkF m 10 #[.val (.long y0), .second, .val (.long y1), .second] []))
      refine own_go (fun t k => XS.lloadN X0.here hx rfl (hb hby own_d7_10) rfl k) ?_
      rw [show (own_j7_1 y0 y1) = y1 from by rw [own_j7_1, if_pos hc9]] at HH10
      exact HH10
    · refine own_go (fun t k => XS.ifNo X0.here hx rfl (hb hby own_d7_3) rfl ((if0 _ _).trans (flt (fun q => hc9 ((lw_gt _ _).mp q))).2.2.1) k) ?_
      show own_Goes p e below _ (s₁.setTop (mkF m 6 #[.val (.long y0), .second, .val (.long y1), .second] []))
      refine own_go (fun t k => XS.lloadN X0.here hx rfl (hb hby own_d7_6) rfl k) ?_
      show own_Goes p e below _ (s₁.setTop (mkF m 7 #[.val (.long y0), .second, .val (.long y1), .second] [(.long y0)]))
      refine own_go (fun t k => XS.goto X0.here hx rfl (pc0 := 7) (pc' := 11) rfl (hb hby own_d7_7) (by decide) (by decide) k) ?_
      rw [show (own_j7_1 y0 y1) = y0 from by rw [own_j7_1, if_neg hc9]] at HH10
      exact HH10
  show own_Goes p e below _ (s₁.setTop (mkF m 11 #[.val (.long y0), .second, .val (.long y1), .second] [(.long (own_j7_1 y0 y1))]))
  exact own_retJ X0 hx hlk hret (hb hby own_d7_11) (by decide) (by decide) ⟨by rw [own_f7], N0, e0⟩
theorem own_d3_0 : decode jdk_30_method_1_code 0 = .ok (.aload_n 0, 1) := by decide +kernel
theorem own_d3_1 : decode jdk_30_method_1_code 1 = .ok (.invokespecial 1, 3) := by decide +kernel
theorem own_t15 : (Jvm.Cond.methodLink "java/lang/Record" (1 : Nat) ({ cls := "java/lang/Object", name := "<init>", desc := "()V" } : Jvm.MethodName)) ∈ tables_1 := List.mem_of_getElem? (i := 15) rfl
theorem own_t16 : (Jvm.Cond.instanceMethod ({ cls := "java/lang/Object", name := "<init>", desc := "()V" } : Jvm.MethodName)) ∈ tables_1 := List.mem_of_getElem? (i := 16) rfl
theorem own_t17 : (Jvm.Cond.code ({ cls := "java/lang/Object", name := "<init>", desc := "()V" } : Jvm.MethodName) object_method_1_code (1 : Nat) (Option.none : Option Jvm.ClassFile.FieldType)) ∈ tables_1 := List.mem_of_getElem? (i := 17) rfl
theorem own_pn1 : plainName "java/lang/Record" = true := by first | (simp [plainName, overriddenIn]; done) | decide +kernel
theorem own_d3_4 : decode jdk_30_method_1_code 4 = .ok (.return_, 1) := by decide +kernel
def own_Q3 (r0 : Addr) (h0 : Heap) (n0 : Nat) (v : Option Value) (h : Heap) (L : List Loc) : Prop := v = none ∧ Fr n0 L ∧ h = h0
abbrev own_R3 : Room := { frames := 1, cells := 0, slots := 0, locals := 12 }
theorem own_ef3 (m : MethodId) (z0 : Addr) : entryFrame m #[(.ref z0)] 1 = mkF m 0 #[.val (.ref z0)] [] := by first | (simp [entryFrame, mkF, argsToLocals, Value.category]; done) | rfl
set_option maxRecDepth 65536 in
set_option maxHeartbeats 40000000 in
theorem rm3 (l : Launch) (Z : State) (a0 : Array Value) (hw : ∀ d ∈ tables_1, d.before a0 Z = true) (ws : List Jvm.Cond) (r0 : Addr) (h0 : Heap) (n0 : Nat) : own_Met l Z (⟨"java/lang/Record", "<init>", "()V"⟩ : MethodName) jdk_30_method_1_code 1 none ws own_R3 #[(.ref r0)] h0 (own_Q3 r0 h0 n0) := by
  refine own_met (plainFor_of_name own_pn1) ?_
  intro p e s m below meth c s₁ hx hby hml hown hnm hret hlk hZ e0 X0
  have N0 := Fr.nil n0
  have hml : c.maxLocals = 1 := hml
  have hown : s.vm.findClass "java/lang/Record" = some m.cls := hown
  have hret : meth.sig.returnType = none := hret
  have hby : c.code = jdk_30_method_1_code := hby
  have hnm : meth.name = "<init>" := hnm
  rw [own_ef3]
  show own_Goes p e below _ (s₁.setTop (mkF m 0 #[.val (.ref r0)] []))
  refine own_go (fun t k => XS.aloadN X0.here hx rfl (hb hby own_d3_0) rfl rfl k) ?_
  show own_Goes p e below _ (s₁.setTop (mkF m 1 #[.val (.ref r0)] [(.ref r0)]))
  obtain ⟨T11, X11, e11, st11⟩ := initO X0 hx hZ hown (hw _ own_t15) (hw _ own_t16) (hw _ own_t17) e0 (g := (mkF m 1 #[.val (.ref r0)] [(.ref r0)])) rfl (by rw [hml]; rfl) rfl (hb hby own_d3_1) (by decide) (W := 0) (by show 2 * 0 + _ ≤ _; exact Nat.le_of_eq rfl) (by decide)
  refine own_go st11 ?_
  show own_Goes p e below _ (T11.setTop (mkF m 4 #[.val (.ref r0)] []))
  exact own_ret0 X11 hx hlk hret (hb hby own_d3_4) (by decide) (by decide) ⟨rfl, N0, e11⟩
theorem own_d2_0 : decode prog_17_method_1_code 0 = .ok (.aload_n 0, 1) := by decide +kernel
theorem own_d2_1 : decode prog_17_method_1_code 1 = .ok (.invokespecial 1, 3) := by decide +kernel
theorem own_t10 : (Jvm.Cond.methodLink "khoplenh/PriceLimits" (1 : Nat) ({ cls := "java/lang/Record", name := "<init>", desc := "()V" } : Jvm.MethodName)) ∈ tables_1 := List.mem_of_getElem? (i := 10) rfl
theorem own_pd0 : parseMethodDescriptor "()V" = some ⟨[], none⟩ := by decide +kernel
theorem own_t11 : (Jvm.Cond.instanceMethod ({ cls := "java/lang/Record", name := "<init>", desc := "()V" } : Jvm.MethodName)) ∈ tables_1 := List.mem_of_getElem? (i := 11) rfl
theorem own_t13 : (Jvm.Cond.initialized "java/lang/Record") ∈ tables_1 := List.mem_of_getElem? (i := 13) rfl
theorem own_t14 : (Jvm.Cond.code ({ cls := "java/lang/Record", name := "<init>", desc := "()V" } : Jvm.MethodName) jdk_30_method_1_code (1 : Nat) (Option.none : Option Jvm.ClassFile.FieldType)) ∈ tables_1 := List.mem_of_getElem? (i := 14) rfl
theorem own_d2_4 : decode prog_17_method_1_code 4 = .ok (.aload_n 0, 1) := by decide +kernel
theorem own_d2_5 : decode prog_17_method_1_code 5 = .ok (.lload_n 1, 1) := by decide +kernel
theorem own_d2_6 : decode prog_17_method_1_code 6 = .ok (.putfield 7, 3) := by decide +kernel
theorem own_t18 : (Jvm.Cond.fieldLink "khoplenh/PriceLimits" (7 : Nat) "khoplenh/PriceLimits" "ceiling" "J") ∈ tables_1 := List.mem_of_getElem? (i := 18) rfl
theorem own_t19 : (Jvm.Cond.laysFinal "khoplenh/PriceLimits" "khoplenh/PriceLimits" "ceiling" "J") ∈ tables_1 := List.mem_of_getElem? (i := 19) rfl
theorem own_t5 : (Jvm.Cond.instantiable "khoplenh/PriceLimits" (2 : Nat)) ∈ tables_1 := List.mem_of_getElem? (i := 5) rfl
theorem own_d2_9 : decode prog_17_method_1_code 9 = .ok (.aload_n 0, 1) := by decide +kernel
theorem own_d2_10 : decode prog_17_method_1_code 10 = .ok (.lload_n 3, 1) := by decide +kernel
theorem own_d2_11 : decode prog_17_method_1_code 11 = .ok (.putfield 13, 3) := by decide +kernel
theorem own_t20 : (Jvm.Cond.fieldLink "khoplenh/PriceLimits" (13 : Nat) "khoplenh/PriceLimits" "floor" "J") ∈ tables_1 := List.mem_of_getElem? (i := 20) rfl
theorem own_t21 : (Jvm.Cond.laysFinal "khoplenh/PriceLimits" "khoplenh/PriceLimits" "floor" "J") ∈ tables_1 := List.mem_of_getElem? (i := 21) rfl
theorem own_pn2 : plainName "khoplenh/PriceLimits" = true := by first | (simp [plainName, overriddenIn]; done) | decide +kernel
theorem own_d2_14 : decode prog_17_method_1_code 14 = .ok (.return_, 1) := by decide +kernel
def own_Q2 (Z : State) (r0 : Addr) (y1 : Int64) (y2 : Int64) (h0 : Heap) (n0 : Nat) (v : Option Value) (h : Heap) (L : List Loc) : Prop := v = none ∧ Fr n0 L ∧ Keep h0 h [r0] ∧ Exa Z h r0 "khoplenh/PriceLimits" ∧ Fld Z h r0 "khoplenh/PriceLimits" "ceiling" "J" (.long y1) ∧ Fld Z h r0 "khoplenh/PriceLimits" "floor" "J" (.long y2)
abbrev own_R2 : Room := { frames := 2, cells := 0, slots := 0, locals := 24 }
theorem own_ef2 (m : MethodId) (z0 : Addr) (z1 : Int64) (z2 : Int64) : entryFrame m #[(.ref z0), (.long z1), (.long z2)] 5 = mkF m 0 #[.val (.ref z0), .val (.long z1), .second, .val (.long z2), .second] [] := by first | (simp [entryFrame, mkF, argsToLocals, Value.category]; done) | rfl
set_option maxRecDepth 65536 in
set_option maxHeartbeats 40000000 in
theorem rm2 (l : Launch) (Z : State) (a0 : Array Value) (hw : ∀ d ∈ tables_1, d.before a0 Z = true) (ws : List Jvm.Cond) (r0 : Addr) (y1 : Int64) (y2 : Int64) (h0 : Heap) (n0 : Nat) (Z0 : n0 ≤ h0.size) (g_r0 : n0 ≤ r0) (E_r0 : Exa Z h0 r0 "khoplenh/PriceLimits") (F_c : Fld Z h0 r0 "khoplenh/PriceLimits" "ceiling" "J" (.long (0 : Int64))) (F_f : Fld Z h0 r0 "khoplenh/PriceLimits" "floor" "J" (.long (0 : Int64))) : own_Met l Z (⟨"khoplenh/PriceLimits", "<init>", "(JJ)V"⟩ : MethodName) prog_17_method_1_code 5 none ws own_R2 #[(.ref r0), (.long y1), (.long y2)] h0 (own_Q2 Z r0 y1 y2 h0 n0) := by
  refine own_met (plainFor_of_name own_pn2) ?_
  intro p e s m below meth c s₁ hx hby hml hown hnm hret hlk hZ e0 X0
  have N0 := Fr.nil n0
  have hml : c.maxLocals = 5 := hml
  have hown : s.vm.findClass "khoplenh/PriceLimits" = some m.cls := hown
  have hret : meth.sig.returnType = none := hret
  have hby : c.code = prog_17_method_1_code := hby
  have hnm : meth.name = "<init>" := hnm
  rw [own_ef2]
  show own_Goes p e below _ (s₁.setTop (mkF m 0 #[.val (.ref r0), .val (.long y1), .second, .val (.long y2), .second] []))
  refine own_go (fun t k => XS.aloadN X0.here hx rfl (hb hby own_d2_0) rfl rfl k) ?_
  show own_Goes p e below _ (s₁.setTop (mkF m 1 #[.val (.ref r0), .val (.long y1), .second, .val (.long y2), .second] [(.ref r0)]))
  obtain ⟨_, T12, L12, X12, ⟨rfl, N12q, e12⟩, st12⟩ := own_callI X0 hx hZ rfl hown (hw _ own_t10) (hw _ own_t11) (hw _ own_t13) (hw _ own_t14) (by decide) (b := r0) (as := []) (rm3 l Z a0 hw [] r0 h0 n0) e0 own_pd0 rfl (pc := 1) (Ls := #[.val (.ref r0), .val (.long y1), .second, .val (.long y2), .second]) (rest := []) (W := 0) (by rw [hml]; rfl) (Nat.le_of_eq rfl) (by decide) (by decide) (hb hby own_d2_1) (by decide) (by decide)
  have N12 := Fr.app N0 N12q
  refine own_go st12 ?_
  show own_Goes p e below _ (T12.setTop (mkF m 4 #[.val (.ref r0), .val (.long y1), .second, .val (.long y2), .second] []))
  refine own_go (fun t k => XS.aloadN X12.here hx rfl (hb hby own_d2_4) rfl rfl k) ?_
  show own_Goes p e below _ (T12.setTop (mkF m 5 #[.val (.ref r0), .val (.long y1), .second, .val (.long y2), .second] [(.ref r0)]))
  refine own_go (fun t k => XS.lloadN X12.here hx rfl (hb hby own_d2_5) rfl k) ?_
  show own_Goes p e below _ (T12.setTop (mkF m 6 #[.val (.ref r0), .val (.long y1), .second, .val (.long y2), .second] [(.long y1), (.ref r0)]))
  obtain ⟨T13, h13, X13, e13, W13, st13⟩ := putF X12 hx hZ hown (host := "") (Or.inl (hw _ own_t18)) Via.refl e12 F_c E_r0 (Or.inr ⟨(hw _ own_t19), rfl, hnm⟩) (hw _ own_t5) (ty := .long) (by decide) rfl rfl (g := (mkF m 6 #[.val (.ref r0), .val (.long y1), .second, .val (.long y2), .second] [(.long y1), (.ref r0)])) rfl rfl (hb hby own_d2_6)
  have N13 := Fr.snoc X13 N12 g_r0
  have Fw13 := F_c.same W13
  refine own_go st13 ?_
  show own_Goes p e below _ (T13.setTop (mkF m 9 #[.val (.ref r0), .val (.long y1), .second, .val (.long y2), .second] []))
  refine own_go (fun t k => XS.aloadN X13.here hx rfl (hb hby own_d2_9) rfl rfl k) ?_
  show own_Goes p e below _ (T13.setTop (mkF m 10 #[.val (.ref r0), .val (.long y1), .second, .val (.long y2), .second] [(.ref r0)]))
  refine own_go (fun t k => XS.lloadN X13.here hx rfl (hb hby own_d2_10) rfl k) ?_
  show own_Goes p e below _ (T13.setTop (mkF m 11 #[.val (.ref r0), .val (.long y1), .second, .val (.long y2), .second] [(.long y2), (.ref r0)]))
  have ff15 : Fld Z h13 r0 "khoplenh/PriceLimits" "floor" "J" (.long (0 : Int64)) := (F_f.other W13 (Or.inr (slot_ne (Or.inr (hw _ own_t21)) (Or.inr (hw _ own_t19)) (by decide) (t := .long) (t' := .long) (by decide) (by decide))))
  obtain ⟨T14, h14, X14, e14, W14, st14⟩ := putF X13 hx hZ hown (host := "") (Or.inl (hw _ own_t20)) Via.refl e13 ff15 (E_r0.wr W13) (Or.inr ⟨(hw _ own_t21), rfl, hnm⟩) (hw _ own_t5) (ty := .long) (by decide) rfl rfl (g := (mkF m 11 #[.val (.ref r0), .val (.long y1), .second, .val (.long y2), .second] [(.long y2), (.ref r0)])) rfl rfl (hb hby own_d2_11)
  have N14 := Fr.snoc X14 N13 g_r0
  have Fw14 := ff15.same W14
  refine own_go st14 ?_
  show own_Goes p e below _ (T14.setTop (mkF m 14 #[.val (.ref r0), .val (.long y1), .second, .val (.long y2), .second] []))
  have ff16 : Fld Z h14 r0 "khoplenh/PriceLimits" "ceiling" "J" (.long y1) := (Fw13.other W14 (Or.inr (slot_ne (Or.inr (hw _ own_t19)) (Or.inr (hw _ own_t21)) (by decide) (t := .long) (t' := .long) (by decide) (by decide))))
  exact own_ret0 X14 hx hlk hret (hb hby own_d2_14) (by decide) (by decide) (by show own_Q2 Z r0 y1 y2 h0 n0 _ T14.heap _; rw [e14]; exact ⟨rfl, N14, (((Keep.refl h0 _).wr W13 (Or.inl (List.mem_of_getElem? (i := 0) rfl))).wr W14 (Or.inl (List.mem_of_getElem? (i := 0) rfl))), ((E_r0.wr W13).wr W14), ff16, Fw14⟩)
theorem own_d5_0 : decode prog_17_method_2_code 0 = .ok (.aload_n 0, 1) := by decide +kernel
theorem own_d5_1 : decode prog_17_method_2_code 1 = .ok (.getfield 13, 3) := by decide +kernel
theorem own_d5_4 : decode prog_17_method_2_code 4 = .ok (.lload_n 1, 1) := by decide +kernel
theorem own_d5_5 : decode prog_17_method_2_code 5 = .ok (.lcmp, 1) := by decide +kernel
theorem own_d5_6 : decode prog_17_method_2_code 6 = .ok (.ifCond .gt 16, 3) := by decide +kernel
theorem own_d5_22 : decode prog_17_method_2_code 22 = .ok (.iconst 0, 1) := by decide +kernel
theorem own_d5_9 : decode prog_17_method_2_code 9 = .ok (.lload_n 1, 1) := by decide +kernel
theorem own_d5_10 : decode prog_17_method_2_code 10 = .ok (.aload_n 0, 1) := by decide +kernel
theorem own_d5_11 : decode prog_17_method_2_code 11 = .ok (.getfield 7, 3) := by decide +kernel
theorem own_d5_14 : decode prog_17_method_2_code 14 = .ok (.lcmp, 1) := by decide +kernel
theorem own_d5_15 : decode prog_17_method_2_code 15 = .ok (.ifCond .gt 7, 3) := by decide +kernel
theorem own_d5_18 : decode prog_17_method_2_code 18 = .ok (.iconst 1, 1) := by decide +kernel
theorem own_d5_19 : decode prog_17_method_2_code 19 = .ok (.goto 4, 3) := by decide +kernel
theorem own_d5_23 : decode prog_17_method_2_code 23 = .ok (.ireturn, 1) := by decide +kernel
def own_j5_1 (y1 : Int64) (q_c : Int64) (q_f : Int64) : Int32 := (if y1 < q_f then (0 : Int32) else (if q_c < y1 then (0 : Int32) else (1 : Int32)))
def own_f5 (y1 : Int64) (q_c : Int64) (q_f : Int64) : Int32 := ((own_j5_1 y1 q_c q_f) &&& 1)
def own_Q5 (r0 : Addr) (y1 : Int64) (q_c : Int64) (q_f : Int64) (h0 : Heap) (n0 : Nat) (v : Option Value) (h : Heap) (L : List Loc) : Prop := v = some (.int (own_f5 y1 q_c q_f)) ∧ Fr n0 L ∧ h = h0
abbrev own_R5 : Room := { frames := 0, cells := 0, slots := 0, locals := 0 }
theorem own_ef5 (m : MethodId) (z0 : Addr) (z1 : Int64) : entryFrame m #[(.ref z0), (.long z1)] 3 = mkF m 0 #[.val (.ref z0), .val (.long z1), .second] [] := by first | (simp [entryFrame, mkF, argsToLocals, Value.category]; done) | rfl
set_option maxRecDepth 65536 in
set_option maxHeartbeats 40000000 in
theorem rm5 (l : Launch) (Z : State) (a0 : Array Value) (hw : ∀ d ∈ tables_1, d.before a0 Z = true) (ws : List Jvm.Cond) (r0 : Addr) (y1 : Int64) (q_c : Int64) (q_f : Int64) (h0 : Heap) (n0 : Nat) (F_c : Fld Z h0 r0 "khoplenh/PriceLimits" "ceiling" "J" (.long q_c)) (F_f : Fld Z h0 r0 "khoplenh/PriceLimits" "floor" "J" (.long q_f)) : own_Met l Z (⟨"khoplenh/PriceLimits", "contains", "(J)Z"⟩ : MethodName) prog_17_method_2_code 3 (some .boolean) ws own_R5 #[(.ref r0), (.long y1)] h0 (own_Q5 r0 y1 q_c q_f h0 n0) := by
  refine own_met (plainFor_of_name own_pn2) ?_
  intro p e s m below meth c s₁ hx hby hml hown hnm hret hlk hZ e0 X0
  have N0 := Fr.nil n0
  have hml : c.maxLocals = 3 := hml
  have hown : s.vm.findClass "khoplenh/PriceLimits" = some m.cls := hown
  have hret : meth.sig.returnType = (some .boolean) := hret
  have hby : c.code = prog_17_method_2_code := hby
  have hnm : meth.name = "contains" := hnm
  rw [own_ef5]
  show own_Goes p e below _ (s₁.setTop (mkF m 0 #[.val (.ref r0), .val (.long y1), .second] []))
  refine own_go (fun t k => XS.aloadN X0.here hx rfl (hb hby own_d5_0) rfl rfl k) ?_
  show own_Goes p e below _ (s₁.setTop (mkF m 1 #[.val (.ref r0), .val (.long y1), .second] [(.ref r0)]))
  obtain ⟨T17, X17, e17, st17⟩ := getF X0 hx hZ hown (host := "") (Or.inl (hw _ own_t20)) Via.refl e0 F_f (g := (mkF m 1 #[.val (.ref r0), .val (.long y1), .second] [(.ref r0)])) rfl rfl (hb hby own_d5_1)
  refine own_go st17 ?_
  show own_Goes p e below _ (T17.setTop (mkF m 4 #[.val (.ref r0), .val (.long y1), .second] [(.long q_f)]))
  refine own_go (fun t k => XS.lloadN X17.here hx rfl (hb hby own_d5_4) rfl k) ?_
  show own_Goes p e below _ (T17.setTop (mkF m 5 #[.val (.ref r0), .val (.long y1), .second] [(.long y1), (.long q_f)]))
  refine own_go (fun t k => XS.lcmp X17.here hx rfl (hb hby own_d5_5) rfl k) ?_
  show own_Goes p e below _ (T17.setTop (mkF m 6 #[.val (.ref r0), .val (.long y1), .second] [(.int (lcmpW q_f y1))]))
  suffices HH21 : ∀ (T21 : State) (L21 : List Loc) (X21 : Stand p l e own_R5 s m #[(.ref r0), (.long y1)] below meth c T21 L21 0 0) (e21 : T21.heap = h0) (N21 : Fr n0 L21), own_Goes p e below (own_End s own_R5 (own_Q5 r0 y1 q_c q_f h0 n0)) (T21.setTop (mkF m 23 #[.val (.ref r0), .val (.long y1), .second] [(.int (own_j5_1 y1 q_c q_f))])) by
    by_cases hc18 : y1 < q_f
    · refine own_go (fun t k => XS.ifYes X17.here hx rfl (pc0 := 6) (pc' := 22) rfl (hb hby own_d5_6) rfl ((if0 _ _).trans (tlt ((lw_gt _ _).mpr hc18)).2.2.1) (by decide) (by decide) k) ?_
      show own_Goes p e below _ (T17.setTop (mkF m 22 #[.val (.ref r0), .val (.long y1), .second] []))
      refine own_go (fun t k => XS.iconst X17.here hx rfl (hb hby own_d5_22) k) ?_
      rw [show (own_j5_1 y1 q_c q_f) = (0 : Int32) from by rw [own_j5_1, if_pos hc18]] at HH21
      exact HH21 _ _ X17 e17 N0
    · refine own_go (fun t k => XS.ifNo X17.here hx rfl (hb hby own_d5_6) rfl ((if0 _ _).trans (flt (fun q => hc18 ((lw_gt _ _).mp q))).2.2.1) k) ?_
      show own_Goes p e below _ (T17.setTop (mkF m 9 #[.val (.ref r0), .val (.long y1), .second] []))
      refine own_go (fun t k => XS.lloadN X17.here hx rfl (hb hby own_d5_9) rfl k) ?_
      show own_Goes p e below _ (T17.setTop (mkF m 10 #[.val (.ref r0), .val (.long y1), .second] [(.long y1)]))
      refine own_go (fun t k => XS.aloadN X17.here hx rfl (hb hby own_d5_10) rfl rfl k) ?_
      show own_Goes p e below _ (T17.setTop (mkF m 11 #[.val (.ref r0), .val (.long y1), .second] [(.ref r0), (.long y1)]))
      obtain ⟨T19, X19, e19, st19⟩ := getF X17 hx hZ hown (host := "") (Or.inl (hw _ own_t18)) Via.refl e17 F_c (g := (mkF m 11 #[.val (.ref r0), .val (.long y1), .second] [(.ref r0), (.long y1)])) rfl rfl (hb hby own_d5_11)
      refine own_go st19 ?_
      show own_Goes p e below _ (T19.setTop (mkF m 14 #[.val (.ref r0), .val (.long y1), .second] [(.long q_c), (.long y1)]))
      refine own_go (fun t k => XS.lcmp X19.here hx rfl (hb hby own_d5_14) rfl k) ?_
      show own_Goes p e below _ (T19.setTop (mkF m 15 #[.val (.ref r0), .val (.long y1), .second] [(.int (lcmpW y1 q_c))]))
      by_cases hc20 : q_c < y1
      · refine own_go (fun t k => XS.ifYes X19.here hx rfl (pc0 := 15) (pc' := 22) rfl (hb hby own_d5_15) rfl ((if0 _ _).trans (tlt ((lw_gt _ _).mpr hc20)).2.2.1) (by decide) (by decide) k) ?_
        show own_Goes p e below _ (T19.setTop (mkF m 22 #[.val (.ref r0), .val (.long y1), .second] []))
        refine own_go (fun t k => XS.iconst X19.here hx rfl (hb hby own_d5_22) k) ?_
        rw [show (own_j5_1 y1 q_c q_f) = (0 : Int32) from by rw [own_j5_1, if_neg hc18, if_pos hc20]] at HH21
        exact HH21 _ _ X19 e19 N0
      · refine own_go (fun t k => XS.ifNo X19.here hx rfl (hb hby own_d5_15) rfl ((if0 _ _).trans (flt (fun q => hc20 ((lw_gt _ _).mp q))).2.2.1) k) ?_
        show own_Goes p e below _ (T19.setTop (mkF m 18 #[.val (.ref r0), .val (.long y1), .second] []))
        refine own_go (fun t k => XS.iconst X19.here hx rfl (hb hby own_d5_18) k) ?_
        show own_Goes p e below _ (T19.setTop (mkF m 19 #[.val (.ref r0), .val (.long y1), .second] [(.int (1 : Int32))]))
        refine own_go (fun t k => XS.goto X19.here hx rfl (pc0 := 19) (pc' := 23) rfl (hb hby own_d5_19) (by decide) (by decide) k) ?_
        rw [show (own_j5_1 y1 q_c q_f) = (1 : Int32) from by rw [own_j5_1, if_neg hc18, if_neg hc20]] at HH21
        exact HH21 _ _ X19 e19 N0
  intro T21 L21 X21 e21 N21
  show own_Goes p e below _ (T21.setTop (mkF m 23 #[.val (.ref r0), .val (.long y1), .second] [(.int (own_j5_1 y1 q_c q_f))]))
  exact own_retN X21 hx hlk hret (by simp) (z' := ((own_j5_1 y1 q_c q_f) &&& 1)) rfl (hb hby own_d5_23) (by decide) (by decide) ⟨by rw [own_f5], N21, e21⟩
theorem own_t0 : (Jvm.Cond.methodLink "khoplenh/PriceLimitsContainsPinLaw" (7 : Nat) ({ cls := "khoplenh/PriceLimitsContainsPinLaw", name := "pick", desc := "(JJJI)J" } : Jvm.MethodName)) ∈ tables_1 := List.mem_of_getElem? (i := 0) rfl
theorem own_pd1 : parseMethodDescriptor "(JJJI)J" = some ⟨[.long, .long, .long, .int], some .long⟩ := by decide +kernel
theorem own_t1 : (Jvm.Cond.static ({ cls := "khoplenh/PriceLimitsContainsPinLaw", name := "pick", desc := "(JJJI)J" } : Jvm.MethodName)) ∈ tables_1 := List.mem_of_getElem? (i := 1) rfl
theorem own_t2 : (Jvm.Cond.initialized "khoplenh/PriceLimitsContainsPinLaw") ∈ tables_1 := List.mem_of_getElem? (i := 2) rfl
theorem own_t3 : (Jvm.Cond.code ({ cls := "khoplenh/PriceLimitsContainsPinLaw", name := "pick", desc := "(JJJI)J" } : Jvm.MethodName) method_2_code (8 : Nat) (Option.some Jvm.ClassFile.FieldType.long)) ∈ tables_1 := List.mem_of_getElem? (i := 3) rfl
theorem own_t4 : (Jvm.Cond.classLink "khoplenh/PriceLimitsContainsPinLaw" (13 : Nat) "khoplenh/PriceLimits") ∈ tables_1 := List.mem_of_getElem? (i := 4) rfl
theorem own_t6 : (Jvm.Cond.initialized "khoplenh/PriceLimits") ∈ tables_1 := List.mem_of_getElem? (i := 6) rfl
theorem own_t7 : (Jvm.Cond.methodLink "khoplenh/PriceLimitsContainsPinLaw" (15 : Nat) ({ cls := "khoplenh/PriceLimits", name := "<init>", desc := "(JJ)V" } : Jvm.MethodName)) ∈ tables_1 := List.mem_of_getElem? (i := 7) rfl
theorem own_pd2 : parseMethodDescriptor "(JJ)V" = some ⟨[.long, .long], none⟩ := by decide +kernel
theorem own_t8 : (Jvm.Cond.instanceMethod ({ cls := "khoplenh/PriceLimits", name := "<init>", desc := "(JJ)V" } : Jvm.MethodName)) ∈ tables_1 := List.mem_of_getElem? (i := 8) rfl
theorem own_t9 : (Jvm.Cond.code ({ cls := "khoplenh/PriceLimits", name := "<init>", desc := "(JJ)V" } : Jvm.MethodName) prog_17_method_1_code (5 : Nat) (Option.none : Option Jvm.ClassFile.FieldType)) ∈ tables_1 := List.mem_of_getElem? (i := 9) rfl
theorem own_t22 : (Jvm.Cond.methodLink "khoplenh/PriceLimitsContainsPinLaw" (18 : Nat) ({ cls := "khoplenh/PriceLimits", name := "contains", desc := "(J)Z" } : Jvm.MethodName)) ∈ tables_1 := List.mem_of_getElem? (i := 22) rfl
theorem own_pd3 : parseMethodDescriptor "(J)Z" = some ⟨[.long], some .boolean⟩ := by decide +kernel
theorem own_t23 : (Jvm.Cond.declares ({ cls := "khoplenh/PriceLimits", name := "contains", desc := "(J)Z" } : Jvm.MethodName)) ∈ tables_1 := List.mem_of_getElem? (i := 23) rfl
theorem own_t25 : (Jvm.Cond.selects "khoplenh/PriceLimits" ({ cls := "khoplenh/PriceLimits", name := "contains", desc := "(J)Z" } : Jvm.MethodName) ({ cls := "khoplenh/PriceLimits", name := "contains", desc := "(J)Z" } : Jvm.MethodName)) ∈ tables_1 := List.mem_of_getElem? (i := 25) rfl
theorem own_t24 : (Jvm.Cond.instanceMethod ({ cls := "khoplenh/PriceLimits", name := "contains", desc := "(J)Z" } : Jvm.MethodName)) ∈ tables_1 := List.mem_of_getElem? (i := 24) rfl
theorem own_t26 : (Jvm.Cond.code ({ cls := "khoplenh/PriceLimits", name := "contains", desc := "(J)Z" } : Jvm.MethodName) prog_17_method_2_code (3 : Nat) (Option.some Jvm.ClassFile.FieldType.boolean)) ∈ tables_1 := List.mem_of_getElem? (i := 26) rfl
theorem own_t27 : (Jvm.Cond.methodLink "khoplenh/PriceLimitsContainsPinLaw" (22 : Nat) ({ cls := "java/lang/Math", name := "max", desc := "(JJ)J" } : Jvm.MethodName)) ∈ tables_1 := List.mem_of_getElem? (i := 27) rfl
theorem own_pd4 : parseMethodDescriptor "(JJ)J" = some ⟨[.long, .long], some .long⟩ := by decide +kernel
theorem own_t28 : (Jvm.Cond.static ({ cls := "java/lang/Math", name := "max", desc := "(JJ)J" } : Jvm.MethodName)) ∈ tables_1 := List.mem_of_getElem? (i := 28) rfl
theorem own_t29 : (Jvm.Cond.initialized "java/lang/Math") ∈ tables_1 := List.mem_of_getElem? (i := 29) rfl
theorem own_t30 : (Jvm.Cond.code ({ cls := "java/lang/Math", name := "max", desc := "(JJ)J" } : Jvm.MethodName) jdk_29_method_66_code (4 : Nat) (Option.some Jvm.ClassFile.FieldType.long)) ∈ tables_1 := List.mem_of_getElem? (i := 30) rfl
theorem own_t31 : (Jvm.Cond.methodLink "khoplenh/PriceLimitsContainsPinLaw" (28 : Nat) ({ cls := "java/lang/Math", name := "min", desc := "(JJ)J" } : Jvm.MethodName)) ∈ tables_1 := List.mem_of_getElem? (i := 31) rfl
theorem own_t32 : (Jvm.Cond.static ({ cls := "java/lang/Math", name := "min", desc := "(JJ)J" } : Jvm.MethodName)) ∈ tables_1 := List.mem_of_getElem? (i := 32) rfl
theorem own_t33 : (Jvm.Cond.code ({ cls := "java/lang/Math", name := "min", desc := "(JJ)J" } : Jvm.MethodName) jdk_29_method_70_code (4 : Nat) (Option.some Jvm.ClassFile.FieldType.long)) ∈ tables_1 := List.mem_of_getElem? (i := 33) rfl
def own_j0_1 (y0 : Int64) (y1 : Int64) (y2 : Int64) (x3 : Int32) : Int32 := (if (own_f7 (own_f6 (own_f1 y0 y1 y2 x3) y1) y0) = (own_f1 y0 y1 y2 x3) then (1 : Int32) else (0 : Int32))
def own_j0_2 (y0 : Int64) (y1 : Int64) (y2 : Int64) (x3 : Int32) : Int32 := (if y0 < y1 then (0 : Int32) else (own_j0_1 y0 y1 y2 x3))
def own_j0_3 (y0 : Int64) (y1 : Int64) (y2 : Int64) (x3 : Int32) : Int32 := (if (own_f5 (own_f1 y0 y1 y2 x3) y0 y1) = (own_j0_2 y0 y1 y2 x3) then (1 : Int32) else (0 : Int32))
def own_f0 (y0 : Int64) (y1 : Int64) (y2 : Int64) (x3 : Int32) : Int32 := ((own_j0_3 y0 y1 y2 x3) &&& 1)
def own_Q0 (y0 : Int64) (y1 : Int64) (y2 : Int64) (x3 : Int32) (h0 : Heap) (n0 : Nat) (v : Option Value) (h : Heap) (L : List Loc) : Prop := v = some (.int (own_f0 y0 y1 y2 x3)) ∧ Fr n0 L ∧ True
theorem own_ef0 (m : MethodId) (z0 : Int64) (z1 : Int64) (z2 : Int64) (z3 : Int32) : entryFrame m #[(.long z0), (.long z1), (.long z2), (.int z3)] maxLocals = mkF m 0 #[.val (.long z0), .second, .val (.long z1), .second, .val (.long z2), .second, .val (.int z3), .unset, .unset, .unset, .unset, .unset] [] := by first | (simp [entryFrame, mkF, argsToLocals, Value.category, maxLocals]; done) | rfl
set_option maxRecDepth 65536 in
set_option maxHeartbeats 40000000 in
theorem rm0 (l : Launch) (Z : State) (a0 : Array Value) (hw : ∀ d ∈ tables_1, d.before a0 Z = true) (ws : List Jvm.Cond) (y0 : Int64) (y1 : Int64) (y2 : Int64) (x3 : Int32) (h0 : Heap) (n0 : Nat) (Z0 : n0 ≤ h0.size) : own_Met l Z x code maxLocals ret ws room_1 #[(.long y0), (.long y1), (.long y2), (.int x3)] h0 (own_Q0 y0 y1 y2 x3 h0 n0) := by
  refine own_met (plainFor_of_name own_pn0) ?_
  intro p e s m below meth c s₁ hx hby hml hown hnm hret hlk hZ e0 X0
  have N0 := Fr.nil n0
  have hml : c.maxLocals = 12 := hml
  have hown : s.vm.findClass "khoplenh/PriceLimitsContainsPinLaw" = some m.cls := hown
  have hret : meth.sig.returnType = (some .boolean) := hret
  have hby : c.code = code := hby
  have hnm : meth.name = "law" := hnm
  rw [own_ef0]
  show own_Goes p e below _ (s₁.setTop (mkF m 0 #[.val (.long y0), .second, .val (.long y1), .second, .val (.long y2), .second, .val (.int x3), .unset, .unset, .unset, .unset, .unset] []))
  refine own_go (fun t k => XS.lloadN X0.here hx rfl (hb hby at_0) rfl k) ?_
  show own_Goes p e below _ (s₁.setTop (mkF m 1 #[.val (.long y0), .second, .val (.long y1), .second, .val (.long y2), .second, .val (.int x3), .unset, .unset, .unset, .unset, .unset] [(.long y0)]))
  refine own_go (fun t k => XS.lloadN X0.here hx rfl (hb hby at_1) rfl k) ?_
  show own_Goes p e below _ (s₁.setTop (mkF m 2 #[.val (.long y0), .second, .val (.long y1), .second, .val (.long y2), .second, .val (.int x3), .unset, .unset, .unset, .unset, .unset] [(.long y1), (.long y0)]))
  refine own_go (fun t k => XS.lload X0.here hx rfl (hb hby at_2) rfl k) ?_
  show own_Goes p e below _ (s₁.setTop (mkF m 4 #[.val (.long y0), .second, .val (.long y1), .second, .val (.long y2), .second, .val (.int x3), .unset, .unset, .unset, .unset, .unset] [(.long y2), (.long y1), (.long y0)]))
  refine own_go (fun t k => XS.iload X0.here hx rfl (hb hby at_4) rfl k) ?_
  show own_Goes p e below _ (s₁.setTop (mkF m 6 #[.val (.long y0), .second, .val (.long y1), .second, .val (.long y2), .second, .val (.int x3), .unset, .unset, .unset, .unset, .unset] [(.int x3), (.long y2), (.long y1), (.long y0)]))
  obtain ⟨_, T22, L22, X22, ⟨rfl, N22q, e22⟩, st22⟩ := own_callS X0 hx hZ hown (hw _ own_t0) (hw _ own_t1) (hw _ own_t2) (hw _ own_t3) (by decide) (as := [(.long y0), (.long y1), (.long y2), (.int x3)]) (rm1 l Z a0 hw [] y0 y1 y2 x3 h0 n0) e0 own_pd1 rfl (pc := 6) (Ls := #[.val (.long y0), .second, .val (.long y1), .second, .val (.long y2), .second, .val (.int x3), .unset, .unset, .unset, .unset, .unset]) (rest := []) (W := 0) (by rw [hml]; rfl) (Nat.le_of_eq rfl) (by decide) (by decide) (hb hby at_6) (by decide) (by decide)
  have N22 := Fr.app N0 N22q
  refine own_go st22 ?_
  show own_Goes p e below _ (T22.setTop (mkF m 9 #[.val (.long y0), .second, .val (.long y1), .second, .val (.long y2), .second, .val (.int x3), .unset, .unset, .unset, .unset, .unset] [(.long (own_f1 y0 y1 y2 x3))]))
  refine own_go (fun t k => XS.lstore X22.here hx rfl (hb hby at_9) rfl (l' := #[.val (.long y0), .second, .val (.long y1), .second, .val (.long y2), .second, .val (.int x3), .val (.long (own_f1 y0 y1 y2 x3)), .second, .unset, .unset, .unset]) rfl k) ?_
  show own_Goes p e below _ (T22.setTop (mkF m 11 #[.val (.long y0), .second, .val (.long y1), .second, .val (.long y2), .second, .val (.int x3), .val (.long (own_f1 y0 y1 y2 x3)), .second, .unset, .unset, .unset] []))
  obtain ⟨T23, h23, X23, e23, E23, A23, D23, -, st23⟩ := newO X22 hx hZ hown (hw _ own_t4) (hw _ own_t5) (hw _ own_t6) e22 (g := (mkF m 11 #[.val (.long y0), .second, .val (.long y1), .second, .val (.long y2), .second, .val (.int x3), .val (.long (own_f1 y0 y1 y2 x3)), .second, .unset, .unset, .unset] [])) rfl (hb hby at_11) (by decide) (by decide)
  obtain ⟨b23, q23⟩ : ∃ z, z = h0.size := ⟨_, rfl⟩
  rw [← q23] at A23 D23 st23
  have lt_b23 : h0.size ≤ b23 := Nat.le_of_eq q23.symm
  have g_b23 : n0 ≤ b23 := Nat.le_trans Z0 lt_b23
  have F23_ceiling : Fld Z h23 b23 "khoplenh/PriceLimits" "ceiling" "J" (.long (0 : Int64)) := D23 (Or.inr (hw _ own_t19)) (ty := .long) (by decide)
  have F23_floor : Fld Z h23 b23 "khoplenh/PriceLimits" "floor" "J" (.long (0 : Int64)) := D23 (Or.inr (hw _ own_t21)) (ty := .long) (by decide)
  refine own_go st23 ?_
  show own_Goes p e below _ (T23.setTop (mkF m 14 #[.val (.long y0), .second, .val (.long y1), .second, .val (.long y2), .second, .val (.int x3), .val (.long (own_f1 y0 y1 y2 x3)), .second, .unset, .unset, .unset] [(.ref b23)]))
  refine own_go (fun t k => XS.dup X23.here hx rfl (hb hby at_14) rfl rfl k) ?_
  show own_Goes p e below _ (T23.setTop (mkF m 15 #[.val (.long y0), .second, .val (.long y1), .second, .val (.long y2), .second, .val (.int x3), .val (.long (own_f1 y0 y1 y2 x3)), .second, .unset, .unset, .unset] [(.ref b23), (.ref b23)]))
  refine own_go (fun t k => XS.lloadN X23.here hx rfl (hb hby at_15) rfl k) ?_
  show own_Goes p e below _ (T23.setTop (mkF m 16 #[.val (.long y0), .second, .val (.long y1), .second, .val (.long y2), .second, .val (.int x3), .val (.long (own_f1 y0 y1 y2 x3)), .second, .unset, .unset, .unset] [(.long y0), (.ref b23), (.ref b23)]))
  refine own_go (fun t k => XS.lloadN X23.here hx rfl (hb hby at_16) rfl k) ?_
  show own_Goes p e below _ (T23.setTop (mkF m 17 #[.val (.long y0), .second, .val (.long y1), .second, .val (.long y2), .second, .val (.int x3), .val (.long (own_f1 y0 y1 y2 x3)), .second, .unset, .unset, .unset] [(.long y1), (.long y0), (.ref b23), (.ref b23)]))
  obtain ⟨_, T24, L24, X24, ⟨rfl, N24q, K24, G24_0, G24_1, G24_2⟩, st24⟩ := own_callI X23 hx hZ rfl hown (hw _ own_t7) (hw _ own_t8) (hw _ own_t6) (hw _ own_t9) (by decide) (b := b23) (as := [(.long y0), (.long y1)]) (rm2 l Z a0 hw [] b23 y0 y1 h23 n0 (Nat.le_trans Z0 E23.1) g_b23 A23 F23_ceiling F23_floor) e23 own_pd2 rfl (pc := 17) (Ls := #[.val (.long y0), .second, .val (.long y1), .second, .val (.long y2), .second, .val (.int x3), .val (.long (own_f1 y0 y1 y2 x3)), .second, .unset, .unset, .unset]) (rest := [(.ref b23)]) (W := 1) (by rw [hml]; rfl) (Nat.le_of_eq rfl) (by decide) (by decide) (hb hby at_17) (by decide) (by decide)
  have N24 := Fr.app N22 N24q
  refine own_go st24 ?_
  show own_Goes p e below _ (T24.setTop (mkF m 20 #[.val (.long y0), .second, .val (.long y1), .second, .val (.long y2), .second, .val (.int x3), .val (.long (own_f1 y0 y1 y2 x3)), .second, .unset, .unset, .unset] [(.ref b23)]))
  refine own_go (fun t k => XS.astore X24.here hx rfl (hb hby at_20) rfl rfl (l' := #[.val (.long y0), .second, .val (.long y1), .second, .val (.long y2), .second, .val (.int x3), .val (.long (own_f1 y0 y1 y2 x3)), .second, .val (.ref b23), .unset, .unset]) rfl k) ?_
  show own_Goes p e below _ (T24.setTop (mkF m 22 #[.val (.long y0), .second, .val (.long y1), .second, .val (.long y2), .second, .val (.int x3), .val (.long (own_f1 y0 y1 y2 x3)), .second, .val (.ref b23), .unset, .unset] []))
  refine own_go (fun t k => XS.aload X24.here hx rfl (hb hby at_22) rfl rfl k) ?_
  show own_Goes p e below _ (T24.setTop (mkF m 24 #[.val (.long y0), .second, .val (.long y1), .second, .val (.long y2), .second, .val (.int x3), .val (.long (own_f1 y0 y1 y2 x3)), .second, .val (.ref b23), .unset, .unset] [(.ref b23)]))
  refine own_go (fun t k => XS.lload X24.here hx rfl (hb hby at_24) rfl k) ?_
  show own_Goes p e below _ (T24.setTop (mkF m 26 #[.val (.long y0), .second, .val (.long y1), .second, .val (.long y2), .second, .val (.int x3), .val (.long (own_f1 y0 y1 y2 x3)), .second, .val (.ref b23), .unset, .unset] [(.long (own_f1 y0 y1 y2 x3)), (.ref b23)]))
  obtain ⟨_, T25, L25, X25, ⟨rfl, N25q, e25⟩, st25⟩ := own_callV X24 hx hZ hown (hw _ own_t22) (hw _ own_t23) (hw _ own_t25) (hw _ own_t24) (hw _ own_t6) (hw _ own_t26) (by decide) (b := b23) (as := [(.long (own_f1 y0 y1 y2 x3))]) (rm5 l Z a0 hw [] b23 (own_f1 y0 y1 y2 x3) y0 y1 T24.heap n0 G24_1 G24_2) rfl G24_0 own_pd3 rfl (pc := 26) (Ls := #[.val (.long y0), .second, .val (.long y1), .second, .val (.long y2), .second, .val (.int x3), .val (.long (own_f1 y0 y1 y2 x3)), .second, .val (.ref b23), .unset, .unset]) (rest := []) (W := 0) (by rw [hml]; rfl) (Nat.le_of_eq rfl) (by decide) (by decide) (hb hby at_26) (by decide) (by decide)
  have N25 := Fr.app N24 N25q
  refine own_go st25 ?_
  show own_Goes p e below _ (T25.setTop (mkF m 29 #[.val (.long y0), .second, .val (.long y1), .second, .val (.long y2), .second, .val (.int x3), .val (.long (own_f1 y0 y1 y2 x3)), .second, .val (.ref b23), .unset, .unset] [(.int (own_f5 (own_f1 y0 y1 y2 x3) y0 y1))]))
  refine own_go (fun t k => XS.istore X25.here hx rfl (hb hby at_29) rfl (l' := #[.val (.long y0), .second, .val (.long y1), .second, .val (.long y2), .second, .val (.int x3), .val (.long (own_f1 y0 y1 y2 x3)), .second, .val (.ref b23), .val (.int (own_f5 (own_f1 y0 y1 y2 x3) y0 y1)), .unset]) rfl k) ?_
  show own_Goes p e below _ (T25.setTop (mkF m 31 #[.val (.long y0), .second, .val (.long y1), .second, .val (.long y2), .second, .val (.int x3), .val (.long (own_f1 y0 y1 y2 x3)), .second, .val (.ref b23), .val (.int (own_f5 (own_f1 y0 y1 y2 x3) y0 y1)), .unset] []))
  refine own_go (fun t k => XS.lloadN X25.here hx rfl (hb hby at_31) rfl k) ?_
  show own_Goes p e below _ (T25.setTop (mkF m 32 #[.val (.long y0), .second, .val (.long y1), .second, .val (.long y2), .second, .val (.int x3), .val (.long (own_f1 y0 y1 y2 x3)), .second, .val (.ref b23), .val (.int (own_f5 (own_f1 y0 y1 y2 x3) y0 y1)), .unset] [(.long y1)]))
  refine own_go (fun t k => XS.lloadN X25.here hx rfl (hb hby at_32) rfl k) ?_
  show own_Goes p e below _ (T25.setTop (mkF m 33 #[.val (.long y0), .second, .val (.long y1), .second, .val (.long y2), .second, .val (.int x3), .val (.long (own_f1 y0 y1 y2 x3)), .second, .val (.ref b23), .val (.int (own_f5 (own_f1 y0 y1 y2 x3) y0 y1)), .unset] [(.long y0), (.long y1)]))
  refine own_go (fun t k => XS.lcmp X25.here hx rfl (hb hby at_33) rfl k) ?_
  show own_Goes p e below _ (T25.setTop (mkF m 34 #[.val (.long y0), .second, .val (.long y1), .second, .val (.long y2), .second, .val (.int x3), .val (.long (own_f1 y0 y1 y2 x3)), .second, .val (.ref b23), .val (.int (own_f5 (own_f1 y0 y1 y2 x3) y0 y1)), .unset] [(.int (lcmpW y1 y0))]))
  suffices HH31 : ∀ (T31 : State) (L31 : List Loc) (X31 : Stand p l e room_1 s m #[(.long y0), (.long y1), (.long y2), (.int x3)] below meth c T31 L31 1 2) (e31 : T31.heap = T24.heap) (N31 : Fr n0 L31), own_Goes p e below (own_End s room_1 (own_Q0 y0 y1 y2 x3 h0 n0)) (T31.setTop (mkF m 66 #[.val (.long y0), .second, .val (.long y1), .second, .val (.long y2), .second, .val (.int x3), .val (.long (own_f1 y0 y1 y2 x3)), .second, .val (.ref b23), .val (.int (own_f5 (own_f1 y0 y1 y2 x3) y0 y1)), .val (.int (own_j0_2 y0 y1 y2 x3))] [])) by
    by_cases hc26 : y0 < y1
    · refine own_go (fun t k => XS.ifNo X25.here hx rfl (hb hby at_34) rfl ((if0 _ _).trans (tlt ((lw_gt _ _).mpr hc26)).2.2.2) k) ?_
      show own_Goes p e below _ (T25.setTop (mkF m 37 #[.val (.long y0), .second, .val (.long y1), .second, .val (.long y2), .second, .val (.int x3), .val (.long (own_f1 y0 y1 y2 x3)), .second, .val (.ref b23), .val (.int (own_f5 (own_f1 y0 y1 y2 x3) y0 y1)), .unset] []))
      refine own_go (fun t k => XS.iconst X25.here hx rfl (hb hby at_37) k) ?_
      show own_Goes p e below _ (T25.setTop (mkF m 38 #[.val (.long y0), .second, .val (.long y1), .second, .val (.long y2), .second, .val (.int x3), .val (.long (own_f1 y0 y1 y2 x3)), .second, .val (.ref b23), .val (.int (own_f5 (own_f1 y0 y1 y2 x3) y0 y1)), .unset] [(.int (0 : Int32))]))
      refine own_go (fun t k => XS.istore X25.here hx rfl (hb hby at_38) rfl (l' := #[.val (.long y0), .second, .val (.long y1), .second, .val (.long y2), .second, .val (.int x3), .val (.long (own_f1 y0 y1 y2 x3)), .second, .val (.ref b23), .val (.int (own_f5 (own_f1 y0 y1 y2 x3) y0 y1)), .val (.int (0 : Int32))]) rfl k) ?_
      show own_Goes p e below _ (T25.setTop (mkF m 40 #[.val (.long y0), .second, .val (.long y1), .second, .val (.long y2), .second, .val (.int x3), .val (.long (own_f1 y0 y1 y2 x3)), .second, .val (.ref b23), .val (.int (own_f5 (own_f1 y0 y1 y2 x3) y0 y1)), .val (.int (0 : Int32))] []))
      refine own_go (fun t k => XS.goto X25.here hx rfl (pc0 := 40) (pc' := 66) rfl (hb hby at_40) (by decide) (by decide) k) ?_
      rw [show (own_j0_2 y0 y1 y2 x3) = (0 : Int32) from by rw [own_j0_2, if_pos hc26]] at HH31
      exact HH31 _ _ X25 e25 N25
    · refine own_go (fun t k => XS.ifYes X25.here hx rfl (pc0 := 34) (pc' := 43) rfl (hb hby at_34) rfl ((if0 _ _).trans (flt (fun q => hc26 ((lw_gt _ _).mp q))).2.2.2) (by decide) (by decide) k) ?_
      show own_Goes p e below _ (T25.setTop (mkF m 43 #[.val (.long y0), .second, .val (.long y1), .second, .val (.long y2), .second, .val (.int x3), .val (.long (own_f1 y0 y1 y2 x3)), .second, .val (.ref b23), .val (.int (own_f5 (own_f1 y0 y1 y2 x3) y0 y1)), .unset] []))
      refine own_go (fun t k => XS.lload X25.here hx rfl (hb hby at_43) rfl k) ?_
      show own_Goes p e below _ (T25.setTop (mkF m 45 #[.val (.long y0), .second, .val (.long y1), .second, .val (.long y2), .second, .val (.int x3), .val (.long (own_f1 y0 y1 y2 x3)), .second, .val (.ref b23), .val (.int (own_f5 (own_f1 y0 y1 y2 x3) y0 y1)), .unset] [(.long (own_f1 y0 y1 y2 x3))]))
      refine own_go (fun t k => XS.lloadN X25.here hx rfl (hb hby at_45) rfl k) ?_
      show own_Goes p e below _ (T25.setTop (mkF m 46 #[.val (.long y0), .second, .val (.long y1), .second, .val (.long y2), .second, .val (.int x3), .val (.long (own_f1 y0 y1 y2 x3)), .second, .val (.ref b23), .val (.int (own_f5 (own_f1 y0 y1 y2 x3) y0 y1)), .unset] [(.long y1), (.long (own_f1 y0 y1 y2 x3))]))
      obtain ⟨_, T27, L27, X27, ⟨rfl, N27q, e27⟩, st27⟩ := own_callS X25 hx hZ hown (hw _ own_t27) (hw _ own_t28) (hw _ own_t29) (hw _ own_t30) (by decide) (as := [(.long (own_f1 y0 y1 y2 x3)), (.long y1)]) (rm6 l Z a0 hw [] (own_f1 y0 y1 y2 x3) y1 T24.heap n0) e25 own_pd4 rfl (pc := 46) (Ls := #[.val (.long y0), .second, .val (.long y1), .second, .val (.long y2), .second, .val (.int x3), .val (.long (own_f1 y0 y1 y2 x3)), .second, .val (.ref b23), .val (.int (own_f5 (own_f1 y0 y1 y2 x3) y0 y1)), .unset]) (rest := []) (W := 0) (by rw [hml]; rfl) (Nat.le_of_eq rfl) (by decide) (by decide) (hb hby at_46) (by decide) (by decide)
      have N27 := Fr.app N25 N27q
      refine own_go st27 ?_
      show own_Goes p e below _ (T27.setTop (mkF m 49 #[.val (.long y0), .second, .val (.long y1), .second, .val (.long y2), .second, .val (.int x3), .val (.long (own_f1 y0 y1 y2 x3)), .second, .val (.ref b23), .val (.int (own_f5 (own_f1 y0 y1 y2 x3) y0 y1)), .unset] [(.long (own_f6 (own_f1 y0 y1 y2 x3) y1))]))
      refine own_go (fun t k => XS.lloadN X27.here hx rfl (hb hby at_49) rfl k) ?_
      show own_Goes p e below _ (T27.setTop (mkF m 50 #[.val (.long y0), .second, .val (.long y1), .second, .val (.long y2), .second, .val (.int x3), .val (.long (own_f1 y0 y1 y2 x3)), .second, .val (.ref b23), .val (.int (own_f5 (own_f1 y0 y1 y2 x3) y0 y1)), .unset] [(.long y0), (.long (own_f6 (own_f1 y0 y1 y2 x3) y1))]))
      obtain ⟨_, T28, L28, X28, ⟨rfl, N28q, e28⟩, st28⟩ := own_callS X27 hx hZ hown (hw _ own_t31) (hw _ own_t32) (hw _ own_t29) (hw _ own_t33) (by decide) (as := [(.long (own_f6 (own_f1 y0 y1 y2 x3) y1)), (.long y0)]) (rm7 l Z a0 hw [] (own_f6 (own_f1 y0 y1 y2 x3) y1) y0 T24.heap n0) e27 own_pd4 rfl (pc := 50) (Ls := #[.val (.long y0), .second, .val (.long y1), .second, .val (.long y2), .second, .val (.int x3), .val (.long (own_f1 y0 y1 y2 x3)), .second, .val (.ref b23), .val (.int (own_f5 (own_f1 y0 y1 y2 x3) y0 y1)), .unset]) (rest := []) (W := 0) (by rw [hml]; rfl) (Nat.le_of_eq rfl) (by decide) (by decide) (hb hby at_50) (by decide) (by decide)
      have N28 := Fr.app N27 N28q
      refine own_go st28 ?_
      show own_Goes p e below _ (T28.setTop (mkF m 53 #[.val (.long y0), .second, .val (.long y1), .second, .val (.long y2), .second, .val (.int x3), .val (.long (own_f1 y0 y1 y2 x3)), .second, .val (.ref b23), .val (.int (own_f5 (own_f1 y0 y1 y2 x3) y0 y1)), .unset] [(.long (own_f7 (own_f6 (own_f1 y0 y1 y2 x3) y1) y0))]))
      refine own_go (fun t k => XS.lload X28.here hx rfl (hb hby at_53) rfl k) ?_
      show own_Goes p e below _ (T28.setTop (mkF m 55 #[.val (.long y0), .second, .val (.long y1), .second, .val (.long y2), .second, .val (.int x3), .val (.long (own_f1 y0 y1 y2 x3)), .second, .val (.ref b23), .val (.int (own_f5 (own_f1 y0 y1 y2 x3) y0 y1)), .unset] [(.long (own_f1 y0 y1 y2 x3)), (.long (own_f7 (own_f6 (own_f1 y0 y1 y2 x3) y1) y0))]))
      refine own_go (fun t k => XS.lcmp X28.here hx rfl (hb hby at_55) rfl k) ?_
      show own_Goes p e below _ (T28.setTop (mkF m 56 #[.val (.long y0), .second, .val (.long y1), .second, .val (.long y2), .second, .val (.int x3), .val (.long (own_f1 y0 y1 y2 x3)), .second, .val (.ref b23), .val (.int (own_f5 (own_f1 y0 y1 y2 x3) y0 y1)), .unset] [(.int (lcmpW (own_f7 (own_f6 (own_f1 y0 y1 y2 x3) y1) y0) (own_f1 y0 y1 y2 x3)))]))
      suffices HH30 : own_Goes p e below (own_End s room_1 (own_Q0 y0 y1 y2 x3 h0 n0)) (T28.setTop (mkF m 64 #[.val (.long y0), .second, .val (.long y1), .second, .val (.long y2), .second, .val (.int x3), .val (.long (own_f1 y0 y1 y2 x3)), .second, .val (.ref b23), .val (.int (own_f5 (own_f1 y0 y1 y2 x3) y0 y1)), .unset] [(.int (own_j0_1 y0 y1 y2 x3))])) by
        by_cases hc29 : (own_f7 (own_f6 (own_f1 y0 y1 y2 x3) y1) y0) = (own_f1 y0 y1 y2 x3)
        · refine own_go (fun t k => XS.ifNo X28.here hx rfl (hb hby at_56) rfl ((if0 _ _).trans (teq ((lw_eq _ _).mpr hc29)).2) k) ?_
          show own_Goes p e below _ (T28.setTop (mkF m 59 #[.val (.long y0), .second, .val (.long y1), .second, .val (.long y2), .second, .val (.int x3), .val (.long (own_f1 y0 y1 y2 x3)), .second, .val (.ref b23), .val (.int (own_f5 (own_f1 y0 y1 y2 x3) y0 y1)), .unset] []))
          refine own_go (fun t k => XS.iconst X28.here hx rfl (hb hby at_59) k) ?_
          show own_Goes p e below _ (T28.setTop (mkF m 60 #[.val (.long y0), .second, .val (.long y1), .second, .val (.long y2), .second, .val (.int x3), .val (.long (own_f1 y0 y1 y2 x3)), .second, .val (.ref b23), .val (.int (own_f5 (own_f1 y0 y1 y2 x3) y0 y1)), .unset] [(.int (1 : Int32))]))
          refine own_go (fun t k => XS.goto X28.here hx rfl (pc0 := 60) (pc' := 64) rfl (hb hby at_60) (by decide) (by decide) k) ?_
          rw [show (own_j0_1 y0 y1 y2 x3) = (1 : Int32) from by rw [own_j0_1, if_pos hc29]] at HH30
          exact HH30
        · refine own_go (fun t k => XS.ifYes X28.here hx rfl (pc0 := 56) (pc' := 63) rfl (hb hby at_56) rfl ((if0 _ _).trans (feq (fun q => hc29 ((lw_eq _ _).mp q))).2) (by decide) (by decide) k) ?_
          show own_Goes p e below _ (T28.setTop (mkF m 63 #[.val (.long y0), .second, .val (.long y1), .second, .val (.long y2), .second, .val (.int x3), .val (.long (own_f1 y0 y1 y2 x3)), .second, .val (.ref b23), .val (.int (own_f5 (own_f1 y0 y1 y2 x3) y0 y1)), .unset] []))
          refine own_go (fun t k => XS.iconst X28.here hx rfl (hb hby at_63) k) ?_
          rw [show (own_j0_1 y0 y1 y2 x3) = (0 : Int32) from by rw [own_j0_1, if_neg hc29]] at HH30
          exact HH30
      show own_Goes p e below _ (T28.setTop (mkF m 64 #[.val (.long y0), .second, .val (.long y1), .second, .val (.long y2), .second, .val (.int x3), .val (.long (own_f1 y0 y1 y2 x3)), .second, .val (.ref b23), .val (.int (own_f5 (own_f1 y0 y1 y2 x3) y0 y1)), .unset] [(.int (own_j0_1 y0 y1 y2 x3))]))
      refine own_go (fun t k => XS.istore X28.here hx rfl (hb hby at_64) rfl (l' := #[.val (.long y0), .second, .val (.long y1), .second, .val (.long y2), .second, .val (.int x3), .val (.long (own_f1 y0 y1 y2 x3)), .second, .val (.ref b23), .val (.int (own_f5 (own_f1 y0 y1 y2 x3) y0 y1)), .val (.int (own_j0_1 y0 y1 y2 x3))]) rfl k) ?_
      rw [show (own_j0_2 y0 y1 y2 x3) = (own_j0_1 y0 y1 y2 x3) from by rw [own_j0_2, if_neg hc26]] at HH31
      exact HH31 _ _ X28 e28 N28
  intro T31 L31 X31 e31 N31
  show own_Goes p e below _ (T31.setTop (mkF m 66 #[.val (.long y0), .second, .val (.long y1), .second, .val (.long y2), .second, .val (.int x3), .val (.long (own_f1 y0 y1 y2 x3)), .second, .val (.ref b23), .val (.int (own_f5 (own_f1 y0 y1 y2 x3) y0 y1)), .val (.int (own_j0_2 y0 y1 y2 x3))] []))
  refine own_go (fun t k => XS.iload X31.here hx rfl (hb hby at_66) rfl k) ?_
  show own_Goes p e below _ (T31.setTop (mkF m 68 #[.val (.long y0), .second, .val (.long y1), .second, .val (.long y2), .second, .val (.int x3), .val (.long (own_f1 y0 y1 y2 x3)), .second, .val (.ref b23), .val (.int (own_f5 (own_f1 y0 y1 y2 x3) y0 y1)), .val (.int (own_j0_2 y0 y1 y2 x3))] [(.int (own_f5 (own_f1 y0 y1 y2 x3) y0 y1))]))
  refine own_go (fun t k => XS.iload X31.here hx rfl (hb hby at_68) rfl k) ?_
  show own_Goes p e below _ (T31.setTop (mkF m 70 #[.val (.long y0), .second, .val (.long y1), .second, .val (.long y2), .second, .val (.int x3), .val (.long (own_f1 y0 y1 y2 x3)), .second, .val (.ref b23), .val (.int (own_f5 (own_f1 y0 y1 y2 x3) y0 y1)), .val (.int (own_j0_2 y0 y1 y2 x3))] [(.int (own_j0_2 y0 y1 y2 x3)), (.int (own_f5 (own_f1 y0 y1 y2 x3) y0 y1))]))
  suffices HH33 : own_Goes p e below (own_End s room_1 (own_Q0 y0 y1 y2 x3 h0 n0)) (T31.setTop (mkF m 78 #[.val (.long y0), .second, .val (.long y1), .second, .val (.long y2), .second, .val (.int x3), .val (.long (own_f1 y0 y1 y2 x3)), .second, .val (.ref b23), .val (.int (own_f5 (own_f1 y0 y1 y2 x3) y0 y1)), .val (.int (own_j0_2 y0 y1 y2 x3))] [(.int (own_j0_3 y0 y1 y2 x3))])) by
    by_cases hc32 : (own_f5 (own_f1 y0 y1 y2 x3) y0 y1) = (own_j0_2 y0 y1 y2 x3)
    · refine own_go (fun t k => XS.icmpNo X31.here hx rfl (hb hby at_70) rfl (teq hc32).2 k) ?_
      show own_Goes p e below _ (T31.setTop (mkF m 73 #[.val (.long y0), .second, .val (.long y1), .second, .val (.long y2), .second, .val (.int x3), .val (.long (own_f1 y0 y1 y2 x3)), .second, .val (.ref b23), .val (.int (own_f5 (own_f1 y0 y1 y2 x3) y0 y1)), .val (.int (own_j0_2 y0 y1 y2 x3))] []))
      refine own_go (fun t k => XS.iconst X31.here hx rfl (hb hby at_73) k) ?_
      show own_Goes p e below _ (T31.setTop (mkF m 74 #[.val (.long y0), .second, .val (.long y1), .second, .val (.long y2), .second, .val (.int x3), .val (.long (own_f1 y0 y1 y2 x3)), .second, .val (.ref b23), .val (.int (own_f5 (own_f1 y0 y1 y2 x3) y0 y1)), .val (.int (own_j0_2 y0 y1 y2 x3))] [(.int (1 : Int32))]))
      refine own_go (fun t k => XS.goto X31.here hx rfl (pc0 := 74) (pc' := 78) rfl (hb hby at_74) (by decide) (by decide) k) ?_
      rw [show (own_j0_3 y0 y1 y2 x3) = (1 : Int32) from by rw [own_j0_3, if_pos hc32]] at HH33
      exact HH33
    · refine own_go (fun t k => XS.icmpYes X31.here hx rfl (pc0 := 70) (pc' := 77) rfl (hb hby at_70) rfl (feq hc32).2 (by decide) (by decide) k) ?_
      show own_Goes p e below _ (T31.setTop (mkF m 77 #[.val (.long y0), .second, .val (.long y1), .second, .val (.long y2), .second, .val (.int x3), .val (.long (own_f1 y0 y1 y2 x3)), .second, .val (.ref b23), .val (.int (own_f5 (own_f1 y0 y1 y2 x3) y0 y1)), .val (.int (own_j0_2 y0 y1 y2 x3))] []))
      refine own_go (fun t k => XS.iconst X31.here hx rfl (hb hby at_77) k) ?_
      rw [show (own_j0_3 y0 y1 y2 x3) = (0 : Int32) from by rw [own_j0_3, if_neg hc32]] at HH33
      exact HH33
  show own_Goes p e below _ (T31.setTop (mkF m 78 #[.val (.long y0), .second, .val (.long y1), .second, .val (.long y2), .second, .val (.int x3), .val (.long (own_f1 y0 y1 y2 x3)), .second, .val (.ref b23), .val (.int (own_f5 (own_f1 y0 y1 y2 x3) y0 y1)), .val (.int (own_j0_2 y0 y1 y2 x3))] [(.int (own_j0_3 y0 y1 y2 x3))]))
  exact own_retN X31 hx hlk hret (by simp) (z' := ((own_j0_3 y0 y1 y2 x3) &&& 1)) rfl (hb hby at_78) (by decide) (by decide) ⟨by rw [own_f0], N31, trivial⟩
theorem own_core (a b x : Int64) : own_f5 x a b = if a < b then 0 else if own_f7 (own_f6 x b) a = x then 1 else 0 := by
  unfold own_f5 own_j5_1 own_f7 own_j7_1 own_f6 own_j6_1
  by_cases h1 : a < b
  · rw [if_pos h1]
    by_cases h2 : x < b
    · rw [if_pos h2]; rfl
    · have h3 : a < x := by rw [Int64.lt_iff_toInt_lt] at h1 h2 ⊢; omega
      rw [if_neg h2, if_pos h3]; rfl
  · rw [if_neg h1]
    by_cases h2 : x < b
    · have h3 : ¬ b = x := fun q => by rw [q] at h2; rw [Int64.lt_iff_toInt_lt] at h2; omega
      simp only [if_pos h2, if_neg h1, if_neg h3]; rfl
    · by_cases h3 : a < x
      · have h4 : ¬ a = x := fun q => by rw [q] at h3; rw [Int64.lt_iff_toInt_lt] at h3; omega
        simp only [if_neg h2, if_pos h3, if_neg h4]; rfl
      · simp only [if_neg h2, if_neg h3, if_true]; rfl
theorem own_law (a b c : Int64) (d : Int32) : own_f0 a b c d = 1 := by
  unfold own_f0 own_j0_3 own_j0_2 own_j0_1
  rw [own_core, if_pos rfl]; rfl
set_option maxRecDepth 65536 in
set_option maxHeartbeats 40000000 in
theorem comes_1 {Post : Tables → Env → Array Value → State → Outcome → State → Prop} (hpost : ∀ tb e args s v u, (limb_1_1.after args s (.returned v) u = true ∧ limb_1_2.after args s (.returned v) u = true) → FrameEnd s (.returned v) u (Jvm.fieldLocs frame_1_writes args s ++ Jvm.arrayLocs frame_1_arrays args s ++ Jvm.staticLocs frame_1_statics s) 16 128 → Post tb e args s (.returned v) u) :
    ArmFor flags0 classFile x code maxLocals ret World_1 tables_1 room_1 Calls_1 rest_1 Pre_1 Post := by
  intro l hfl _ _ p e ha hc hk s m args below hf hA hF happ hP
  obtain ⟨hcalls, hrest, hpre⟩ := hP
  obtain ⟨-, -, -, hnamed, -, -, -, hat⟩ := (Spec.applies_iff hf).mp happ
  obtain ⟨hg, hn⟩ := and_e (Cond.before_iff.mp (show (Jvm.Cond.and given_1 narrow_1).before args s = true from hpre))
  obtain ⟨gg1, gg2⟩ := and_e hg
  obtain ⟨gg3, gg4⟩ := and_e gg2
  obtain ⟨gg5, gg6⟩ := and_e gg4
  obtain ⟨gg7, gg8⟩ := and_e gg6
  obtain ⟨w0, w1, w2, w3, rfl⟩ : ∃ w0 w1 w2 w3 : Value, args = #[w0, w1, w2, w3] := by
    have hs : args.size = 4 := by simpa [Cond.value, given_1] using gg1
    obtain ⟨L⟩ := args
    match L, hs with
    | [w0, w1, w2, w3], _ => exact ⟨w0, w1, w2, w3, rfl⟩
  have hw := fun d (hd : d ∈ tables_1) => atoms_spec (ws := Jvm.Cond.code x code maxLocals ret :: tables_1) hat d (List.mem_cons_of_mem _ hd)
  have hfit : Fit s := fun {y c} hc i hi => by
    obtain ⟨ha, rfl⟩ := Array.getElem?_eq_some_iff.mp hc
    have q := List.all_eq_true.mp ((Array.all_eq_true_iff_forall_mem.mp hF) _ (Array.getElem_mem ha)) i (List.mem_range.mpr hi)
    simpa [Array.getElem?_eq_getElem hi] using q
  obtain ⟨i0, ei0⟩ := isL_v gg3
  obtain rfl : w0 = (.long i0) := Option.some.inj ei0
  obtain ⟨i1, ei1⟩ := isL_v gg5
  obtain rfl : w1 = (.long i1) := Option.some.inj ei1
  obtain ⟨i2, ei2⟩ := isL_v gg7
  obtain rfl : w2 = (.long i2) := Option.some.inj ei2
  obtain ⟨i3, ei3⟩ := is_v gg8
  obtain rfl : w3 = (.int i3) := Option.some.inj ei3
  obtain ⟨n, o, h1, h2, h3, v, L, rfl, hQ, hq⟩ := rm0 l s _ hw tables_1 i0 i1 i2 i3 s.heap s.heap.size (Nat.le_refl _) p e ha hc hk s m _ below hf ((Spec.applies_iff_loose hf).mp happ).1 ⟨rfl, State.Warmed39.refl s, rfl⟩ trivial
  obtain ⟨hv, N, -⟩ := hQ
  rw [show (own_f0 i0 i1 i2 i3 : Int32) = 1 from own_law i0 i1 i2 i3] at hv
  subst hv
  refine ⟨n, _, h1, h2, h3, hpost _ _ _ _ _ _ ⟨Cond.after_iff.mpr rfl, Cond.after_iff.mpr (eq_i res_at (Term.int_eval (1)) rfl)⟩ ⟨hq.1, hq.2.1, (hq.2.2.sift fun y hy => Or.inr (N y hy)).mono (by decide) (by decide)⟩⟩
theorem main_1_1 : Claimed_1_1 := comes_1 fun _ _ _ _ _ _ h hF => ⟨h.1, hF⟩
theorem main_1_2 : Claimed_1_2 := comes_1 fun _ _ _ _ _ _ h hF => ⟨h.2, hF⟩
end Jvm.Pilot.@@N@@
namespace Jvm.Pilot.@@N@@
open Jvm Jvm.ClassFile Sem Op Lib Jvm.Free Jvm.Stand Jvm.Pilot.@@N@@.Jvm.D
/-! MADE BY PROGRAM (witnessworld.py) out of the Statement's table words and the real class files: 11 classes; the members and pool entries that the words name. The judged class is class 1, her method 2. -/
namespace start1
open Jvm.ClassFile
def u (s : String) : CpInfo := .utf8 (stringToUtf16 s)
/-- a pool by its gaps: so many unusable entries, then the entry; so many at the end -/
def gap : Nat → List CpInfo → List CpInfo
  | 0, r => r
  | n + 1, r => .unusable :: gap n r
def poolList (es : List (Nat × CpInfo)) (last : Nat) : List CpInfo := es.foldr (fun e r => gap e.1 (e.2 :: r)) (gap last [])
def pool (es : List (Nat × CpInfo)) (last : Nat) : Array CpInfo := ⟨poolList es last⟩
def fileOf (pool : Array CpInfo) (this : Nat) (attrs : Array Attribute := #[]) (ms : Array MethodInfo := #[]) (fl : Nat := 33) (sup : Nat := 0) (ifs : Array Nat := #[]) (fds : Array FieldInfo := #[]) : ClassFile where
  minorVersion := 0
  majorVersion := 65
  constantPool := pool
  accessFlags := fl
  thisClass := this
  superClass := sup
  interfaces := ifs
  fields := fds
  methods := ms
  attributes := attrs
def plain (name : String) (sup : Option ClassId) : Class where
  name := name
  kind := .ordinary
  loader := none
  accessFlags := 33
  super := sup
  interfaces := #[]
  cf := none
  fields := #[]
  methods := #[]
  instanceTypes := #[]
  staticTypes := #[]
  resolved := #[]
  callSites := []
  init := .initialized
  statics := none
  mirror := none

def pool0 : Array CpInfo := pool [(5, u "<init>"), (0, u "()V"), (1, .class_ 10), (1, u "java/lang/Object")] 113

def k0c0 : Code := { maxStack := 0, maxLocals := 1, code := object_method_1_code, exceptionTable := #[], attributes := #[] }
def k0m0 : Method := { name := "<init>", desc := "()V", sig := { parameters := [], returnType := none }, accessFlags := 1, code := some k0c0 }
/-- java/lang/Object -/
def k0 : Class := { plain "java/lang/Object" none with
  accessFlags := 33
  interfaces := #[]
  cf := some (fileOf pool0 8 #[] #[{ accessFlags := 1, nameIndex := 5, descriptorIndex := 6, attributes := #[] }] 33 0 #[] #[])
  fields := #[]
  methods := #[k0m0]
  instanceTypes := #[]
  staticTypes := #[]
  resolved := Array.replicate 124 none
  statics := none }

def pool1 : Array CpInfo := pool [(2, .class_ 4), (1, u "java/lang/Object"), (0, u "<init>"), (0, u "()V"), (0, .methodref 8 9), (0, .class_ 10), (0, .nameAndType 11 12), (0, u "khoplenh/PriceLimitsContainsPinLaw"), (0, u "pick"), (0, u "(JJJI)J"), (0, .class_ 14), (0, u "khoplenh/PriceLimits"), (0, .methodref 13 16), (0, .nameAndType 5 17), (0, u "(JJ)V"), (0, .methodref 13 19), (0, .nameAndType 20 21), (0, u "contains"), (0, u "(J)Z"), (0, .methodref 23 24), (0, .class_ 25), (0, .nameAndType 26 27), (0, u "java/lang/Math"), (0, u "max"), (0, u "(JJ)J"), (0, .methodref 23 29), (0, .nameAndType 30 27), (0, u "min"), (3, u "law"), (0, u "(JJJI)Z")] 2

def k1m0 : Method := { name := "<init>", desc := "()V", sig := { parameters := [], returnType := none }, accessFlags := 1, code := none }
def k1c1 : Code := { maxStack := 4, maxLocals := 8, code := method_2_code, exceptionTable := #[], attributes := #[] }
def k1m1 : Method := { name := "pick", desc := "(JJJI)J", sig := { parameters := [.long, .long, .long, .int], returnType := some .long }, accessFlags := 10, code := some k1c1 }
def k1c2 : Code := { maxStack := 7, maxLocals := 12, code := code, exceptionTable := #[], attributes := #[] }
def k1m2 : Method := { name := "law", desc := "(JJJI)Z", sig := { parameters := [.long, .long, .long, .int], returnType := some .boolean }, accessFlags := 9, code := some k1c2 }
/-- khoplenh/PriceLimitsContainsPinLaw -/
def k1 : Class := { plain "khoplenh/PriceLimitsContainsPinLaw" (some 0) with
  accessFlags := 49
  interfaces := #[]
  cf := some (fileOf pool1 8 #[] #[{ accessFlags := 1, nameIndex := 5, descriptorIndex := 6, attributes := #[] }, { accessFlags := 10, nameIndex := 11, descriptorIndex := 12, attributes := #[] }, { accessFlags := 9, nameIndex := 34, descriptorIndex := 35, attributes := #[] }] 49 2 #[] #[])
  fields := #[]
  methods := #[k1m0, k1m1, k1m2]
  instanceTypes := #[]
  staticTypes := #[]
  resolved := Array.replicate 38 none
  statics := none }

def pool2 : Array CpInfo := pool [(1, .methodref 2 3), (0, .class_ 4), (0, .nameAndType 5 6), (0, u "java/lang/Object"), (0, u "<init>"), (0, u "()V"), (0, .class_ 8), (0, u "java/lang/Record")] 13

def k2c0 : Code := { maxStack := 1, maxLocals := 1, code := jdk_30_method_1_code, exceptionTable := #[], attributes := #[] }
def k2m0 : Method := { name := "<init>", desc := "()V", sig := { parameters := [], returnType := none }, accessFlags := 4, code := some k2c0 }
/-- java/lang/Record -/
def k2 : Class := { plain "java/lang/Record" (some 0) with
  accessFlags := 1057
  interfaces := #[]
  cf := some (fileOf pool2 7 #[] #[{ accessFlags := 4, nameIndex := 5, descriptorIndex := 6, attributes := #[] }] 1057 2 #[] #[])
  fields := #[]
  methods := #[k2m0]
  instanceTypes := #[]
  staticTypes := #[]
  resolved := Array.replicate 22 none
  statics := none }

def pool3 : Array CpInfo := pool [(1, .methodref 2 3), (0, .class_ 4), (0, .nameAndType 5 6), (0, u "java/lang/Record"), (0, u "<init>"), (0, u "()V"), (0, .fieldref 8 9), (0, .class_ 10), (0, .nameAndType 11 12), (0, u "khoplenh/PriceLimits"), (0, u "ceiling"), (0, u "J"), (0, .fieldref 8 14), (0, .nameAndType 15 12), (0, u "floor"), (12, u "(JJ)V"), (3, u "contains"), (0, u "(J)Z")] 26

def k3c0 : Code := { maxStack := 3, maxLocals := 5, code := prog_17_method_1_code, exceptionTable := #[], attributes := #[] }
def k3m0 : Method := { name := "<init>", desc := "(JJ)V", sig := { parameters := [.long, .long], returnType := none }, accessFlags := 1, code := some k3c0 }
def k3c1 : Code := { maxStack := 4, maxLocals := 3, code := prog_17_method_2_code, exceptionTable := #[], attributes := #[] }
def k3m1 : Method := { name := "contains", desc := "(J)Z", sig := { parameters := [.long], returnType := some .boolean }, accessFlags := 1, code := some k3c1 }
/-- khoplenh/PriceLimits -/
def k3 : Class := { plain "khoplenh/PriceLimits" (some 2) with
  accessFlags := 49
  interfaces := #[]
  cf := some (fileOf pool3 8 #[] #[{ accessFlags := 1, nameIndex := 5, descriptorIndex := 28, attributes := #[] }, { accessFlags := 1, nameIndex := 32, descriptorIndex := 33, attributes := #[] }] 49 2 #[] #[{ accessFlags := 18, nameIndex := 11, descriptorIndex := 12, attributes := #[] }, { accessFlags := 18, nameIndex := 15, descriptorIndex := 12, attributes := #[] }])
  fields := #[{ name := "ceiling", type := .long, accessFlags := 18, slot := 0, constantValue := 0 }, { name := "floor", type := .long, accessFlags := 18, slot := 1, constantValue := 0 }]
  methods := #[k3m0, k3m1]
  instanceTypes := #[.long, .long]
  staticTypes := #[]
  resolved := Array.replicate 60 none
  statics := none }

def pool4 : Array CpInfo := pool [(1, .class_ 2), (0, u "java/lang/Math"), (1, .class_ 6), (1, u "java/lang/Object"), (0, u "<init>"), (0, u "()V"), (89, .class_ 100), (1, u "java/lang/Math$RandomNumberGeneratorHolder"), (20, u "(JJ)J"), (50, u "negativeZeroFloatBits"), (0, u "J"), (2, u "negativeZeroDoubleBits"), (21, u "max"), (2, u "min"), (43, u "$assertionsDisabled"), (0, u "Z"), (91, u "twoToTheDoubleScaleDown"), (0, u "D"), (4, u "twoToTheDoubleScaleUp"), (9, u "E"), (3, u "PI"), (2, u "TAU"), (2, u "DEGREES_TO_RADIANS"), (0, u "RADIANS_TO_DEGREES")] 94

def k4m0 : Method := { name := "<init>", desc := "()V", sig := { parameters := [], returnType := none }, accessFlags := 2, code := none }
def k4c1 : Code := { maxStack := 4, maxLocals := 4, code := jdk_29_method_66_code, exceptionTable := #[], attributes := #[] }
def k4m1 : Method := { name := "max", desc := "(JJ)J", sig := { parameters := [.long, .long], returnType := some .long }, accessFlags := 9, code := some k4c1 }
def k4c2 : Code := { maxStack := 4, maxLocals := 4, code := jdk_29_method_70_code, exceptionTable := #[], attributes := #[] }
def k4m2 : Method := { name := "min", desc := "(JJ)J", sig := { parameters := [.long, .long], returnType := some .long }, accessFlags := 9, code := some k4c2 }
/-- java/lang/Math -/
def k4 : Class := { plain "java/lang/Math" (some 0) with
  accessFlags := 49
  interfaces := #[]
  cf := some (fileOf pool4 1 #[.nestMembers #[98]] #[{ accessFlags := 2, nameIndex := 7, descriptorIndex := 8, attributes := #[] }, { accessFlags := 9, nameIndex := 198, descriptorIndex := 121, attributes := #[] }, { accessFlags := 9, nameIndex := 201, descriptorIndex := 121, attributes := #[] }] 49 4 #[] #[{ accessFlags := 25, nameIndex := 354, descriptorIndex := 339, attributes := #[] }, { accessFlags := 25, nameIndex := 358, descriptorIndex := 339, attributes := #[] }, { accessFlags := 25, nameIndex := 361, descriptorIndex := 339, attributes := #[] }, { accessFlags := 26, nameIndex := 364, descriptorIndex := 339, attributes := #[] }, { accessFlags := 26, nameIndex := 365, descriptorIndex := 339, attributes := #[] }, { accessFlags := 26, nameIndex := 172, descriptorIndex := 173, attributes := #[] }, { accessFlags := 26, nameIndex := 176, descriptorIndex := 173, attributes := #[] }, { accessFlags := 8, nameIndex := 344, descriptorIndex := 339, attributes := #[] }, { accessFlags := 8, nameIndex := 338, descriptorIndex := 339, attributes := #[] }, { accessFlags := 4120, nameIndex := 245, descriptorIndex := 246, attributes := #[] }])
  fields := #[{ name := "E", type := .double, accessFlags := 25, slot := 0, constantValue := 0 }, { name := "PI", type := .double, accessFlags := 25, slot := 1, constantValue := 0 }, { name := "TAU", type := .double, accessFlags := 25, slot := 2, constantValue := 0 }, { name := "DEGREES_TO_RADIANS", type := .double, accessFlags := 26, slot := 3, constantValue := 0 }, { name := "RADIANS_TO_DEGREES", type := .double, accessFlags := 26, slot := 4, constantValue := 0 }, { name := "negativeZeroFloatBits", type := .long, accessFlags := 26, slot := 5, constantValue := 0 }, { name := "negativeZeroDoubleBits", type := .long, accessFlags := 26, slot := 6, constantValue := 0 }, { name := "twoToTheDoubleScaleUp", type := .double, accessFlags := 8, slot := 7, constantValue := 0 }, { name := "twoToTheDoubleScaleDown", type := .double, accessFlags := 8, slot := 8, constantValue := 0 }, { name := "$assertionsDisabled", type := .boolean, accessFlags := 4120, slot := 9, constantValue := 0 }]
  methods := #[k4m0, k4m1, k4m2]
  instanceTypes := #[]
  staticTypes := #[.double, .double, .double, .double, .double, .long, .long, .double, .double, .boolean]
  resolved := Array.replicate 460 none
  statics := none }

def pool5 : Array CpInfo := pool [(1, u "java/lang/Cloneable"), (0, .class_ 1), (0, u "java/lang/Object"), (0, .class_ 3)] 3

/-- java/lang/Cloneable -/
def k5 : Class := { plain "java/lang/Cloneable" (some 0) with
  accessFlags := 1537
  interfaces := #[]
  cf := some (fileOf pool5 2 #[] #[] 1537 4 #[] #[])
  fields := #[]
  methods := #[]
  instanceTypes := #[]
  staticTypes := #[]
  resolved := Array.replicate 8 none
  statics := none }

def pool6 : Array CpInfo := pool [(1, u "java/io/Serializable"), (0, .class_ 1), (0, u "java/lang/Object"), (0, .class_ 3)] 3

/-- java/io/Serializable -/
def k6 : Class := { plain "java/io/Serializable" (some 0) with
  accessFlags := 1537
  interfaces := #[]
  cf := some (fileOf pool6 2 #[] #[] 1537 4 #[] #[])
  fields := #[]
  methods := #[]
  instanceTypes := #[]
  staticTypes := #[]
  resolved := Array.replicate 8 none
  statics := none }

/-- the primitive byte -/
def k7 : Class := { plain "byte" none with kind := .primitive 'B', accessFlags := 0x411 }
/-- [B -/
def k8 : Class := { plain "[B" (some 0) with kind := .array 7 .byte, interfaces := #[5, 6], accessFlags := 1041 }

/-- the primitive int -/
def k9 : Class := { plain "int" none with kind := .primitive 'I', accessFlags := 0x411 }
/-- [I -/
def k10 : Class := { plain "[I" (some 0) with kind := .array 9 .int, interfaces := #[5, 6], accessFlags := 1041 }

def heap : Heap := #[]
def classes : Array Class := #[k0, k1, k2, k3, k4, k5, k6, k7, k8, k9, k10]
def interned : List (Array UInt16 × Addr) := []
def slotsUsed : Nat := 0
def theMethod : MethodId := ⟨1, 2⟩
def args0 : Array Value := #[.long 5, .long 3, .long 4, .int 7]
def aboutOver (below : List Frame) : State where
  vm := { classes := classes, interned := interned.toArray }
  heap := heap
  slotsUsed := slotsUsed
  threads := #[{ frames := .invoking theMethod args0 :: below }]
def below0 : List Frame := [.native { method := ⟨0, 0⟩, args := #[] }]
def about1 : State := aboutOver below0
def p0 : Program := .bare "" "" ""
def e0 : Env := launch0.env 0 0 0
theorem w_frames : about1.frames = Frame.invoking theMethod args0 :: below0 := rfl
set_option maxRecDepth 65536 in
theorem w_args : argsFit about1.vm theMethod args0 = true := by decide +kernel
set_option maxRecDepth 65536 in
theorem w_heap : heapFits about1 = true := by decide +kernel
set_option maxRecDepth 65536 in
theorem w_runnable : about1.curStatus? = some .runnable := by decide +kernel
set_option maxRecDepth 65536 in
theorem w_alone : about1.alone = true := by decide +kernel
set_option maxRecDepth 65536 in
theorem w_named : about1.methodNamed? x = some theMethod := by decide +kernel
set_option maxRecDepth 65536 in
theorem w_hears : about1.hears theMethod below0 = true := by decide +kernel
set_option maxRecDepth 65536 in
theorem w_ripe : about1.ripe theMethod args0 below0 = true := by decide +kernel
theorem w_running : about1.status = .running := rfl
set_option maxRecDepth 65536 in
theorem w_room : about1.hasRoom e0.platform room_1 = true :=
  launch0.hasRoom_least _ room_1 (by decide +kernel) (by decide +kernel) (by decide +kernel) (by decide +kernel) (by decide +kernel) (by decide +kernel)
theorem allAtoms_all (ts : List Jvm.Cond) (a : Array Jvm.Value) (st : Jvm.State) : (allAtoms ts).before a st = ts.all (fun c => c.before a st) := by
  induction ts with
  | nil => rfl
  | cons c t ih =>
    show (Jvm.Cond.and c (allAtoms t)).before a st = _
    rw [Jvm.Cond.before_and, ih, List.all_cons]
def words1 : List Jvm.Cond := Jvm.Cond.code x code maxLocals ret :: tables_1
/-- a 'code' word, met by the world's own term for the bytes: nothing is compared byte by byte -/
theorem code_word {y : MethodName} {bytes : ByteArray} {mx : Nat} {rt : Option FieldType} {a : Array Value} {s : State} {m : MethodId} {meth : Method} {c : Code} (h1 : s.methodNamed? y = some m) (h2 : s.vm.method? m = some meth) (h3 : meth.code = some c) (h4 : c.code = bytes)
    (h5 : (c.maxLocals == mx && c.exceptionTable.isEmpty && decide (c.maxStack ≤ mostOperands) && decide (meth.sig.returnType = rt) && !meth.locks && decide (parseMethodDescriptor y.desc = some meth.sig)) = true) : (Jvm.Cond.code y bytes mx rt).before a s = true := by
  simp only [Bool.and_eq_true, beq_iff_eq, Bool.not_eq_true', decide_eq_true_eq] at h5
  obtain ⟨⟨⟨⟨⟨g1, g2⟩, g3⟩, g4⟩, g5⟩, g6⟩ := h5
  simp [Cond.before, Cond.holds, Cond.value, h1, h2, h3, h4, g1, g2, g3, g4, g5, g6]
def isCode : Jvm.Cond → Bool
  | .code _ _ _ _ => true
  | _ => false
theorem all_split {L : List Jvm.Cond} {P : Jvm.Cond → Bool} (h1 : L.all (fun c => isCode c || P c) = true) (h2 : ∀ c ∈ L.filter isCode, P c = true) : L.all P = true := by
  refine List.all_eq_true.mpr fun c hc => ?_
  have h := List.all_eq_true.mp h1 c hc
  rcases Bool.eq_false_or_eq_true (isCode c) with hi | hi
  · exact h2 c (List.mem_filter.mpr ⟨hc, hi⟩)
  · simpa [hi] using h
set_option maxRecDepth 65536 in
theorem w_c0 : (Jvm.Cond.code x code maxLocals ret).before args0 about1 = true := code_word (m := ⟨1, 2⟩) (meth := k1m2) (c := k1c2) (by decide +kernel) rfl rfl rfl (by decide +kernel)
set_option maxRecDepth 65536 in
theorem w_c1 : (Jvm.Cond.code ({ cls := "khoplenh/PriceLimitsContainsPinLaw", name := "pick", desc := "(JJJI)J" } : Jvm.MethodName) method_2_code (8 : Nat) (Option.some Jvm.ClassFile.FieldType.long)).before args0 about1 = true := code_word (m := ⟨1, 1⟩) (meth := k1m1) (c := k1c1) (by decide +kernel) rfl rfl rfl (by decide +kernel)
set_option maxRecDepth 65536 in
theorem w_c2 : (Jvm.Cond.code ({ cls := "khoplenh/PriceLimits", name := "<init>", desc := "(JJ)V" } : Jvm.MethodName) prog_17_method_1_code (5 : Nat) (Option.none : Option Jvm.ClassFile.FieldType)).before args0 about1 = true := code_word (m := ⟨3, 0⟩) (meth := k3m0) (c := k3c0) (by decide +kernel) rfl rfl rfl (by decide +kernel)
set_option maxRecDepth 65536 in
theorem w_c3 : (Jvm.Cond.code ({ cls := "java/lang/Record", name := "<init>", desc := "()V" } : Jvm.MethodName) jdk_30_method_1_code (1 : Nat) (Option.none : Option Jvm.ClassFile.FieldType)).before args0 about1 = true := code_word (m := ⟨2, 0⟩) (meth := k2m0) (c := k2c0) (by decide +kernel) rfl rfl rfl (by decide +kernel)
set_option maxRecDepth 65536 in
theorem w_c4 : (Jvm.Cond.code ({ cls := "java/lang/Object", name := "<init>", desc := "()V" } : Jvm.MethodName) object_method_1_code (1 : Nat) (Option.none : Option Jvm.ClassFile.FieldType)).before args0 about1 = true := code_word (m := ⟨0, 0⟩) (meth := k0m0) (c := k0c0) (by decide +kernel) rfl rfl rfl (by decide +kernel)
set_option maxRecDepth 65536 in
theorem w_c5 : (Jvm.Cond.code ({ cls := "khoplenh/PriceLimits", name := "contains", desc := "(J)Z" } : Jvm.MethodName) prog_17_method_2_code (3 : Nat) (Option.some Jvm.ClassFile.FieldType.boolean)).before args0 about1 = true := code_word (m := ⟨3, 1⟩) (meth := k3m1) (c := k3c1) (by decide +kernel) rfl rfl rfl (by decide +kernel)
set_option maxRecDepth 65536 in
theorem w_c6 : (Jvm.Cond.code ({ cls := "java/lang/Math", name := "max", desc := "(JJ)J" } : Jvm.MethodName) jdk_29_method_66_code (4 : Nat) (Option.some Jvm.ClassFile.FieldType.long)).before args0 about1 = true := code_word (m := ⟨4, 1⟩) (meth := k4m1) (c := k4c1) (by decide +kernel) rfl rfl rfl (by decide +kernel)
set_option maxRecDepth 65536 in
theorem w_c7 : (Jvm.Cond.code ({ cls := "java/lang/Math", name := "min", desc := "(JJ)J" } : Jvm.MethodName) jdk_29_method_70_code (4 : Nat) (Option.some Jvm.ClassFile.FieldType.long)).before args0 about1 = true := code_word (m := ⟨4, 2⟩) (meth := k4m2) (c := k4c2) (by decide +kernel) rfl rfl rfl (by decide +kernel)
def codes1 : List Jvm.Cond := [Jvm.Cond.code x code maxLocals ret, Jvm.Cond.code ({ cls := "khoplenh/PriceLimitsContainsPinLaw", name := "pick", desc := "(JJJI)J" } : Jvm.MethodName) method_2_code (8 : Nat) (Option.some Jvm.ClassFile.FieldType.long), Jvm.Cond.code ({ cls := "khoplenh/PriceLimits", name := "<init>", desc := "(JJ)V" } : Jvm.MethodName) prog_17_method_1_code (5 : Nat) (Option.none : Option Jvm.ClassFile.FieldType), Jvm.Cond.code ({ cls := "java/lang/Record", name := "<init>", desc := "()V" } : Jvm.MethodName) jdk_30_method_1_code (1 : Nat) (Option.none : Option Jvm.ClassFile.FieldType), Jvm.Cond.code ({ cls := "java/lang/Object", name := "<init>", desc := "()V" } : Jvm.MethodName) object_method_1_code (1 : Nat) (Option.none : Option Jvm.ClassFile.FieldType), Jvm.Cond.code ({ cls := "khoplenh/PriceLimits", name := "contains", desc := "(J)Z" } : Jvm.MethodName) prog_17_method_2_code (3 : Nat) (Option.some Jvm.ClassFile.FieldType.boolean), Jvm.Cond.code ({ cls := "java/lang/Math", name := "max", desc := "(JJ)J" } : Jvm.MethodName) jdk_29_method_66_code (4 : Nat) (Option.some Jvm.ClassFile.FieldType.long), Jvm.Cond.code ({ cls := "java/lang/Math", name := "min", desc := "(JJ)J" } : Jvm.MethodName) jdk_29_method_70_code (4 : Nat) (Option.some Jvm.ClassFile.FieldType.long)]
set_option maxRecDepth 65536 in
theorem codes_eq : words1.filter isCode = codes1 := rfl
theorem w_codes : ∀ c ∈ words1.filter isCode, c.before args0 about1 = true := by
  rw [codes_eq]
  intro c hc
  simp only [codes1, List.mem_cons, List.not_mem_nil, or_false] at hc
  rcases hc with rfl | rfl | rfl | rfl | rfl | rfl | rfl | rfl
  · exact w_c0
  · exact w_c1
  · exact w_c2
  · exact w_c3
  · exact w_c4
  · exact w_c5
  · exact w_c6
  · exact w_c7
set_option maxRecDepth 65536 in
theorem w_t1 : (words1.take 24).all (fun c => isCode c || c.before args0 about1) = true := by decide +kernel
set_option maxRecDepth 65536 in
theorem w_t2 : (words1.drop 24).all (fun c => isCode c || c.before args0 about1) = true := by decide +kernel
theorem w_tables : (allAtoms (Jvm.Cond.code x code maxLocals ret :: tables_1)).before args0 about1 = true := by
  rw [allAtoms_all]
  show words1.all (fun c => c.before args0 about1) = true
  refine all_split ?_ w_codes
  rw [← List.take_append_drop 24 words1, List.all_append, w_t1, w_t2]
  rfl
set_option maxRecDepth 65536 in
theorem w_case : (Jvm.Cond.and given_1 narrow_1).before args0 about1 = true := by decide +kernel
theorem w_applies : (headSpec (Jvm.Cond.code x code maxLocals ret :: tables_1) room_1).applies x e0.platform about1 = true :=
  (Spec.applies_iff w_frames).mpr ⟨w_running, w_runnable, w_alone, w_named, w_hears, w_ripe, w_room, w_tables⟩
theorem atStart : AtStart classFile x code maxLocals ret World_1 tables_1 room_1 Calls_1 rest_1 Pre_1 launch0 p0 e0 about1 theMethod args0 below0 :=
  ⟨lists_1, trivial, launch0.admits_env _ _ _, launch0.least_env, fairChoices_fair.cas, fairChoices_fair.clock, w_frames, w_args, w_heap, w_applies, trivial, trivial, w_case⟩
end start1
theorem witness_1 : WitnessClaimed_1 := ⟨start1.p0, start1.e0, start1.about1, start1.theMethod, start1.args0, start1.below0, start1.atStart⟩
end Jvm.Pilot.@@N@@
